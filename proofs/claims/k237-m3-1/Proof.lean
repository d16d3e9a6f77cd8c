import JvmDerived
import JvmDerived.Pilot.@@N@@Statement
import JvmDerived.Pilot.@@N@@Code
set_option linter.unusedVariables false
set_option linter.unusedSimpArgs false
namespace Jvm.RoadKit
open Sem ClassFile Op Lib Jvm.Stand Jvm.Free Jvm.LawKit
section New
variable {p : Program} {l : Launch} {e : Env} {R : Room} {s : State} {m : MethodId} {args : Array Value} {below : List Frame} {meth : Method} {c : Code} {T : State} {locs : List Loc} {cells slots : Nat}
theorem retI (X : Stand p l e R s m args below meth c T locs cells slots) (hx : p.tables.exec = Jvm.exec) {pc : Nat} {Ls : Array Slot} {z : Int32} {rest : List Value} (hret : meth.sig.returnType = some .int) (hd : decode c.code pc = .ok (.ireturn, 1)) {fs : List Frame}
    (hl : ∀ (f : JFrame) (acts : List Action), f.method = m → f.locked = none → f.entered = [] → (doReturn e (T.setTop f) acts (some (.int z))).1 = T.setFrames fs) : Steps p.tables e below (T.setTop (mkF m pc Ls (.int z :: rest))) (T.setFrames fs) := by
  have hm' : T.vm.method? m = some meth := X.method'
  have hn : narrow .int (.int z) = .int z := rfl
  show Steps p.tables e below (T.setTop { method := m, pc := pc, locals := Ls, stack := _ :: rest, locked := none }) _
  jvm_step X.here [X.here.top, hx, hd, hm', hret, hn]
  first | (intro acts; rw [hl _ acts rfl rfl rfl]) | rw [hl _ _ rfl rfl rfl]
  exact Steps.refl _
end New
end Jvm.RoadKit
namespace Jvm.Pilot.@@N@@
open Jvm Jvm.ClassFile Sem Op Lib Jvm.Free Jvm.Stand Jvm.LawKit Jvm.RoadKit Bundle Jvm.Pilot.@@N@@.Jvm.D
theorem d1_0 : decode prog_99_method_1_code 0 = .ok (.aload_n 0, 1) := by decide +kernel
theorem d1_1 : decode prog_99_method_1_code 1 = .ok (.invokespecial 1, 3) := by decide +kernel
theorem d1_4 : decode prog_99_method_1_code 4 = .ok (.aload_n 0, 1) := by decide +kernel
theorem d1_5 : decode prog_99_method_1_code 5 = .ok (.bipush 16, 2) := by decide +kernel
theorem d1_7 : decode prog_99_method_1_code 7 = .ok (.newarray .int, 2) := by decide +kernel
theorem d1_9 : decode prog_99_method_1_code 9 = .ok (.putfield 7, 3) := by decide +kernel
theorem d1_12 : decode prog_99_method_1_code 12 = .ok (.return_, 1) := by decide +kernel
theorem d3_0 : decode prog_99_method_7_code 0 = .ok (.iload_n 1, 1) := by decide +kernel
theorem d3_1 : decode prog_99_method_7_code 1 = .ok (.istore_n 2, 1) := by decide +kernel
theorem d3_2 : decode prog_99_method_7_code 2 = .ok (.aload_n 0, 1) := by decide +kernel
theorem d3_3 : decode prog_99_method_7_code 3 = .ok (.getfield 13, 3) := by decide +kernel
theorem d3_6 : decode prog_99_method_7_code 6 = .ok (.iconst 1, 1) := by decide +kernel
theorem d3_7 : decode prog_99_method_7_code 7 = .ok (.isub, 1) := by decide +kernel
theorem d3_8 : decode prog_99_method_7_code 8 = .ok (.istore_n 3, 1) := by decide +kernel
theorem d3_9 : decode prog_99_method_7_code 9 = .ok (.iload_n 2, 1) := by decide +kernel
theorem d3_10 : decode prog_99_method_7_code 10 = .ok (.iload_n 3, 1) := by decide +kernel
theorem d3_11 : decode prog_99_method_7_code 11 = .ok (.if_icmp .ge 40, 3) := by decide +kernel
theorem d3_14 : decode prog_99_method_7_code 14 = .ok (.aload_n 0, 1) := by decide +kernel
theorem d3_15 : decode prog_99_method_7_code 15 = .ok (.getfield 7, 3) := by decide +kernel
theorem d3_18 : decode prog_99_method_7_code 18 = .ok (.iload_n 2, 1) := by decide +kernel
theorem d3_19 : decode prog_99_method_7_code 19 = .ok (.iaload, 1) := by decide +kernel
theorem d3_20 : decode prog_99_method_7_code 20 = .ok (.istore 4, 2) := by decide +kernel
theorem d3_22 : decode prog_99_method_7_code 22 = .ok (.aload_n 0, 1) := by decide +kernel
theorem d3_23 : decode prog_99_method_7_code 23 = .ok (.getfield 7, 3) := by decide +kernel
theorem d3_26 : decode prog_99_method_7_code 26 = .ok (.iload_n 2, 1) := by decide +kernel
theorem d3_27 : decode prog_99_method_7_code 27 = .ok (.aload_n 0, 1) := by decide +kernel
theorem d3_28 : decode prog_99_method_7_code 28 = .ok (.getfield 7, 3) := by decide +kernel
theorem d3_31 : decode prog_99_method_7_code 31 = .ok (.iload_n 3, 1) := by decide +kernel
theorem d3_32 : decode prog_99_method_7_code 32 = .ok (.iaload, 1) := by decide +kernel
theorem d3_33 : decode prog_99_method_7_code 33 = .ok (.iastore, 1) := by decide +kernel
theorem d3_34 : decode prog_99_method_7_code 34 = .ok (.aload_n 0, 1) := by decide +kernel
theorem d3_35 : decode prog_99_method_7_code 35 = .ok (.getfield 7, 3) := by decide +kernel
theorem d3_38 : decode prog_99_method_7_code 38 = .ok (.iload_n 3, 1) := by decide +kernel
theorem d3_39 : decode prog_99_method_7_code 39 = .ok (.iload 4, 2) := by decide +kernel
theorem d3_41 : decode prog_99_method_7_code 41 = .ok (.iastore, 1) := by decide +kernel
theorem d3_42 : decode prog_99_method_7_code 42 = .ok (.iinc 2 1, 3) := by decide +kernel
theorem d3_45 : decode prog_99_method_7_code 45 = .ok (.iinc 3 (-1), 3) := by decide +kernel
theorem d3_48 : decode prog_99_method_7_code 48 = .ok (.goto (-39), 3) := by decide +kernel
theorem d3_51 : decode prog_99_method_7_code 51 = .ok (.return_, 1) := by decide +kernel
theorem d4_0 : decode prog_99_method_5_code 0 = .ok (.aload_n 0, 1) := by decide +kernel
theorem d4_1 : decode prog_99_method_5_code 1 = .ok (.getfield 13, 3) := by decide +kernel
theorem d4_4 : decode prog_99_method_5_code 4 = .ok (.ireturn, 1) := by decide +kernel
theorem d5_0 : decode prog_99_method_4_code 0 = .ok (.aload_n 0, 1) := by decide +kernel
theorem d5_1 : decode prog_99_method_4_code 1 = .ok (.getfield 13, 3) := by decide +kernel
theorem d5_4 : decode prog_99_method_4_code 4 = .ok (.aload_n 0, 1) := by decide +kernel
theorem d5_5 : decode prog_99_method_4_code 5 = .ok (.getfield 7, 3) := by decide +kernel
theorem d5_8 : decode prog_99_method_4_code 8 = .ok (.arraylength, 1) := by decide +kernel
theorem d5_9 : decode prog_99_method_4_code 9 = .ok (.if_icmp .ne 20, 3) := by decide +kernel
theorem d5_29 : decode prog_99_method_4_code 29 = .ok (.aload_n 0, 1) := by decide +kernel
theorem d5_30 : decode prog_99_method_4_code 30 = .ok (.getfield 7, 3) := by decide +kernel
theorem d5_33 : decode prog_99_method_4_code 33 = .ok (.aload_n 0, 1) := by decide +kernel
theorem d5_34 : decode prog_99_method_4_code 34 = .ok (.dup, 1) := by decide +kernel
theorem d5_35 : decode prog_99_method_4_code 35 = .ok (.getfield 13, 3) := by decide +kernel
theorem d5_38 : decode prog_99_method_4_code 38 = .ok (.dup_x1, 1) := by decide +kernel
theorem d5_39 : decode prog_99_method_4_code 39 = .ok (.iconst 1, 1) := by decide +kernel
theorem d5_40 : decode prog_99_method_4_code 40 = .ok (.iadd, 1) := by decide +kernel
theorem d5_41 : decode prog_99_method_4_code 41 = .ok (.putfield 13, 3) := by decide +kernel
theorem d5_44 : decode prog_99_method_4_code 44 = .ok (.iload_n 1, 1) := by decide +kernel
theorem d5_45 : decode prog_99_method_4_code 45 = .ok (.iastore, 1) := by decide +kernel
theorem d5_46 : decode prog_99_method_4_code 46 = .ok (.return_, 1) := by decide +kernel
theorem d6_0 : decode prog_99_method_6_code 0 = .ok (.aload_n 0, 1) := by decide +kernel
theorem d6_1 : decode prog_99_method_6_code 1 = .ok (.getfield 7, 3) := by decide +kernel
theorem d6_4 : decode prog_99_method_6_code 4 = .ok (.iload_n 1, 1) := by decide +kernel
theorem d6_5 : decode prog_99_method_6_code 5 = .ok (.aload_n 0, 1) := by decide +kernel
theorem d6_6 : decode prog_99_method_6_code 6 = .ok (.getfield 13, 3) := by decide +kernel
theorem d6_9 : decode prog_99_method_6_code 9 = .ok (.invokestatic 23, 3) := by decide +kernel
theorem d6_12 : decode prog_99_method_6_code 12 = .ok (.iaload, 1) := by decide +kernel
theorem d6_13 : decode prog_99_method_6_code 13 = .ok (.ireturn, 1) := by decide +kernel
theorem d7_0 : decode jdk_31_method_17_code 0 = .ok (.iload_n 0, 1) := by decide +kernel
theorem d7_1 : decode jdk_31_method_17_code 1 = .ok (.iload_n 1, 1) := by decide +kernel
theorem d7_2 : decode jdk_31_method_17_code 2 = .ok (.aconst_null, 1) := by decide +kernel
theorem d7_3 : decode jdk_31_method_17_code 3 = .ok (.invokestatic 105, 3) := by decide +kernel
theorem d7_6 : decode jdk_31_method_17_code 6 = .ok (.ireturn, 1) := by decide +kernel
theorem d8_0 : decode jdk_41_method_11_code 0 = .ok (.iload_n 0, 1) := by decide +kernel
theorem d8_1 : decode jdk_41_method_11_code 1 = .ok (.ifCond .lt 8, 3) := by decide +kernel
theorem d8_4 : decode jdk_41_method_11_code 4 = .ok (.iload_n 0, 1) := by decide +kernel
theorem d8_5 : decode jdk_41_method_11_code 5 = .ok (.iload_n 1, 1) := by decide +kernel
theorem d8_6 : decode jdk_41_method_11_code 6 = .ok (.if_icmp .lt 10, 3) := by decide +kernel
theorem d8_16 : decode jdk_41_method_11_code 16 = .ok (.iload_n 0, 1) := by decide +kernel
theorem d8_17 : decode jdk_41_method_11_code 17 = .ok (.ireturn, 1) := by decide +kernel
theorem d9_0 : decode method_3_code 0 = .ok (.iload_n 0, 1) := by decide +kernel
theorem d9_1 : decode method_3_code 1 = .ok (.iload_n 1, 1) := by decide +kernel
theorem d9_2 : decode method_3_code 2 = .ok (.if_icmp .ge 7, 3) := by decide +kernel
theorem d9_5 : decode method_3_code 5 = .ok (.iload_n 0, 1) := by decide +kernel
theorem d9_6 : decode method_3_code 6 = .ok (.goto 10, 3) := by decide +kernel
theorem d9_9 : decode method_3_code 9 = .ok (.iload_n 1, 1) := by decide +kernel
theorem d9_10 : decode method_3_code 10 = .ok (.iload_n 2, 1) := by decide +kernel
theorem d9_11 : decode method_3_code 11 = .ok (.iadd, 1) := by decide +kernel
theorem d9_12 : decode method_3_code 12 = .ok (.iconst 1, 1) := by decide +kernel
theorem d9_13 : decode method_3_code 13 = .ok (.isub, 1) := by decide +kernel
theorem d9_14 : decode method_3_code 14 = .ok (.iload_n 0, 1) := by decide +kernel
theorem d9_15 : decode method_3_code 15 = .ok (.isub, 1) := by decide +kernel
theorem d9_16 : decode method_3_code 16 = .ok (.istore 7, 2) := by decide +kernel
theorem d9_18 : decode method_3_code 18 = .ok (.iload 7, 2) := by decide +kernel
theorem d9_20 : decode method_3_code 20 = .ok (.iload_n 3, 1) := by decide +kernel
theorem d9_21 : decode method_3_code 21 = .ok (.iload 4, 2) := by decide +kernel
theorem d9_23 : decode method_3_code 23 = .ok (.iload 5, 2) := by decide +kernel
theorem d9_25 : decode method_3_code 25 = .ok (.iload 6, 2) := by decide +kernel
theorem d9_27 : decode method_3_code 27 = .ok (.invokestatic 7, 3) := by decide +kernel
theorem d9_30 : decode method_3_code 30 = .ok (.ireturn, 1) := by decide +kernel
theorem d10_0 : decode method_2_code 0 = .ok (.iload_n 0, 1) := by decide +kernel
theorem d10_1 : decode method_2_code 1 = .ok (.ifCond .ne 5, 3) := by decide +kernel
theorem d10_4 : decode method_2_code 4 = .ok (.iload_n 1, 1) := by decide +kernel
theorem d10_5 : decode method_2_code 5 = .ok (.ireturn, 1) := by decide +kernel
theorem d10_6 : decode method_2_code 6 = .ok (.iload_n 0, 1) := by decide +kernel
theorem d10_7 : decode method_2_code 7 = .ok (.iconst 1, 1) := by decide +kernel
theorem d10_8 : decode method_2_code 8 = .ok (.if_icmp .ne 5, 3) := by decide +kernel
theorem d10_11 : decode method_2_code 11 = .ok (.iload_n 2, 1) := by decide +kernel
theorem d10_12 : decode method_2_code 12 = .ok (.ireturn, 1) := by decide +kernel
theorem d10_13 : decode method_2_code 13 = .ok (.iload_n 0, 1) := by decide +kernel
theorem d10_14 : decode method_2_code 14 = .ok (.iconst 2, 1) := by decide +kernel
theorem d10_15 : decode method_2_code 15 = .ok (.if_icmp .ne 5, 3) := by decide +kernel
theorem d10_18 : decode method_2_code 18 = .ok (.iload_n 3, 1) := by decide +kernel
theorem d10_19 : decode method_2_code 19 = .ok (.ireturn, 1) := by decide +kernel
theorem d10_20 : decode method_2_code 20 = .ok (.iload 4, 2) := by decide +kernel
theorem d10_22 : decode method_2_code 22 = .ok (.ireturn, 1) := by decide +kernel
theorem pn_0 : plainName "com/example/baum/baum/query/NodeList$Builder" = true := by first | (simp [plainName, overriddenIn]; done) | decide +kernel
theorem pn_1 : plainName "jdk/internal/util/Preconditions" = true := by first | (simp [plainName, overriddenIn]; done) | decide +kernel
theorem pn_2 : plainName "java/util/Objects" = true := by first | (simp [plainName, overriddenIn]; done) | decide +kernel
theorem pn_3 : plainName "com/example/baum/baum/query/BuilderReverseFromPinLaw" = true := by first | (simp [plainName, overriddenIn]; done) | decide +kernel
theorem pd_0 : parseMethodDescriptor "()V" = some ⟨[], none⟩ := by decide +kernel
theorem pd_1 : parseMethodDescriptor "(I)V" = some ⟨[.int], none⟩ := by decide +kernel
theorem pd_2 : parseMethodDescriptor "()I" = some ⟨[], some .int⟩ := by decide +kernel
theorem pd_3 : parseMethodDescriptor "(IILjava/util/function/BiFunction;)I" = some ⟨[.int, .int, (.object "java/util/function/BiFunction")], some .int⟩ := by decide +kernel
theorem pd_4 : parseMethodDescriptor "(II)I" = some ⟨[.int, .int], some .int⟩ := by decide +kernel
theorem pd_5 : parseMethodDescriptor "(I)I" = some ⟨[.int], some .int⟩ := by decide +kernel
theorem pd_6 : parseMethodDescriptor "(IIIII)I" = some ⟨[.int, .int, .int, .int, .int], some .int⟩ := by decide +kernel
theorem pd_7 : parseMethodDescriptor "(IIIIIII)I" = some ⟨[.int, .int, .int, .int, .int, .int, .int], some .int⟩ := by decide +kernel
theorem own_fin {c : Int32} {n : Nat} (h0 : 0 ≤ c.toInt) (h1 : c.toInt < n) : ∃ k, k < n ∧ c = k.toInt32 := by
  have hn : ¬ c < 0 := by
    rw [Int32.lt_iff_toInt_lt]
    show ¬ c.toInt < 0
    omega
  exact ⟨c.toNatClampNeg, by have := nat_of hn; omega, (back32 hn).1.symm⟩
theorem own_modfin (x y : Int32) (n : Nat) (hy : y.toInt = n) (hn : 0 < n) : ∃ k, k < n ∧ (x &&& (2147483647 : Int32)) % y = k.toInt32 := by
  have h1 := c_mask x 2147483647 31 (by decide) (by decide)
  have h2 : 0 ≤ (x &&& (2147483647 : Int32)).toInt := by rw [h1]; omega
  have h3 := (c_iremV (x &&& (2147483647 : Int32)) y).1 h2 (by omega)
  exact own_fin h3.1 (by omega)
theorem own_nar1 {x : Int32} (h : x = 1) : nar .boolean x = 1 := by subst h; rfl
theorem own_n0 : nar .boolean (0 : Int32) = 0 := rfl
theorem own_n1 : nar .boolean (1 : Int32) = 1 := rfl
def Q1 (Z : State) (r0 : Addr) (u_size_r0 : Value) (u_numbers_r0 : Value) (h0 : Heap) (n0 : Nat) (v : Option Value) (h : Heap) (L : List Loc) : Prop := ∃ (b2 : Addr), ∃ (k2 : ClassId), v = none ∧ Fr n0 L ∧ Keep h0 h [r0] ∧ h0.size ≤ b2 ∧ Arv Z h b2 k2 .int (16 : Int32) [(.int (0 : Int32)), (.int (0 : Int32)), (.int (0 : Int32)), (.int (0 : Int32)), (.int (0 : Int32)), (.int (0 : Int32)), (.int (0 : Int32)), (.int (0 : Int32)), (.int (0 : Int32)), (.int (0 : Int32)), (.int (0 : Int32)), (.int (0 : Int32)), (.int (0 : Int32)), (.int (0 : Int32)), (.int (0 : Int32)), (.int (0 : Int32))] (.int (0 : Int32)) ∧ Exa Z h r0 "com/example/baum/baum/query/NodeList$Builder" ∧ Fld Z h r0 "com/example/baum/baum/query/NodeList$Builder" "numbers" "[I" (.ref b2) ∧ Fld Z h r0 "com/example/baum/baum/query/NodeList$Builder" "size" "I" u_size_r0
theorem ef_1 (m : MethodId) (x0 : Addr) : entryFrame m #[(.ref x0)] 1 = mkF m 0 #[.val (.ref x0)] [] := by first | (simp [entryFrame, mkF, argsToLocals, Value.category]; done) | rfl
set_option maxRecDepth 65536 in
set_option maxHeartbeats 40000000 in
theorem rm1 (l : Launch) (Z : State) (a0 : Array Value) (hw : ∀ d ∈ tables_1, d.before a0 Z = true) (ws : List Jvm.Cond) (r0 : Addr) (u_size_r0 : Value) (u_numbers_r0 : Value) (h0 : Heap) (n0 : Nat) (Z0 : n0 ≤ h0.size) (F_size_r0 : Fld Z h0 r0 "com/example/baum/baum/query/NodeList$Builder" "size" "I" u_size_r0) (E_r0 : Exa Z h0 r0 "com/example/baum/baum/query/NodeList$Builder") (F_numbers_r0 : Fld Z h0 r0 "com/example/baum/baum/query/NodeList$Builder" "numbers" "[I" u_numbers_r0) (g_r0 : n0 ≤ r0) :
    MetFree l (⟨"com/example/baum/baum/query/NodeList$Builder", "<init>", "()V"⟩ : MethodName) (head1 (Jvm.Cond.code (⟨"com/example/baum/baum/query/NodeList$Builder", "<init>", "()V"⟩ : MethodName) prog_99_method_1_code 1 none :: ws) ({ frames := 1, cells := 1, slots := 16, locals := 12 } : Room)) (fun a U => a = #[(.ref r0)] ∧ Z.Warmed39 U.vm ∧ U.heap = h0) (fun _ _ _ _ _ => True) (fun _ U o U' => ∃ v L, o = .returned v ∧ Q1 Z r0 u_size_r0 u_numbers_r0 h0 n0 v U'.heap L ∧ FrameEnd U o U' L ({ frames := 1, cells := 1, slots := 16, locals := 12 } : Room).cells ({ frames := 1, cells := 1, slots := 16, locals := 12 } : Room).slots) := by
  refine MetFree.of_bodySF (plainFor_of_name pn_0) hisR ?_
  intro p e s m args below meth c s₁ Bd hml0 hP hK
  obtain ⟨rfl, hZ, hh⟩ := hP
  have hx := Bd.exec
  have hby := Bd.bytes
  have hml : c.maxLocals = 1 := hml0
  have hown : s.vm.findClass "com/example/baum/baum/query/NodeList$Builder" = some m.cls := findClass_of_methodNamed Bd.named
  have hnm := (name_of_methodNamed Bd.named Bd.method).1
  have X0 : Stand p l e ({ frames := 1, cells := 1, slots := 16, locals := 12 } : Room) s m #[(.ref r0)] below meth c s₁ [] 0 0 := Stand.of_body Bd
  have e0 : s₁.heap = h0 := by rw [← hh, Bd.state]; rfl
  have N0 := Fr.nil n0
  have pre0 : ∀ t, Steps p.tables e below (s₁.setTop (mkF m 0 #[.val (.ref r0)] [])) t → Steps p.tables e below (s₁.setTop (entryFrame m #[(.ref r0)] 1)) t := fun t k => castTop (ef_1 m r0) k
  obtain ⟨T1, X1, e1, st1⟩ := initO X0 hx hZ hown (hw _ (List.mem_of_getElem? (i := 7) rfl)) (hw _ (List.mem_of_getElem? (i := 8) rfl)) (hw _ (List.mem_of_getElem? (i := 9) rfl)) e0 (g := (mkF m 1 #[.val (.ref r0)] [(.ref r0)])) rfl (by rw [hml]; rfl) rfl (hb hby d1_1) (by decide) (W := 0) (by show 2 * 0 + _ ≤ _; exact Nat.le_of_eq rfl) (by decide)
  obtain ⟨T2, h2, k2, X2, e2, E2, A2, st2⟩ := newP X1 hx hZ (hw _ (List.mem_of_getElem? (i := 10) rfl)) e1 (g := (mkF m 7 #[.val (.ref r0)] [(.int (16 : Int32)), (.ref r0)])) rfl (hb hby d1_7) rfl (by decide) (cap := 16) (by decide) (by decide) (by decide) (by decide)
  obtain ⟨b2, g2⟩ : ∃ z, z = h0.size := ⟨_, rfl⟩
  rw [← g2] at A2 st2
  have sz_b2 : h0.size ≤ b2 := Nat.le_trans (Keep.refl h0 [r0]).1 (Nat.le_of_eq g2.symm)
  have K3 : Keep h0 h2 [r0] := (Keep.refl h0 [r0]).ext E2
  have V2 : Arv Z h2 b2 k2 .int (16 : Int32) [(.int (0 : Int32)), (.int (0 : Int32)), (.int (0 : Int32)), (.int (0 : Int32)), (.int (0 : Int32)), (.int (0 : Int32)), (.int (0 : Int32)), (.int (0 : Int32)), (.int (0 : Int32)), (.int (0 : Int32)), (.int (0 : Int32)), (.int (0 : Int32)), (.int (0 : Int32)), (.int (0 : Int32)), (.int (0 : Int32)), (.int (0 : Int32))] (.int (0 : Int32)) := (Arv.new A2 (by decide)).pad (pad_rep [] (.int (0 : Int32)) 16)
  have f4 := (E_r0.ext E2)
  have f5 := (F_numbers_r0.ext E2)
  obtain ⟨T6, h6, X6, e6, W6, st6⟩ := putF X2 hx hZ hown (host := "") (Or.inl (hw _ (List.mem_of_getElem? (i := 11) rfl))) Via.refl e2 f5 f4 (Or.inl (hw _ (List.mem_of_getElem? (i := 12) rfl))) (hw _ (List.mem_of_getElem? (i := 2) rfl)) (ty := (.array .int)) (by decide) rfl rfl (g := (mkF m 9 #[.val (.ref r0)] [(.ref b2), (.ref r0)])) rfl rfl (hb hby d1_9)
  have N6 := Fr.snoc X6 N0 g_r0
  have K7 : Keep h0 h6 [r0] := K3.wr W6 (Or.inl (List.mem_of_getElem? (i := 0) rfl))
  have F6 := f5.same W6
  have pre8 : ∀ t, Steps p.tables e below (T6.setTop (mkF m 12 #[.val (.ref r0)] [])) t → Steps p.tables e below (s₁.setTop (entryFrame m #[(.ref r0)] 1)) t := by
    intro t k
    refine pre0 _ ?_
    show Steps p.tables e below (s₁.setTop (mkF m 0 #[.val (.ref r0)] [])) _
    refine XS.aloadN X0.here hx rfl (hb hby d1_0) rfl rfl ?_
    show Steps p.tables e below (s₁.setTop (mkF m 1 #[.val (.ref r0)] [(.ref r0)])) _
    refine st1 _ ?_
    show Steps p.tables e below (T1.setTop (mkF m 4 #[.val (.ref r0)] [])) _
    refine XS.aloadN X1.here hx rfl (hb hby d1_4) rfl rfl ?_
    show Steps p.tables e below (T1.setTop (mkF m 5 #[.val (.ref r0)] [(.ref r0)])) _
    refine XS.bipush X1.here hx rfl (hb hby d1_5) ?_
    show Steps p.tables e below (T1.setTop (mkF m 7 #[.val (.ref r0)] [(.int (16 : Int32)), (.ref r0)])) _
    refine st2 _ ?_
    show Steps p.tables e below (T2.setTop (mkF m 9 #[.val (.ref r0)] [(.ref b2), (.ref r0)])) _
    refine st6 _ ?_
    exact k
  have f9 := (V2.other W6 (Ne.symm (Nat.ne_of_lt (Nat.lt_of_lt_of_le F_size_r0.lt (Nat.le_trans (Nat.le_refl _) (Nat.le_of_eq g2.symm))))))
  have f10 := (f4.wr W6)
  have f11 := ((F_size_r0.ext E2).other W6 (Or.inr (slot_ne (Or.inl (hw _ (List.mem_of_getElem? (i := 19) rfl))) (Or.inl (hw _ (List.mem_of_getElem? (i := 12) rfl))) (by decide) (t := .int) (t' := (.array .int)) (by decide) (by decide))))
  obtain ⟨fs, hr, hrun, hended, hW, hsame⟩ := X6.leave (v := none) (fun _ => rfl)
  refine ⟨_, _, pre8 _ ?_, hrun, hended, _, _, rfl, ?_, ⟨_, rfl⟩, hW, hsame.mono (by decide) (by decide)⟩
  · show Steps p.tables e below (T6.setTop (mkF m 12 #[.val (.ref r0)] [])) _
    exact X6.returnOut hx Bd.returns (hb hby d1_12) hr
  · show Q1 Z r0 u_size_r0 u_numbers_r0 h0 n0 _ T6.heap _
    rw [e6]
    exact ⟨b2, k2, rfl, N6, K7, sz_b2, f9, f10, F6, f11⟩
def Q3 (Z : State) (r0 : Addr) (i1 : Int32) (h0 : Heap) (n0 : Nat) (v : Option Value) (h : Heap) (L : List Loc) : Prop := v = none ∧ Fr n0 L ∧ h = h0
theorem ef_3 (m : MethodId) (x0 : Addr) (x1 : Int32) : entryFrame m #[(.ref x0), (.int x1)] 5 = mkF m 0 #[.val (.ref x0), .val (.int x1), .unset, .unset, .unset] [] := by first | (simp [entryFrame, mkF, argsToLocals, Value.category]; done) | rfl
set_option maxRecDepth 65536 in
set_option maxHeartbeats 40000000 in
theorem rm3 (l : Launch) (Z : State) (a0 : Array Value) (hw : ∀ d ∈ tables_1, d.before a0 Z = true) (ws : List Jvm.Cond) (r0 : Addr) (i1 : Int32) (h0 : Heap) (n0 : Nat) (Z0 : n0 ≤ h0.size) (F_size_r0 : Fld Z h0 r0 "com/example/baum/baum/query/NodeList$Builder" "size" "I" (.int (0 : Int32))) (hst : i1 = (0 : Int32)) :
    MetFree l (⟨"com/example/baum/baum/query/NodeList$Builder", "reverseFrom", "(I)V"⟩ : MethodName) (head1 (Jvm.Cond.code (⟨"com/example/baum/baum/query/NodeList$Builder", "reverseFrom", "(I)V"⟩ : MethodName) prog_99_method_7_code 5 none :: ws) ({ frames := 0, cells := 0, slots := 0, locals := 0 } : Room)) (fun a U => a = #[(.ref r0), (.int i1)] ∧ Z.Warmed39 U.vm ∧ U.heap = h0) (fun _ _ _ _ _ => True) (fun _ U o U' => ∃ v L, o = .returned v ∧ Q3 Z r0 i1 h0 n0 v U'.heap L ∧ FrameEnd U o U' L ({ frames := 0, cells := 0, slots := 0, locals := 0 } : Room).cells ({ frames := 0, cells := 0, slots := 0, locals := 0 } : Room).slots) := by
  refine MetFree.of_bodySF (plainFor_of_name pn_0) hisR ?_
  intro p e s m args below meth c s₁ Bd hml0 hP hK
  obtain ⟨rfl, hZ, hh⟩ := hP
  have hx := Bd.exec
  have hby := Bd.bytes
  have hml : c.maxLocals = 5 := hml0
  have hown : s.vm.findClass "com/example/baum/baum/query/NodeList$Builder" = some m.cls := findClass_of_methodNamed Bd.named
  have hnm := (name_of_methodNamed Bd.named Bd.method).1
  have X0 : Stand p l e ({ frames := 0, cells := 0, slots := 0, locals := 0 } : Room) s m #[(.ref r0), (.int i1)] below meth c s₁ [] 0 0 := Stand.of_body Bd
  have e0 : s₁.heap = h0 := by rw [← hh, Bd.state]; rfl
  have N0 := Fr.nil n0
  have pre0 : ∀ t, Steps p.tables e below (s₁.setTop (mkF m 0 #[.val (.ref r0), .val (.int i1), .unset, .unset, .unset] [])) t → Steps p.tables e below (s₁.setTop (entryFrame m #[(.ref r0), (.int i1)] 5)) t := fun t k => castTop (ef_3 m r0 i1) k
  have pre1 : ∀ t, Steps p.tables e below (s₁.setTop (mkF m 2 #[.val (.ref r0), .val (.int i1), .val (.int i1), .unset, .unset] [])) t → Steps p.tables e below (s₁.setTop (entryFrame m #[(.ref r0), (.int i1)] 5)) t := by
    intro t k
    refine pre0 _ ?_
    show Steps p.tables e below (s₁.setTop (mkF m 0 #[.val (.ref r0), .val (.int i1), .unset, .unset, .unset] [])) _
    refine XS.iloadN X0.here hx rfl (hb hby d3_0) rfl ?_
    show Steps p.tables e below (s₁.setTop (mkF m 1 #[.val (.ref r0), .val (.int i1), .unset, .unset, .unset] [(.int i1)])) _
    refine XS.istoreN X0.here hx rfl (hb hby d3_1) rfl (l' := #[.val (.ref r0), .val (.int i1), .val (.int i1), .unset, .unset]) rfl ?_
    exact k
  have hk2 : i1 = (0 : Int32) := hst
  · have pre3 : ∀ t, Steps p.tables e below (s₁.setTop (mkF m 2 #[.val (.ref r0), .val (.int (0 : Int32)), .val (.int (0 : Int32)), .unset, .unset] [])) t → Steps p.tables e below (s₁.setTop (entryFrame m #[(.ref r0), (.int i1)] 5)) t := fun t k => pre1 t (by rw [hk2]; exact k)
    obtain ⟨T4, X4, e4, st4⟩ := getF X0 hx hZ hown (host := "") (Or.inl (hw _ (List.mem_of_getElem? (i := 18) rfl))) Via.refl e0 F_size_r0 (g := (mkF m 3 #[.val (.ref r0), .val (.int (0 : Int32)), .val (.int (0 : Int32)), .unset, .unset] [(.ref r0)])) rfl rfl (hb hby d3_3)
    have pre5 : ∀ t, Steps p.tables e below (T4.setTop (mkF m 51 #[.val (.ref r0), .val (.int (0 : Int32)), .val (.int (0 : Int32)), .val (.int (-1 : Int32)), .unset] [])) t → Steps p.tables e below (s₁.setTop (entryFrame m #[(.ref r0), (.int i1)] 5)) t := by
      intro t k
      refine pre3 _ ?_
      show Steps p.tables e below (s₁.setTop (mkF m 2 #[.val (.ref r0), .val (.int (0 : Int32)), .val (.int (0 : Int32)), .unset, .unset] [])) _
      refine XS.aloadN X0.here hx rfl (hb hby d3_2) rfl rfl ?_
      show Steps p.tables e below (s₁.setTop (mkF m 3 #[.val (.ref r0), .val (.int (0 : Int32)), .val (.int (0 : Int32)), .unset, .unset] [(.ref r0)])) _
      refine st4 _ ?_
      show Steps p.tables e below (T4.setTop (mkF m 6 #[.val (.ref r0), .val (.int (0 : Int32)), .val (.int (0 : Int32)), .unset, .unset] [(.int (0 : Int32))])) _
      refine XS.iconst X4.here hx rfl (hb hby d3_6) ?_
      show Steps p.tables e below (T4.setTop (mkF m 7 #[.val (.ref r0), .val (.int (0 : Int32)), .val (.int (0 : Int32)), .unset, .unset] [(.int (1 : Int32)), (.int (0 : Int32))])) _
      refine XS.isub X4.here hx rfl (hb hby d3_7) rfl ?_
      show Steps p.tables e below (T4.setTop (mkF m 8 #[.val (.ref r0), .val (.int (0 : Int32)), .val (.int (0 : Int32)), .unset, .unset] [(.int (-1 : Int32))])) _
      refine XS.istoreN X4.here hx rfl (hb hby d3_8) rfl (l' := #[.val (.ref r0), .val (.int (0 : Int32)), .val (.int (0 : Int32)), .val (.int (-1 : Int32)), .unset]) rfl ?_
      show Steps p.tables e below (T4.setTop (mkF m 9 #[.val (.ref r0), .val (.int (0 : Int32)), .val (.int (0 : Int32)), .val (.int (-1 : Int32)), .unset] [])) _
      refine XS.iloadN X4.here hx rfl (hb hby d3_9) rfl ?_
      show Steps p.tables e below (T4.setTop (mkF m 10 #[.val (.ref r0), .val (.int (0 : Int32)), .val (.int (0 : Int32)), .val (.int (-1 : Int32)), .unset] [(.int (0 : Int32))])) _
      refine XS.iloadN X4.here hx rfl (hb hby d3_10) rfl ?_
      show Steps p.tables e below (T4.setTop (mkF m 11 #[.val (.ref r0), .val (.int (0 : Int32)), .val (.int (0 : Int32)), .val (.int (-1 : Int32)), .unset] [(.int (-1 : Int32)), (.int (0 : Int32))])) _
      refine XS.icmpYes X4.here hx rfl (pc0 := 11) (pc' := 51) rfl (hb hby d3_11) rfl (flt (by decide : ¬ ((0 : Int32) < (-1 : Int32)))).2.1 (by decide) (by decide) ?_
      exact k
    obtain ⟨fs, hr, hrun, hended, hW, hsame⟩ := X4.leave (v := none) (fun _ => rfl)
    refine ⟨_, _, pre5 _ ?_, hrun, hended, _, _, rfl, ?_, ⟨_, rfl⟩, hW, hsame.mono (by decide) (by decide)⟩
    · show Steps p.tables e below (T4.setTop (mkF m 51 #[.val (.ref r0), .val (.int (0 : Int32)), .val (.int (0 : Int32)), .val (.int (-1 : Int32)), .unset] [])) _
      exact X4.returnOut hx Bd.returns (hb hby d3_51) hr
    · show Q3 Z r0 i1 h0 n0 _ T4.heap _
      rw [e4]
      exact ⟨rfl, N0, rfl⟩
def Q4 (Z : State) (r0 : Addr) (h0 : Heap) (n0 : Nat) (v : Option Value) (h : Heap) (L : List Loc) : Prop := v = some (.int (0 : Int32)) ∧ Fr n0 L ∧ h = h0
theorem ef_4 (m : MethodId) (x0 : Addr) : entryFrame m #[(.ref x0)] 1 = mkF m 0 #[.val (.ref x0)] [] := by first | (simp [entryFrame, mkF, argsToLocals, Value.category]; done) | rfl
set_option maxRecDepth 65536 in
set_option maxHeartbeats 40000000 in
theorem rm4 (l : Launch) (Z : State) (a0 : Array Value) (hw : ∀ d ∈ tables_1, d.before a0 Z = true) (ws : List Jvm.Cond) (r0 : Addr) (h0 : Heap) (n0 : Nat) (Z0 : n0 ≤ h0.size) (F_size_r0 : Fld Z h0 r0 "com/example/baum/baum/query/NodeList$Builder" "size" "I" (.int (0 : Int32))) :
    MetFree l (⟨"com/example/baum/baum/query/NodeList$Builder", "size", "()I"⟩ : MethodName) (head1 (Jvm.Cond.code (⟨"com/example/baum/baum/query/NodeList$Builder", "size", "()I"⟩ : MethodName) prog_99_method_5_code 1 (some .int) :: ws) ({ frames := 0, cells := 0, slots := 0, locals := 0 } : Room)) (fun a U => a = #[(.ref r0)] ∧ Z.Warmed39 U.vm ∧ U.heap = h0) (fun _ _ _ _ _ => True) (fun _ U o U' => ∃ v L, o = .returned v ∧ Q4 Z r0 h0 n0 v U'.heap L ∧ FrameEnd U o U' L ({ frames := 0, cells := 0, slots := 0, locals := 0 } : Room).cells ({ frames := 0, cells := 0, slots := 0, locals := 0 } : Room).slots) := by
  refine MetFree.of_bodySF (plainFor_of_name pn_0) hisR ?_
  intro p e s m args below meth c s₁ Bd hml0 hP hK
  obtain ⟨rfl, hZ, hh⟩ := hP
  have hx := Bd.exec
  have hby := Bd.bytes
  have hml : c.maxLocals = 1 := hml0
  have hown : s.vm.findClass "com/example/baum/baum/query/NodeList$Builder" = some m.cls := findClass_of_methodNamed Bd.named
  have hnm := (name_of_methodNamed Bd.named Bd.method).1
  have X0 : Stand p l e ({ frames := 0, cells := 0, slots := 0, locals := 0 } : Room) s m #[(.ref r0)] below meth c s₁ [] 0 0 := Stand.of_body Bd
  have e0 : s₁.heap = h0 := by rw [← hh, Bd.state]; rfl
  have N0 := Fr.nil n0
  have pre0 : ∀ t, Steps p.tables e below (s₁.setTop (mkF m 0 #[.val (.ref r0)] [])) t → Steps p.tables e below (s₁.setTop (entryFrame m #[(.ref r0)] 1)) t := fun t k => castTop (ef_4 m r0) k
  obtain ⟨T1, X1, e1, st1⟩ := getF X0 hx hZ hown (host := "") (Or.inl (hw _ (List.mem_of_getElem? (i := 18) rfl))) Via.refl e0 F_size_r0 (g := (mkF m 1 #[.val (.ref r0)] [(.ref r0)])) rfl rfl (hb hby d4_1)
  have pre2 : ∀ t, Steps p.tables e below (T1.setTop (mkF m 4 #[.val (.ref r0)] [(.int (0 : Int32))])) t → Steps p.tables e below (s₁.setTop (entryFrame m #[(.ref r0)] 1)) t := by
    intro t k
    refine pre0 _ ?_
    show Steps p.tables e below (s₁.setTop (mkF m 0 #[.val (.ref r0)] [])) _
    refine XS.aloadN X0.here hx rfl (hb hby d4_0) rfl rfl ?_
    show Steps p.tables e below (s₁.setTop (mkF m 1 #[.val (.ref r0)] [(.ref r0)])) _
    refine st1 _ ?_
    exact k
  obtain ⟨fs, hr, hrun, hended, hW, hsame⟩ := X1.leave (v := some (.int (0 : Int32))) (fun h => by rw [Bd.returns] at h; cases h)
  refine ⟨_, _, pre2 _ ?_, hrun, hended, _, _, rfl, ?_, ⟨_, rfl⟩, hW, hsame.mono (by decide) (by decide)⟩
  · show Steps p.tables e below (T1.setTop (mkF m 4 #[.val (.ref r0)] [(.int (0 : Int32))])) _
    exact retI X1 hx Bd.returns (hb hby d4_4) hr
  · show Q4 Z r0 h0 n0 _ T1.heap _
    rw [e1]
    exact ⟨rfl, N0, rfl⟩
def Q5 (Z : State) (r0 : Addr) (i1 : Int32) (w_numbers_r0 : Addr) (k_w_numbers_r0 : ClassId) (h0 : Heap) (n0 : Nat) (v : Option Value) (h : Heap) (L : List Loc) : Prop := v = none ∧ Fr n0 L ∧ Keep h0 h [r0, w_numbers_r0] ∧ Fld Z h r0 "com/example/baum/baum/query/NodeList$Builder" "size" "I" (.int (1 : Int32)) ∧ Fld Z h r0 "com/example/baum/baum/query/NodeList$Builder" "numbers" "[I" (.ref w_numbers_r0) ∧ Arv Z h w_numbers_r0 k_w_numbers_r0 .int (16 : Int32) [(.int i1), (.int (0 : Int32)), (.int (0 : Int32)), (.int (0 : Int32)), (.int (0 : Int32)), (.int (0 : Int32)), (.int (0 : Int32)), (.int (0 : Int32)), (.int (0 : Int32)), (.int (0 : Int32)), (.int (0 : Int32)), (.int (0 : Int32)), (.int (0 : Int32)), (.int (0 : Int32)), (.int (0 : Int32)), (.int (0 : Int32))] (.int (0 : Int32)) ∧ Exa Z h r0 "com/example/baum/baum/query/NodeList$Builder"
theorem ef_5 (m : MethodId) (x0 : Addr) (x1 : Int32) : entryFrame m #[(.ref x0), (.int x1)] 2 = mkF m 0 #[.val (.ref x0), .val (.int x1)] [] := by first | (simp [entryFrame, mkF, argsToLocals, Value.category]; done) | rfl
set_option maxRecDepth 65536 in
set_option maxHeartbeats 40000000 in
theorem rm5 (l : Launch) (Z : State) (a0 : Array Value) (hw : ∀ d ∈ tables_1, d.before a0 Z = true) (ws : List Jvm.Cond) (r0 : Addr) (i1 : Int32) (w_numbers_r0 : Addr) (k_w_numbers_r0 : ClassId) (h0 : Heap) (n0 : Nat) (Z0 : n0 ≤ h0.size) (F_size_r0 : Fld Z h0 r0 "com/example/baum/baum/query/NodeList$Builder" "size" "I" (.int (0 : Int32))) (F_numbers_r0 : Fld Z h0 r0 "com/example/baum/baum/query/NodeList$Builder" "numbers" "[I" (.ref w_numbers_r0)) (V_w_numbers_r0 : Arv Z h0 w_numbers_r0 k_w_numbers_r0 .int (16 : Int32) [(.int (0 : Int32)), (.int (0 : Int32)), (.int (0 : Int32)), (.int (0 : Int32)), (.int (0 : Int32)), (.int (0 : Int32)), (.int (0 : Int32)), (.int (0 : Int32)), (.int (0 : Int32)), (.int (0 : Int32)), (.int (0 : Int32)), (.int (0 : Int32)), (.int (0 : Int32)), (.int (0 : Int32)), (.int (0 : Int32)), (.int (0 : Int32))] (.int (0 : Int32))) (E_r0 : Exa Z h0 r0 "com/example/baum/baum/query/NodeList$Builder") (g_r0 : n0 ≤ r0) (ne_w_numbers_r0_r0 : w_numbers_r0 ≠ r0) (g_w_numbers_r0 : n0 ≤ w_numbers_r0) :
    MetFree l (⟨"com/example/baum/baum/query/NodeList$Builder", "add", "(I)V"⟩ : MethodName) (head1 (Jvm.Cond.code (⟨"com/example/baum/baum/query/NodeList$Builder", "add", "(I)V"⟩ : MethodName) prog_99_method_4_code 2 none :: ws) ({ frames := 0, cells := 0, slots := 0, locals := 0 } : Room)) (fun a U => a = #[(.ref r0), (.int i1)] ∧ Z.Warmed39 U.vm ∧ U.heap = h0) (fun _ _ _ _ _ => True) (fun _ U o U' => ∃ v L, o = .returned v ∧ Q5 Z r0 i1 w_numbers_r0 k_w_numbers_r0 h0 n0 v U'.heap L ∧ FrameEnd U o U' L ({ frames := 0, cells := 0, slots := 0, locals := 0 } : Room).cells ({ frames := 0, cells := 0, slots := 0, locals := 0 } : Room).slots) := by
  refine MetFree.of_bodySF (plainFor_of_name pn_0) hisR ?_
  intro p e s m args below meth c s₁ Bd hml0 hP hK
  obtain ⟨rfl, hZ, hh⟩ := hP
  have hx := Bd.exec
  have hby := Bd.bytes
  have hml : c.maxLocals = 2 := hml0
  have hown : s.vm.findClass "com/example/baum/baum/query/NodeList$Builder" = some m.cls := findClass_of_methodNamed Bd.named
  have hnm := (name_of_methodNamed Bd.named Bd.method).1
  have X0 : Stand p l e ({ frames := 0, cells := 0, slots := 0, locals := 0 } : Room) s m #[(.ref r0), (.int i1)] below meth c s₁ [] 0 0 := Stand.of_body Bd
  have e0 : s₁.heap = h0 := by rw [← hh, Bd.state]; rfl
  have N0 := Fr.nil n0
  have pre0 : ∀ t, Steps p.tables e below (s₁.setTop (mkF m 0 #[.val (.ref r0), .val (.int i1)] [])) t → Steps p.tables e below (s₁.setTop (entryFrame m #[(.ref r0), (.int i1)] 2)) t := fun t k => castTop (ef_5 m r0 i1) k
  obtain ⟨T1, X1, e1, st1⟩ := getF X0 hx hZ hown (host := "") (Or.inl (hw _ (List.mem_of_getElem? (i := 18) rfl))) Via.refl e0 F_size_r0 (g := (mkF m 1 #[.val (.ref r0), .val (.int i1)] [(.ref r0)])) rfl rfl (hb hby d5_1)
  obtain ⟨T2, X2, e2, st2⟩ := getF X1 hx hZ hown (host := "") (Or.inl (hw _ (List.mem_of_getElem? (i := 11) rfl))) Via.refl e1 F_numbers_r0 (g := (mkF m 5 #[.val (.ref r0), .val (.int i1)] [(.ref r0), (.int (0 : Int32))])) rfl rfl (hb hby d5_5)
  obtain ⟨cl3, Ar3, -, Sz3, Nn3, -, -⟩ := id V_w_numbers_r0
  obtain ⟨T4, X4, e4, st4⟩ := getF X2 hx hZ hown (host := "") (Or.inl (hw _ (List.mem_of_getElem? (i := 11) rfl))) Via.refl e2 F_numbers_r0 (g := (mkF m 30 #[.val (.ref r0), .val (.int i1)] [(.ref r0)])) rfl rfl (hb hby d5_30)
  obtain ⟨T5, X5, e5, st5⟩ := getF X4 hx hZ hown (host := "") (Or.inl (hw _ (List.mem_of_getElem? (i := 18) rfl))) Via.refl e4 F_size_r0 (g := (mkF m 35 #[.val (.ref r0), .val (.int i1)] [(.ref r0), (.ref r0), (.ref w_numbers_r0)])) rfl rfl (hb hby d5_35)
  obtain ⟨T6, h6, X6, e6, W6, st6⟩ := putF X5 hx hZ hown (host := "") (Or.inl (hw _ (List.mem_of_getElem? (i := 18) rfl))) Via.refl e5 F_size_r0 E_r0 (Or.inl (hw _ (List.mem_of_getElem? (i := 19) rfl))) (hw _ (List.mem_of_getElem? (i := 2) rfl)) (ty := .int) (by decide) rfl rfl (g := (mkF m 41 #[.val (.ref r0), .val (.int i1)] [(.int (1 : Int32)), (.ref r0), (.int (0 : Int32)), (.ref w_numbers_r0)])) rfl rfl (hb hby d5_41)
  have N6 := Fr.snoc X6 N0 g_r0
  have K7 : Keep h0 h6 [r0, w_numbers_r0] := (Keep.refl h0 [r0, w_numbers_r0]).wr W6 (Or.inl (List.mem_of_getElem? (i := 0) rfl))
  have F6 := F_size_r0.same W6
  have f8 := (V_w_numbers_r0.other W6 ne_w_numbers_r0_r0)
  obtain ⟨cl9, Ar9, Cq9, Sz9, Nn9, Hh9, Gg9⟩ := id f8
  have hin9 : ¬ ((0 : Int32) < 0 ∨ cl9.slots.size ≤ ((0 : Int32)).toNatClampNeg) := inb_of Sz9 ⟨by decide, by decide⟩
  obtain ⟨T9, h9, X9, e9, W9, st9⟩ := stI X6 hx hZ e6 Ar9 (j := (0 : Int32)) hin9 (g := (mkF m 45 #[.val (.ref r0), .val (.int i1)] [(.int i1), (.int (0 : Int32)), (.ref w_numbers_r0)])) rfl rfl (hb hby d5_45)
  have V9 : Arv Z h9 w_numbers_r0 k_w_numbers_r0 .int (16 : Int32) [(.int i1), (.int (0 : Int32)), (.int (0 : Int32)), (.int (0 : Int32)), (.int (0 : Int32)), (.int (0 : Int32)), (.int (0 : Int32)), (.int (0 : Int32)), (.int (0 : Int32)), (.int (0 : Int32)), (.int (0 : Int32)), (.int (0 : Int32)), (.int (0 : Int32)), (.int (0 : Int32)), (.int (0 : Int32)), (.int (0 : Int32))] (.int (0 : Int32)) := Arv.set Ar9 Cq9 Sz9 Nn9 Hh9 Gg9 rfl W9 0 rfl (Nat.le_of_ble_eq_true rfl)
  have N9 := Fr.snoc X9 N6 g_w_numbers_r0
  have K10 : Keep h0 h9 [r0, w_numbers_r0] := K7.wr W9 (Or.inl (List.mem_of_getElem? (i := 1) rfl))
  have pre11 : ∀ t, Steps p.tables e below (T9.setTop (mkF m 46 #[.val (.ref r0), .val (.int i1)] [])) t → Steps p.tables e below (s₁.setTop (entryFrame m #[(.ref r0), (.int i1)] 2)) t := by
    intro t k
    refine pre0 _ ?_
    show Steps p.tables e below (s₁.setTop (mkF m 0 #[.val (.ref r0), .val (.int i1)] [])) _
    refine XS.aloadN X0.here hx rfl (hb hby d5_0) rfl rfl ?_
    show Steps p.tables e below (s₁.setTop (mkF m 1 #[.val (.ref r0), .val (.int i1)] [(.ref r0)])) _
    refine st1 _ ?_
    show Steps p.tables e below (T1.setTop (mkF m 4 #[.val (.ref r0), .val (.int i1)] [(.int (0 : Int32))])) _
    refine XS.aloadN X1.here hx rfl (hb hby d5_4) rfl rfl ?_
    show Steps p.tables e below (T1.setTop (mkF m 5 #[.val (.ref r0), .val (.int i1)] [(.ref r0), (.int (0 : Int32))])) _
    refine st2 _ ?_
    show Steps p.tables e below (T2.setTop (mkF m 8 #[.val (.ref r0), .val (.int i1)] [(.ref w_numbers_r0), (.int (0 : Int32))])) _
    refine X2.arraylength hx (by rw [e2]; exact Ar3.1) (State.isArrayOf_alike hZ.alike Ar3.2.1) (g := (mkF m 8 #[.val (.ref r0), .val (.int i1)] [(.ref w_numbers_r0), (.int (0 : Int32))])) rfl rfl (hb hby d5_8) _ ?_
    rw [len_of Sz3 Nn3]
    show Steps p.tables e below (T2.setTop (mkF m 9 #[.val (.ref r0), .val (.int i1)] [(.int (16 : Int32)), (.int (0 : Int32))])) _
    refine XS.icmpYes X2.here hx rfl (pc0 := 9) (pc' := 29) rfl (hb hby d5_9) rfl (feq (by decide : ¬ ((0 : Int32) = (16 : Int32)))).2 (by decide) (by decide) ?_
    show Steps p.tables e below (T2.setTop (mkF m 29 #[.val (.ref r0), .val (.int i1)] [])) _
    refine XS.aloadN X2.here hx rfl (hb hby d5_29) rfl rfl ?_
    show Steps p.tables e below (T2.setTop (mkF m 30 #[.val (.ref r0), .val (.int i1)] [(.ref r0)])) _
    refine st4 _ ?_
    show Steps p.tables e below (T4.setTop (mkF m 33 #[.val (.ref r0), .val (.int i1)] [(.ref w_numbers_r0)])) _
    refine XS.aloadN X4.here hx rfl (hb hby d5_33) rfl rfl ?_
    show Steps p.tables e below (T4.setTop (mkF m 34 #[.val (.ref r0), .val (.int i1)] [(.ref r0), (.ref w_numbers_r0)])) _
    refine XS.dup X4.here hx rfl (hb hby d5_34) rfl rfl ?_
    show Steps p.tables e below (T4.setTop (mkF m 35 #[.val (.ref r0), .val (.int i1)] [(.ref r0), (.ref r0), (.ref w_numbers_r0)])) _
    refine st5 _ ?_
    show Steps p.tables e below (T5.setTop (mkF m 38 #[.val (.ref r0), .val (.int i1)] [(.int (0 : Int32)), (.ref r0), (.ref w_numbers_r0)])) _
    refine XS.dupX1 X5.here hx rfl (hb hby d5_38) rfl rfl rfl ?_
    show Steps p.tables e below (T5.setTop (mkF m 39 #[.val (.ref r0), .val (.int i1)] [(.int (0 : Int32)), (.ref r0), (.int (0 : Int32)), (.ref w_numbers_r0)])) _
    refine XS.iconst X5.here hx rfl (hb hby d5_39) ?_
    show Steps p.tables e below (T5.setTop (mkF m 40 #[.val (.ref r0), .val (.int i1)] [(.int (1 : Int32)), (.int (0 : Int32)), (.ref r0), (.int (0 : Int32)), (.ref w_numbers_r0)])) _
    refine XS.iadd X5.here hx rfl (hb hby d5_40) rfl ?_
    show Steps p.tables e below (T5.setTop (mkF m 41 #[.val (.ref r0), .val (.int i1)] [(.int (1 : Int32)), (.ref r0), (.int (0 : Int32)), (.ref w_numbers_r0)])) _
    refine st6 _ ?_
    show Steps p.tables e below (T6.setTop (mkF m 44 #[.val (.ref r0), .val (.int i1)] [(.int (0 : Int32)), (.ref w_numbers_r0)])) _
    refine XS.iloadN X6.here hx rfl (hb hby d5_44) rfl ?_
    show Steps p.tables e below (T6.setTop (mkF m 45 #[.val (.ref r0), .val (.int i1)] [(.int i1), (.int (0 : Int32)), (.ref w_numbers_r0)])) _
    refine st9 _ ?_
    exact k
  have f12 := (F6.other W9 (Or.inl (Ne.symm ne_w_numbers_r0_r0)))
  have f13 := ((F_numbers_r0.other W6 (Or.inr (slot_ne (Or.inl (hw _ (List.mem_of_getElem? (i := 12) rfl))) (Or.inl (hw _ (List.mem_of_getElem? (i := 19) rfl))) (by decide) (t := (.array .int)) (t' := .int) (by decide) (by decide)))).other W9 (Or.inl (Ne.symm ne_w_numbers_r0_r0)))
  have f14 := ((E_r0.wr W6).wr W9)
  obtain ⟨fs, hr, hrun, hended, hW, hsame⟩ := X9.leave (v := none) (fun _ => rfl)
  refine ⟨_, _, pre11 _ ?_, hrun, hended, _, _, rfl, ?_, ⟨_, rfl⟩, hW, hsame.mono (by decide) (by decide)⟩
  · show Steps p.tables e below (T9.setTop (mkF m 46 #[.val (.ref r0), .val (.int i1)] [])) _
    exact X9.returnOut hx Bd.returns (hb hby d5_46) hr
  · show Q5 Z r0 i1 w_numbers_r0 k_w_numbers_r0 h0 n0 _ T9.heap _
    rw [e9]
    exact ⟨rfl, N9, K10, f12, f13, V9, f14⟩
def Q3a (Z : State) (r0 : Addr) (i1 : Int32) (h0 : Heap) (n0 : Nat) (v : Option Value) (h : Heap) (L : List Loc) : Prop := v = none ∧ Fr n0 L ∧ h = h0
theorem ef_3a (m : MethodId) (x0 : Addr) (x1 : Int32) : entryFrame m #[(.ref x0), (.int x1)] 5 = mkF m 0 #[.val (.ref x0), .val (.int x1), .unset, .unset, .unset] [] := by first | (simp [entryFrame, mkF, argsToLocals, Value.category]; done) | rfl
set_option maxRecDepth 65536 in
set_option maxHeartbeats 40000000 in
theorem rm3a (l : Launch) (Z : State) (a0 : Array Value) (hw : ∀ d ∈ tables_1, d.before a0 Z = true) (ws : List Jvm.Cond) (r0 : Addr) (i1 : Int32) (h0 : Heap) (n0 : Nat) (Z0 : n0 ≤ h0.size) (F_size_r0 : Fld Z h0 r0 "com/example/baum/baum/query/NodeList$Builder" "size" "I" (.int (1 : Int32))) (hst : i1 = (0 : Int32) ∨ i1 = (1 : Int32)) :
    MetFree l (⟨"com/example/baum/baum/query/NodeList$Builder", "reverseFrom", "(I)V"⟩ : MethodName) (head1 (Jvm.Cond.code (⟨"com/example/baum/baum/query/NodeList$Builder", "reverseFrom", "(I)V"⟩ : MethodName) prog_99_method_7_code 5 none :: ws) ({ frames := 0, cells := 0, slots := 0, locals := 0 } : Room)) (fun a U => a = #[(.ref r0), (.int i1)] ∧ Z.Warmed39 U.vm ∧ U.heap = h0) (fun _ _ _ _ _ => True) (fun _ U o U' => ∃ v L, o = .returned v ∧ Q3a Z r0 i1 h0 n0 v U'.heap L ∧ FrameEnd U o U' L ({ frames := 0, cells := 0, slots := 0, locals := 0 } : Room).cells ({ frames := 0, cells := 0, slots := 0, locals := 0 } : Room).slots) := by
  refine MetFree.of_bodySF (plainFor_of_name pn_0) hisR ?_
  intro p e s m args below meth c s₁ Bd hml0 hP hK
  obtain ⟨rfl, hZ, hh⟩ := hP
  have hx := Bd.exec
  have hby := Bd.bytes
  have hml : c.maxLocals = 5 := hml0
  have hown : s.vm.findClass "com/example/baum/baum/query/NodeList$Builder" = some m.cls := findClass_of_methodNamed Bd.named
  have hnm := (name_of_methodNamed Bd.named Bd.method).1
  have X0 : Stand p l e ({ frames := 0, cells := 0, slots := 0, locals := 0 } : Room) s m #[(.ref r0), (.int i1)] below meth c s₁ [] 0 0 := Stand.of_body Bd
  have e0 : s₁.heap = h0 := by rw [← hh, Bd.state]; rfl
  have N0 := Fr.nil n0
  have pre0 : ∀ t, Steps p.tables e below (s₁.setTop (mkF m 0 #[.val (.ref r0), .val (.int i1), .unset, .unset, .unset] [])) t → Steps p.tables e below (s₁.setTop (entryFrame m #[(.ref r0), (.int i1)] 5)) t := fun t k => castTop (ef_3a m r0 i1) k
  have pre1 : ∀ t, Steps p.tables e below (s₁.setTop (mkF m 2 #[.val (.ref r0), .val (.int i1), .val (.int i1), .unset, .unset] [])) t → Steps p.tables e below (s₁.setTop (entryFrame m #[(.ref r0), (.int i1)] 5)) t := by
    intro t k
    refine pre0 _ ?_
    show Steps p.tables e below (s₁.setTop (mkF m 0 #[.val (.ref r0), .val (.int i1), .unset, .unset, .unset] [])) _
    refine XS.iloadN X0.here hx rfl (hb hby d3_0) rfl ?_
    show Steps p.tables e below (s₁.setTop (mkF m 1 #[.val (.ref r0), .val (.int i1), .unset, .unset, .unset] [(.int i1)])) _
    refine XS.istoreN X0.here hx rfl (hb hby d3_1) rfl (l' := #[.val (.ref r0), .val (.int i1), .val (.int i1), .unset, .unset]) rfl ?_
    exact k
  rcases (hst : i1 = (0 : Int32) ∨ i1 = (1 : Int32)) with hk2 | hk2
  · have pre3 : ∀ t, Steps p.tables e below (s₁.setTop (mkF m 2 #[.val (.ref r0), .val (.int (0 : Int32)), .val (.int (0 : Int32)), .unset, .unset] [])) t → Steps p.tables e below (s₁.setTop (entryFrame m #[(.ref r0), (.int i1)] 5)) t := fun t k => pre1 t (by rw [hk2]; exact k)
    obtain ⟨T4, X4, e4, st4⟩ := getF X0 hx hZ hown (host := "") (Or.inl (hw _ (List.mem_of_getElem? (i := 18) rfl))) Via.refl e0 F_size_r0 (g := (mkF m 3 #[.val (.ref r0), .val (.int (0 : Int32)), .val (.int (0 : Int32)), .unset, .unset] [(.ref r0)])) rfl rfl (hb hby d3_3)
    have pre5 : ∀ t, Steps p.tables e below (T4.setTop (mkF m 51 #[.val (.ref r0), .val (.int (0 : Int32)), .val (.int (0 : Int32)), .val (.int (0 : Int32)), .unset] [])) t → Steps p.tables e below (s₁.setTop (entryFrame m #[(.ref r0), (.int i1)] 5)) t := by
      intro t k
      refine pre3 _ ?_
      show Steps p.tables e below (s₁.setTop (mkF m 2 #[.val (.ref r0), .val (.int (0 : Int32)), .val (.int (0 : Int32)), .unset, .unset] [])) _
      refine XS.aloadN X0.here hx rfl (hb hby d3_2) rfl rfl ?_
      show Steps p.tables e below (s₁.setTop (mkF m 3 #[.val (.ref r0), .val (.int (0 : Int32)), .val (.int (0 : Int32)), .unset, .unset] [(.ref r0)])) _
      refine st4 _ ?_
      show Steps p.tables e below (T4.setTop (mkF m 6 #[.val (.ref r0), .val (.int (0 : Int32)), .val (.int (0 : Int32)), .unset, .unset] [(.int (1 : Int32))])) _
      refine XS.iconst X4.here hx rfl (hb hby d3_6) ?_
      show Steps p.tables e below (T4.setTop (mkF m 7 #[.val (.ref r0), .val (.int (0 : Int32)), .val (.int (0 : Int32)), .unset, .unset] [(.int (1 : Int32)), (.int (1 : Int32))])) _
      refine XS.isub X4.here hx rfl (hb hby d3_7) rfl ?_
      show Steps p.tables e below (T4.setTop (mkF m 8 #[.val (.ref r0), .val (.int (0 : Int32)), .val (.int (0 : Int32)), .unset, .unset] [(.int (0 : Int32))])) _
      refine XS.istoreN X4.here hx rfl (hb hby d3_8) rfl (l' := #[.val (.ref r0), .val (.int (0 : Int32)), .val (.int (0 : Int32)), .val (.int (0 : Int32)), .unset]) rfl ?_
      show Steps p.tables e below (T4.setTop (mkF m 9 #[.val (.ref r0), .val (.int (0 : Int32)), .val (.int (0 : Int32)), .val (.int (0 : Int32)), .unset] [])) _
      refine XS.iloadN X4.here hx rfl (hb hby d3_9) rfl ?_
      show Steps p.tables e below (T4.setTop (mkF m 10 #[.val (.ref r0), .val (.int (0 : Int32)), .val (.int (0 : Int32)), .val (.int (0 : Int32)), .unset] [(.int (0 : Int32))])) _
      refine XS.iloadN X4.here hx rfl (hb hby d3_10) rfl ?_
      show Steps p.tables e below (T4.setTop (mkF m 11 #[.val (.ref r0), .val (.int (0 : Int32)), .val (.int (0 : Int32)), .val (.int (0 : Int32)), .unset] [(.int (0 : Int32)), (.int (0 : Int32))])) _
      refine XS.icmpYes X4.here hx rfl (pc0 := 11) (pc' := 51) rfl (hb hby d3_11) rfl (flt (by decide : ¬ ((0 : Int32) < (0 : Int32)))).2.1 (by decide) (by decide) ?_
      exact k
    obtain ⟨fs, hr, hrun, hended, hW, hsame⟩ := X4.leave (v := none) (fun _ => rfl)
    refine ⟨_, _, pre5 _ ?_, hrun, hended, _, _, rfl, ?_, ⟨_, rfl⟩, hW, hsame.mono (by decide) (by decide)⟩
    · show Steps p.tables e below (T4.setTop (mkF m 51 #[.val (.ref r0), .val (.int (0 : Int32)), .val (.int (0 : Int32)), .val (.int (0 : Int32)), .unset] [])) _
      exact X4.returnOut hx Bd.returns (hb hby d3_51) hr
    · show Q3a Z r0 i1 h0 n0 _ T4.heap _
      rw [e4]
      exact ⟨rfl, N0, rfl⟩
  · have pre6 : ∀ t, Steps p.tables e below (s₁.setTop (mkF m 2 #[.val (.ref r0), .val (.int (1 : Int32)), .val (.int (1 : Int32)), .unset, .unset] [])) t → Steps p.tables e below (s₁.setTop (entryFrame m #[(.ref r0), (.int i1)] 5)) t := fun t k => pre1 t (by rw [hk2]; exact k)
    obtain ⟨T7, X7, e7, st7⟩ := getF X0 hx hZ hown (host := "") (Or.inl (hw _ (List.mem_of_getElem? (i := 18) rfl))) Via.refl e0 F_size_r0 (g := (mkF m 3 #[.val (.ref r0), .val (.int (1 : Int32)), .val (.int (1 : Int32)), .unset, .unset] [(.ref r0)])) rfl rfl (hb hby d3_3)
    have pre8 : ∀ t, Steps p.tables e below (T7.setTop (mkF m 51 #[.val (.ref r0), .val (.int (1 : Int32)), .val (.int (1 : Int32)), .val (.int (0 : Int32)), .unset] [])) t → Steps p.tables e below (s₁.setTop (entryFrame m #[(.ref r0), (.int i1)] 5)) t := by
      intro t k
      refine pre6 _ ?_
      show Steps p.tables e below (s₁.setTop (mkF m 2 #[.val (.ref r0), .val (.int (1 : Int32)), .val (.int (1 : Int32)), .unset, .unset] [])) _
      refine XS.aloadN X0.here hx rfl (hb hby d3_2) rfl rfl ?_
      show Steps p.tables e below (s₁.setTop (mkF m 3 #[.val (.ref r0), .val (.int (1 : Int32)), .val (.int (1 : Int32)), .unset, .unset] [(.ref r0)])) _
      refine st7 _ ?_
      show Steps p.tables e below (T7.setTop (mkF m 6 #[.val (.ref r0), .val (.int (1 : Int32)), .val (.int (1 : Int32)), .unset, .unset] [(.int (1 : Int32))])) _
      refine XS.iconst X7.here hx rfl (hb hby d3_6) ?_
      show Steps p.tables e below (T7.setTop (mkF m 7 #[.val (.ref r0), .val (.int (1 : Int32)), .val (.int (1 : Int32)), .unset, .unset] [(.int (1 : Int32)), (.int (1 : Int32))])) _
      refine XS.isub X7.here hx rfl (hb hby d3_7) rfl ?_
      show Steps p.tables e below (T7.setTop (mkF m 8 #[.val (.ref r0), .val (.int (1 : Int32)), .val (.int (1 : Int32)), .unset, .unset] [(.int (0 : Int32))])) _
      refine XS.istoreN X7.here hx rfl (hb hby d3_8) rfl (l' := #[.val (.ref r0), .val (.int (1 : Int32)), .val (.int (1 : Int32)), .val (.int (0 : Int32)), .unset]) rfl ?_
      show Steps p.tables e below (T7.setTop (mkF m 9 #[.val (.ref r0), .val (.int (1 : Int32)), .val (.int (1 : Int32)), .val (.int (0 : Int32)), .unset] [])) _
      refine XS.iloadN X7.here hx rfl (hb hby d3_9) rfl ?_
      show Steps p.tables e below (T7.setTop (mkF m 10 #[.val (.ref r0), .val (.int (1 : Int32)), .val (.int (1 : Int32)), .val (.int (0 : Int32)), .unset] [(.int (1 : Int32))])) _
      refine XS.iloadN X7.here hx rfl (hb hby d3_10) rfl ?_
      show Steps p.tables e below (T7.setTop (mkF m 11 #[.val (.ref r0), .val (.int (1 : Int32)), .val (.int (1 : Int32)), .val (.int (0 : Int32)), .unset] [(.int (0 : Int32)), (.int (1 : Int32))])) _
      refine XS.icmpYes X7.here hx rfl (pc0 := 11) (pc' := 51) rfl (hb hby d3_11) rfl (flt (by decide : ¬ ((1 : Int32) < (0 : Int32)))).2.1 (by decide) (by decide) ?_
      exact k
    obtain ⟨fs, hr, hrun, hended, hW, hsame⟩ := X7.leave (v := none) (fun _ => rfl)
    refine ⟨_, _, pre8 _ ?_, hrun, hended, _, _, rfl, ?_, ⟨_, rfl⟩, hW, hsame.mono (by decide) (by decide)⟩
    · show Steps p.tables e below (T7.setTop (mkF m 51 #[.val (.ref r0), .val (.int (1 : Int32)), .val (.int (1 : Int32)), .val (.int (0 : Int32)), .unset] [])) _
      exact X7.returnOut hx Bd.returns (hb hby d3_51) hr
    · show Q3a Z r0 i1 h0 n0 _ T7.heap _
      rw [e7]
      exact ⟨rfl, N0, rfl⟩
def Q4a (Z : State) (r0 : Addr) (h0 : Heap) (n0 : Nat) (v : Option Value) (h : Heap) (L : List Loc) : Prop := v = some (.int (1 : Int32)) ∧ Fr n0 L ∧ h = h0
theorem ef_4a (m : MethodId) (x0 : Addr) : entryFrame m #[(.ref x0)] 1 = mkF m 0 #[.val (.ref x0)] [] := by first | (simp [entryFrame, mkF, argsToLocals, Value.category]; done) | rfl
set_option maxRecDepth 65536 in
set_option maxHeartbeats 40000000 in
theorem rm4a (l : Launch) (Z : State) (a0 : Array Value) (hw : ∀ d ∈ tables_1, d.before a0 Z = true) (ws : List Jvm.Cond) (r0 : Addr) (h0 : Heap) (n0 : Nat) (Z0 : n0 ≤ h0.size) (F_size_r0 : Fld Z h0 r0 "com/example/baum/baum/query/NodeList$Builder" "size" "I" (.int (1 : Int32))) :
    MetFree l (⟨"com/example/baum/baum/query/NodeList$Builder", "size", "()I"⟩ : MethodName) (head1 (Jvm.Cond.code (⟨"com/example/baum/baum/query/NodeList$Builder", "size", "()I"⟩ : MethodName) prog_99_method_5_code 1 (some .int) :: ws) ({ frames := 0, cells := 0, slots := 0, locals := 0 } : Room)) (fun a U => a = #[(.ref r0)] ∧ Z.Warmed39 U.vm ∧ U.heap = h0) (fun _ _ _ _ _ => True) (fun _ U o U' => ∃ v L, o = .returned v ∧ Q4a Z r0 h0 n0 v U'.heap L ∧ FrameEnd U o U' L ({ frames := 0, cells := 0, slots := 0, locals := 0 } : Room).cells ({ frames := 0, cells := 0, slots := 0, locals := 0 } : Room).slots) := by
  refine MetFree.of_bodySF (plainFor_of_name pn_0) hisR ?_
  intro p e s m args below meth c s₁ Bd hml0 hP hK
  obtain ⟨rfl, hZ, hh⟩ := hP
  have hx := Bd.exec
  have hby := Bd.bytes
  have hml : c.maxLocals = 1 := hml0
  have hown : s.vm.findClass "com/example/baum/baum/query/NodeList$Builder" = some m.cls := findClass_of_methodNamed Bd.named
  have hnm := (name_of_methodNamed Bd.named Bd.method).1
  have X0 : Stand p l e ({ frames := 0, cells := 0, slots := 0, locals := 0 } : Room) s m #[(.ref r0)] below meth c s₁ [] 0 0 := Stand.of_body Bd
  have e0 : s₁.heap = h0 := by rw [← hh, Bd.state]; rfl
  have N0 := Fr.nil n0
  have pre0 : ∀ t, Steps p.tables e below (s₁.setTop (mkF m 0 #[.val (.ref r0)] [])) t → Steps p.tables e below (s₁.setTop (entryFrame m #[(.ref r0)] 1)) t := fun t k => castTop (ef_4a m r0) k
  obtain ⟨T1, X1, e1, st1⟩ := getF X0 hx hZ hown (host := "") (Or.inl (hw _ (List.mem_of_getElem? (i := 18) rfl))) Via.refl e0 F_size_r0 (g := (mkF m 1 #[.val (.ref r0)] [(.ref r0)])) rfl rfl (hb hby d4_1)
  have pre2 : ∀ t, Steps p.tables e below (T1.setTop (mkF m 4 #[.val (.ref r0)] [(.int (1 : Int32))])) t → Steps p.tables e below (s₁.setTop (entryFrame m #[(.ref r0)] 1)) t := by
    intro t k
    refine pre0 _ ?_
    show Steps p.tables e below (s₁.setTop (mkF m 0 #[.val (.ref r0)] [])) _
    refine XS.aloadN X0.here hx rfl (hb hby d4_0) rfl rfl ?_
    show Steps p.tables e below (s₁.setTop (mkF m 1 #[.val (.ref r0)] [(.ref r0)])) _
    refine st1 _ ?_
    exact k
  obtain ⟨fs, hr, hrun, hended, hW, hsame⟩ := X1.leave (v := some (.int (1 : Int32))) (fun h => by rw [Bd.returns] at h; cases h)
  refine ⟨_, _, pre2 _ ?_, hrun, hended, _, _, rfl, ?_, ⟨_, rfl⟩, hW, hsame.mono (by decide) (by decide)⟩
  · show Steps p.tables e below (T1.setTop (mkF m 4 #[.val (.ref r0)] [(.int (1 : Int32))])) _
    exact retI X1 hx Bd.returns (hb hby d4_4) hr
  · show Q4a Z r0 h0 n0 _ T1.heap _
    rw [e1]
    exact ⟨rfl, N0, rfl⟩
def Q8 (Z : State)  (h0 : Heap) (n0 : Nat) (v : Option Value) (h : Heap) (L : List Loc) : Prop := v = some (.int (0 : Int32)) ∧ Fr n0 L ∧ h = h0
theorem ef_8 (m : MethodId)  : entryFrame m #[(.int (0 : Int32)), (.int (1 : Int32)), .null] 3 = mkF m 0 #[.val (.int (0 : Int32)), .val (.int (1 : Int32)), .val .null] [] := by first | (simp [entryFrame, mkF, argsToLocals, Value.category]; done) | rfl
set_option maxRecDepth 65536 in
set_option maxHeartbeats 40000000 in
theorem rm8 (l : Launch) (Z : State) (a0 : Array Value) (hw : ∀ d ∈ tables_1, d.before a0 Z = true) (ws : List Jvm.Cond)  (h0 : Heap) (n0 : Nat) (Z0 : n0 ≤ h0.size) :
    MetFree l (⟨"jdk/internal/util/Preconditions", "checkIndex", "(IILjava/util/function/BiFunction;)I"⟩ : MethodName) (head1 (Jvm.Cond.code (⟨"jdk/internal/util/Preconditions", "checkIndex", "(IILjava/util/function/BiFunction;)I"⟩ : MethodName) jdk_41_method_11_code 3 (some .int) :: ws) ({ frames := 0, cells := 0, slots := 0, locals := 0 } : Room)) (fun a U => a = #[(.int (0 : Int32)), (.int (1 : Int32)), .null] ∧ Z.Warmed39 U.vm ∧ U.heap = h0) (fun _ _ _ _ _ => True) (fun _ U o U' => ∃ v L, o = .returned v ∧ Q8 Z  h0 n0 v U'.heap L ∧ FrameEnd U o U' L ({ frames := 0, cells := 0, slots := 0, locals := 0 } : Room).cells ({ frames := 0, cells := 0, slots := 0, locals := 0 } : Room).slots) := by
  refine MetFree.of_bodySF (plainFor_of_name pn_1) hisR ?_
  intro p e s m args below meth c s₁ Bd hml0 hP hK
  obtain ⟨rfl, hZ, hh⟩ := hP
  have hx := Bd.exec
  have hby := Bd.bytes
  have hml : c.maxLocals = 3 := hml0
  have hown : s.vm.findClass "jdk/internal/util/Preconditions" = some m.cls := findClass_of_methodNamed Bd.named
  have hnm := (name_of_methodNamed Bd.named Bd.method).1
  have X0 : Stand p l e ({ frames := 0, cells := 0, slots := 0, locals := 0 } : Room) s m #[(.int (0 : Int32)), (.int (1 : Int32)), .null] below meth c s₁ [] 0 0 := Stand.of_body Bd
  have e0 : s₁.heap = h0 := by rw [← hh, Bd.state]; rfl
  have N0 := Fr.nil n0
  have pre0 : ∀ t, Steps p.tables e below (s₁.setTop (mkF m 0 #[.val (.int (0 : Int32)), .val (.int (1 : Int32)), .val .null] [])) t → Steps p.tables e below (s₁.setTop (entryFrame m #[(.int (0 : Int32)), (.int (1 : Int32)), .null] 3)) t := fun t k => castTop (ef_8 m ) k
  have pre1 : ∀ t, Steps p.tables e below (s₁.setTop (mkF m 17 #[.val (.int (0 : Int32)), .val (.int (1 : Int32)), .val .null] [(.int (0 : Int32))])) t → Steps p.tables e below (s₁.setTop (entryFrame m #[(.int (0 : Int32)), (.int (1 : Int32)), .null] 3)) t := by
    intro t k
    refine pre0 _ ?_
    show Steps p.tables e below (s₁.setTop (mkF m 0 #[.val (.int (0 : Int32)), .val (.int (1 : Int32)), .val .null] [])) _
    refine XS.iloadN X0.here hx rfl (hb hby d8_0) rfl ?_
    show Steps p.tables e below (s₁.setTop (mkF m 1 #[.val (.int (0 : Int32)), .val (.int (1 : Int32)), .val .null] [(.int (0 : Int32))])) _
    refine XS.ifNo X0.here hx rfl (hb hby d8_1) rfl ((if0 _ _).trans (flt (by decide : ¬ ((0 : Int32) < (0 : Int32)))).1) ?_
    show Steps p.tables e below (s₁.setTop (mkF m 4 #[.val (.int (0 : Int32)), .val (.int (1 : Int32)), .val .null] [])) _
    refine XS.iloadN X0.here hx rfl (hb hby d8_4) rfl ?_
    show Steps p.tables e below (s₁.setTop (mkF m 5 #[.val (.int (0 : Int32)), .val (.int (1 : Int32)), .val .null] [(.int (0 : Int32))])) _
    refine XS.iloadN X0.here hx rfl (hb hby d8_5) rfl ?_
    show Steps p.tables e below (s₁.setTop (mkF m 6 #[.val (.int (0 : Int32)), .val (.int (1 : Int32)), .val .null] [(.int (1 : Int32)), (.int (0 : Int32))])) _
    refine XS.icmpYes X0.here hx rfl (pc0 := 6) (pc' := 16) rfl (hb hby d8_6) rfl (tlt (by decide : (0 : Int32) < (1 : Int32))).1 (by decide) (by decide) ?_
    show Steps p.tables e below (s₁.setTop (mkF m 16 #[.val (.int (0 : Int32)), .val (.int (1 : Int32)), .val .null] [])) _
    refine XS.iloadN X0.here hx rfl (hb hby d8_16) rfl ?_
    exact k
  obtain ⟨fs, hr, hrun, hended, hW, hsame⟩ := X0.leave (v := some (.int (0 : Int32))) (fun h => by rw [Bd.returns] at h; cases h)
  refine ⟨_, _, pre1 _ ?_, hrun, hended, _, _, rfl, ?_, ⟨_, rfl⟩, hW, hsame.mono (by decide) (by decide)⟩
  · show Steps p.tables e below (s₁.setTop (mkF m 17 #[.val (.int (0 : Int32)), .val (.int (1 : Int32)), .val .null] [(.int (0 : Int32))])) _
    exact retI X0 hx Bd.returns (hb hby d8_17) hr
  · show Q8 Z  h0 n0 _ s₁.heap _
    rw [e0]
    exact ⟨rfl, N0, rfl⟩
def Q7 (Z : State)  (h0 : Heap) (n0 : Nat) (v : Option Value) (h : Heap) (L : List Loc) : Prop := v = some (.int (0 : Int32)) ∧ Fr n0 L ∧ h = h0
theorem ef_7 (m : MethodId)  : entryFrame m #[(.int (0 : Int32)), (.int (1 : Int32))] 2 = mkF m 0 #[.val (.int (0 : Int32)), .val (.int (1 : Int32))] [] := by first | (simp [entryFrame, mkF, argsToLocals, Value.category]; done) | rfl
set_option maxRecDepth 65536 in
set_option maxHeartbeats 40000000 in
theorem rm7 (l : Launch) (Z : State) (a0 : Array Value) (hw : ∀ d ∈ tables_1, d.before a0 Z = true) (ws : List Jvm.Cond)  (h0 : Heap) (n0 : Nat) (Z0 : n0 ≤ h0.size) :
    MetFree l (⟨"java/util/Objects", "checkIndex", "(II)I"⟩ : MethodName) (head1 (Jvm.Cond.code (⟨"java/util/Objects", "checkIndex", "(II)I"⟩ : MethodName) jdk_31_method_17_code 2 (some .int) :: ws) ({ frames := 1, cells := 0, slots := 0, locals := 14 } : Room)) (fun a U => a = #[(.int (0 : Int32)), (.int (1 : Int32))] ∧ Z.Warmed39 U.vm ∧ U.heap = h0) (fun _ _ _ _ _ => True) (fun _ U o U' => ∃ v L, o = .returned v ∧ Q7 Z  h0 n0 v U'.heap L ∧ FrameEnd U o U' L ({ frames := 1, cells := 0, slots := 0, locals := 14 } : Room).cells ({ frames := 1, cells := 0, slots := 0, locals := 14 } : Room).slots) := by
  refine MetFree.of_bodySF (plainFor_of_name pn_2) hisR ?_
  intro p e s m args below meth c s₁ Bd hml0 hP hK
  obtain ⟨rfl, hZ, hh⟩ := hP
  have hx := Bd.exec
  have hby := Bd.bytes
  have hml : c.maxLocals = 2 := hml0
  have hown : s.vm.findClass "java/util/Objects" = some m.cls := findClass_of_methodNamed Bd.named
  have hnm := (name_of_methodNamed Bd.named Bd.method).1
  have X0 : Stand p l e ({ frames := 1, cells := 0, slots := 0, locals := 14 } : Room) s m #[(.int (0 : Int32)), (.int (1 : Int32))] below meth c s₁ [] 0 0 := Stand.of_body Bd
  have e0 : s₁.heap = h0 := by rw [← hh, Bd.state]; rfl
  have N0 := Fr.nil n0
  have pre0 : ∀ t, Steps p.tables e below (s₁.setTop (mkF m 0 #[.val (.int (0 : Int32)), .val (.int (1 : Int32))] [])) t → Steps p.tables e below (s₁.setTop (entryFrame m #[(.int (0 : Int32)), (.int (1 : Int32))] 2)) t := fun t k => castTop (ef_7 m ) k
  obtain ⟨_, _, ⟨T1, L1, k1, n1⟩, -, X1, ⟨Lc1, hQ1, l1, y1, z1⟩, st1⟩ := Jvm.LawKit.callS X0 hx (y := (⟨"jdk/internal/util/Preconditions", "checkIndex", "(IILjava/util/function/BiFunction;)I"⟩ : MethodName)) hown (mvT hZ (hw _ (List.mem_of_getElem? (i := 39) rfl))) (mvT hZ (hw _ (List.mem_of_getElem? (i := 40) rfl))) (mvT hZ (hw _ (List.mem_of_getElem? (i := 41) rfl))) (mvT hZ (hw _ (List.mem_of_getElem? (i := 42) rfl))) (by decide) (backOf (W := 0) (rm8 l Z a0 hw []  h0 n0 (Nat.le_trans Z0 (Keep.refl h0 []).1) ) hZ (hw _ (List.mem_of_getElem? (i := 42) rfl)) (hw _ (List.mem_of_getElem? (i := 41) rfl)) (by decide) (by decide)) (g := (mkF m 3 #[.val (.int (0 : Int32)), .val (.int (1 : Int32))] [.null, (.int (1 : Int32)), (.int (0 : Int32))])) rfl (by rw [hml]; rfl) (argsL := [(.int (0 : Int32)), (.int (1 : Int32)), .null]) (rest := []) (lenOf pd_3 rfl) rfl (by show 2 * 0 + _ ≤ _; exact Nat.le_of_eq rfl) (hb hby d7_3) (fun _ _ => ⟨rfl, e0, (by decide : 0 + 0 ≤ _), (by decide : 0 + 0 ≤ _)⟩)
  dsimp only [Pt.U, Pt.locs, Pt.cells, Pt.slots] at X1 l1 y1 z1 st1 hQ1
  subst l1 y1 z1
  obtain ⟨rfl, Nq1, e1⟩ := hQ1
  have N1 := Fr.app N0 Nq1
  have pre2 : ∀ t, Steps p.tables e below (T1.setTop (mkF m 6 #[.val (.int (0 : Int32)), .val (.int (1 : Int32))] [(.int (0 : Int32))])) t → Steps p.tables e below (s₁.setTop (entryFrame m #[(.int (0 : Int32)), (.int (1 : Int32))] 2)) t := by
    intro t k
    refine pre0 _ ?_
    show Steps p.tables e below (s₁.setTop (mkF m 0 #[.val (.int (0 : Int32)), .val (.int (1 : Int32))] [])) _
    refine XS.iloadN X0.here hx rfl (hb hby d7_0) rfl ?_
    show Steps p.tables e below (s₁.setTop (mkF m 1 #[.val (.int (0 : Int32)), .val (.int (1 : Int32))] [(.int (0 : Int32))])) _
    refine XS.iloadN X0.here hx rfl (hb hby d7_1) rfl ?_
    show Steps p.tables e below (s₁.setTop (mkF m 2 #[.val (.int (0 : Int32)), .val (.int (1 : Int32))] [(.int (1 : Int32)), (.int (0 : Int32))])) _
    refine XS.aconstNull X0.here hx rfl (hb hby d7_2) ?_
    show Steps p.tables e below (s₁.setTop (mkF m 3 #[.val (.int (0 : Int32)), .val (.int (1 : Int32))] [.null, (.int (1 : Int32)), (.int (0 : Int32))])) _
    refine st1 _ ?_
    exact k
  obtain ⟨fs, hr, hrun, hended, hW, hsame⟩ := X1.leave (v := some (.int (0 : Int32))) (fun h => by rw [Bd.returns] at h; cases h)
  refine ⟨_, _, pre2 _ ?_, hrun, hended, _, _, rfl, ?_, ⟨_, rfl⟩, hW, hsame.mono (by decide) (by decide)⟩
  · show Steps p.tables e below (T1.setTop (mkF m 6 #[.val (.int (0 : Int32)), .val (.int (1 : Int32))] [(.int (0 : Int32))])) _
    exact retI X1 hx Bd.returns (hb hby d7_6) hr
  · show Q7 Z  h0 n0 _ T1.heap _
    rw [e1]
    exact ⟨rfl, N1, rfl⟩
def Q6 (Z : State) (r0 : Addr) (w_numbers_r0 : Addr) (e0_w_numbers_r0 : Int32) (k_w_numbers_r0 : ClassId) (h0 : Heap) (n0 : Nat) (v : Option Value) (h : Heap) (L : List Loc) : Prop := v = some (.int e0_w_numbers_r0) ∧ Fr n0 L ∧ h = h0
theorem ef_6 (m : MethodId) (x0 : Addr) : entryFrame m #[(.ref x0), (.int (0 : Int32))] 2 = mkF m 0 #[.val (.ref x0), .val (.int (0 : Int32))] [] := by first | (simp [entryFrame, mkF, argsToLocals, Value.category]; done) | rfl
set_option maxRecDepth 65536 in
set_option maxHeartbeats 40000000 in
theorem rm6 (l : Launch) (Z : State) (a0 : Array Value) (hw : ∀ d ∈ tables_1, d.before a0 Z = true) (ws : List Jvm.Cond) (r0 : Addr) (w_numbers_r0 : Addr) (e0_w_numbers_r0 : Int32) (k_w_numbers_r0 : ClassId) (h0 : Heap) (n0 : Nat) (Z0 : n0 ≤ h0.size) (F_numbers_r0 : Fld Z h0 r0 "com/example/baum/baum/query/NodeList$Builder" "numbers" "[I" (.ref w_numbers_r0)) (F_size_r0 : Fld Z h0 r0 "com/example/baum/baum/query/NodeList$Builder" "size" "I" (.int (1 : Int32))) (V_w_numbers_r0 : Arv Z h0 w_numbers_r0 k_w_numbers_r0 .int (16 : Int32) [(.int e0_w_numbers_r0), (.int (0 : Int32)), (.int (0 : Int32)), (.int (0 : Int32)), (.int (0 : Int32)), (.int (0 : Int32)), (.int (0 : Int32)), (.int (0 : Int32)), (.int (0 : Int32)), (.int (0 : Int32)), (.int (0 : Int32)), (.int (0 : Int32)), (.int (0 : Int32)), (.int (0 : Int32)), (.int (0 : Int32)), (.int (0 : Int32))] (.int (0 : Int32))) :
    MetFree l (⟨"com/example/baum/baum/query/NodeList$Builder", "get", "(I)I"⟩ : MethodName) (head1 (Jvm.Cond.code (⟨"com/example/baum/baum/query/NodeList$Builder", "get", "(I)I"⟩ : MethodName) prog_99_method_6_code 2 (some .int) :: ws) ({ frames := 2, cells := 0, slots := 0, locals := 28 } : Room)) (fun a U => a = #[(.ref r0), (.int (0 : Int32))] ∧ Z.Warmed39 U.vm ∧ U.heap = h0) (fun _ _ _ _ _ => True) (fun _ U o U' => ∃ v L, o = .returned v ∧ Q6 Z r0 w_numbers_r0 e0_w_numbers_r0 k_w_numbers_r0 h0 n0 v U'.heap L ∧ FrameEnd U o U' L ({ frames := 2, cells := 0, slots := 0, locals := 28 } : Room).cells ({ frames := 2, cells := 0, slots := 0, locals := 28 } : Room).slots) := by
  refine MetFree.of_bodySF (plainFor_of_name pn_0) hisR ?_
  intro p e s m args below meth c s₁ Bd hml0 hP hK
  obtain ⟨rfl, hZ, hh⟩ := hP
  have hx := Bd.exec
  have hby := Bd.bytes
  have hml : c.maxLocals = 2 := hml0
  have hown : s.vm.findClass "com/example/baum/baum/query/NodeList$Builder" = some m.cls := findClass_of_methodNamed Bd.named
  have hnm := (name_of_methodNamed Bd.named Bd.method).1
  have X0 : Stand p l e ({ frames := 2, cells := 0, slots := 0, locals := 28 } : Room) s m #[(.ref r0), (.int (0 : Int32))] below meth c s₁ [] 0 0 := Stand.of_body Bd
  have e0 : s₁.heap = h0 := by rw [← hh, Bd.state]; rfl
  have N0 := Fr.nil n0
  have pre0 : ∀ t, Steps p.tables e below (s₁.setTop (mkF m 0 #[.val (.ref r0), .val (.int (0 : Int32))] [])) t → Steps p.tables e below (s₁.setTop (entryFrame m #[(.ref r0), (.int (0 : Int32))] 2)) t := fun t k => castTop (ef_6 m r0) k
  obtain ⟨T1, X1, e1, st1⟩ := getF X0 hx hZ hown (host := "") (Or.inl (hw _ (List.mem_of_getElem? (i := 11) rfl))) Via.refl e0 F_numbers_r0 (g := (mkF m 1 #[.val (.ref r0), .val (.int (0 : Int32))] [(.ref r0)])) rfl rfl (hb hby d6_1)
  obtain ⟨T2, X2, e2, st2⟩ := getF X1 hx hZ hown (host := "") (Or.inl (hw _ (List.mem_of_getElem? (i := 18) rfl))) Via.refl e1 F_size_r0 (g := (mkF m 6 #[.val (.ref r0), .val (.int (0 : Int32))] [(.ref r0), (.int (0 : Int32)), (.ref w_numbers_r0)])) rfl rfl (hb hby d6_6)
  obtain ⟨_, _, ⟨T3, L3, k3, n3⟩, -, X3, ⟨Lc3, hQ3, l3, y3, z3⟩, st3⟩ := Jvm.LawKit.callS X2 hx (y := (⟨"java/util/Objects", "checkIndex", "(II)I"⟩ : MethodName)) hown (mvT hZ (hw _ (List.mem_of_getElem? (i := 35) rfl))) (mvT hZ (hw _ (List.mem_of_getElem? (i := 36) rfl))) (mvT hZ (hw _ (List.mem_of_getElem? (i := 37) rfl))) (mvT hZ (hw _ (List.mem_of_getElem? (i := 38) rfl))) (by decide) (backOf (W := 1) (rm7 l Z a0 hw []  h0 n0 (Nat.le_trans Z0 (Keep.refl h0 []).1) ) hZ (hw _ (List.mem_of_getElem? (i := 38) rfl)) (hw _ (List.mem_of_getElem? (i := 37) rfl)) (by decide) (by decide)) (g := (mkF m 9 #[.val (.ref r0), .val (.int (0 : Int32))] [(.int (1 : Int32)), (.int (0 : Int32)), (.ref w_numbers_r0)])) rfl (by rw [hml]; rfl) (argsL := [(.int (0 : Int32)), (.int (1 : Int32))]) (rest := [(.ref w_numbers_r0)]) (lenOf pd_4 rfl) rfl (by show 2 * 0 + _ ≤ _; exact Nat.le_of_eq rfl) (hb hby d6_9) (fun _ _ => ⟨rfl, e2, (by decide : 0 + 0 ≤ _), (by decide : 0 + 0 ≤ _)⟩)
  dsimp only [Pt.U, Pt.locs, Pt.cells, Pt.slots] at X3 l3 y3 z3 st3 hQ3
  subst l3 y3 z3
  obtain ⟨rfl, Nq3, e3⟩ := hQ3
  have N3 := Fr.app N0 Nq3
  obtain ⟨cl4, Ar4, Cq4, Sz4, Nn4, Hh4, Gg4⟩ := id V_w_numbers_r0
  have hin4 : ¬ ((0 : Int32) < 0 ∨ cl4.slots.size ≤ ((0 : Int32)).toNatClampNeg) := inb_of Sz4 ⟨by decide, by decide⟩
  have hat4 : cl4.slots[((0 : Int32)).toNatClampNeg]? = some (.int e0_w_numbers_r0) := Hh4.at hin4 rfl
  have pre5 : ∀ t, Steps p.tables e below (T3.setTop (mkF m 13 #[.val (.ref r0), .val (.int (0 : Int32))] [(.int e0_w_numbers_r0)])) t → Steps p.tables e below (s₁.setTop (entryFrame m #[(.ref r0), (.int (0 : Int32))] 2)) t := by
    intro t k
    refine pre0 _ ?_
    show Steps p.tables e below (s₁.setTop (mkF m 0 #[.val (.ref r0), .val (.int (0 : Int32))] [])) _
    refine XS.aloadN X0.here hx rfl (hb hby d6_0) rfl rfl ?_
    show Steps p.tables e below (s₁.setTop (mkF m 1 #[.val (.ref r0), .val (.int (0 : Int32))] [(.ref r0)])) _
    refine st1 _ ?_
    show Steps p.tables e below (T1.setTop (mkF m 4 #[.val (.ref r0), .val (.int (0 : Int32))] [(.ref w_numbers_r0)])) _
    refine XS.iloadN X1.here hx rfl (hb hby d6_4) rfl ?_
    show Steps p.tables e below (T1.setTop (mkF m 5 #[.val (.ref r0), .val (.int (0 : Int32))] [(.int (0 : Int32)), (.ref w_numbers_r0)])) _
    refine XS.aloadN X1.here hx rfl (hb hby d6_5) rfl rfl ?_
    show Steps p.tables e below (T1.setTop (mkF m 6 #[.val (.ref r0), .val (.int (0 : Int32))] [(.ref r0), (.int (0 : Int32)), (.ref w_numbers_r0)])) _
    refine st2 _ ?_
    show Steps p.tables e below (T2.setTop (mkF m 9 #[.val (.ref r0), .val (.int (0 : Int32))] [(.int (1 : Int32)), (.int (0 : Int32)), (.ref w_numbers_r0)])) _
    refine st3 _ ?_
    show Steps p.tables e below (T3.setTop (mkF m 12 #[.val (.ref r0), .val (.int (0 : Int32))] [(.int (0 : Int32)), (.ref w_numbers_r0)])) _
    refine X3.iaload hx (j := (0 : Int32)) (v := (.int e0_w_numbers_r0)) (by rw [e3]; exact Ar4.1) (State.isArrayOf_alike hZ.alike Ar4.2.1) Ar4.2.2 hin4 hat4 (g := (mkF m 12 #[.val (.ref r0), .val (.int (0 : Int32))] [(.int (0 : Int32)), (.ref w_numbers_r0)])) rfl rfl (hb hby d6_12) _ ?_
    exact k
  obtain ⟨fs, hr, hrun, hended, hW, hsame⟩ := X3.leave (v := some (.int e0_w_numbers_r0)) (fun h => by rw [Bd.returns] at h; cases h)
  refine ⟨_, _, pre5 _ ?_, hrun, hended, _, _, rfl, ?_, ⟨_, rfl⟩, hW, hsame.mono (by decide) (by decide)⟩
  · show Steps p.tables e below (T3.setTop (mkF m 13 #[.val (.ref r0), .val (.int (0 : Int32))] [(.int e0_w_numbers_r0)])) _
    exact retI X3 hx Bd.returns (hb hby d6_13) hr
  · show Q6 Z r0 w_numbers_r0 e0_w_numbers_r0 k_w_numbers_r0 h0 n0 _ T3.heap _
    rw [e3]
    exact ⟨rfl, N3, rfl⟩
def own_r10 (i1 : Int32) (i2 : Int32) (i3 : Int32) (i4 : Int32) (i5 : Int32) : Int32 := (if i1 = (0 : Int32) then i2 else (if i1 = (1 : Int32) then i3 else (if i1 = (2 : Int32) then i4 else i5)))
def Q10 (Z : State) (i1 : Int32) (i2 : Int32) (i3 : Int32) (i4 : Int32) (i5 : Int32) (h0 : Heap) (n0 : Nat) (v : Option Value) (h : Heap) (L : List Loc) : Prop := v = some (.int (own_r10 i1 i2 i3 i4 i5)) ∧ Fr n0 L ∧ h = h0
theorem ef_10 (m : MethodId) (x0 : Int32) (x1 : Int32) (x2 : Int32) (x3 : Int32) (x4 : Int32) : entryFrame m #[(.int x0), (.int x1), (.int x2), (.int x3), (.int x4)] 5 = mkF m 0 #[.val (.int x0), .val (.int x1), .val (.int x2), .val (.int x3), .val (.int x4)] [] := by first | (simp [entryFrame, mkF, argsToLocals, Value.category]; done) | rfl
set_option maxRecDepth 65536 in
set_option maxHeartbeats 40000000 in
theorem rm10 (l : Launch) (Z : State) (a0 : Array Value) (hw : ∀ d ∈ tables_1, d.before a0 Z = true) (ws : List Jvm.Cond) (i1 : Int32) (i2 : Int32) (i3 : Int32) (i4 : Int32) (i5 : Int32) (h0 : Heap) (n0 : Nat) (Z0 : n0 ≤ h0.size) :
    MetFree l (⟨"com/example/baum/baum/query/BuilderReverseFromPinLaw", "pick", "(IIIII)I"⟩ : MethodName) (head1 (Jvm.Cond.code (⟨"com/example/baum/baum/query/BuilderReverseFromPinLaw", "pick", "(IIIII)I"⟩ : MethodName) method_2_code 5 (some .int) :: ws) ({ frames := 0, cells := 0, slots := 0, locals := 0 } : Room)) (fun a U => a = #[(.int i1), (.int i2), (.int i3), (.int i4), (.int i5)] ∧ Z.Warmed39 U.vm ∧ U.heap = h0) (fun _ _ _ _ _ => True) (fun _ U o U' => ∃ v L, o = .returned v ∧ Q10 Z i1 i2 i3 i4 i5 h0 n0 v U'.heap L ∧ FrameEnd U o U' L ({ frames := 0, cells := 0, slots := 0, locals := 0 } : Room).cells ({ frames := 0, cells := 0, slots := 0, locals := 0 } : Room).slots) := by
  refine MetFree.of_bodySF (plainFor_of_name pn_3) hisR ?_
  intro p e s m args below meth c s₁ Bd hml0 hP hK
  obtain ⟨rfl, hZ, hh⟩ := hP
  have hx := Bd.exec
  have hby := Bd.bytes
  have hml : c.maxLocals = 5 := hml0
  have hown : s.vm.findClass "com/example/baum/baum/query/BuilderReverseFromPinLaw" = some m.cls := findClass_of_methodNamed Bd.named
  have hnm := (name_of_methodNamed Bd.named Bd.method).1
  have X0 : Stand p l e ({ frames := 0, cells := 0, slots := 0, locals := 0 } : Room) s m #[(.int i1), (.int i2), (.int i3), (.int i4), (.int i5)] below meth c s₁ [] 0 0 := Stand.of_body Bd
  have e0 : s₁.heap = h0 := by rw [← hh, Bd.state]; rfl
  have N0 := Fr.nil n0
  have pre0 : ∀ t, Steps p.tables e below (s₁.setTop (mkF m 0 #[.val (.int i1), .val (.int i2), .val (.int i3), .val (.int i4), .val (.int i5)] [])) t → Steps p.tables e below (s₁.setTop (entryFrame m #[(.int i1), (.int i2), (.int i3), (.int i4), (.int i5)] 5)) t := fun t k => castTop (ef_10 m i1 i2 i3 i4 i5) k
  have pre1 : ∀ t, Steps p.tables e below (s₁.setTop (mkF m 1 #[.val (.int i1), .val (.int i2), .val (.int i3), .val (.int i4), .val (.int i5)] [(.int i1)])) t → Steps p.tables e below (s₁.setTop (entryFrame m #[(.int i1), (.int i2), (.int i3), (.int i4), (.int i5)] 5)) t := by
    intro t k
    refine pre0 _ ?_
    show Steps p.tables e below (s₁.setTop (mkF m 0 #[.val (.int i1), .val (.int i2), .val (.int i3), .val (.int i4), .val (.int i5)] [])) _
    refine XS.iloadN X0.here hx rfl (hb hby d10_0) rfl ?_
    exact k
  by_cases hc1_2 : i1 = (0 : Int32)
  · have pre3 : ∀ t, Steps p.tables e below (s₁.setTop (mkF m 5 #[.val (.int i1), .val (.int i2), .val (.int i3), .val (.int i4), .val (.int i5)] [(.int i2)])) t → Steps p.tables e below (s₁.setTop (entryFrame m #[(.int i1), (.int i2), (.int i3), (.int i4), (.int i5)] 5)) t := by
      intro t k
      refine pre1 _ ?_
      show Steps p.tables e below (s₁.setTop (mkF m 1 #[.val (.int i1), .val (.int i2), .val (.int i3), .val (.int i4), .val (.int i5)] [(.int i1)])) _
      refine XS.ifNo X0.here hx rfl (hb hby d10_1) rfl ((if0 _ _).trans (teq hc1_2).2) ?_
      show Steps p.tables e below (s₁.setTop (mkF m 4 #[.val (.int i1), .val (.int i2), .val (.int i3), .val (.int i4), .val (.int i5)] [])) _
      refine XS.iloadN X0.here hx rfl (hb hby d10_4) rfl ?_
      exact k
    obtain ⟨fs, hr, hrun, hended, hW, hsame⟩ := X0.leave (v := some (.int i2)) (fun h => by rw [Bd.returns] at h; cases h)
    refine ⟨_, _, pre3 _ ?_, hrun, hended, _, _, rfl, ?_, ⟨_, rfl⟩, hW, hsame.mono (by decide) (by decide)⟩
    · show Steps p.tables e below (s₁.setTop (mkF m 5 #[.val (.int i1), .val (.int i2), .val (.int i3), .val (.int i4), .val (.int i5)] [(.int i2)])) _
      exact retI X0 hx Bd.returns (hb hby d10_5) hr
    · show Q10 Z i1 i2 i3 i4 i5 h0 n0 _ s₁.heap _
      rw [e0]
      exact ⟨congrArg (fun z => some (Value.int z)) (show (own_r10 i1 i2 i3 i4 i5) = i2 from (if_pos hc1_2)).symm, N0, rfl⟩
  · have pre4 : ∀ t, Steps p.tables e below (s₁.setTop (mkF m 8 #[.val (.int i1), .val (.int i2), .val (.int i3), .val (.int i4), .val (.int i5)] [(.int (1 : Int32)), (.int i1)])) t → Steps p.tables e below (s₁.setTop (entryFrame m #[(.int i1), (.int i2), (.int i3), (.int i4), (.int i5)] 5)) t := by
      intro t k
      refine pre1 _ ?_
      show Steps p.tables e below (s₁.setTop (mkF m 1 #[.val (.int i1), .val (.int i2), .val (.int i3), .val (.int i4), .val (.int i5)] [(.int i1)])) _
      refine XS.ifYes X0.here hx rfl (pc0 := 1) (pc' := 6) rfl (hb hby d10_1) rfl ((if0 _ _).trans (feq hc1_2).2) (by decide) (by decide) ?_
      show Steps p.tables e below (s₁.setTop (mkF m 6 #[.val (.int i1), .val (.int i2), .val (.int i3), .val (.int i4), .val (.int i5)] [])) _
      refine XS.iloadN X0.here hx rfl (hb hby d10_6) rfl ?_
      show Steps p.tables e below (s₁.setTop (mkF m 7 #[.val (.int i1), .val (.int i2), .val (.int i3), .val (.int i4), .val (.int i5)] [(.int i1)])) _
      refine XS.iconst X0.here hx rfl (hb hby d10_7) ?_
      exact k
    by_cases hc8_5 : i1 = (1 : Int32)
    · have pre6 : ∀ t, Steps p.tables e below (s₁.setTop (mkF m 12 #[.val (.int i1), .val (.int i2), .val (.int i3), .val (.int i4), .val (.int i5)] [(.int i3)])) t → Steps p.tables e below (s₁.setTop (entryFrame m #[(.int i1), (.int i2), (.int i3), (.int i4), (.int i5)] 5)) t := by
        intro t k
        refine pre4 _ ?_
        show Steps p.tables e below (s₁.setTop (mkF m 8 #[.val (.int i1), .val (.int i2), .val (.int i3), .val (.int i4), .val (.int i5)] [(.int (1 : Int32)), (.int i1)])) _
        refine XS.icmpNo X0.here hx rfl (hb hby d10_8) rfl (teq hc8_5).2 ?_
        show Steps p.tables e below (s₁.setTop (mkF m 11 #[.val (.int i1), .val (.int i2), .val (.int i3), .val (.int i4), .val (.int i5)] [])) _
        refine XS.iloadN X0.here hx rfl (hb hby d10_11) rfl ?_
        exact k
      obtain ⟨fs, hr, hrun, hended, hW, hsame⟩ := X0.leave (v := some (.int i3)) (fun h => by rw [Bd.returns] at h; cases h)
      refine ⟨_, _, pre6 _ ?_, hrun, hended, _, _, rfl, ?_, ⟨_, rfl⟩, hW, hsame.mono (by decide) (by decide)⟩
      · show Steps p.tables e below (s₁.setTop (mkF m 12 #[.val (.int i1), .val (.int i2), .val (.int i3), .val (.int i4), .val (.int i5)] [(.int i3)])) _
        exact retI X0 hx Bd.returns (hb hby d10_12) hr
      · show Q10 Z i1 i2 i3 i4 i5 h0 n0 _ s₁.heap _
        rw [e0]
        exact ⟨congrArg (fun z => some (Value.int z)) (show (own_r10 i1 i2 i3 i4 i5) = i3 from ((if_neg hc1_2).trans (if_pos hc8_5))).symm, N0, rfl⟩
    · have pre7 : ∀ t, Steps p.tables e below (s₁.setTop (mkF m 15 #[.val (.int i1), .val (.int i2), .val (.int i3), .val (.int i4), .val (.int i5)] [(.int (2 : Int32)), (.int i1)])) t → Steps p.tables e below (s₁.setTop (entryFrame m #[(.int i1), (.int i2), (.int i3), (.int i4), (.int i5)] 5)) t := by
        intro t k
        refine pre4 _ ?_
        show Steps p.tables e below (s₁.setTop (mkF m 8 #[.val (.int i1), .val (.int i2), .val (.int i3), .val (.int i4), .val (.int i5)] [(.int (1 : Int32)), (.int i1)])) _
        refine XS.icmpYes X0.here hx rfl (pc0 := 8) (pc' := 13) rfl (hb hby d10_8) rfl (feq hc8_5).2 (by decide) (by decide) ?_
        show Steps p.tables e below (s₁.setTop (mkF m 13 #[.val (.int i1), .val (.int i2), .val (.int i3), .val (.int i4), .val (.int i5)] [])) _
        refine XS.iloadN X0.here hx rfl (hb hby d10_13) rfl ?_
        show Steps p.tables e below (s₁.setTop (mkF m 14 #[.val (.int i1), .val (.int i2), .val (.int i3), .val (.int i4), .val (.int i5)] [(.int i1)])) _
        refine XS.iconst X0.here hx rfl (hb hby d10_14) ?_
        exact k
      by_cases hc15_8 : i1 = (2 : Int32)
      · have pre9 : ∀ t, Steps p.tables e below (s₁.setTop (mkF m 19 #[.val (.int i1), .val (.int i2), .val (.int i3), .val (.int i4), .val (.int i5)] [(.int i4)])) t → Steps p.tables e below (s₁.setTop (entryFrame m #[(.int i1), (.int i2), (.int i3), (.int i4), (.int i5)] 5)) t := by
          intro t k
          refine pre7 _ ?_
          show Steps p.tables e below (s₁.setTop (mkF m 15 #[.val (.int i1), .val (.int i2), .val (.int i3), .val (.int i4), .val (.int i5)] [(.int (2 : Int32)), (.int i1)])) _
          refine XS.icmpNo X0.here hx rfl (hb hby d10_15) rfl (teq hc15_8).2 ?_
          show Steps p.tables e below (s₁.setTop (mkF m 18 #[.val (.int i1), .val (.int i2), .val (.int i3), .val (.int i4), .val (.int i5)] [])) _
          refine XS.iloadN X0.here hx rfl (hb hby d10_18) rfl ?_
          exact k
        obtain ⟨fs, hr, hrun, hended, hW, hsame⟩ := X0.leave (v := some (.int i4)) (fun h => by rw [Bd.returns] at h; cases h)
        refine ⟨_, _, pre9 _ ?_, hrun, hended, _, _, rfl, ?_, ⟨_, rfl⟩, hW, hsame.mono (by decide) (by decide)⟩
        · show Steps p.tables e below (s₁.setTop (mkF m 19 #[.val (.int i1), .val (.int i2), .val (.int i3), .val (.int i4), .val (.int i5)] [(.int i4)])) _
          exact retI X0 hx Bd.returns (hb hby d10_19) hr
        · show Q10 Z i1 i2 i3 i4 i5 h0 n0 _ s₁.heap _
          rw [e0]
          exact ⟨congrArg (fun z => some (Value.int z)) (show (own_r10 i1 i2 i3 i4 i5) = i4 from ((if_neg hc1_2).trans ((if_neg hc8_5).trans (if_pos hc15_8)))).symm, N0, rfl⟩
      · have pre10 : ∀ t, Steps p.tables e below (s₁.setTop (mkF m 22 #[.val (.int i1), .val (.int i2), .val (.int i3), .val (.int i4), .val (.int i5)] [(.int i5)])) t → Steps p.tables e below (s₁.setTop (entryFrame m #[(.int i1), (.int i2), (.int i3), (.int i4), (.int i5)] 5)) t := by
          intro t k
          refine pre7 _ ?_
          show Steps p.tables e below (s₁.setTop (mkF m 15 #[.val (.int i1), .val (.int i2), .val (.int i3), .val (.int i4), .val (.int i5)] [(.int (2 : Int32)), (.int i1)])) _
          refine XS.icmpYes X0.here hx rfl (pc0 := 15) (pc' := 20) rfl (hb hby d10_15) rfl (feq hc15_8).2 (by decide) (by decide) ?_
          show Steps p.tables e below (s₁.setTop (mkF m 20 #[.val (.int i1), .val (.int i2), .val (.int i3), .val (.int i4), .val (.int i5)] [])) _
          refine XS.iload X0.here hx rfl (hb hby d10_20) rfl ?_
          exact k
        obtain ⟨fs, hr, hrun, hended, hW, hsame⟩ := X0.leave (v := some (.int i5)) (fun h => by rw [Bd.returns] at h; cases h)
        refine ⟨_, _, pre10 _ ?_, hrun, hended, _, _, rfl, ?_, ⟨_, rfl⟩, hW, hsame.mono (by decide) (by decide)⟩
        · show Steps p.tables e below (s₁.setTop (mkF m 22 #[.val (.int i1), .val (.int i2), .val (.int i3), .val (.int i4), .val (.int i5)] [(.int i5)])) _
          exact retI X0 hx Bd.returns (hb hby d10_22) hr
        · show Q10 Z i1 i2 i3 i4 i5 h0 n0 _ s₁.heap _
          rw [e0]
          exact ⟨congrArg (fun z => some (Value.int z)) (show (own_r10 i1 i2 i3 i4 i5) = i5 from ((if_neg hc1_2).trans ((if_neg hc8_5).trans (if_neg hc15_8)))).symm, N0, rfl⟩
def own_j9_2_0 (i1 : Int32) (i2 : Int32) (i3 : Int32) : Int32 := (if i1 < i2 then i1 else (((i2 + i3) - (1 : Int32)) - i1))
def Q9 (Z : State) (i1 : Int32) (i2 : Int32) (i3 : Int32) (i4 : Int32) (i5 : Int32) (i6 : Int32) (i7 : Int32) (h0 : Heap) (n0 : Nat) (v : Option Value) (h : Heap) (L : List Loc) : Prop := v = some (.int (own_r10 (own_j9_2_0 i1 i2 i3) i4 i5 i6 i7)) ∧ Fr n0 L ∧ h = h0
theorem ef_9 (m : MethodId) (x0 : Int32) (x1 : Int32) (x2 : Int32) (x3 : Int32) (x4 : Int32) (x5 : Int32) (x6 : Int32) : entryFrame m #[(.int x0), (.int x1), (.int x2), (.int x3), (.int x4), (.int x5), (.int x6)] 8 = mkF m 0 #[.val (.int x0), .val (.int x1), .val (.int x2), .val (.int x3), .val (.int x4), .val (.int x5), .val (.int x6), .unset] [] := by first | (simp [entryFrame, mkF, argsToLocals, Value.category]; done) | rfl
set_option maxRecDepth 65536 in
set_option maxHeartbeats 40000000 in
theorem rm9 (l : Launch) (Z : State) (a0 : Array Value) (hw : ∀ d ∈ tables_1, d.before a0 Z = true) (ws : List Jvm.Cond) (i1 : Int32) (i2 : Int32) (i3 : Int32) (i4 : Int32) (i5 : Int32) (i6 : Int32) (i7 : Int32) (h0 : Heap) (n0 : Nat) (Z0 : n0 ≤ h0.size) :
    MetFree l (⟨"com/example/baum/baum/query/BuilderReverseFromPinLaw", "expect", "(IIIIIII)I"⟩ : MethodName) (head1 (Jvm.Cond.code (⟨"com/example/baum/baum/query/BuilderReverseFromPinLaw", "expect", "(IIIIIII)I"⟩ : MethodName) method_3_code 8 (some .int) :: ws) ({ frames := 1, cells := 0, slots := 0, locals := 16 } : Room)) (fun a U => a = #[(.int i1), (.int i2), (.int i3), (.int i4), (.int i5), (.int i6), (.int i7)] ∧ Z.Warmed39 U.vm ∧ U.heap = h0) (fun _ _ _ _ _ => True) (fun _ U o U' => ∃ v L, o = .returned v ∧ Q9 Z i1 i2 i3 i4 i5 i6 i7 h0 n0 v U'.heap L ∧ FrameEnd U o U' L ({ frames := 1, cells := 0, slots := 0, locals := 16 } : Room).cells ({ frames := 1, cells := 0, slots := 0, locals := 16 } : Room).slots) := by
  refine MetFree.of_bodySF (plainFor_of_name pn_3) hisR ?_
  intro p e s m args below meth c s₁ Bd hml0 hP hK
  obtain ⟨rfl, hZ, hh⟩ := hP
  have hx := Bd.exec
  have hby := Bd.bytes
  have hml : c.maxLocals = 8 := hml0
  have hown : s.vm.findClass "com/example/baum/baum/query/BuilderReverseFromPinLaw" = some m.cls := findClass_of_methodNamed Bd.named
  have hnm := (name_of_methodNamed Bd.named Bd.method).1
  have X0 : Stand p l e ({ frames := 1, cells := 0, slots := 0, locals := 16 } : Room) s m #[(.int i1), (.int i2), (.int i3), (.int i4), (.int i5), (.int i6), (.int i7)] below meth c s₁ [] 0 0 := Stand.of_body Bd
  have e0 : s₁.heap = h0 := by rw [← hh, Bd.state]; rfl
  have N0 := Fr.nil n0
  have pre0 : ∀ t, Steps p.tables e below (s₁.setTop (mkF m 0 #[.val (.int i1), .val (.int i2), .val (.int i3), .val (.int i4), .val (.int i5), .val (.int i6), .val (.int i7), .unset] [])) t → Steps p.tables e below (s₁.setTop (entryFrame m #[(.int i1), (.int i2), (.int i3), (.int i4), (.int i5), (.int i6), (.int i7)] 8)) t := fun t k => castTop (ef_9 m i1 i2 i3 i4 i5 i6 i7) k
  have pre1 : ∀ t, Steps p.tables e below (s₁.setTop (mkF m 2 #[.val (.int i1), .val (.int i2), .val (.int i3), .val (.int i4), .val (.int i5), .val (.int i6), .val (.int i7), .unset] [(.int i2), (.int i1)])) t → Steps p.tables e below (s₁.setTop (entryFrame m #[(.int i1), (.int i2), (.int i3), (.int i4), (.int i5), (.int i6), (.int i7)] 8)) t := by
    intro t k
    refine pre0 _ ?_
    show Steps p.tables e below (s₁.setTop (mkF m 0 #[.val (.int i1), .val (.int i2), .val (.int i3), .val (.int i4), .val (.int i5), .val (.int i6), .val (.int i7), .unset] [])) _
    refine XS.iloadN X0.here hx rfl (hb hby d9_0) rfl ?_
    show Steps p.tables e below (s₁.setTop (mkF m 1 #[.val (.int i1), .val (.int i2), .val (.int i3), .val (.int i4), .val (.int i5), .val (.int i6), .val (.int i7), .unset] [(.int i1)])) _
    refine XS.iloadN X0.here hx rfl (hb hby d9_1) rfl ?_
    exact k
  have pre5 : ∀ t, Steps p.tables e below (s₁.setTop (mkF m 16 #[.val (.int i1), .val (.int i2), .val (.int i3), .val (.int i4), .val (.int i5), .val (.int i6), .val (.int i7), .unset] [(.int (own_j9_2_0 i1 i2 i3))])) t → Steps p.tables e below (s₁.setTop (entryFrame m #[(.int i1), (.int i2), (.int i3), (.int i4), (.int i5), (.int i6), (.int i7)] 8)) t := by
    by_cases hc2_2 : i1 < i2
    · have pre3 : ∀ t, Steps p.tables e below (s₁.setTop (mkF m 16 #[.val (.int i1), .val (.int i2), .val (.int i3), .val (.int i4), .val (.int i5), .val (.int i6), .val (.int i7), .unset] [(.int i1)])) t → Steps p.tables e below (s₁.setTop (entryFrame m #[(.int i1), (.int i2), (.int i3), (.int i4), (.int i5), (.int i6), (.int i7)] 8)) t := by
        intro t k
        refine pre1 _ ?_
        show Steps p.tables e below (s₁.setTop (mkF m 2 #[.val (.int i1), .val (.int i2), .val (.int i3), .val (.int i4), .val (.int i5), .val (.int i6), .val (.int i7), .unset] [(.int i2), (.int i1)])) _
        refine XS.icmpNo X0.here hx rfl (hb hby d9_2) rfl (tlt hc2_2).2.1 ?_
        show Steps p.tables e below (s₁.setTop (mkF m 5 #[.val (.int i1), .val (.int i2), .val (.int i3), .val (.int i4), .val (.int i5), .val (.int i6), .val (.int i7), .unset] [])) _
        refine XS.iloadN X0.here hx rfl (hb hby d9_5) rfl ?_
        show Steps p.tables e below (s₁.setTop (mkF m 6 #[.val (.int i1), .val (.int i2), .val (.int i3), .val (.int i4), .val (.int i5), .val (.int i6), .val (.int i7), .unset] [(.int i1)])) _
        refine XS.goto X0.here hx rfl (pc0 := 6) (pc' := 16) rfl (hb hby d9_6) (by decide) (by decide) ?_
        exact k
      exact fun t k => pre3 t (by rw [show (own_j9_2_0 i1 i2 i3) = i1 from (if_pos hc2_2)] at k; exact k)
    · have pre4 : ∀ t, Steps p.tables e below (s₁.setTop (mkF m 16 #[.val (.int i1), .val (.int i2), .val (.int i3), .val (.int i4), .val (.int i5), .val (.int i6), .val (.int i7), .unset] [(.int (((i2 + i3) - (1 : Int32)) - i1))])) t → Steps p.tables e below (s₁.setTop (entryFrame m #[(.int i1), (.int i2), (.int i3), (.int i4), (.int i5), (.int i6), (.int i7)] 8)) t := by
        intro t k
        refine pre1 _ ?_
        show Steps p.tables e below (s₁.setTop (mkF m 2 #[.val (.int i1), .val (.int i2), .val (.int i3), .val (.int i4), .val (.int i5), .val (.int i6), .val (.int i7), .unset] [(.int i2), (.int i1)])) _
        refine XS.icmpYes X0.here hx rfl (pc0 := 2) (pc' := 9) rfl (hb hby d9_2) rfl (flt hc2_2).2.1 (by decide) (by decide) ?_
        show Steps p.tables e below (s₁.setTop (mkF m 9 #[.val (.int i1), .val (.int i2), .val (.int i3), .val (.int i4), .val (.int i5), .val (.int i6), .val (.int i7), .unset] [])) _
        refine XS.iloadN X0.here hx rfl (hb hby d9_9) rfl ?_
        show Steps p.tables e below (s₁.setTop (mkF m 10 #[.val (.int i1), .val (.int i2), .val (.int i3), .val (.int i4), .val (.int i5), .val (.int i6), .val (.int i7), .unset] [(.int i2)])) _
        refine XS.iloadN X0.here hx rfl (hb hby d9_10) rfl ?_
        show Steps p.tables e below (s₁.setTop (mkF m 11 #[.val (.int i1), .val (.int i2), .val (.int i3), .val (.int i4), .val (.int i5), .val (.int i6), .val (.int i7), .unset] [(.int i3), (.int i2)])) _
        refine XS.iadd X0.here hx rfl (hb hby d9_11) rfl ?_
        show Steps p.tables e below (s₁.setTop (mkF m 12 #[.val (.int i1), .val (.int i2), .val (.int i3), .val (.int i4), .val (.int i5), .val (.int i6), .val (.int i7), .unset] [(.int (i2 + i3))])) _
        refine XS.iconst X0.here hx rfl (hb hby d9_12) ?_
        show Steps p.tables e below (s₁.setTop (mkF m 13 #[.val (.int i1), .val (.int i2), .val (.int i3), .val (.int i4), .val (.int i5), .val (.int i6), .val (.int i7), .unset] [(.int (1 : Int32)), (.int (i2 + i3))])) _
        refine XS.isub X0.here hx rfl (hb hby d9_13) rfl ?_
        show Steps p.tables e below (s₁.setTop (mkF m 14 #[.val (.int i1), .val (.int i2), .val (.int i3), .val (.int i4), .val (.int i5), .val (.int i6), .val (.int i7), .unset] [(.int ((i2 + i3) - (1 : Int32)))])) _
        refine XS.iloadN X0.here hx rfl (hb hby d9_14) rfl ?_
        show Steps p.tables e below (s₁.setTop (mkF m 15 #[.val (.int i1), .val (.int i2), .val (.int i3), .val (.int i4), .val (.int i5), .val (.int i6), .val (.int i7), .unset] [(.int i1), (.int ((i2 + i3) - (1 : Int32)))])) _
        refine XS.isub X0.here hx rfl (hb hby d9_15) rfl ?_
        exact k
      exact fun t k => pre4 t (by rw [show (own_j9_2_0 i1 i2 i3) = (((i2 + i3) - (1 : Int32)) - i1) from (if_neg hc2_2)] at k; exact k)
  obtain ⟨_, _, ⟨T6, L6, k6, n6⟩, -, X6, ⟨Lc6, hQ6, l6, y6, z6⟩, st6⟩ := Jvm.LawKit.callS X0 hx (y := (⟨"com/example/baum/baum/query/BuilderReverseFromPinLaw", "pick", "(IIIII)I"⟩ : MethodName)) hown (mvT hZ (hw _ (List.mem_of_getElem? (i := 47) rfl))) (mvT hZ (hw _ (List.mem_of_getElem? (i := 48) rfl))) (mvT hZ (hw _ (List.mem_of_getElem? (i := 45) rfl))) (mvT hZ (hw _ (List.mem_of_getElem? (i := 49) rfl))) (by decide) (backOf (W := 0) (rm10 l Z a0 hw [] (own_j9_2_0 i1 i2 i3) i4 i5 i6 i7 h0 n0 (Nat.le_trans Z0 (Keep.refl h0 []).1) ) hZ (hw _ (List.mem_of_getElem? (i := 49) rfl)) (hw _ (List.mem_of_getElem? (i := 45) rfl)) (by decide) (by decide)) (g := (mkF m 27 #[.val (.int i1), .val (.int i2), .val (.int i3), .val (.int i4), .val (.int i5), .val (.int i6), .val (.int i7), .val (.int (own_j9_2_0 i1 i2 i3))] [(.int i7), (.int i6), (.int i5), (.int i4), (.int (own_j9_2_0 i1 i2 i3))])) rfl (by rw [hml]; rfl) (argsL := [(.int (own_j9_2_0 i1 i2 i3)), (.int i4), (.int i5), (.int i6), (.int i7)]) (rest := []) (lenOf pd_6 rfl) rfl (by show 2 * 0 + _ ≤ _; exact Nat.le_of_eq rfl) (hb hby d9_27) (fun _ _ => ⟨rfl, e0, (by decide : 0 + 0 ≤ _), (by decide : 0 + 0 ≤ _)⟩)
  dsimp only [Pt.U, Pt.locs, Pt.cells, Pt.slots] at X6 l6 y6 z6 st6 hQ6
  subst l6 y6 z6
  obtain ⟨rfl, Nq6, e6⟩ := hQ6
  have N6 := Fr.app N0 Nq6
  have pre7 : ∀ t, Steps p.tables e below (T6.setTop (mkF m 30 #[.val (.int i1), .val (.int i2), .val (.int i3), .val (.int i4), .val (.int i5), .val (.int i6), .val (.int i7), .val (.int (own_j9_2_0 i1 i2 i3))] [(.int (own_r10 (own_j9_2_0 i1 i2 i3) i4 i5 i6 i7))])) t → Steps p.tables e below (s₁.setTop (entryFrame m #[(.int i1), (.int i2), (.int i3), (.int i4), (.int i5), (.int i6), (.int i7)] 8)) t := by
    intro t k
    refine pre5 _ ?_
    show Steps p.tables e below (s₁.setTop (mkF m 16 #[.val (.int i1), .val (.int i2), .val (.int i3), .val (.int i4), .val (.int i5), .val (.int i6), .val (.int i7), .unset] [(.int (own_j9_2_0 i1 i2 i3))])) _
    refine XS.istore X0.here hx rfl (hb hby d9_16) rfl (l' := #[.val (.int i1), .val (.int i2), .val (.int i3), .val (.int i4), .val (.int i5), .val (.int i6), .val (.int i7), .val (.int (own_j9_2_0 i1 i2 i3))]) rfl ?_
    show Steps p.tables e below (s₁.setTop (mkF m 18 #[.val (.int i1), .val (.int i2), .val (.int i3), .val (.int i4), .val (.int i5), .val (.int i6), .val (.int i7), .val (.int (own_j9_2_0 i1 i2 i3))] [])) _
    refine XS.iload X0.here hx rfl (hb hby d9_18) rfl ?_
    show Steps p.tables e below (s₁.setTop (mkF m 20 #[.val (.int i1), .val (.int i2), .val (.int i3), .val (.int i4), .val (.int i5), .val (.int i6), .val (.int i7), .val (.int (own_j9_2_0 i1 i2 i3))] [(.int (own_j9_2_0 i1 i2 i3))])) _
    refine XS.iloadN X0.here hx rfl (hb hby d9_20) rfl ?_
    show Steps p.tables e below (s₁.setTop (mkF m 21 #[.val (.int i1), .val (.int i2), .val (.int i3), .val (.int i4), .val (.int i5), .val (.int i6), .val (.int i7), .val (.int (own_j9_2_0 i1 i2 i3))] [(.int i4), (.int (own_j9_2_0 i1 i2 i3))])) _
    refine XS.iload X0.here hx rfl (hb hby d9_21) rfl ?_
    show Steps p.tables e below (s₁.setTop (mkF m 23 #[.val (.int i1), .val (.int i2), .val (.int i3), .val (.int i4), .val (.int i5), .val (.int i6), .val (.int i7), .val (.int (own_j9_2_0 i1 i2 i3))] [(.int i5), (.int i4), (.int (own_j9_2_0 i1 i2 i3))])) _
    refine XS.iload X0.here hx rfl (hb hby d9_23) rfl ?_
    show Steps p.tables e below (s₁.setTop (mkF m 25 #[.val (.int i1), .val (.int i2), .val (.int i3), .val (.int i4), .val (.int i5), .val (.int i6), .val (.int i7), .val (.int (own_j9_2_0 i1 i2 i3))] [(.int i6), (.int i5), (.int i4), (.int (own_j9_2_0 i1 i2 i3))])) _
    refine XS.iload X0.here hx rfl (hb hby d9_25) rfl ?_
    show Steps p.tables e below (s₁.setTop (mkF m 27 #[.val (.int i1), .val (.int i2), .val (.int i3), .val (.int i4), .val (.int i5), .val (.int i6), .val (.int i7), .val (.int (own_j9_2_0 i1 i2 i3))] [(.int i7), (.int i6), (.int i5), (.int i4), (.int (own_j9_2_0 i1 i2 i3))])) _
    refine st6 _ ?_
    exact k
  obtain ⟨fs, hr, hrun, hended, hW, hsame⟩ := X6.leave (v := some (.int (own_r10 (own_j9_2_0 i1 i2 i3) i4 i5 i6 i7))) (fun h => by rw [Bd.returns] at h; cases h)
  refine ⟨_, _, pre7 _ ?_, hrun, hended, _, _, rfl, ?_, ⟨_, rfl⟩, hW, hsame.mono (by decide) (by decide)⟩
  · show Steps p.tables e below (T6.setTop (mkF m 30 #[.val (.int i1), .val (.int i2), .val (.int i3), .val (.int i4), .val (.int i5), .val (.int i6), .val (.int i7), .val (.int (own_j9_2_0 i1 i2 i3))] [(.int (own_r10 (own_j9_2_0 i1 i2 i3) i4 i5 i6 i7))])) _
    exact retI X6 hx Bd.returns (hb hby d9_30) hr
  · show Q9 Z i1 i2 i3 i4 i5 i6 i7 h0 n0 _ T6.heap _
    rw [e6]
    exact ⟨rfl, N6, rfl⟩
def Q5a (Z : State) (r0 : Addr) (i1 : Int32) (w_numbers_r0 : Addr) (e0_w_numbers_r0 : Int32) (k_w_numbers_r0 : ClassId) (h0 : Heap) (n0 : Nat) (v : Option Value) (h : Heap) (L : List Loc) : Prop := v = none ∧ Fr n0 L ∧ Keep h0 h [r0, w_numbers_r0] ∧ Fld Z h r0 "com/example/baum/baum/query/NodeList$Builder" "size" "I" (.int (2 : Int32)) ∧ Fld Z h r0 "com/example/baum/baum/query/NodeList$Builder" "numbers" "[I" (.ref w_numbers_r0) ∧ Arv Z h w_numbers_r0 k_w_numbers_r0 .int (16 : Int32) [(.int e0_w_numbers_r0), (.int i1), (.int (0 : Int32)), (.int (0 : Int32)), (.int (0 : Int32)), (.int (0 : Int32)), (.int (0 : Int32)), (.int (0 : Int32)), (.int (0 : Int32)), (.int (0 : Int32)), (.int (0 : Int32)), (.int (0 : Int32)), (.int (0 : Int32)), (.int (0 : Int32)), (.int (0 : Int32)), (.int (0 : Int32))] (.int (0 : Int32)) ∧ Exa Z h r0 "com/example/baum/baum/query/NodeList$Builder"
theorem ef_5a (m : MethodId) (x0 : Addr) (x1 : Int32) : entryFrame m #[(.ref x0), (.int x1)] 2 = mkF m 0 #[.val (.ref x0), .val (.int x1)] [] := by first | (simp [entryFrame, mkF, argsToLocals, Value.category]; done) | rfl
set_option maxRecDepth 65536 in
set_option maxHeartbeats 40000000 in
theorem rm5a (l : Launch) (Z : State) (a0 : Array Value) (hw : ∀ d ∈ tables_1, d.before a0 Z = true) (ws : List Jvm.Cond) (r0 : Addr) (i1 : Int32) (w_numbers_r0 : Addr) (e0_w_numbers_r0 : Int32) (k_w_numbers_r0 : ClassId) (h0 : Heap) (n0 : Nat) (Z0 : n0 ≤ h0.size) (F_size_r0 : Fld Z h0 r0 "com/example/baum/baum/query/NodeList$Builder" "size" "I" (.int (1 : Int32))) (F_numbers_r0 : Fld Z h0 r0 "com/example/baum/baum/query/NodeList$Builder" "numbers" "[I" (.ref w_numbers_r0)) (V_w_numbers_r0 : Arv Z h0 w_numbers_r0 k_w_numbers_r0 .int (16 : Int32) [(.int e0_w_numbers_r0), (.int (0 : Int32)), (.int (0 : Int32)), (.int (0 : Int32)), (.int (0 : Int32)), (.int (0 : Int32)), (.int (0 : Int32)), (.int (0 : Int32)), (.int (0 : Int32)), (.int (0 : Int32)), (.int (0 : Int32)), (.int (0 : Int32)), (.int (0 : Int32)), (.int (0 : Int32)), (.int (0 : Int32)), (.int (0 : Int32))] (.int (0 : Int32))) (E_r0 : Exa Z h0 r0 "com/example/baum/baum/query/NodeList$Builder") (g_r0 : n0 ≤ r0) (ne_w_numbers_r0_r0 : w_numbers_r0 ≠ r0) (g_w_numbers_r0 : n0 ≤ w_numbers_r0) :
    MetFree l (⟨"com/example/baum/baum/query/NodeList$Builder", "add", "(I)V"⟩ : MethodName) (head1 (Jvm.Cond.code (⟨"com/example/baum/baum/query/NodeList$Builder", "add", "(I)V"⟩ : MethodName) prog_99_method_4_code 2 none :: ws) ({ frames := 0, cells := 0, slots := 0, locals := 0 } : Room)) (fun a U => a = #[(.ref r0), (.int i1)] ∧ Z.Warmed39 U.vm ∧ U.heap = h0) (fun _ _ _ _ _ => True) (fun _ U o U' => ∃ v L, o = .returned v ∧ Q5a Z r0 i1 w_numbers_r0 e0_w_numbers_r0 k_w_numbers_r0 h0 n0 v U'.heap L ∧ FrameEnd U o U' L ({ frames := 0, cells := 0, slots := 0, locals := 0 } : Room).cells ({ frames := 0, cells := 0, slots := 0, locals := 0 } : Room).slots) := by
  refine MetFree.of_bodySF (plainFor_of_name pn_0) hisR ?_
  intro p e s m args below meth c s₁ Bd hml0 hP hK
  obtain ⟨rfl, hZ, hh⟩ := hP
  have hx := Bd.exec
  have hby := Bd.bytes
  have hml : c.maxLocals = 2 := hml0
  have hown : s.vm.findClass "com/example/baum/baum/query/NodeList$Builder" = some m.cls := findClass_of_methodNamed Bd.named
  have hnm := (name_of_methodNamed Bd.named Bd.method).1
  have X0 : Stand p l e ({ frames := 0, cells := 0, slots := 0, locals := 0 } : Room) s m #[(.ref r0), (.int i1)] below meth c s₁ [] 0 0 := Stand.of_body Bd
  have e0 : s₁.heap = h0 := by rw [← hh, Bd.state]; rfl
  have N0 := Fr.nil n0
  have pre0 : ∀ t, Steps p.tables e below (s₁.setTop (mkF m 0 #[.val (.ref r0), .val (.int i1)] [])) t → Steps p.tables e below (s₁.setTop (entryFrame m #[(.ref r0), (.int i1)] 2)) t := fun t k => castTop (ef_5a m r0 i1) k
  obtain ⟨T1, X1, e1, st1⟩ := getF X0 hx hZ hown (host := "") (Or.inl (hw _ (List.mem_of_getElem? (i := 18) rfl))) Via.refl e0 F_size_r0 (g := (mkF m 1 #[.val (.ref r0), .val (.int i1)] [(.ref r0)])) rfl rfl (hb hby d5_1)
  obtain ⟨T2, X2, e2, st2⟩ := getF X1 hx hZ hown (host := "") (Or.inl (hw _ (List.mem_of_getElem? (i := 11) rfl))) Via.refl e1 F_numbers_r0 (g := (mkF m 5 #[.val (.ref r0), .val (.int i1)] [(.ref r0), (.int (1 : Int32))])) rfl rfl (hb hby d5_5)
  obtain ⟨cl3, Ar3, -, Sz3, Nn3, -, -⟩ := id V_w_numbers_r0
  obtain ⟨T4, X4, e4, st4⟩ := getF X2 hx hZ hown (host := "") (Or.inl (hw _ (List.mem_of_getElem? (i := 11) rfl))) Via.refl e2 F_numbers_r0 (g := (mkF m 30 #[.val (.ref r0), .val (.int i1)] [(.ref r0)])) rfl rfl (hb hby d5_30)
  obtain ⟨T5, X5, e5, st5⟩ := getF X4 hx hZ hown (host := "") (Or.inl (hw _ (List.mem_of_getElem? (i := 18) rfl))) Via.refl e4 F_size_r0 (g := (mkF m 35 #[.val (.ref r0), .val (.int i1)] [(.ref r0), (.ref r0), (.ref w_numbers_r0)])) rfl rfl (hb hby d5_35)
  obtain ⟨T6, h6, X6, e6, W6, st6⟩ := putF X5 hx hZ hown (host := "") (Or.inl (hw _ (List.mem_of_getElem? (i := 18) rfl))) Via.refl e5 F_size_r0 E_r0 (Or.inl (hw _ (List.mem_of_getElem? (i := 19) rfl))) (hw _ (List.mem_of_getElem? (i := 2) rfl)) (ty := .int) (by decide) rfl rfl (g := (mkF m 41 #[.val (.ref r0), .val (.int i1)] [(.int (2 : Int32)), (.ref r0), (.int (1 : Int32)), (.ref w_numbers_r0)])) rfl rfl (hb hby d5_41)
  have N6 := Fr.snoc X6 N0 g_r0
  have K7 : Keep h0 h6 [r0, w_numbers_r0] := (Keep.refl h0 [r0, w_numbers_r0]).wr W6 (Or.inl (List.mem_of_getElem? (i := 0) rfl))
  have F6 := F_size_r0.same W6
  have f8 := (V_w_numbers_r0.other W6 ne_w_numbers_r0_r0)
  obtain ⟨cl9, Ar9, Cq9, Sz9, Nn9, Hh9, Gg9⟩ := id f8
  have hin9 : ¬ ((1 : Int32) < 0 ∨ cl9.slots.size ≤ ((1 : Int32)).toNatClampNeg) := inb_of Sz9 ⟨by decide, by decide⟩
  obtain ⟨T9, h9, X9, e9, W9, st9⟩ := stI X6 hx hZ e6 Ar9 (j := (1 : Int32)) hin9 (g := (mkF m 45 #[.val (.ref r0), .val (.int i1)] [(.int i1), (.int (1 : Int32)), (.ref w_numbers_r0)])) rfl rfl (hb hby d5_45)
  have V9 : Arv Z h9 w_numbers_r0 k_w_numbers_r0 .int (16 : Int32) [(.int e0_w_numbers_r0), (.int i1), (.int (0 : Int32)), (.int (0 : Int32)), (.int (0 : Int32)), (.int (0 : Int32)), (.int (0 : Int32)), (.int (0 : Int32)), (.int (0 : Int32)), (.int (0 : Int32)), (.int (0 : Int32)), (.int (0 : Int32)), (.int (0 : Int32)), (.int (0 : Int32)), (.int (0 : Int32)), (.int (0 : Int32))] (.int (0 : Int32)) := Arv.set Ar9 Cq9 Sz9 Nn9 Hh9 Gg9 rfl W9 1 rfl (Nat.le_of_ble_eq_true rfl)
  have N9 := Fr.snoc X9 N6 g_w_numbers_r0
  have K10 : Keep h0 h9 [r0, w_numbers_r0] := K7.wr W9 (Or.inl (List.mem_of_getElem? (i := 1) rfl))
  have pre11 : ∀ t, Steps p.tables e below (T9.setTop (mkF m 46 #[.val (.ref r0), .val (.int i1)] [])) t → Steps p.tables e below (s₁.setTop (entryFrame m #[(.ref r0), (.int i1)] 2)) t := by
    intro t k
    refine pre0 _ ?_
    show Steps p.tables e below (s₁.setTop (mkF m 0 #[.val (.ref r0), .val (.int i1)] [])) _
    refine XS.aloadN X0.here hx rfl (hb hby d5_0) rfl rfl ?_
    show Steps p.tables e below (s₁.setTop (mkF m 1 #[.val (.ref r0), .val (.int i1)] [(.ref r0)])) _
    refine st1 _ ?_
    show Steps p.tables e below (T1.setTop (mkF m 4 #[.val (.ref r0), .val (.int i1)] [(.int (1 : Int32))])) _
    refine XS.aloadN X1.here hx rfl (hb hby d5_4) rfl rfl ?_
    show Steps p.tables e below (T1.setTop (mkF m 5 #[.val (.ref r0), .val (.int i1)] [(.ref r0), (.int (1 : Int32))])) _
    refine st2 _ ?_
    show Steps p.tables e below (T2.setTop (mkF m 8 #[.val (.ref r0), .val (.int i1)] [(.ref w_numbers_r0), (.int (1 : Int32))])) _
    refine X2.arraylength hx (by rw [e2]; exact Ar3.1) (State.isArrayOf_alike hZ.alike Ar3.2.1) (g := (mkF m 8 #[.val (.ref r0), .val (.int i1)] [(.ref w_numbers_r0), (.int (1 : Int32))])) rfl rfl (hb hby d5_8) _ ?_
    rw [len_of Sz3 Nn3]
    show Steps p.tables e below (T2.setTop (mkF m 9 #[.val (.ref r0), .val (.int i1)] [(.int (16 : Int32)), (.int (1 : Int32))])) _
    refine XS.icmpYes X2.here hx rfl (pc0 := 9) (pc' := 29) rfl (hb hby d5_9) rfl (feq (by decide : ¬ ((1 : Int32) = (16 : Int32)))).2 (by decide) (by decide) ?_
    show Steps p.tables e below (T2.setTop (mkF m 29 #[.val (.ref r0), .val (.int i1)] [])) _
    refine XS.aloadN X2.here hx rfl (hb hby d5_29) rfl rfl ?_
    show Steps p.tables e below (T2.setTop (mkF m 30 #[.val (.ref r0), .val (.int i1)] [(.ref r0)])) _
    refine st4 _ ?_
    show Steps p.tables e below (T4.setTop (mkF m 33 #[.val (.ref r0), .val (.int i1)] [(.ref w_numbers_r0)])) _
    refine XS.aloadN X4.here hx rfl (hb hby d5_33) rfl rfl ?_
    show Steps p.tables e below (T4.setTop (mkF m 34 #[.val (.ref r0), .val (.int i1)] [(.ref r0), (.ref w_numbers_r0)])) _
    refine XS.dup X4.here hx rfl (hb hby d5_34) rfl rfl ?_
    show Steps p.tables e below (T4.setTop (mkF m 35 #[.val (.ref r0), .val (.int i1)] [(.ref r0), (.ref r0), (.ref w_numbers_r0)])) _
    refine st5 _ ?_
    show Steps p.tables e below (T5.setTop (mkF m 38 #[.val (.ref r0), .val (.int i1)] [(.int (1 : Int32)), (.ref r0), (.ref w_numbers_r0)])) _
    refine XS.dupX1 X5.here hx rfl (hb hby d5_38) rfl rfl rfl ?_
    show Steps p.tables e below (T5.setTop (mkF m 39 #[.val (.ref r0), .val (.int i1)] [(.int (1 : Int32)), (.ref r0), (.int (1 : Int32)), (.ref w_numbers_r0)])) _
    refine XS.iconst X5.here hx rfl (hb hby d5_39) ?_
    show Steps p.tables e below (T5.setTop (mkF m 40 #[.val (.ref r0), .val (.int i1)] [(.int (1 : Int32)), (.int (1 : Int32)), (.ref r0), (.int (1 : Int32)), (.ref w_numbers_r0)])) _
    refine XS.iadd X5.here hx rfl (hb hby d5_40) rfl ?_
    show Steps p.tables e below (T5.setTop (mkF m 41 #[.val (.ref r0), .val (.int i1)] [(.int (2 : Int32)), (.ref r0), (.int (1 : Int32)), (.ref w_numbers_r0)])) _
    refine st6 _ ?_
    show Steps p.tables e below (T6.setTop (mkF m 44 #[.val (.ref r0), .val (.int i1)] [(.int (1 : Int32)), (.ref w_numbers_r0)])) _
    refine XS.iloadN X6.here hx rfl (hb hby d5_44) rfl ?_
    show Steps p.tables e below (T6.setTop (mkF m 45 #[.val (.ref r0), .val (.int i1)] [(.int i1), (.int (1 : Int32)), (.ref w_numbers_r0)])) _
    refine st9 _ ?_
    exact k
  have f12 := (F6.other W9 (Or.inl (Ne.symm ne_w_numbers_r0_r0)))
  have f13 := ((F_numbers_r0.other W6 (Or.inr (slot_ne (Or.inl (hw _ (List.mem_of_getElem? (i := 12) rfl))) (Or.inl (hw _ (List.mem_of_getElem? (i := 19) rfl))) (by decide) (t := (.array .int)) (t' := .int) (by decide) (by decide)))).other W9 (Or.inl (Ne.symm ne_w_numbers_r0_r0)))
  have f14 := ((E_r0.wr W6).wr W9)
  obtain ⟨fs, hr, hrun, hended, hW, hsame⟩ := X9.leave (v := none) (fun _ => rfl)
  refine ⟨_, _, pre11 _ ?_, hrun, hended, _, _, rfl, ?_, ⟨_, rfl⟩, hW, hsame.mono (by decide) (by decide)⟩
  · show Steps p.tables e below (T9.setTop (mkF m 46 #[.val (.ref r0), .val (.int i1)] [])) _
    exact X9.returnOut hx Bd.returns (hb hby d5_46) hr
  · show Q5a Z r0 i1 w_numbers_r0 e0_w_numbers_r0 k_w_numbers_r0 h0 n0 _ T9.heap _
    rw [e9]
    exact ⟨rfl, N9, K10, f12, f13, V9, f14⟩
def own_v3b_w_numbers_r0_0 (i1 : Int32) (e0_w_numbers_r0 : Int32) (e1_w_numbers_r0 : Int32) : Int32 := (if i1 = (0 : Int32) then e1_w_numbers_r0 else (if i1 = (1 : Int32) then e0_w_numbers_r0 else e0_w_numbers_r0))
def own_v3b_w_numbers_r0_1 (i1 : Int32) (e0_w_numbers_r0 : Int32) (e1_w_numbers_r0 : Int32) : Int32 := (if i1 = (0 : Int32) then e0_w_numbers_r0 else (if i1 = (1 : Int32) then e1_w_numbers_r0 else e1_w_numbers_r0))
def Q3b (Z : State) (r0 : Addr) (i1 : Int32) (w_numbers_r0 : Addr) (e0_w_numbers_r0 : Int32) (e1_w_numbers_r0 : Int32) (k_w_numbers_r0 : ClassId) (h0 : Heap) (n0 : Nat) (v : Option Value) (h : Heap) (L : List Loc) : Prop := v = none ∧ Fr n0 L ∧ Keep h0 h [w_numbers_r0] ∧ Arv Z h w_numbers_r0 k_w_numbers_r0 .int (16 : Int32) [(.int (own_v3b_w_numbers_r0_0 i1 e0_w_numbers_r0 e1_w_numbers_r0)), (.int (own_v3b_w_numbers_r0_1 i1 e0_w_numbers_r0 e1_w_numbers_r0)), (.int (0 : Int32)), (.int (0 : Int32)), (.int (0 : Int32)), (.int (0 : Int32)), (.int (0 : Int32)), (.int (0 : Int32)), (.int (0 : Int32)), (.int (0 : Int32)), (.int (0 : Int32)), (.int (0 : Int32)), (.int (0 : Int32)), (.int (0 : Int32)), (.int (0 : Int32)), (.int (0 : Int32))] (.int (0 : Int32))
theorem ef_3b (m : MethodId) (x0 : Addr) (x1 : Int32) : entryFrame m #[(.ref x0), (.int x1)] 5 = mkF m 0 #[.val (.ref x0), .val (.int x1), .unset, .unset, .unset] [] := by first | (simp [entryFrame, mkF, argsToLocals, Value.category]; done) | rfl
set_option maxRecDepth 65536 in
set_option maxHeartbeats 40000000 in
theorem rm3b (l : Launch) (Z : State) (a0 : Array Value) (hw : ∀ d ∈ tables_1, d.before a0 Z = true) (ws : List Jvm.Cond) (r0 : Addr) (i1 : Int32) (w_numbers_r0 : Addr) (e0_w_numbers_r0 : Int32) (e1_w_numbers_r0 : Int32) (k_w_numbers_r0 : ClassId) (h0 : Heap) (n0 : Nat) (Z0 : n0 ≤ h0.size) (F_size_r0 : Fld Z h0 r0 "com/example/baum/baum/query/NodeList$Builder" "size" "I" (.int (2 : Int32))) (hst : i1 = (0 : Int32) ∨ i1 = (1 : Int32) ∨ i1 = (2 : Int32)) (F_numbers_r0 : Fld Z h0 r0 "com/example/baum/baum/query/NodeList$Builder" "numbers" "[I" (.ref w_numbers_r0)) (V_w_numbers_r0 : Arv Z h0 w_numbers_r0 k_w_numbers_r0 .int (16 : Int32) [(.int e0_w_numbers_r0), (.int e1_w_numbers_r0), (.int (0 : Int32)), (.int (0 : Int32)), (.int (0 : Int32)), (.int (0 : Int32)), (.int (0 : Int32)), (.int (0 : Int32)), (.int (0 : Int32)), (.int (0 : Int32)), (.int (0 : Int32)), (.int (0 : Int32)), (.int (0 : Int32)), (.int (0 : Int32)), (.int (0 : Int32)), (.int (0 : Int32))] (.int (0 : Int32))) (g_w_numbers_r0 : n0 ≤ w_numbers_r0) (ne_r0_w_numbers_r0 : r0 ≠ w_numbers_r0) :
    MetFree l (⟨"com/example/baum/baum/query/NodeList$Builder", "reverseFrom", "(I)V"⟩ : MethodName) (head1 (Jvm.Cond.code (⟨"com/example/baum/baum/query/NodeList$Builder", "reverseFrom", "(I)V"⟩ : MethodName) prog_99_method_7_code 5 none :: ws) ({ frames := 0, cells := 0, slots := 0, locals := 0 } : Room)) (fun a U => a = #[(.ref r0), (.int i1)] ∧ Z.Warmed39 U.vm ∧ U.heap = h0) (fun _ _ _ _ _ => True) (fun _ U o U' => ∃ v L, o = .returned v ∧ Q3b Z r0 i1 w_numbers_r0 e0_w_numbers_r0 e1_w_numbers_r0 k_w_numbers_r0 h0 n0 v U'.heap L ∧ FrameEnd U o U' L ({ frames := 0, cells := 0, slots := 0, locals := 0 } : Room).cells ({ frames := 0, cells := 0, slots := 0, locals := 0 } : Room).slots) := by
  refine MetFree.of_bodySF (plainFor_of_name pn_0) hisR ?_
  intro p e s m args below meth c s₁ Bd hml0 hP hK
  obtain ⟨rfl, hZ, hh⟩ := hP
  have hx := Bd.exec
  have hby := Bd.bytes
  have hml : c.maxLocals = 5 := hml0
  have hown : s.vm.findClass "com/example/baum/baum/query/NodeList$Builder" = some m.cls := findClass_of_methodNamed Bd.named
  have hnm := (name_of_methodNamed Bd.named Bd.method).1
  have X0 : Stand p l e ({ frames := 0, cells := 0, slots := 0, locals := 0 } : Room) s m #[(.ref r0), (.int i1)] below meth c s₁ [] 0 0 := Stand.of_body Bd
  have e0 : s₁.heap = h0 := by rw [← hh, Bd.state]; rfl
  have N0 := Fr.nil n0
  have pre0 : ∀ t, Steps p.tables e below (s₁.setTop (mkF m 0 #[.val (.ref r0), .val (.int i1), .unset, .unset, .unset] [])) t → Steps p.tables e below (s₁.setTop (entryFrame m #[(.ref r0), (.int i1)] 5)) t := fun t k => castTop (ef_3b m r0 i1) k
  have pre1 : ∀ t, Steps p.tables e below (s₁.setTop (mkF m 2 #[.val (.ref r0), .val (.int i1), .val (.int i1), .unset, .unset] [])) t → Steps p.tables e below (s₁.setTop (entryFrame m #[(.ref r0), (.int i1)] 5)) t := by
    intro t k
    refine pre0 _ ?_
    show Steps p.tables e below (s₁.setTop (mkF m 0 #[.val (.ref r0), .val (.int i1), .unset, .unset, .unset] [])) _
    refine XS.iloadN X0.here hx rfl (hb hby d3_0) rfl ?_
    show Steps p.tables e below (s₁.setTop (mkF m 1 #[.val (.ref r0), .val (.int i1), .unset, .unset, .unset] [(.int i1)])) _
    refine XS.istoreN X0.here hx rfl (hb hby d3_1) rfl (l' := #[.val (.ref r0), .val (.int i1), .val (.int i1), .unset, .unset]) rfl ?_
    exact k
  rcases (hst : i1 = (0 : Int32) ∨ i1 = (1 : Int32) ∨ i1 = (2 : Int32)) with hk2 | hk2 | hk2
  · have pre3 : ∀ t, Steps p.tables e below (s₁.setTop (mkF m 2 #[.val (.ref r0), .val (.int (0 : Int32)), .val (.int (0 : Int32)), .unset, .unset] [])) t → Steps p.tables e below (s₁.setTop (entryFrame m #[(.ref r0), (.int i1)] 5)) t := fun t k => pre1 t (by rw [hk2]; exact k)
    obtain ⟨T4, X4, e4, st4⟩ := getF X0 hx hZ hown (host := "") (Or.inl (hw _ (List.mem_of_getElem? (i := 18) rfl))) Via.refl e0 F_size_r0 (g := (mkF m 3 #[.val (.ref r0), .val (.int (0 : Int32)), .val (.int (0 : Int32)), .unset, .unset] [(.ref r0)])) rfl rfl (hb hby d3_3)
    obtain ⟨T5, X5, e5, st5⟩ := getF X4 hx hZ hown (host := "") (Or.inl (hw _ (List.mem_of_getElem? (i := 11) rfl))) Via.refl e4 F_numbers_r0 (g := (mkF m 15 #[.val (.ref r0), .val (.int (0 : Int32)), .val (.int (0 : Int32)), .val (.int (1 : Int32)), .unset] [(.ref r0)])) rfl rfl (hb hby d3_15)
    obtain ⟨cl6, Ar6, Cq6, Sz6, Nn6, Hh6, Gg6⟩ := id V_w_numbers_r0
    have hin6 : ¬ ((0 : Int32) < 0 ∨ cl6.slots.size ≤ ((0 : Int32)).toNatClampNeg) := inb_of Sz6 ⟨by decide, by decide⟩
    have hat6 : cl6.slots[((0 : Int32)).toNatClampNeg]? = some (.int e0_w_numbers_r0) := Hh6.at hin6 rfl
    obtain ⟨T7, X7, e7, st7⟩ := getF X5 hx hZ hown (host := "") (Or.inl (hw _ (List.mem_of_getElem? (i := 11) rfl))) Via.refl e5 F_numbers_r0 (g := (mkF m 23 #[.val (.ref r0), .val (.int (0 : Int32)), .val (.int (0 : Int32)), .val (.int (1 : Int32)), .val (.int e0_w_numbers_r0)] [(.ref r0)])) rfl rfl (hb hby d3_23)
    obtain ⟨T8, X8, e8, st8⟩ := getF X7 hx hZ hown (host := "") (Or.inl (hw _ (List.mem_of_getElem? (i := 11) rfl))) Via.refl e7 F_numbers_r0 (g := (mkF m 28 #[.val (.ref r0), .val (.int (0 : Int32)), .val (.int (0 : Int32)), .val (.int (1 : Int32)), .val (.int e0_w_numbers_r0)] [(.ref r0), (.int (0 : Int32)), (.ref w_numbers_r0)])) rfl rfl (hb hby d3_28)
    obtain ⟨cl9, Ar9, Cq9, Sz9, Nn9, Hh9, Gg9⟩ := id V_w_numbers_r0
    have hin9 : ¬ ((1 : Int32) < 0 ∨ cl9.slots.size ≤ ((1 : Int32)).toNatClampNeg) := inb_of Sz9 ⟨by decide, by decide⟩
    have hat9 : cl9.slots[((1 : Int32)).toNatClampNeg]? = some (.int e1_w_numbers_r0) := Hh9.at hin9 rfl
    obtain ⟨cl10, Ar10, Cq10, Sz10, Nn10, Hh10, Gg10⟩ := id V_w_numbers_r0
    have hin10 : ¬ ((0 : Int32) < 0 ∨ cl10.slots.size ≤ ((0 : Int32)).toNatClampNeg) := inb_of Sz10 ⟨by decide, by decide⟩
    obtain ⟨T10, h10, X10, e10, W10, st10⟩ := stI X8 hx hZ e8 Ar10 (j := (0 : Int32)) hin10 (g := (mkF m 33 #[.val (.ref r0), .val (.int (0 : Int32)), .val (.int (0 : Int32)), .val (.int (1 : Int32)), .val (.int e0_w_numbers_r0)] [(.int e1_w_numbers_r0), (.int (0 : Int32)), (.ref w_numbers_r0)])) rfl rfl (hb hby d3_33)
    have V10 : Arv Z h10 w_numbers_r0 k_w_numbers_r0 .int (16 : Int32) [(.int e1_w_numbers_r0), (.int e1_w_numbers_r0), (.int (0 : Int32)), (.int (0 : Int32)), (.int (0 : Int32)), (.int (0 : Int32)), (.int (0 : Int32)), (.int (0 : Int32)), (.int (0 : Int32)), (.int (0 : Int32)), (.int (0 : Int32)), (.int (0 : Int32)), (.int (0 : Int32)), (.int (0 : Int32)), (.int (0 : Int32)), (.int (0 : Int32))] (.int (0 : Int32)) := Arv.set Ar10 Cq10 Sz10 Nn10 Hh10 Gg10 rfl W10 0 rfl (Nat.le_of_ble_eq_true rfl)
    have N10 := Fr.snoc X10 N0 g_w_numbers_r0
    have K11 : Keep h0 h10 [w_numbers_r0] := (Keep.refl h0 [w_numbers_r0]).wr W10 (Or.inl (List.mem_of_getElem? (i := 0) rfl))
    have f12 := (F_numbers_r0.other W10 (Or.inl ne_r0_w_numbers_r0))
    obtain ⟨T13, X13, e13, st13⟩ := getF X10 hx hZ hown (host := "") (Or.inl (hw _ (List.mem_of_getElem? (i := 11) rfl))) Via.refl e10 f12 (g := (mkF m 35 #[.val (.ref r0), .val (.int (0 : Int32)), .val (.int (0 : Int32)), .val (.int (1 : Int32)), .val (.int e0_w_numbers_r0)] [(.ref r0)])) rfl rfl (hb hby d3_35)
    obtain ⟨cl14, Ar14, Cq14, Sz14, Nn14, Hh14, Gg14⟩ := id V10
    have hin14 : ¬ ((1 : Int32) < 0 ∨ cl14.slots.size ≤ ((1 : Int32)).toNatClampNeg) := inb_of Sz14 ⟨by decide, by decide⟩
    obtain ⟨T14, h14, X14, e14, W14, st14⟩ := stI X13 hx hZ e13 Ar14 (j := (1 : Int32)) hin14 (g := (mkF m 41 #[.val (.ref r0), .val (.int (0 : Int32)), .val (.int (0 : Int32)), .val (.int (1 : Int32)), .val (.int e0_w_numbers_r0)] [(.int e0_w_numbers_r0), (.int (1 : Int32)), (.ref w_numbers_r0)])) rfl rfl (hb hby d3_41)
    have V14 : Arv Z h14 w_numbers_r0 k_w_numbers_r0 .int (16 : Int32) [(.int e1_w_numbers_r0), (.int e0_w_numbers_r0), (.int (0 : Int32)), (.int (0 : Int32)), (.int (0 : Int32)), (.int (0 : Int32)), (.int (0 : Int32)), (.int (0 : Int32)), (.int (0 : Int32)), (.int (0 : Int32)), (.int (0 : Int32)), (.int (0 : Int32)), (.int (0 : Int32)), (.int (0 : Int32)), (.int (0 : Int32)), (.int (0 : Int32))] (.int (0 : Int32)) := Arv.set Ar14 Cq14 Sz14 Nn14 Hh14 Gg14 rfl W14 1 rfl (Nat.le_of_ble_eq_true rfl)
    have N14 := Fr.snoc X14 N10 g_w_numbers_r0
    have K15 : Keep h0 h14 [w_numbers_r0] := K11.wr W14 (Or.inl (List.mem_of_getElem? (i := 0) rfl))
    have pre16 : ∀ t, Steps p.tables e below (T14.setTop (mkF m 51 #[.val (.ref r0), .val (.int (0 : Int32)), .val (.int (1 : Int32)), .val (.int (0 : Int32)), .val (.int e0_w_numbers_r0)] [])) t → Steps p.tables e below (s₁.setTop (entryFrame m #[(.ref r0), (.int i1)] 5)) t := by
      intro t k
      refine pre3 _ ?_
      show Steps p.tables e below (s₁.setTop (mkF m 2 #[.val (.ref r0), .val (.int (0 : Int32)), .val (.int (0 : Int32)), .unset, .unset] [])) _
      refine XS.aloadN X0.here hx rfl (hb hby d3_2) rfl rfl ?_
      show Steps p.tables e below (s₁.setTop (mkF m 3 #[.val (.ref r0), .val (.int (0 : Int32)), .val (.int (0 : Int32)), .unset, .unset] [(.ref r0)])) _
      refine st4 _ ?_
      show Steps p.tables e below (T4.setTop (mkF m 6 #[.val (.ref r0), .val (.int (0 : Int32)), .val (.int (0 : Int32)), .unset, .unset] [(.int (2 : Int32))])) _
      refine XS.iconst X4.here hx rfl (hb hby d3_6) ?_
      show Steps p.tables e below (T4.setTop (mkF m 7 #[.val (.ref r0), .val (.int (0 : Int32)), .val (.int (0 : Int32)), .unset, .unset] [(.int (1 : Int32)), (.int (2 : Int32))])) _
      refine XS.isub X4.here hx rfl (hb hby d3_7) rfl ?_
      show Steps p.tables e below (T4.setTop (mkF m 8 #[.val (.ref r0), .val (.int (0 : Int32)), .val (.int (0 : Int32)), .unset, .unset] [(.int (1 : Int32))])) _
      refine XS.istoreN X4.here hx rfl (hb hby d3_8) rfl (l' := #[.val (.ref r0), .val (.int (0 : Int32)), .val (.int (0 : Int32)), .val (.int (1 : Int32)), .unset]) rfl ?_
      show Steps p.tables e below (T4.setTop (mkF m 9 #[.val (.ref r0), .val (.int (0 : Int32)), .val (.int (0 : Int32)), .val (.int (1 : Int32)), .unset] [])) _
      refine XS.iloadN X4.here hx rfl (hb hby d3_9) rfl ?_
      show Steps p.tables e below (T4.setTop (mkF m 10 #[.val (.ref r0), .val (.int (0 : Int32)), .val (.int (0 : Int32)), .val (.int (1 : Int32)), .unset] [(.int (0 : Int32))])) _
      refine XS.iloadN X4.here hx rfl (hb hby d3_10) rfl ?_
      show Steps p.tables e below (T4.setTop (mkF m 11 #[.val (.ref r0), .val (.int (0 : Int32)), .val (.int (0 : Int32)), .val (.int (1 : Int32)), .unset] [(.int (1 : Int32)), (.int (0 : Int32))])) _
      refine XS.icmpNo X4.here hx rfl (hb hby d3_11) rfl (tlt (by decide : (0 : Int32) < (1 : Int32))).2.1 ?_
      show Steps p.tables e below (T4.setTop (mkF m 14 #[.val (.ref r0), .val (.int (0 : Int32)), .val (.int (0 : Int32)), .val (.int (1 : Int32)), .unset] [])) _
      refine XS.aloadN X4.here hx rfl (hb hby d3_14) rfl rfl ?_
      show Steps p.tables e below (T4.setTop (mkF m 15 #[.val (.ref r0), .val (.int (0 : Int32)), .val (.int (0 : Int32)), .val (.int (1 : Int32)), .unset] [(.ref r0)])) _
      refine st5 _ ?_
      show Steps p.tables e below (T5.setTop (mkF m 18 #[.val (.ref r0), .val (.int (0 : Int32)), .val (.int (0 : Int32)), .val (.int (1 : Int32)), .unset] [(.ref w_numbers_r0)])) _
      refine XS.iloadN X5.here hx rfl (hb hby d3_18) rfl ?_
      show Steps p.tables e below (T5.setTop (mkF m 19 #[.val (.ref r0), .val (.int (0 : Int32)), .val (.int (0 : Int32)), .val (.int (1 : Int32)), .unset] [(.int (0 : Int32)), (.ref w_numbers_r0)])) _
      refine X5.iaload hx (j := (0 : Int32)) (v := (.int e0_w_numbers_r0)) (by rw [e5]; exact Ar6.1) (State.isArrayOf_alike hZ.alike Ar6.2.1) Ar6.2.2 hin6 hat6 (g := (mkF m 19 #[.val (.ref r0), .val (.int (0 : Int32)), .val (.int (0 : Int32)), .val (.int (1 : Int32)), .unset] [(.int (0 : Int32)), (.ref w_numbers_r0)])) rfl rfl (hb hby d3_19) _ ?_
      show Steps p.tables e below (T5.setTop (mkF m 20 #[.val (.ref r0), .val (.int (0 : Int32)), .val (.int (0 : Int32)), .val (.int (1 : Int32)), .unset] [(.int e0_w_numbers_r0)])) _
      refine XS.istore X5.here hx rfl (hb hby d3_20) rfl (l' := #[.val (.ref r0), .val (.int (0 : Int32)), .val (.int (0 : Int32)), .val (.int (1 : Int32)), .val (.int e0_w_numbers_r0)]) rfl ?_
      show Steps p.tables e below (T5.setTop (mkF m 22 #[.val (.ref r0), .val (.int (0 : Int32)), .val (.int (0 : Int32)), .val (.int (1 : Int32)), .val (.int e0_w_numbers_r0)] [])) _
      refine XS.aloadN X5.here hx rfl (hb hby d3_22) rfl rfl ?_
      show Steps p.tables e below (T5.setTop (mkF m 23 #[.val (.ref r0), .val (.int (0 : Int32)), .val (.int (0 : Int32)), .val (.int (1 : Int32)), .val (.int e0_w_numbers_r0)] [(.ref r0)])) _
      refine st7 _ ?_
      show Steps p.tables e below (T7.setTop (mkF m 26 #[.val (.ref r0), .val (.int (0 : Int32)), .val (.int (0 : Int32)), .val (.int (1 : Int32)), .val (.int e0_w_numbers_r0)] [(.ref w_numbers_r0)])) _
      refine XS.iloadN X7.here hx rfl (hb hby d3_26) rfl ?_
      show Steps p.tables e below (T7.setTop (mkF m 27 #[.val (.ref r0), .val (.int (0 : Int32)), .val (.int (0 : Int32)), .val (.int (1 : Int32)), .val (.int e0_w_numbers_r0)] [(.int (0 : Int32)), (.ref w_numbers_r0)])) _
      refine XS.aloadN X7.here hx rfl (hb hby d3_27) rfl rfl ?_
      show Steps p.tables e below (T7.setTop (mkF m 28 #[.val (.ref r0), .val (.int (0 : Int32)), .val (.int (0 : Int32)), .val (.int (1 : Int32)), .val (.int e0_w_numbers_r0)] [(.ref r0), (.int (0 : Int32)), (.ref w_numbers_r0)])) _
      refine st8 _ ?_
      show Steps p.tables e below (T8.setTop (mkF m 31 #[.val (.ref r0), .val (.int (0 : Int32)), .val (.int (0 : Int32)), .val (.int (1 : Int32)), .val (.int e0_w_numbers_r0)] [(.ref w_numbers_r0), (.int (0 : Int32)), (.ref w_numbers_r0)])) _
      refine XS.iloadN X8.here hx rfl (hb hby d3_31) rfl ?_
      show Steps p.tables e below (T8.setTop (mkF m 32 #[.val (.ref r0), .val (.int (0 : Int32)), .val (.int (0 : Int32)), .val (.int (1 : Int32)), .val (.int e0_w_numbers_r0)] [(.int (1 : Int32)), (.ref w_numbers_r0), (.int (0 : Int32)), (.ref w_numbers_r0)])) _
      refine X8.iaload hx (j := (1 : Int32)) (v := (.int e1_w_numbers_r0)) (by rw [e8]; exact Ar9.1) (State.isArrayOf_alike hZ.alike Ar9.2.1) Ar9.2.2 hin9 hat9 (g := (mkF m 32 #[.val (.ref r0), .val (.int (0 : Int32)), .val (.int (0 : Int32)), .val (.int (1 : Int32)), .val (.int e0_w_numbers_r0)] [(.int (1 : Int32)), (.ref w_numbers_r0), (.int (0 : Int32)), (.ref w_numbers_r0)])) rfl rfl (hb hby d3_32) _ ?_
      show Steps p.tables e below (T8.setTop (mkF m 33 #[.val (.ref r0), .val (.int (0 : Int32)), .val (.int (0 : Int32)), .val (.int (1 : Int32)), .val (.int e0_w_numbers_r0)] [(.int e1_w_numbers_r0), (.int (0 : Int32)), (.ref w_numbers_r0)])) _
      refine st10 _ ?_
      show Steps p.tables e below (T10.setTop (mkF m 34 #[.val (.ref r0), .val (.int (0 : Int32)), .val (.int (0 : Int32)), .val (.int (1 : Int32)), .val (.int e0_w_numbers_r0)] [])) _
      refine XS.aloadN X10.here hx rfl (hb hby d3_34) rfl rfl ?_
      show Steps p.tables e below (T10.setTop (mkF m 35 #[.val (.ref r0), .val (.int (0 : Int32)), .val (.int (0 : Int32)), .val (.int (1 : Int32)), .val (.int e0_w_numbers_r0)] [(.ref r0)])) _
      refine st13 _ ?_
      show Steps p.tables e below (T13.setTop (mkF m 38 #[.val (.ref r0), .val (.int (0 : Int32)), .val (.int (0 : Int32)), .val (.int (1 : Int32)), .val (.int e0_w_numbers_r0)] [(.ref w_numbers_r0)])) _
      refine XS.iloadN X13.here hx rfl (hb hby d3_38) rfl ?_
      show Steps p.tables e below (T13.setTop (mkF m 39 #[.val (.ref r0), .val (.int (0 : Int32)), .val (.int (0 : Int32)), .val (.int (1 : Int32)), .val (.int e0_w_numbers_r0)] [(.int (1 : Int32)), (.ref w_numbers_r0)])) _
      refine XS.iload X13.here hx rfl (hb hby d3_39) rfl ?_
      show Steps p.tables e below (T13.setTop (mkF m 41 #[.val (.ref r0), .val (.int (0 : Int32)), .val (.int (0 : Int32)), .val (.int (1 : Int32)), .val (.int e0_w_numbers_r0)] [(.int e0_w_numbers_r0), (.int (1 : Int32)), (.ref w_numbers_r0)])) _
      refine st14 _ ?_
      show Steps p.tables e below (T14.setTop (mkF m 42 #[.val (.ref r0), .val (.int (0 : Int32)), .val (.int (0 : Int32)), .val (.int (1 : Int32)), .val (.int e0_w_numbers_r0)] [])) _
      refine XS.iinc X14.here hx rfl (hb hby d3_42) rfl (l' := #[.val (.ref r0), .val (.int (0 : Int32)), .val (.int (1 : Int32)), .val (.int (1 : Int32)), .val (.int e0_w_numbers_r0)]) rfl ?_
      show Steps p.tables e below (T14.setTop (mkF m 45 #[.val (.ref r0), .val (.int (0 : Int32)), .val (.int (1 : Int32)), .val (.int (1 : Int32)), .val (.int e0_w_numbers_r0)] [])) _
      refine XS.iinc X14.here hx rfl (hb hby d3_45) rfl (l' := #[.val (.ref r0), .val (.int (0 : Int32)), .val (.int (1 : Int32)), .val (.int (0 : Int32)), .val (.int e0_w_numbers_r0)]) rfl ?_
      show Steps p.tables e below (T14.setTop (mkF m 48 #[.val (.ref r0), .val (.int (0 : Int32)), .val (.int (1 : Int32)), .val (.int (0 : Int32)), .val (.int e0_w_numbers_r0)] [])) _
      refine XS.goto X14.here hx rfl (pc0 := 48) (pc' := 9) rfl (hb hby d3_48) (by decide) (by decide) ?_
      show Steps p.tables e below (T14.setTop (mkF m 9 #[.val (.ref r0), .val (.int (0 : Int32)), .val (.int (1 : Int32)), .val (.int (0 : Int32)), .val (.int e0_w_numbers_r0)] [])) _
      refine XS.iloadN X14.here hx rfl (hb hby d3_9) rfl ?_
      show Steps p.tables e below (T14.setTop (mkF m 10 #[.val (.ref r0), .val (.int (0 : Int32)), .val (.int (1 : Int32)), .val (.int (0 : Int32)), .val (.int e0_w_numbers_r0)] [(.int (1 : Int32))])) _
      refine XS.iloadN X14.here hx rfl (hb hby d3_10) rfl ?_
      show Steps p.tables e below (T14.setTop (mkF m 11 #[.val (.ref r0), .val (.int (0 : Int32)), .val (.int (1 : Int32)), .val (.int (0 : Int32)), .val (.int e0_w_numbers_r0)] [(.int (0 : Int32)), (.int (1 : Int32))])) _
      refine XS.icmpYes X14.here hx rfl (pc0 := 11) (pc' := 51) rfl (hb hby d3_11) rfl (flt (by decide : ¬ ((1 : Int32) < (0 : Int32)))).2.1 (by decide) (by decide) ?_
      exact k
    obtain ⟨fs, hr, hrun, hended, hW, hsame⟩ := X14.leave (v := none) (fun _ => rfl)
    refine ⟨_, _, pre16 _ ?_, hrun, hended, _, _, rfl, ?_, ⟨_, rfl⟩, hW, hsame.mono (by decide) (by decide)⟩
    · show Steps p.tables e below (T14.setTop (mkF m 51 #[.val (.ref r0), .val (.int (0 : Int32)), .val (.int (1 : Int32)), .val (.int (0 : Int32)), .val (.int e0_w_numbers_r0)] [])) _
      exact X14.returnOut hx Bd.returns (hb hby d3_51) hr
    · show Q3b Z r0 i1 w_numbers_r0 e0_w_numbers_r0 e1_w_numbers_r0 k_w_numbers_r0 h0 n0 _ T14.heap _
      rw [e14]
      exact ⟨rfl, N14, K15, (by rw [show (own_v3b_w_numbers_r0_1 i1 e0_w_numbers_r0 e1_w_numbers_r0) = e0_w_numbers_r0 from (if_pos hk2)]; exact (by rw [show (own_v3b_w_numbers_r0_0 i1 e0_w_numbers_r0 e1_w_numbers_r0) = e1_w_numbers_r0 from (if_pos hk2)]; exact V14))⟩
  · have pre17 : ∀ t, Steps p.tables e below (s₁.setTop (mkF m 2 #[.val (.ref r0), .val (.int (1 : Int32)), .val (.int (1 : Int32)), .unset, .unset] [])) t → Steps p.tables e below (s₁.setTop (entryFrame m #[(.ref r0), (.int i1)] 5)) t := fun t k => pre1 t (by rw [hk2]; exact k)
    obtain ⟨T18, X18, e18, st18⟩ := getF X0 hx hZ hown (host := "") (Or.inl (hw _ (List.mem_of_getElem? (i := 18) rfl))) Via.refl e0 F_size_r0 (g := (mkF m 3 #[.val (.ref r0), .val (.int (1 : Int32)), .val (.int (1 : Int32)), .unset, .unset] [(.ref r0)])) rfl rfl (hb hby d3_3)
    have pre19 : ∀ t, Steps p.tables e below (T18.setTop (mkF m 51 #[.val (.ref r0), .val (.int (1 : Int32)), .val (.int (1 : Int32)), .val (.int (1 : Int32)), .unset] [])) t → Steps p.tables e below (s₁.setTop (entryFrame m #[(.ref r0), (.int i1)] 5)) t := by
      intro t k
      refine pre17 _ ?_
      show Steps p.tables e below (s₁.setTop (mkF m 2 #[.val (.ref r0), .val (.int (1 : Int32)), .val (.int (1 : Int32)), .unset, .unset] [])) _
      refine XS.aloadN X0.here hx rfl (hb hby d3_2) rfl rfl ?_
      show Steps p.tables e below (s₁.setTop (mkF m 3 #[.val (.ref r0), .val (.int (1 : Int32)), .val (.int (1 : Int32)), .unset, .unset] [(.ref r0)])) _
      refine st18 _ ?_
      show Steps p.tables e below (T18.setTop (mkF m 6 #[.val (.ref r0), .val (.int (1 : Int32)), .val (.int (1 : Int32)), .unset, .unset] [(.int (2 : Int32))])) _
      refine XS.iconst X18.here hx rfl (hb hby d3_6) ?_
      show Steps p.tables e below (T18.setTop (mkF m 7 #[.val (.ref r0), .val (.int (1 : Int32)), .val (.int (1 : Int32)), .unset, .unset] [(.int (1 : Int32)), (.int (2 : Int32))])) _
      refine XS.isub X18.here hx rfl (hb hby d3_7) rfl ?_
      show Steps p.tables e below (T18.setTop (mkF m 8 #[.val (.ref r0), .val (.int (1 : Int32)), .val (.int (1 : Int32)), .unset, .unset] [(.int (1 : Int32))])) _
      refine XS.istoreN X18.here hx rfl (hb hby d3_8) rfl (l' := #[.val (.ref r0), .val (.int (1 : Int32)), .val (.int (1 : Int32)), .val (.int (1 : Int32)), .unset]) rfl ?_
      show Steps p.tables e below (T18.setTop (mkF m 9 #[.val (.ref r0), .val (.int (1 : Int32)), .val (.int (1 : Int32)), .val (.int (1 : Int32)), .unset] [])) _
      refine XS.iloadN X18.here hx rfl (hb hby d3_9) rfl ?_
      show Steps p.tables e below (T18.setTop (mkF m 10 #[.val (.ref r0), .val (.int (1 : Int32)), .val (.int (1 : Int32)), .val (.int (1 : Int32)), .unset] [(.int (1 : Int32))])) _
      refine XS.iloadN X18.here hx rfl (hb hby d3_10) rfl ?_
      show Steps p.tables e below (T18.setTop (mkF m 11 #[.val (.ref r0), .val (.int (1 : Int32)), .val (.int (1 : Int32)), .val (.int (1 : Int32)), .unset] [(.int (1 : Int32)), (.int (1 : Int32))])) _
      refine XS.icmpYes X18.here hx rfl (pc0 := 11) (pc' := 51) rfl (hb hby d3_11) rfl (flt (by decide : ¬ ((1 : Int32) < (1 : Int32)))).2.1 (by decide) (by decide) ?_
      exact k
    obtain ⟨fs, hr, hrun, hended, hW, hsame⟩ := X18.leave (v := none) (fun _ => rfl)
    refine ⟨_, _, pre19 _ ?_, hrun, hended, _, _, rfl, ?_, ⟨_, rfl⟩, hW, hsame.mono (by decide) (by decide)⟩
    · show Steps p.tables e below (T18.setTop (mkF m 51 #[.val (.ref r0), .val (.int (1 : Int32)), .val (.int (1 : Int32)), .val (.int (1 : Int32)), .unset] [])) _
      exact X18.returnOut hx Bd.returns (hb hby d3_51) hr
    · show Q3b Z r0 i1 w_numbers_r0 e0_w_numbers_r0 e1_w_numbers_r0 k_w_numbers_r0 h0 n0 _ T18.heap _
      rw [e18]
      exact ⟨rfl, N0, (Keep.refl h0 [w_numbers_r0]), (by rw [show (own_v3b_w_numbers_r0_1 i1 e0_w_numbers_r0 e1_w_numbers_r0) = e1_w_numbers_r0 from ((if_neg (by rw [hk2]; decide)).trans (if_pos hk2))]; exact (by rw [show (own_v3b_w_numbers_r0_0 i1 e0_w_numbers_r0 e1_w_numbers_r0) = e0_w_numbers_r0 from ((if_neg (by rw [hk2]; decide)).trans (if_pos hk2))]; exact V_w_numbers_r0))⟩
  · have pre20 : ∀ t, Steps p.tables e below (s₁.setTop (mkF m 2 #[.val (.ref r0), .val (.int (2 : Int32)), .val (.int (2 : Int32)), .unset, .unset] [])) t → Steps p.tables e below (s₁.setTop (entryFrame m #[(.ref r0), (.int i1)] 5)) t := fun t k => pre1 t (by rw [hk2]; exact k)
    obtain ⟨T21, X21, e21, st21⟩ := getF X0 hx hZ hown (host := "") (Or.inl (hw _ (List.mem_of_getElem? (i := 18) rfl))) Via.refl e0 F_size_r0 (g := (mkF m 3 #[.val (.ref r0), .val (.int (2 : Int32)), .val (.int (2 : Int32)), .unset, .unset] [(.ref r0)])) rfl rfl (hb hby d3_3)
    have pre22 : ∀ t, Steps p.tables e below (T21.setTop (mkF m 51 #[.val (.ref r0), .val (.int (2 : Int32)), .val (.int (2 : Int32)), .val (.int (1 : Int32)), .unset] [])) t → Steps p.tables e below (s₁.setTop (entryFrame m #[(.ref r0), (.int i1)] 5)) t := by
      intro t k
      refine pre20 _ ?_
      show Steps p.tables e below (s₁.setTop (mkF m 2 #[.val (.ref r0), .val (.int (2 : Int32)), .val (.int (2 : Int32)), .unset, .unset] [])) _
      refine XS.aloadN X0.here hx rfl (hb hby d3_2) rfl rfl ?_
      show Steps p.tables e below (s₁.setTop (mkF m 3 #[.val (.ref r0), .val (.int (2 : Int32)), .val (.int (2 : Int32)), .unset, .unset] [(.ref r0)])) _
      refine st21 _ ?_
      show Steps p.tables e below (T21.setTop (mkF m 6 #[.val (.ref r0), .val (.int (2 : Int32)), .val (.int (2 : Int32)), .unset, .unset] [(.int (2 : Int32))])) _
      refine XS.iconst X21.here hx rfl (hb hby d3_6) ?_
      show Steps p.tables e below (T21.setTop (mkF m 7 #[.val (.ref r0), .val (.int (2 : Int32)), .val (.int (2 : Int32)), .unset, .unset] [(.int (1 : Int32)), (.int (2 : Int32))])) _
      refine XS.isub X21.here hx rfl (hb hby d3_7) rfl ?_
      show Steps p.tables e below (T21.setTop (mkF m 8 #[.val (.ref r0), .val (.int (2 : Int32)), .val (.int (2 : Int32)), .unset, .unset] [(.int (1 : Int32))])) _
      refine XS.istoreN X21.here hx rfl (hb hby d3_8) rfl (l' := #[.val (.ref r0), .val (.int (2 : Int32)), .val (.int (2 : Int32)), .val (.int (1 : Int32)), .unset]) rfl ?_
      show Steps p.tables e below (T21.setTop (mkF m 9 #[.val (.ref r0), .val (.int (2 : Int32)), .val (.int (2 : Int32)), .val (.int (1 : Int32)), .unset] [])) _
      refine XS.iloadN X21.here hx rfl (hb hby d3_9) rfl ?_
      show Steps p.tables e below (T21.setTop (mkF m 10 #[.val (.ref r0), .val (.int (2 : Int32)), .val (.int (2 : Int32)), .val (.int (1 : Int32)), .unset] [(.int (2 : Int32))])) _
      refine XS.iloadN X21.here hx rfl (hb hby d3_10) rfl ?_
      show Steps p.tables e below (T21.setTop (mkF m 11 #[.val (.ref r0), .val (.int (2 : Int32)), .val (.int (2 : Int32)), .val (.int (1 : Int32)), .unset] [(.int (1 : Int32)), (.int (2 : Int32))])) _
      refine XS.icmpYes X21.here hx rfl (pc0 := 11) (pc' := 51) rfl (hb hby d3_11) rfl (flt (by decide : ¬ ((2 : Int32) < (1 : Int32)))).2.1 (by decide) (by decide) ?_
      exact k
    obtain ⟨fs, hr, hrun, hended, hW, hsame⟩ := X21.leave (v := none) (fun _ => rfl)
    refine ⟨_, _, pre22 _ ?_, hrun, hended, _, _, rfl, ?_, ⟨_, rfl⟩, hW, hsame.mono (by decide) (by decide)⟩
    · show Steps p.tables e below (T21.setTop (mkF m 51 #[.val (.ref r0), .val (.int (2 : Int32)), .val (.int (2 : Int32)), .val (.int (1 : Int32)), .unset] [])) _
      exact X21.returnOut hx Bd.returns (hb hby d3_51) hr
    · show Q3b Z r0 i1 w_numbers_r0 e0_w_numbers_r0 e1_w_numbers_r0 k_w_numbers_r0 h0 n0 _ T21.heap _
      rw [e21]
      exact ⟨rfl, N0, (Keep.refl h0 [w_numbers_r0]), (by rw [show (own_v3b_w_numbers_r0_1 i1 e0_w_numbers_r0 e1_w_numbers_r0) = e1_w_numbers_r0 from ((if_neg (by rw [hk2]; decide)).trans (if_neg (by rw [hk2]; decide)))]; exact (by rw [show (own_v3b_w_numbers_r0_0 i1 e0_w_numbers_r0 e1_w_numbers_r0) = e0_w_numbers_r0 from ((if_neg (by rw [hk2]; decide)).trans (if_neg (by rw [hk2]; decide)))]; exact V_w_numbers_r0))⟩
def Q4b (Z : State) (r0 : Addr) (h0 : Heap) (n0 : Nat) (v : Option Value) (h : Heap) (L : List Loc) : Prop := v = some (.int (2 : Int32)) ∧ Fr n0 L ∧ h = h0
theorem ef_4b (m : MethodId) (x0 : Addr) : entryFrame m #[(.ref x0)] 1 = mkF m 0 #[.val (.ref x0)] [] := by first | (simp [entryFrame, mkF, argsToLocals, Value.category]; done) | rfl
set_option maxRecDepth 65536 in
set_option maxHeartbeats 40000000 in
theorem rm4b (l : Launch) (Z : State) (a0 : Array Value) (hw : ∀ d ∈ tables_1, d.before a0 Z = true) (ws : List Jvm.Cond) (r0 : Addr) (h0 : Heap) (n0 : Nat) (Z0 : n0 ≤ h0.size) (F_size_r0 : Fld Z h0 r0 "com/example/baum/baum/query/NodeList$Builder" "size" "I" (.int (2 : Int32))) :
    MetFree l (⟨"com/example/baum/baum/query/NodeList$Builder", "size", "()I"⟩ : MethodName) (head1 (Jvm.Cond.code (⟨"com/example/baum/baum/query/NodeList$Builder", "size", "()I"⟩ : MethodName) prog_99_method_5_code 1 (some .int) :: ws) ({ frames := 0, cells := 0, slots := 0, locals := 0 } : Room)) (fun a U => a = #[(.ref r0)] ∧ Z.Warmed39 U.vm ∧ U.heap = h0) (fun _ _ _ _ _ => True) (fun _ U o U' => ∃ v L, o = .returned v ∧ Q4b Z r0 h0 n0 v U'.heap L ∧ FrameEnd U o U' L ({ frames := 0, cells := 0, slots := 0, locals := 0 } : Room).cells ({ frames := 0, cells := 0, slots := 0, locals := 0 } : Room).slots) := by
  refine MetFree.of_bodySF (plainFor_of_name pn_0) hisR ?_
  intro p e s m args below meth c s₁ Bd hml0 hP hK
  obtain ⟨rfl, hZ, hh⟩ := hP
  have hx := Bd.exec
  have hby := Bd.bytes
  have hml : c.maxLocals = 1 := hml0
  have hown : s.vm.findClass "com/example/baum/baum/query/NodeList$Builder" = some m.cls := findClass_of_methodNamed Bd.named
  have hnm := (name_of_methodNamed Bd.named Bd.method).1
  have X0 : Stand p l e ({ frames := 0, cells := 0, slots := 0, locals := 0 } : Room) s m #[(.ref r0)] below meth c s₁ [] 0 0 := Stand.of_body Bd
  have e0 : s₁.heap = h0 := by rw [← hh, Bd.state]; rfl
  have N0 := Fr.nil n0
  have pre0 : ∀ t, Steps p.tables e below (s₁.setTop (mkF m 0 #[.val (.ref r0)] [])) t → Steps p.tables e below (s₁.setTop (entryFrame m #[(.ref r0)] 1)) t := fun t k => castTop (ef_4b m r0) k
  obtain ⟨T1, X1, e1, st1⟩ := getF X0 hx hZ hown (host := "") (Or.inl (hw _ (List.mem_of_getElem? (i := 18) rfl))) Via.refl e0 F_size_r0 (g := (mkF m 1 #[.val (.ref r0)] [(.ref r0)])) rfl rfl (hb hby d4_1)
  have pre2 : ∀ t, Steps p.tables e below (T1.setTop (mkF m 4 #[.val (.ref r0)] [(.int (2 : Int32))])) t → Steps p.tables e below (s₁.setTop (entryFrame m #[(.ref r0)] 1)) t := by
    intro t k
    refine pre0 _ ?_
    show Steps p.tables e below (s₁.setTop (mkF m 0 #[.val (.ref r0)] [])) _
    refine XS.aloadN X0.here hx rfl (hb hby d4_0) rfl rfl ?_
    show Steps p.tables e below (s₁.setTop (mkF m 1 #[.val (.ref r0)] [(.ref r0)])) _
    refine st1 _ ?_
    exact k
  obtain ⟨fs, hr, hrun, hended, hW, hsame⟩ := X1.leave (v := some (.int (2 : Int32))) (fun h => by rw [Bd.returns] at h; cases h)
  refine ⟨_, _, pre2 _ ?_, hrun, hended, _, _, rfl, ?_, ⟨_, rfl⟩, hW, hsame.mono (by decide) (by decide)⟩
  · show Steps p.tables e below (T1.setTop (mkF m 4 #[.val (.ref r0)] [(.int (2 : Int32))])) _
    exact retI X1 hx Bd.returns (hb hby d4_4) hr
  · show Q4b Z r0 h0 n0 _ T1.heap _
    rw [e1]
    exact ⟨rfl, N0, rfl⟩
def Q8a (Z : State)  (h0 : Heap) (n0 : Nat) (v : Option Value) (h : Heap) (L : List Loc) : Prop := v = some (.int (0 : Int32)) ∧ Fr n0 L ∧ h = h0
theorem ef_8a (m : MethodId)  : entryFrame m #[(.int (0 : Int32)), (.int (2 : Int32)), .null] 3 = mkF m 0 #[.val (.int (0 : Int32)), .val (.int (2 : Int32)), .val .null] [] := by first | (simp [entryFrame, mkF, argsToLocals, Value.category]; done) | rfl
set_option maxRecDepth 65536 in
set_option maxHeartbeats 40000000 in
theorem rm8a (l : Launch) (Z : State) (a0 : Array Value) (hw : ∀ d ∈ tables_1, d.before a0 Z = true) (ws : List Jvm.Cond)  (h0 : Heap) (n0 : Nat) (Z0 : n0 ≤ h0.size) :
    MetFree l (⟨"jdk/internal/util/Preconditions", "checkIndex", "(IILjava/util/function/BiFunction;)I"⟩ : MethodName) (head1 (Jvm.Cond.code (⟨"jdk/internal/util/Preconditions", "checkIndex", "(IILjava/util/function/BiFunction;)I"⟩ : MethodName) jdk_41_method_11_code 3 (some .int) :: ws) ({ frames := 0, cells := 0, slots := 0, locals := 0 } : Room)) (fun a U => a = #[(.int (0 : Int32)), (.int (2 : Int32)), .null] ∧ Z.Warmed39 U.vm ∧ U.heap = h0) (fun _ _ _ _ _ => True) (fun _ U o U' => ∃ v L, o = .returned v ∧ Q8a Z  h0 n0 v U'.heap L ∧ FrameEnd U o U' L ({ frames := 0, cells := 0, slots := 0, locals := 0 } : Room).cells ({ frames := 0, cells := 0, slots := 0, locals := 0 } : Room).slots) := by
  refine MetFree.of_bodySF (plainFor_of_name pn_1) hisR ?_
  intro p e s m args below meth c s₁ Bd hml0 hP hK
  obtain ⟨rfl, hZ, hh⟩ := hP
  have hx := Bd.exec
  have hby := Bd.bytes
  have hml : c.maxLocals = 3 := hml0
  have hown : s.vm.findClass "jdk/internal/util/Preconditions" = some m.cls := findClass_of_methodNamed Bd.named
  have hnm := (name_of_methodNamed Bd.named Bd.method).1
  have X0 : Stand p l e ({ frames := 0, cells := 0, slots := 0, locals := 0 } : Room) s m #[(.int (0 : Int32)), (.int (2 : Int32)), .null] below meth c s₁ [] 0 0 := Stand.of_body Bd
  have e0 : s₁.heap = h0 := by rw [← hh, Bd.state]; rfl
  have N0 := Fr.nil n0
  have pre0 : ∀ t, Steps p.tables e below (s₁.setTop (mkF m 0 #[.val (.int (0 : Int32)), .val (.int (2 : Int32)), .val .null] [])) t → Steps p.tables e below (s₁.setTop (entryFrame m #[(.int (0 : Int32)), (.int (2 : Int32)), .null] 3)) t := fun t k => castTop (ef_8a m ) k
  have pre1 : ∀ t, Steps p.tables e below (s₁.setTop (mkF m 17 #[.val (.int (0 : Int32)), .val (.int (2 : Int32)), .val .null] [(.int (0 : Int32))])) t → Steps p.tables e below (s₁.setTop (entryFrame m #[(.int (0 : Int32)), (.int (2 : Int32)), .null] 3)) t := by
    intro t k
    refine pre0 _ ?_
    show Steps p.tables e below (s₁.setTop (mkF m 0 #[.val (.int (0 : Int32)), .val (.int (2 : Int32)), .val .null] [])) _
    refine XS.iloadN X0.here hx rfl (hb hby d8_0) rfl ?_
    show Steps p.tables e below (s₁.setTop (mkF m 1 #[.val (.int (0 : Int32)), .val (.int (2 : Int32)), .val .null] [(.int (0 : Int32))])) _
    refine XS.ifNo X0.here hx rfl (hb hby d8_1) rfl ((if0 _ _).trans (flt (by decide : ¬ ((0 : Int32) < (0 : Int32)))).1) ?_
    show Steps p.tables e below (s₁.setTop (mkF m 4 #[.val (.int (0 : Int32)), .val (.int (2 : Int32)), .val .null] [])) _
    refine XS.iloadN X0.here hx rfl (hb hby d8_4) rfl ?_
    show Steps p.tables e below (s₁.setTop (mkF m 5 #[.val (.int (0 : Int32)), .val (.int (2 : Int32)), .val .null] [(.int (0 : Int32))])) _
    refine XS.iloadN X0.here hx rfl (hb hby d8_5) rfl ?_
    show Steps p.tables e below (s₁.setTop (mkF m 6 #[.val (.int (0 : Int32)), .val (.int (2 : Int32)), .val .null] [(.int (2 : Int32)), (.int (0 : Int32))])) _
    refine XS.icmpYes X0.here hx rfl (pc0 := 6) (pc' := 16) rfl (hb hby d8_6) rfl (tlt (by decide : (0 : Int32) < (2 : Int32))).1 (by decide) (by decide) ?_
    show Steps p.tables e below (s₁.setTop (mkF m 16 #[.val (.int (0 : Int32)), .val (.int (2 : Int32)), .val .null] [])) _
    refine XS.iloadN X0.here hx rfl (hb hby d8_16) rfl ?_
    exact k
  obtain ⟨fs, hr, hrun, hended, hW, hsame⟩ := X0.leave (v := some (.int (0 : Int32))) (fun h => by rw [Bd.returns] at h; cases h)
  refine ⟨_, _, pre1 _ ?_, hrun, hended, _, _, rfl, ?_, ⟨_, rfl⟩, hW, hsame.mono (by decide) (by decide)⟩
  · show Steps p.tables e below (s₁.setTop (mkF m 17 #[.val (.int (0 : Int32)), .val (.int (2 : Int32)), .val .null] [(.int (0 : Int32))])) _
    exact retI X0 hx Bd.returns (hb hby d8_17) hr
  · show Q8a Z  h0 n0 _ s₁.heap _
    rw [e0]
    exact ⟨rfl, N0, rfl⟩
def Q7a (Z : State)  (h0 : Heap) (n0 : Nat) (v : Option Value) (h : Heap) (L : List Loc) : Prop := v = some (.int (0 : Int32)) ∧ Fr n0 L ∧ h = h0
theorem ef_7a (m : MethodId)  : entryFrame m #[(.int (0 : Int32)), (.int (2 : Int32))] 2 = mkF m 0 #[.val (.int (0 : Int32)), .val (.int (2 : Int32))] [] := by first | (simp [entryFrame, mkF, argsToLocals, Value.category]; done) | rfl
set_option maxRecDepth 65536 in
set_option maxHeartbeats 40000000 in
theorem rm7a (l : Launch) (Z : State) (a0 : Array Value) (hw : ∀ d ∈ tables_1, d.before a0 Z = true) (ws : List Jvm.Cond)  (h0 : Heap) (n0 : Nat) (Z0 : n0 ≤ h0.size) :
    MetFree l (⟨"java/util/Objects", "checkIndex", "(II)I"⟩ : MethodName) (head1 (Jvm.Cond.code (⟨"java/util/Objects", "checkIndex", "(II)I"⟩ : MethodName) jdk_31_method_17_code 2 (some .int) :: ws) ({ frames := 1, cells := 0, slots := 0, locals := 14 } : Room)) (fun a U => a = #[(.int (0 : Int32)), (.int (2 : Int32))] ∧ Z.Warmed39 U.vm ∧ U.heap = h0) (fun _ _ _ _ _ => True) (fun _ U o U' => ∃ v L, o = .returned v ∧ Q7a Z  h0 n0 v U'.heap L ∧ FrameEnd U o U' L ({ frames := 1, cells := 0, slots := 0, locals := 14 } : Room).cells ({ frames := 1, cells := 0, slots := 0, locals := 14 } : Room).slots) := by
  refine MetFree.of_bodySF (plainFor_of_name pn_2) hisR ?_
  intro p e s m args below meth c s₁ Bd hml0 hP hK
  obtain ⟨rfl, hZ, hh⟩ := hP
  have hx := Bd.exec
  have hby := Bd.bytes
  have hml : c.maxLocals = 2 := hml0
  have hown : s.vm.findClass "java/util/Objects" = some m.cls := findClass_of_methodNamed Bd.named
  have hnm := (name_of_methodNamed Bd.named Bd.method).1
  have X0 : Stand p l e ({ frames := 1, cells := 0, slots := 0, locals := 14 } : Room) s m #[(.int (0 : Int32)), (.int (2 : Int32))] below meth c s₁ [] 0 0 := Stand.of_body Bd
  have e0 : s₁.heap = h0 := by rw [← hh, Bd.state]; rfl
  have N0 := Fr.nil n0
  have pre0 : ∀ t, Steps p.tables e below (s₁.setTop (mkF m 0 #[.val (.int (0 : Int32)), .val (.int (2 : Int32))] [])) t → Steps p.tables e below (s₁.setTop (entryFrame m #[(.int (0 : Int32)), (.int (2 : Int32))] 2)) t := fun t k => castTop (ef_7a m ) k
  obtain ⟨_, _, ⟨T1, L1, k1, n1⟩, -, X1, ⟨Lc1, hQ1, l1, y1, z1⟩, st1⟩ := Jvm.LawKit.callS X0 hx (y := (⟨"jdk/internal/util/Preconditions", "checkIndex", "(IILjava/util/function/BiFunction;)I"⟩ : MethodName)) hown (mvT hZ (hw _ (List.mem_of_getElem? (i := 39) rfl))) (mvT hZ (hw _ (List.mem_of_getElem? (i := 40) rfl))) (mvT hZ (hw _ (List.mem_of_getElem? (i := 41) rfl))) (mvT hZ (hw _ (List.mem_of_getElem? (i := 42) rfl))) (by decide) (backOf (W := 0) (rm8a l Z a0 hw []  h0 n0 (Nat.le_trans Z0 (Keep.refl h0 []).1) ) hZ (hw _ (List.mem_of_getElem? (i := 42) rfl)) (hw _ (List.mem_of_getElem? (i := 41) rfl)) (by decide) (by decide)) (g := (mkF m 3 #[.val (.int (0 : Int32)), .val (.int (2 : Int32))] [.null, (.int (2 : Int32)), (.int (0 : Int32))])) rfl (by rw [hml]; rfl) (argsL := [(.int (0 : Int32)), (.int (2 : Int32)), .null]) (rest := []) (lenOf pd_3 rfl) rfl (by show 2 * 0 + _ ≤ _; exact Nat.le_of_eq rfl) (hb hby d7_3) (fun _ _ => ⟨rfl, e0, (by decide : 0 + 0 ≤ _), (by decide : 0 + 0 ≤ _)⟩)
  dsimp only [Pt.U, Pt.locs, Pt.cells, Pt.slots] at X1 l1 y1 z1 st1 hQ1
  subst l1 y1 z1
  obtain ⟨rfl, Nq1, e1⟩ := hQ1
  have N1 := Fr.app N0 Nq1
  have pre2 : ∀ t, Steps p.tables e below (T1.setTop (mkF m 6 #[.val (.int (0 : Int32)), .val (.int (2 : Int32))] [(.int (0 : Int32))])) t → Steps p.tables e below (s₁.setTop (entryFrame m #[(.int (0 : Int32)), (.int (2 : Int32))] 2)) t := by
    intro t k
    refine pre0 _ ?_
    show Steps p.tables e below (s₁.setTop (mkF m 0 #[.val (.int (0 : Int32)), .val (.int (2 : Int32))] [])) _
    refine XS.iloadN X0.here hx rfl (hb hby d7_0) rfl ?_
    show Steps p.tables e below (s₁.setTop (mkF m 1 #[.val (.int (0 : Int32)), .val (.int (2 : Int32))] [(.int (0 : Int32))])) _
    refine XS.iloadN X0.here hx rfl (hb hby d7_1) rfl ?_
    show Steps p.tables e below (s₁.setTop (mkF m 2 #[.val (.int (0 : Int32)), .val (.int (2 : Int32))] [(.int (2 : Int32)), (.int (0 : Int32))])) _
    refine XS.aconstNull X0.here hx rfl (hb hby d7_2) ?_
    show Steps p.tables e below (s₁.setTop (mkF m 3 #[.val (.int (0 : Int32)), .val (.int (2 : Int32))] [.null, (.int (2 : Int32)), (.int (0 : Int32))])) _
    refine st1 _ ?_
    exact k
  obtain ⟨fs, hr, hrun, hended, hW, hsame⟩ := X1.leave (v := some (.int (0 : Int32))) (fun h => by rw [Bd.returns] at h; cases h)
  refine ⟨_, _, pre2 _ ?_, hrun, hended, _, _, rfl, ?_, ⟨_, rfl⟩, hW, hsame.mono (by decide) (by decide)⟩
  · show Steps p.tables e below (T1.setTop (mkF m 6 #[.val (.int (0 : Int32)), .val (.int (2 : Int32))] [(.int (0 : Int32))])) _
    exact retI X1 hx Bd.returns (hb hby d7_6) hr
  · show Q7a Z  h0 n0 _ T1.heap _
    rw [e1]
    exact ⟨rfl, N1, rfl⟩
def Q6a (Z : State) (r0 : Addr) (w_numbers_r0 : Addr) (e0_w_numbers_r0 : Int32) (e1_w_numbers_r0 : Int32) (k_w_numbers_r0 : ClassId) (h0 : Heap) (n0 : Nat) (v : Option Value) (h : Heap) (L : List Loc) : Prop := v = some (.int e0_w_numbers_r0) ∧ Fr n0 L ∧ h = h0
theorem ef_6a (m : MethodId) (x0 : Addr) : entryFrame m #[(.ref x0), (.int (0 : Int32))] 2 = mkF m 0 #[.val (.ref x0), .val (.int (0 : Int32))] [] := by first | (simp [entryFrame, mkF, argsToLocals, Value.category]; done) | rfl
set_option maxRecDepth 65536 in
set_option maxHeartbeats 40000000 in
theorem rm6a (l : Launch) (Z : State) (a0 : Array Value) (hw : ∀ d ∈ tables_1, d.before a0 Z = true) (ws : List Jvm.Cond) (r0 : Addr) (w_numbers_r0 : Addr) (e0_w_numbers_r0 : Int32) (e1_w_numbers_r0 : Int32) (k_w_numbers_r0 : ClassId) (h0 : Heap) (n0 : Nat) (Z0 : n0 ≤ h0.size) (F_numbers_r0 : Fld Z h0 r0 "com/example/baum/baum/query/NodeList$Builder" "numbers" "[I" (.ref w_numbers_r0)) (F_size_r0 : Fld Z h0 r0 "com/example/baum/baum/query/NodeList$Builder" "size" "I" (.int (2 : Int32))) (V_w_numbers_r0 : Arv Z h0 w_numbers_r0 k_w_numbers_r0 .int (16 : Int32) [(.int e0_w_numbers_r0), (.int e1_w_numbers_r0), (.int (0 : Int32)), (.int (0 : Int32)), (.int (0 : Int32)), (.int (0 : Int32)), (.int (0 : Int32)), (.int (0 : Int32)), (.int (0 : Int32)), (.int (0 : Int32)), (.int (0 : Int32)), (.int (0 : Int32)), (.int (0 : Int32)), (.int (0 : Int32)), (.int (0 : Int32)), (.int (0 : Int32))] (.int (0 : Int32))) :
    MetFree l (⟨"com/example/baum/baum/query/NodeList$Builder", "get", "(I)I"⟩ : MethodName) (head1 (Jvm.Cond.code (⟨"com/example/baum/baum/query/NodeList$Builder", "get", "(I)I"⟩ : MethodName) prog_99_method_6_code 2 (some .int) :: ws) ({ frames := 2, cells := 0, slots := 0, locals := 28 } : Room)) (fun a U => a = #[(.ref r0), (.int (0 : Int32))] ∧ Z.Warmed39 U.vm ∧ U.heap = h0) (fun _ _ _ _ _ => True) (fun _ U o U' => ∃ v L, o = .returned v ∧ Q6a Z r0 w_numbers_r0 e0_w_numbers_r0 e1_w_numbers_r0 k_w_numbers_r0 h0 n0 v U'.heap L ∧ FrameEnd U o U' L ({ frames := 2, cells := 0, slots := 0, locals := 28 } : Room).cells ({ frames := 2, cells := 0, slots := 0, locals := 28 } : Room).slots) := by
  refine MetFree.of_bodySF (plainFor_of_name pn_0) hisR ?_
  intro p e s m args below meth c s₁ Bd hml0 hP hK
  obtain ⟨rfl, hZ, hh⟩ := hP
  have hx := Bd.exec
  have hby := Bd.bytes
  have hml : c.maxLocals = 2 := hml0
  have hown : s.vm.findClass "com/example/baum/baum/query/NodeList$Builder" = some m.cls := findClass_of_methodNamed Bd.named
  have hnm := (name_of_methodNamed Bd.named Bd.method).1
  have X0 : Stand p l e ({ frames := 2, cells := 0, slots := 0, locals := 28 } : Room) s m #[(.ref r0), (.int (0 : Int32))] below meth c s₁ [] 0 0 := Stand.of_body Bd
  have e0 : s₁.heap = h0 := by rw [← hh, Bd.state]; rfl
  have N0 := Fr.nil n0
  have pre0 : ∀ t, Steps p.tables e below (s₁.setTop (mkF m 0 #[.val (.ref r0), .val (.int (0 : Int32))] [])) t → Steps p.tables e below (s₁.setTop (entryFrame m #[(.ref r0), (.int (0 : Int32))] 2)) t := fun t k => castTop (ef_6a m r0) k
  obtain ⟨T1, X1, e1, st1⟩ := getF X0 hx hZ hown (host := "") (Or.inl (hw _ (List.mem_of_getElem? (i := 11) rfl))) Via.refl e0 F_numbers_r0 (g := (mkF m 1 #[.val (.ref r0), .val (.int (0 : Int32))] [(.ref r0)])) rfl rfl (hb hby d6_1)
  obtain ⟨T2, X2, e2, st2⟩ := getF X1 hx hZ hown (host := "") (Or.inl (hw _ (List.mem_of_getElem? (i := 18) rfl))) Via.refl e1 F_size_r0 (g := (mkF m 6 #[.val (.ref r0), .val (.int (0 : Int32))] [(.ref r0), (.int (0 : Int32)), (.ref w_numbers_r0)])) rfl rfl (hb hby d6_6)
  obtain ⟨_, _, ⟨T3, L3, k3, n3⟩, -, X3, ⟨Lc3, hQ3, l3, y3, z3⟩, st3⟩ := Jvm.LawKit.callS X2 hx (y := (⟨"java/util/Objects", "checkIndex", "(II)I"⟩ : MethodName)) hown (mvT hZ (hw _ (List.mem_of_getElem? (i := 35) rfl))) (mvT hZ (hw _ (List.mem_of_getElem? (i := 36) rfl))) (mvT hZ (hw _ (List.mem_of_getElem? (i := 37) rfl))) (mvT hZ (hw _ (List.mem_of_getElem? (i := 38) rfl))) (by decide) (backOf (W := 1) (rm7a l Z a0 hw []  h0 n0 (Nat.le_trans Z0 (Keep.refl h0 []).1) ) hZ (hw _ (List.mem_of_getElem? (i := 38) rfl)) (hw _ (List.mem_of_getElem? (i := 37) rfl)) (by decide) (by decide)) (g := (mkF m 9 #[.val (.ref r0), .val (.int (0 : Int32))] [(.int (2 : Int32)), (.int (0 : Int32)), (.ref w_numbers_r0)])) rfl (by rw [hml]; rfl) (argsL := [(.int (0 : Int32)), (.int (2 : Int32))]) (rest := [(.ref w_numbers_r0)]) (lenOf pd_4 rfl) rfl (by show 2 * 0 + _ ≤ _; exact Nat.le_of_eq rfl) (hb hby d6_9) (fun _ _ => ⟨rfl, e2, (by decide : 0 + 0 ≤ _), (by decide : 0 + 0 ≤ _)⟩)
  dsimp only [Pt.U, Pt.locs, Pt.cells, Pt.slots] at X3 l3 y3 z3 st3 hQ3
  subst l3 y3 z3
  obtain ⟨rfl, Nq3, e3⟩ := hQ3
  have N3 := Fr.app N0 Nq3
  obtain ⟨cl4, Ar4, Cq4, Sz4, Nn4, Hh4, Gg4⟩ := id V_w_numbers_r0
  have hin4 : ¬ ((0 : Int32) < 0 ∨ cl4.slots.size ≤ ((0 : Int32)).toNatClampNeg) := inb_of Sz4 ⟨by decide, by decide⟩
  have hat4 : cl4.slots[((0 : Int32)).toNatClampNeg]? = some (.int e0_w_numbers_r0) := Hh4.at hin4 rfl
  have pre5 : ∀ t, Steps p.tables e below (T3.setTop (mkF m 13 #[.val (.ref r0), .val (.int (0 : Int32))] [(.int e0_w_numbers_r0)])) t → Steps p.tables e below (s₁.setTop (entryFrame m #[(.ref r0), (.int (0 : Int32))] 2)) t := by
    intro t k
    refine pre0 _ ?_
    show Steps p.tables e below (s₁.setTop (mkF m 0 #[.val (.ref r0), .val (.int (0 : Int32))] [])) _
    refine XS.aloadN X0.here hx rfl (hb hby d6_0) rfl rfl ?_
    show Steps p.tables e below (s₁.setTop (mkF m 1 #[.val (.ref r0), .val (.int (0 : Int32))] [(.ref r0)])) _
    refine st1 _ ?_
    show Steps p.tables e below (T1.setTop (mkF m 4 #[.val (.ref r0), .val (.int (0 : Int32))] [(.ref w_numbers_r0)])) _
    refine XS.iloadN X1.here hx rfl (hb hby d6_4) rfl ?_
    show Steps p.tables e below (T1.setTop (mkF m 5 #[.val (.ref r0), .val (.int (0 : Int32))] [(.int (0 : Int32)), (.ref w_numbers_r0)])) _
    refine XS.aloadN X1.here hx rfl (hb hby d6_5) rfl rfl ?_
    show Steps p.tables e below (T1.setTop (mkF m 6 #[.val (.ref r0), .val (.int (0 : Int32))] [(.ref r0), (.int (0 : Int32)), (.ref w_numbers_r0)])) _
    refine st2 _ ?_
    show Steps p.tables e below (T2.setTop (mkF m 9 #[.val (.ref r0), .val (.int (0 : Int32))] [(.int (2 : Int32)), (.int (0 : Int32)), (.ref w_numbers_r0)])) _
    refine st3 _ ?_
    show Steps p.tables e below (T3.setTop (mkF m 12 #[.val (.ref r0), .val (.int (0 : Int32))] [(.int (0 : Int32)), (.ref w_numbers_r0)])) _
    refine X3.iaload hx (j := (0 : Int32)) (v := (.int e0_w_numbers_r0)) (by rw [e3]; exact Ar4.1) (State.isArrayOf_alike hZ.alike Ar4.2.1) Ar4.2.2 hin4 hat4 (g := (mkF m 12 #[.val (.ref r0), .val (.int (0 : Int32))] [(.int (0 : Int32)), (.ref w_numbers_r0)])) rfl rfl (hb hby d6_12) _ ?_
    exact k
  obtain ⟨fs, hr, hrun, hended, hW, hsame⟩ := X3.leave (v := some (.int e0_w_numbers_r0)) (fun h => by rw [Bd.returns] at h; cases h)
  refine ⟨_, _, pre5 _ ?_, hrun, hended, _, _, rfl, ?_, ⟨_, rfl⟩, hW, hsame.mono (by decide) (by decide)⟩
  · show Steps p.tables e below (T3.setTop (mkF m 13 #[.val (.ref r0), .val (.int (0 : Int32))] [(.int e0_w_numbers_r0)])) _
    exact retI X3 hx Bd.returns (hb hby d6_13) hr
  · show Q6a Z r0 w_numbers_r0 e0_w_numbers_r0 e1_w_numbers_r0 k_w_numbers_r0 h0 n0 _ T3.heap _
    rw [e3]
    exact ⟨rfl, N3, rfl⟩
def Q8b (Z : State)  (h0 : Heap) (n0 : Nat) (v : Option Value) (h : Heap) (L : List Loc) : Prop := v = some (.int (1 : Int32)) ∧ Fr n0 L ∧ h = h0
theorem ef_8b (m : MethodId)  : entryFrame m #[(.int (1 : Int32)), (.int (2 : Int32)), .null] 3 = mkF m 0 #[.val (.int (1 : Int32)), .val (.int (2 : Int32)), .val .null] [] := by first | (simp [entryFrame, mkF, argsToLocals, Value.category]; done) | rfl
set_option maxRecDepth 65536 in
set_option maxHeartbeats 40000000 in
theorem rm8b (l : Launch) (Z : State) (a0 : Array Value) (hw : ∀ d ∈ tables_1, d.before a0 Z = true) (ws : List Jvm.Cond)  (h0 : Heap) (n0 : Nat) (Z0 : n0 ≤ h0.size) :
    MetFree l (⟨"jdk/internal/util/Preconditions", "checkIndex", "(IILjava/util/function/BiFunction;)I"⟩ : MethodName) (head1 (Jvm.Cond.code (⟨"jdk/internal/util/Preconditions", "checkIndex", "(IILjava/util/function/BiFunction;)I"⟩ : MethodName) jdk_41_method_11_code 3 (some .int) :: ws) ({ frames := 0, cells := 0, slots := 0, locals := 0 } : Room)) (fun a U => a = #[(.int (1 : Int32)), (.int (2 : Int32)), .null] ∧ Z.Warmed39 U.vm ∧ U.heap = h0) (fun _ _ _ _ _ => True) (fun _ U o U' => ∃ v L, o = .returned v ∧ Q8b Z  h0 n0 v U'.heap L ∧ FrameEnd U o U' L ({ frames := 0, cells := 0, slots := 0, locals := 0 } : Room).cells ({ frames := 0, cells := 0, slots := 0, locals := 0 } : Room).slots) := by
  refine MetFree.of_bodySF (plainFor_of_name pn_1) hisR ?_
  intro p e s m args below meth c s₁ Bd hml0 hP hK
  obtain ⟨rfl, hZ, hh⟩ := hP
  have hx := Bd.exec
  have hby := Bd.bytes
  have hml : c.maxLocals = 3 := hml0
  have hown : s.vm.findClass "jdk/internal/util/Preconditions" = some m.cls := findClass_of_methodNamed Bd.named
  have hnm := (name_of_methodNamed Bd.named Bd.method).1
  have X0 : Stand p l e ({ frames := 0, cells := 0, slots := 0, locals := 0 } : Room) s m #[(.int (1 : Int32)), (.int (2 : Int32)), .null] below meth c s₁ [] 0 0 := Stand.of_body Bd
  have e0 : s₁.heap = h0 := by rw [← hh, Bd.state]; rfl
  have N0 := Fr.nil n0
  have pre0 : ∀ t, Steps p.tables e below (s₁.setTop (mkF m 0 #[.val (.int (1 : Int32)), .val (.int (2 : Int32)), .val .null] [])) t → Steps p.tables e below (s₁.setTop (entryFrame m #[(.int (1 : Int32)), (.int (2 : Int32)), .null] 3)) t := fun t k => castTop (ef_8b m ) k
  have pre1 : ∀ t, Steps p.tables e below (s₁.setTop (mkF m 17 #[.val (.int (1 : Int32)), .val (.int (2 : Int32)), .val .null] [(.int (1 : Int32))])) t → Steps p.tables e below (s₁.setTop (entryFrame m #[(.int (1 : Int32)), (.int (2 : Int32)), .null] 3)) t := by
    intro t k
    refine pre0 _ ?_
    show Steps p.tables e below (s₁.setTop (mkF m 0 #[.val (.int (1 : Int32)), .val (.int (2 : Int32)), .val .null] [])) _
    refine XS.iloadN X0.here hx rfl (hb hby d8_0) rfl ?_
    show Steps p.tables e below (s₁.setTop (mkF m 1 #[.val (.int (1 : Int32)), .val (.int (2 : Int32)), .val .null] [(.int (1 : Int32))])) _
    refine XS.ifNo X0.here hx rfl (hb hby d8_1) rfl ((if0 _ _).trans (flt (by decide : ¬ ((1 : Int32) < (0 : Int32)))).1) ?_
    show Steps p.tables e below (s₁.setTop (mkF m 4 #[.val (.int (1 : Int32)), .val (.int (2 : Int32)), .val .null] [])) _
    refine XS.iloadN X0.here hx rfl (hb hby d8_4) rfl ?_
    show Steps p.tables e below (s₁.setTop (mkF m 5 #[.val (.int (1 : Int32)), .val (.int (2 : Int32)), .val .null] [(.int (1 : Int32))])) _
    refine XS.iloadN X0.here hx rfl (hb hby d8_5) rfl ?_
    show Steps p.tables e below (s₁.setTop (mkF m 6 #[.val (.int (1 : Int32)), .val (.int (2 : Int32)), .val .null] [(.int (2 : Int32)), (.int (1 : Int32))])) _
    refine XS.icmpYes X0.here hx rfl (pc0 := 6) (pc' := 16) rfl (hb hby d8_6) rfl (tlt (by decide : (1 : Int32) < (2 : Int32))).1 (by decide) (by decide) ?_
    show Steps p.tables e below (s₁.setTop (mkF m 16 #[.val (.int (1 : Int32)), .val (.int (2 : Int32)), .val .null] [])) _
    refine XS.iloadN X0.here hx rfl (hb hby d8_16) rfl ?_
    exact k
  obtain ⟨fs, hr, hrun, hended, hW, hsame⟩ := X0.leave (v := some (.int (1 : Int32))) (fun h => by rw [Bd.returns] at h; cases h)
  refine ⟨_, _, pre1 _ ?_, hrun, hended, _, _, rfl, ?_, ⟨_, rfl⟩, hW, hsame.mono (by decide) (by decide)⟩
  · show Steps p.tables e below (s₁.setTop (mkF m 17 #[.val (.int (1 : Int32)), .val (.int (2 : Int32)), .val .null] [(.int (1 : Int32))])) _
    exact retI X0 hx Bd.returns (hb hby d8_17) hr
  · show Q8b Z  h0 n0 _ s₁.heap _
    rw [e0]
    exact ⟨rfl, N0, rfl⟩
def Q7b (Z : State)  (h0 : Heap) (n0 : Nat) (v : Option Value) (h : Heap) (L : List Loc) : Prop := v = some (.int (1 : Int32)) ∧ Fr n0 L ∧ h = h0
theorem ef_7b (m : MethodId)  : entryFrame m #[(.int (1 : Int32)), (.int (2 : Int32))] 2 = mkF m 0 #[.val (.int (1 : Int32)), .val (.int (2 : Int32))] [] := by first | (simp [entryFrame, mkF, argsToLocals, Value.category]; done) | rfl
set_option maxRecDepth 65536 in
set_option maxHeartbeats 40000000 in
theorem rm7b (l : Launch) (Z : State) (a0 : Array Value) (hw : ∀ d ∈ tables_1, d.before a0 Z = true) (ws : List Jvm.Cond)  (h0 : Heap) (n0 : Nat) (Z0 : n0 ≤ h0.size) :
    MetFree l (⟨"java/util/Objects", "checkIndex", "(II)I"⟩ : MethodName) (head1 (Jvm.Cond.code (⟨"java/util/Objects", "checkIndex", "(II)I"⟩ : MethodName) jdk_31_method_17_code 2 (some .int) :: ws) ({ frames := 1, cells := 0, slots := 0, locals := 14 } : Room)) (fun a U => a = #[(.int (1 : Int32)), (.int (2 : Int32))] ∧ Z.Warmed39 U.vm ∧ U.heap = h0) (fun _ _ _ _ _ => True) (fun _ U o U' => ∃ v L, o = .returned v ∧ Q7b Z  h0 n0 v U'.heap L ∧ FrameEnd U o U' L ({ frames := 1, cells := 0, slots := 0, locals := 14 } : Room).cells ({ frames := 1, cells := 0, slots := 0, locals := 14 } : Room).slots) := by
  refine MetFree.of_bodySF (plainFor_of_name pn_2) hisR ?_
  intro p e s m args below meth c s₁ Bd hml0 hP hK
  obtain ⟨rfl, hZ, hh⟩ := hP
  have hx := Bd.exec
  have hby := Bd.bytes
  have hml : c.maxLocals = 2 := hml0
  have hown : s.vm.findClass "java/util/Objects" = some m.cls := findClass_of_methodNamed Bd.named
  have hnm := (name_of_methodNamed Bd.named Bd.method).1
  have X0 : Stand p l e ({ frames := 1, cells := 0, slots := 0, locals := 14 } : Room) s m #[(.int (1 : Int32)), (.int (2 : Int32))] below meth c s₁ [] 0 0 := Stand.of_body Bd
  have e0 : s₁.heap = h0 := by rw [← hh, Bd.state]; rfl
  have N0 := Fr.nil n0
  have pre0 : ∀ t, Steps p.tables e below (s₁.setTop (mkF m 0 #[.val (.int (1 : Int32)), .val (.int (2 : Int32))] [])) t → Steps p.tables e below (s₁.setTop (entryFrame m #[(.int (1 : Int32)), (.int (2 : Int32))] 2)) t := fun t k => castTop (ef_7b m ) k
  obtain ⟨_, _, ⟨T1, L1, k1, n1⟩, -, X1, ⟨Lc1, hQ1, l1, y1, z1⟩, st1⟩ := Jvm.LawKit.callS X0 hx (y := (⟨"jdk/internal/util/Preconditions", "checkIndex", "(IILjava/util/function/BiFunction;)I"⟩ : MethodName)) hown (mvT hZ (hw _ (List.mem_of_getElem? (i := 39) rfl))) (mvT hZ (hw _ (List.mem_of_getElem? (i := 40) rfl))) (mvT hZ (hw _ (List.mem_of_getElem? (i := 41) rfl))) (mvT hZ (hw _ (List.mem_of_getElem? (i := 42) rfl))) (by decide) (backOf (W := 0) (rm8b l Z a0 hw []  h0 n0 (Nat.le_trans Z0 (Keep.refl h0 []).1) ) hZ (hw _ (List.mem_of_getElem? (i := 42) rfl)) (hw _ (List.mem_of_getElem? (i := 41) rfl)) (by decide) (by decide)) (g := (mkF m 3 #[.val (.int (1 : Int32)), .val (.int (2 : Int32))] [.null, (.int (2 : Int32)), (.int (1 : Int32))])) rfl (by rw [hml]; rfl) (argsL := [(.int (1 : Int32)), (.int (2 : Int32)), .null]) (rest := []) (lenOf pd_3 rfl) rfl (by show 2 * 0 + _ ≤ _; exact Nat.le_of_eq rfl) (hb hby d7_3) (fun _ _ => ⟨rfl, e0, (by decide : 0 + 0 ≤ _), (by decide : 0 + 0 ≤ _)⟩)
  dsimp only [Pt.U, Pt.locs, Pt.cells, Pt.slots] at X1 l1 y1 z1 st1 hQ1
  subst l1 y1 z1
  obtain ⟨rfl, Nq1, e1⟩ := hQ1
  have N1 := Fr.app N0 Nq1
  have pre2 : ∀ t, Steps p.tables e below (T1.setTop (mkF m 6 #[.val (.int (1 : Int32)), .val (.int (2 : Int32))] [(.int (1 : Int32))])) t → Steps p.tables e below (s₁.setTop (entryFrame m #[(.int (1 : Int32)), (.int (2 : Int32))] 2)) t := by
    intro t k
    refine pre0 _ ?_
    show Steps p.tables e below (s₁.setTop (mkF m 0 #[.val (.int (1 : Int32)), .val (.int (2 : Int32))] [])) _
    refine XS.iloadN X0.here hx rfl (hb hby d7_0) rfl ?_
    show Steps p.tables e below (s₁.setTop (mkF m 1 #[.val (.int (1 : Int32)), .val (.int (2 : Int32))] [(.int (1 : Int32))])) _
    refine XS.iloadN X0.here hx rfl (hb hby d7_1) rfl ?_
    show Steps p.tables e below (s₁.setTop (mkF m 2 #[.val (.int (1 : Int32)), .val (.int (2 : Int32))] [(.int (2 : Int32)), (.int (1 : Int32))])) _
    refine XS.aconstNull X0.here hx rfl (hb hby d7_2) ?_
    show Steps p.tables e below (s₁.setTop (mkF m 3 #[.val (.int (1 : Int32)), .val (.int (2 : Int32))] [.null, (.int (2 : Int32)), (.int (1 : Int32))])) _
    refine st1 _ ?_
    exact k
  obtain ⟨fs, hr, hrun, hended, hW, hsame⟩ := X1.leave (v := some (.int (1 : Int32))) (fun h => by rw [Bd.returns] at h; cases h)
  refine ⟨_, _, pre2 _ ?_, hrun, hended, _, _, rfl, ?_, ⟨_, rfl⟩, hW, hsame.mono (by decide) (by decide)⟩
  · show Steps p.tables e below (T1.setTop (mkF m 6 #[.val (.int (1 : Int32)), .val (.int (2 : Int32))] [(.int (1 : Int32))])) _
    exact retI X1 hx Bd.returns (hb hby d7_6) hr
  · show Q7b Z  h0 n0 _ T1.heap _
    rw [e1]
    exact ⟨rfl, N1, rfl⟩
def Q6b (Z : State) (r0 : Addr) (w_numbers_r0 : Addr) (e0_w_numbers_r0 : Int32) (e1_w_numbers_r0 : Int32) (k_w_numbers_r0 : ClassId) (h0 : Heap) (n0 : Nat) (v : Option Value) (h : Heap) (L : List Loc) : Prop := v = some (.int e1_w_numbers_r0) ∧ Fr n0 L ∧ h = h0
theorem ef_6b (m : MethodId) (x0 : Addr) : entryFrame m #[(.ref x0), (.int (1 : Int32))] 2 = mkF m 0 #[.val (.ref x0), .val (.int (1 : Int32))] [] := by first | (simp [entryFrame, mkF, argsToLocals, Value.category]; done) | rfl
set_option maxRecDepth 65536 in
set_option maxHeartbeats 40000000 in
theorem rm6b (l : Launch) (Z : State) (a0 : Array Value) (hw : ∀ d ∈ tables_1, d.before a0 Z = true) (ws : List Jvm.Cond) (r0 : Addr) (w_numbers_r0 : Addr) (e0_w_numbers_r0 : Int32) (e1_w_numbers_r0 : Int32) (k_w_numbers_r0 : ClassId) (h0 : Heap) (n0 : Nat) (Z0 : n0 ≤ h0.size) (F_numbers_r0 : Fld Z h0 r0 "com/example/baum/baum/query/NodeList$Builder" "numbers" "[I" (.ref w_numbers_r0)) (F_size_r0 : Fld Z h0 r0 "com/example/baum/baum/query/NodeList$Builder" "size" "I" (.int (2 : Int32))) (V_w_numbers_r0 : Arv Z h0 w_numbers_r0 k_w_numbers_r0 .int (16 : Int32) [(.int e0_w_numbers_r0), (.int e1_w_numbers_r0), (.int (0 : Int32)), (.int (0 : Int32)), (.int (0 : Int32)), (.int (0 : Int32)), (.int (0 : Int32)), (.int (0 : Int32)), (.int (0 : Int32)), (.int (0 : Int32)), (.int (0 : Int32)), (.int (0 : Int32)), (.int (0 : Int32)), (.int (0 : Int32)), (.int (0 : Int32)), (.int (0 : Int32))] (.int (0 : Int32))) :
    MetFree l (⟨"com/example/baum/baum/query/NodeList$Builder", "get", "(I)I"⟩ : MethodName) (head1 (Jvm.Cond.code (⟨"com/example/baum/baum/query/NodeList$Builder", "get", "(I)I"⟩ : MethodName) prog_99_method_6_code 2 (some .int) :: ws) ({ frames := 2, cells := 0, slots := 0, locals := 28 } : Room)) (fun a U => a = #[(.ref r0), (.int (1 : Int32))] ∧ Z.Warmed39 U.vm ∧ U.heap = h0) (fun _ _ _ _ _ => True) (fun _ U o U' => ∃ v L, o = .returned v ∧ Q6b Z r0 w_numbers_r0 e0_w_numbers_r0 e1_w_numbers_r0 k_w_numbers_r0 h0 n0 v U'.heap L ∧ FrameEnd U o U' L ({ frames := 2, cells := 0, slots := 0, locals := 28 } : Room).cells ({ frames := 2, cells := 0, slots := 0, locals := 28 } : Room).slots) := by
  refine MetFree.of_bodySF (plainFor_of_name pn_0) hisR ?_
  intro p e s m args below meth c s₁ Bd hml0 hP hK
  obtain ⟨rfl, hZ, hh⟩ := hP
  have hx := Bd.exec
  have hby := Bd.bytes
  have hml : c.maxLocals = 2 := hml0
  have hown : s.vm.findClass "com/example/baum/baum/query/NodeList$Builder" = some m.cls := findClass_of_methodNamed Bd.named
  have hnm := (name_of_methodNamed Bd.named Bd.method).1
  have X0 : Stand p l e ({ frames := 2, cells := 0, slots := 0, locals := 28 } : Room) s m #[(.ref r0), (.int (1 : Int32))] below meth c s₁ [] 0 0 := Stand.of_body Bd
  have e0 : s₁.heap = h0 := by rw [← hh, Bd.state]; rfl
  have N0 := Fr.nil n0
  have pre0 : ∀ t, Steps p.tables e below (s₁.setTop (mkF m 0 #[.val (.ref r0), .val (.int (1 : Int32))] [])) t → Steps p.tables e below (s₁.setTop (entryFrame m #[(.ref r0), (.int (1 : Int32))] 2)) t := fun t k => castTop (ef_6b m r0) k
  obtain ⟨T1, X1, e1, st1⟩ := getF X0 hx hZ hown (host := "") (Or.inl (hw _ (List.mem_of_getElem? (i := 11) rfl))) Via.refl e0 F_numbers_r0 (g := (mkF m 1 #[.val (.ref r0), .val (.int (1 : Int32))] [(.ref r0)])) rfl rfl (hb hby d6_1)
  obtain ⟨T2, X2, e2, st2⟩ := getF X1 hx hZ hown (host := "") (Or.inl (hw _ (List.mem_of_getElem? (i := 18) rfl))) Via.refl e1 F_size_r0 (g := (mkF m 6 #[.val (.ref r0), .val (.int (1 : Int32))] [(.ref r0), (.int (1 : Int32)), (.ref w_numbers_r0)])) rfl rfl (hb hby d6_6)
  obtain ⟨_, _, ⟨T3, L3, k3, n3⟩, -, X3, ⟨Lc3, hQ3, l3, y3, z3⟩, st3⟩ := Jvm.LawKit.callS X2 hx (y := (⟨"java/util/Objects", "checkIndex", "(II)I"⟩ : MethodName)) hown (mvT hZ (hw _ (List.mem_of_getElem? (i := 35) rfl))) (mvT hZ (hw _ (List.mem_of_getElem? (i := 36) rfl))) (mvT hZ (hw _ (List.mem_of_getElem? (i := 37) rfl))) (mvT hZ (hw _ (List.mem_of_getElem? (i := 38) rfl))) (by decide) (backOf (W := 1) (rm7b l Z a0 hw []  h0 n0 (Nat.le_trans Z0 (Keep.refl h0 []).1) ) hZ (hw _ (List.mem_of_getElem? (i := 38) rfl)) (hw _ (List.mem_of_getElem? (i := 37) rfl)) (by decide) (by decide)) (g := (mkF m 9 #[.val (.ref r0), .val (.int (1 : Int32))] [(.int (2 : Int32)), (.int (1 : Int32)), (.ref w_numbers_r0)])) rfl (by rw [hml]; rfl) (argsL := [(.int (1 : Int32)), (.int (2 : Int32))]) (rest := [(.ref w_numbers_r0)]) (lenOf pd_4 rfl) rfl (by show 2 * 0 + _ ≤ _; exact Nat.le_of_eq rfl) (hb hby d6_9) (fun _ _ => ⟨rfl, e2, (by decide : 0 + 0 ≤ _), (by decide : 0 + 0 ≤ _)⟩)
  dsimp only [Pt.U, Pt.locs, Pt.cells, Pt.slots] at X3 l3 y3 z3 st3 hQ3
  subst l3 y3 z3
  obtain ⟨rfl, Nq3, e3⟩ := hQ3
  have N3 := Fr.app N0 Nq3
  obtain ⟨cl4, Ar4, Cq4, Sz4, Nn4, Hh4, Gg4⟩ := id V_w_numbers_r0
  have hin4 : ¬ ((1 : Int32) < 0 ∨ cl4.slots.size ≤ ((1 : Int32)).toNatClampNeg) := inb_of Sz4 ⟨by decide, by decide⟩
  have hat4 : cl4.slots[((1 : Int32)).toNatClampNeg]? = some (.int e1_w_numbers_r0) := Hh4.at hin4 rfl
  have pre5 : ∀ t, Steps p.tables e below (T3.setTop (mkF m 13 #[.val (.ref r0), .val (.int (1 : Int32))] [(.int e1_w_numbers_r0)])) t → Steps p.tables e below (s₁.setTop (entryFrame m #[(.ref r0), (.int (1 : Int32))] 2)) t := by
    intro t k
    refine pre0 _ ?_
    show Steps p.tables e below (s₁.setTop (mkF m 0 #[.val (.ref r0), .val (.int (1 : Int32))] [])) _
    refine XS.aloadN X0.here hx rfl (hb hby d6_0) rfl rfl ?_
    show Steps p.tables e below (s₁.setTop (mkF m 1 #[.val (.ref r0), .val (.int (1 : Int32))] [(.ref r0)])) _
    refine st1 _ ?_
    show Steps p.tables e below (T1.setTop (mkF m 4 #[.val (.ref r0), .val (.int (1 : Int32))] [(.ref w_numbers_r0)])) _
    refine XS.iloadN X1.here hx rfl (hb hby d6_4) rfl ?_
    show Steps p.tables e below (T1.setTop (mkF m 5 #[.val (.ref r0), .val (.int (1 : Int32))] [(.int (1 : Int32)), (.ref w_numbers_r0)])) _
    refine XS.aloadN X1.here hx rfl (hb hby d6_5) rfl rfl ?_
    show Steps p.tables e below (T1.setTop (mkF m 6 #[.val (.ref r0), .val (.int (1 : Int32))] [(.ref r0), (.int (1 : Int32)), (.ref w_numbers_r0)])) _
    refine st2 _ ?_
    show Steps p.tables e below (T2.setTop (mkF m 9 #[.val (.ref r0), .val (.int (1 : Int32))] [(.int (2 : Int32)), (.int (1 : Int32)), (.ref w_numbers_r0)])) _
    refine st3 _ ?_
    show Steps p.tables e below (T3.setTop (mkF m 12 #[.val (.ref r0), .val (.int (1 : Int32))] [(.int (1 : Int32)), (.ref w_numbers_r0)])) _
    refine X3.iaload hx (j := (1 : Int32)) (v := (.int e1_w_numbers_r0)) (by rw [e3]; exact Ar4.1) (State.isArrayOf_alike hZ.alike Ar4.2.1) Ar4.2.2 hin4 hat4 (g := (mkF m 12 #[.val (.ref r0), .val (.int (1 : Int32))] [(.int (1 : Int32)), (.ref w_numbers_r0)])) rfl rfl (hb hby d6_12) _ ?_
    exact k
  obtain ⟨fs, hr, hrun, hended, hW, hsame⟩ := X3.leave (v := some (.int e1_w_numbers_r0)) (fun h => by rw [Bd.returns] at h; cases h)
  refine ⟨_, _, pre5 _ ?_, hrun, hended, _, _, rfl, ?_, ⟨_, rfl⟩, hW, hsame.mono (by decide) (by decide)⟩
  · show Steps p.tables e below (T3.setTop (mkF m 13 #[.val (.ref r0), .val (.int (1 : Int32))] [(.int e1_w_numbers_r0)])) _
    exact retI X3 hx Bd.returns (hb hby d6_13) hr
  · show Q6b Z r0 w_numbers_r0 e0_w_numbers_r0 e1_w_numbers_r0 k_w_numbers_r0 h0 n0 _ T3.heap _
    rw [e3]
    exact ⟨rfl, N3, rfl⟩
def Q5b (Z : State) (r0 : Addr) (i1 : Int32) (w_numbers_r0 : Addr) (e0_w_numbers_r0 : Int32) (e1_w_numbers_r0 : Int32) (k_w_numbers_r0 : ClassId) (h0 : Heap) (n0 : Nat) (v : Option Value) (h : Heap) (L : List Loc) : Prop := v = none ∧ Fr n0 L ∧ Keep h0 h [r0, w_numbers_r0] ∧ Fld Z h r0 "com/example/baum/baum/query/NodeList$Builder" "size" "I" (.int (3 : Int32)) ∧ Fld Z h r0 "com/example/baum/baum/query/NodeList$Builder" "numbers" "[I" (.ref w_numbers_r0) ∧ Arv Z h w_numbers_r0 k_w_numbers_r0 .int (16 : Int32) [(.int e0_w_numbers_r0), (.int e1_w_numbers_r0), (.int i1), (.int (0 : Int32)), (.int (0 : Int32)), (.int (0 : Int32)), (.int (0 : Int32)), (.int (0 : Int32)), (.int (0 : Int32)), (.int (0 : Int32)), (.int (0 : Int32)), (.int (0 : Int32)), (.int (0 : Int32)), (.int (0 : Int32)), (.int (0 : Int32)), (.int (0 : Int32))] (.int (0 : Int32)) ∧ Exa Z h r0 "com/example/baum/baum/query/NodeList$Builder"
theorem ef_5b (m : MethodId) (x0 : Addr) (x1 : Int32) : entryFrame m #[(.ref x0), (.int x1)] 2 = mkF m 0 #[.val (.ref x0), .val (.int x1)] [] := by first | (simp [entryFrame, mkF, argsToLocals, Value.category]; done) | rfl
set_option maxRecDepth 65536 in
set_option maxHeartbeats 40000000 in
theorem rm5b (l : Launch) (Z : State) (a0 : Array Value) (hw : ∀ d ∈ tables_1, d.before a0 Z = true) (ws : List Jvm.Cond) (r0 : Addr) (i1 : Int32) (w_numbers_r0 : Addr) (e0_w_numbers_r0 : Int32) (e1_w_numbers_r0 : Int32) (k_w_numbers_r0 : ClassId) (h0 : Heap) (n0 : Nat) (Z0 : n0 ≤ h0.size) (F_size_r0 : Fld Z h0 r0 "com/example/baum/baum/query/NodeList$Builder" "size" "I" (.int (2 : Int32))) (F_numbers_r0 : Fld Z h0 r0 "com/example/baum/baum/query/NodeList$Builder" "numbers" "[I" (.ref w_numbers_r0)) (V_w_numbers_r0 : Arv Z h0 w_numbers_r0 k_w_numbers_r0 .int (16 : Int32) [(.int e0_w_numbers_r0), (.int e1_w_numbers_r0), (.int (0 : Int32)), (.int (0 : Int32)), (.int (0 : Int32)), (.int (0 : Int32)), (.int (0 : Int32)), (.int (0 : Int32)), (.int (0 : Int32)), (.int (0 : Int32)), (.int (0 : Int32)), (.int (0 : Int32)), (.int (0 : Int32)), (.int (0 : Int32)), (.int (0 : Int32)), (.int (0 : Int32))] (.int (0 : Int32))) (E_r0 : Exa Z h0 r0 "com/example/baum/baum/query/NodeList$Builder") (g_r0 : n0 ≤ r0) (ne_w_numbers_r0_r0 : w_numbers_r0 ≠ r0) (g_w_numbers_r0 : n0 ≤ w_numbers_r0) :
    MetFree l (⟨"com/example/baum/baum/query/NodeList$Builder", "add", "(I)V"⟩ : MethodName) (head1 (Jvm.Cond.code (⟨"com/example/baum/baum/query/NodeList$Builder", "add", "(I)V"⟩ : MethodName) prog_99_method_4_code 2 none :: ws) ({ frames := 0, cells := 0, slots := 0, locals := 0 } : Room)) (fun a U => a = #[(.ref r0), (.int i1)] ∧ Z.Warmed39 U.vm ∧ U.heap = h0) (fun _ _ _ _ _ => True) (fun _ U o U' => ∃ v L, o = .returned v ∧ Q5b Z r0 i1 w_numbers_r0 e0_w_numbers_r0 e1_w_numbers_r0 k_w_numbers_r0 h0 n0 v U'.heap L ∧ FrameEnd U o U' L ({ frames := 0, cells := 0, slots := 0, locals := 0 } : Room).cells ({ frames := 0, cells := 0, slots := 0, locals := 0 } : Room).slots) := by
  refine MetFree.of_bodySF (plainFor_of_name pn_0) hisR ?_
  intro p e s m args below meth c s₁ Bd hml0 hP hK
  obtain ⟨rfl, hZ, hh⟩ := hP
  have hx := Bd.exec
  have hby := Bd.bytes
  have hml : c.maxLocals = 2 := hml0
  have hown : s.vm.findClass "com/example/baum/baum/query/NodeList$Builder" = some m.cls := findClass_of_methodNamed Bd.named
  have hnm := (name_of_methodNamed Bd.named Bd.method).1
  have X0 : Stand p l e ({ frames := 0, cells := 0, slots := 0, locals := 0 } : Room) s m #[(.ref r0), (.int i1)] below meth c s₁ [] 0 0 := Stand.of_body Bd
  have e0 : s₁.heap = h0 := by rw [← hh, Bd.state]; rfl
  have N0 := Fr.nil n0
  have pre0 : ∀ t, Steps p.tables e below (s₁.setTop (mkF m 0 #[.val (.ref r0), .val (.int i1)] [])) t → Steps p.tables e below (s₁.setTop (entryFrame m #[(.ref r0), (.int i1)] 2)) t := fun t k => castTop (ef_5b m r0 i1) k
  obtain ⟨T1, X1, e1, st1⟩ := getF X0 hx hZ hown (host := "") (Or.inl (hw _ (List.mem_of_getElem? (i := 18) rfl))) Via.refl e0 F_size_r0 (g := (mkF m 1 #[.val (.ref r0), .val (.int i1)] [(.ref r0)])) rfl rfl (hb hby d5_1)
  obtain ⟨T2, X2, e2, st2⟩ := getF X1 hx hZ hown (host := "") (Or.inl (hw _ (List.mem_of_getElem? (i := 11) rfl))) Via.refl e1 F_numbers_r0 (g := (mkF m 5 #[.val (.ref r0), .val (.int i1)] [(.ref r0), (.int (2 : Int32))])) rfl rfl (hb hby d5_5)
  obtain ⟨cl3, Ar3, -, Sz3, Nn3, -, -⟩ := id V_w_numbers_r0
  obtain ⟨T4, X4, e4, st4⟩ := getF X2 hx hZ hown (host := "") (Or.inl (hw _ (List.mem_of_getElem? (i := 11) rfl))) Via.refl e2 F_numbers_r0 (g := (mkF m 30 #[.val (.ref r0), .val (.int i1)] [(.ref r0)])) rfl rfl (hb hby d5_30)
  obtain ⟨T5, X5, e5, st5⟩ := getF X4 hx hZ hown (host := "") (Or.inl (hw _ (List.mem_of_getElem? (i := 18) rfl))) Via.refl e4 F_size_r0 (g := (mkF m 35 #[.val (.ref r0), .val (.int i1)] [(.ref r0), (.ref r0), (.ref w_numbers_r0)])) rfl rfl (hb hby d5_35)
  obtain ⟨T6, h6, X6, e6, W6, st6⟩ := putF X5 hx hZ hown (host := "") (Or.inl (hw _ (List.mem_of_getElem? (i := 18) rfl))) Via.refl e5 F_size_r0 E_r0 (Or.inl (hw _ (List.mem_of_getElem? (i := 19) rfl))) (hw _ (List.mem_of_getElem? (i := 2) rfl)) (ty := .int) (by decide) rfl rfl (g := (mkF m 41 #[.val (.ref r0), .val (.int i1)] [(.int (3 : Int32)), (.ref r0), (.int (2 : Int32)), (.ref w_numbers_r0)])) rfl rfl (hb hby d5_41)
  have N6 := Fr.snoc X6 N0 g_r0
  have K7 : Keep h0 h6 [r0, w_numbers_r0] := (Keep.refl h0 [r0, w_numbers_r0]).wr W6 (Or.inl (List.mem_of_getElem? (i := 0) rfl))
  have F6 := F_size_r0.same W6
  have f8 := (V_w_numbers_r0.other W6 ne_w_numbers_r0_r0)
  obtain ⟨cl9, Ar9, Cq9, Sz9, Nn9, Hh9, Gg9⟩ := id f8
  have hin9 : ¬ ((2 : Int32) < 0 ∨ cl9.slots.size ≤ ((2 : Int32)).toNatClampNeg) := inb_of Sz9 ⟨by decide, by decide⟩
  obtain ⟨T9, h9, X9, e9, W9, st9⟩ := stI X6 hx hZ e6 Ar9 (j := (2 : Int32)) hin9 (g := (mkF m 45 #[.val (.ref r0), .val (.int i1)] [(.int i1), (.int (2 : Int32)), (.ref w_numbers_r0)])) rfl rfl (hb hby d5_45)
  have V9 : Arv Z h9 w_numbers_r0 k_w_numbers_r0 .int (16 : Int32) [(.int e0_w_numbers_r0), (.int e1_w_numbers_r0), (.int i1), (.int (0 : Int32)), (.int (0 : Int32)), (.int (0 : Int32)), (.int (0 : Int32)), (.int (0 : Int32)), (.int (0 : Int32)), (.int (0 : Int32)), (.int (0 : Int32)), (.int (0 : Int32)), (.int (0 : Int32)), (.int (0 : Int32)), (.int (0 : Int32)), (.int (0 : Int32))] (.int (0 : Int32)) := Arv.set Ar9 Cq9 Sz9 Nn9 Hh9 Gg9 rfl W9 2 rfl (Nat.le_of_ble_eq_true rfl)
  have N9 := Fr.snoc X9 N6 g_w_numbers_r0
  have K10 : Keep h0 h9 [r0, w_numbers_r0] := K7.wr W9 (Or.inl (List.mem_of_getElem? (i := 1) rfl))
  have pre11 : ∀ t, Steps p.tables e below (T9.setTop (mkF m 46 #[.val (.ref r0), .val (.int i1)] [])) t → Steps p.tables e below (s₁.setTop (entryFrame m #[(.ref r0), (.int i1)] 2)) t := by
    intro t k
    refine pre0 _ ?_
    show Steps p.tables e below (s₁.setTop (mkF m 0 #[.val (.ref r0), .val (.int i1)] [])) _
    refine XS.aloadN X0.here hx rfl (hb hby d5_0) rfl rfl ?_
    show Steps p.tables e below (s₁.setTop (mkF m 1 #[.val (.ref r0), .val (.int i1)] [(.ref r0)])) _
    refine st1 _ ?_
    show Steps p.tables e below (T1.setTop (mkF m 4 #[.val (.ref r0), .val (.int i1)] [(.int (2 : Int32))])) _
    refine XS.aloadN X1.here hx rfl (hb hby d5_4) rfl rfl ?_
    show Steps p.tables e below (T1.setTop (mkF m 5 #[.val (.ref r0), .val (.int i1)] [(.ref r0), (.int (2 : Int32))])) _
    refine st2 _ ?_
    show Steps p.tables e below (T2.setTop (mkF m 8 #[.val (.ref r0), .val (.int i1)] [(.ref w_numbers_r0), (.int (2 : Int32))])) _
    refine X2.arraylength hx (by rw [e2]; exact Ar3.1) (State.isArrayOf_alike hZ.alike Ar3.2.1) (g := (mkF m 8 #[.val (.ref r0), .val (.int i1)] [(.ref w_numbers_r0), (.int (2 : Int32))])) rfl rfl (hb hby d5_8) _ ?_
    rw [len_of Sz3 Nn3]
    show Steps p.tables e below (T2.setTop (mkF m 9 #[.val (.ref r0), .val (.int i1)] [(.int (16 : Int32)), (.int (2 : Int32))])) _
    refine XS.icmpYes X2.here hx rfl (pc0 := 9) (pc' := 29) rfl (hb hby d5_9) rfl (feq (by decide : ¬ ((2 : Int32) = (16 : Int32)))).2 (by decide) (by decide) ?_
    show Steps p.tables e below (T2.setTop (mkF m 29 #[.val (.ref r0), .val (.int i1)] [])) _
    refine XS.aloadN X2.here hx rfl (hb hby d5_29) rfl rfl ?_
    show Steps p.tables e below (T2.setTop (mkF m 30 #[.val (.ref r0), .val (.int i1)] [(.ref r0)])) _
    refine st4 _ ?_
    show Steps p.tables e below (T4.setTop (mkF m 33 #[.val (.ref r0), .val (.int i1)] [(.ref w_numbers_r0)])) _
    refine XS.aloadN X4.here hx rfl (hb hby d5_33) rfl rfl ?_
    show Steps p.tables e below (T4.setTop (mkF m 34 #[.val (.ref r0), .val (.int i1)] [(.ref r0), (.ref w_numbers_r0)])) _
    refine XS.dup X4.here hx rfl (hb hby d5_34) rfl rfl ?_
    show Steps p.tables e below (T4.setTop (mkF m 35 #[.val (.ref r0), .val (.int i1)] [(.ref r0), (.ref r0), (.ref w_numbers_r0)])) _
    refine st5 _ ?_
    show Steps p.tables e below (T5.setTop (mkF m 38 #[.val (.ref r0), .val (.int i1)] [(.int (2 : Int32)), (.ref r0), (.ref w_numbers_r0)])) _
    refine XS.dupX1 X5.here hx rfl (hb hby d5_38) rfl rfl rfl ?_
    show Steps p.tables e below (T5.setTop (mkF m 39 #[.val (.ref r0), .val (.int i1)] [(.int (2 : Int32)), (.ref r0), (.int (2 : Int32)), (.ref w_numbers_r0)])) _
    refine XS.iconst X5.here hx rfl (hb hby d5_39) ?_
    show Steps p.tables e below (T5.setTop (mkF m 40 #[.val (.ref r0), .val (.int i1)] [(.int (1 : Int32)), (.int (2 : Int32)), (.ref r0), (.int (2 : Int32)), (.ref w_numbers_r0)])) _
    refine XS.iadd X5.here hx rfl (hb hby d5_40) rfl ?_
    show Steps p.tables e below (T5.setTop (mkF m 41 #[.val (.ref r0), .val (.int i1)] [(.int (3 : Int32)), (.ref r0), (.int (2 : Int32)), (.ref w_numbers_r0)])) _
    refine st6 _ ?_
    show Steps p.tables e below (T6.setTop (mkF m 44 #[.val (.ref r0), .val (.int i1)] [(.int (2 : Int32)), (.ref w_numbers_r0)])) _
    refine XS.iloadN X6.here hx rfl (hb hby d5_44) rfl ?_
    show Steps p.tables e below (T6.setTop (mkF m 45 #[.val (.ref r0), .val (.int i1)] [(.int i1), (.int (2 : Int32)), (.ref w_numbers_r0)])) _
    refine st9 _ ?_
    exact k
  have f12 := (F6.other W9 (Or.inl (Ne.symm ne_w_numbers_r0_r0)))
  have f13 := ((F_numbers_r0.other W6 (Or.inr (slot_ne (Or.inl (hw _ (List.mem_of_getElem? (i := 12) rfl))) (Or.inl (hw _ (List.mem_of_getElem? (i := 19) rfl))) (by decide) (t := (.array .int)) (t' := .int) (by decide) (by decide)))).other W9 (Or.inl (Ne.symm ne_w_numbers_r0_r0)))
  have f14 := ((E_r0.wr W6).wr W9)
  obtain ⟨fs, hr, hrun, hended, hW, hsame⟩ := X9.leave (v := none) (fun _ => rfl)
  refine ⟨_, _, pre11 _ ?_, hrun, hended, _, _, rfl, ?_, ⟨_, rfl⟩, hW, hsame.mono (by decide) (by decide)⟩
  · show Steps p.tables e below (T9.setTop (mkF m 46 #[.val (.ref r0), .val (.int i1)] [])) _
    exact X9.returnOut hx Bd.returns (hb hby d5_46) hr
  · show Q5b Z r0 i1 w_numbers_r0 e0_w_numbers_r0 e1_w_numbers_r0 k_w_numbers_r0 h0 n0 _ T9.heap _
    rw [e9]
    exact ⟨rfl, N9, K10, f12, f13, V9, f14⟩
def own_v3c_w_numbers_r0_0 (i1 : Int32) (e0_w_numbers_r0 : Int32) (e2_w_numbers_r0 : Int32) : Int32 := (if i1 = (0 : Int32) then e2_w_numbers_r0 else (if i1 = (1 : Int32) then e0_w_numbers_r0 else (if i1 = (2 : Int32) then e0_w_numbers_r0 else e0_w_numbers_r0)))
def own_v3c_w_numbers_r0_1 (i1 : Int32) (e1_w_numbers_r0 : Int32) (e2_w_numbers_r0 : Int32) : Int32 := (if i1 = (0 : Int32) then e1_w_numbers_r0 else (if i1 = (1 : Int32) then e2_w_numbers_r0 else (if i1 = (2 : Int32) then e1_w_numbers_r0 else e1_w_numbers_r0)))
def own_v3c_w_numbers_r0_2 (i1 : Int32) (e0_w_numbers_r0 : Int32) (e1_w_numbers_r0 : Int32) (e2_w_numbers_r0 : Int32) : Int32 := (if i1 = (0 : Int32) then e0_w_numbers_r0 else (if i1 = (1 : Int32) then e1_w_numbers_r0 else (if i1 = (2 : Int32) then e2_w_numbers_r0 else e2_w_numbers_r0)))
def Q3c (Z : State) (r0 : Addr) (i1 : Int32) (w_numbers_r0 : Addr) (e0_w_numbers_r0 : Int32) (e1_w_numbers_r0 : Int32) (e2_w_numbers_r0 : Int32) (k_w_numbers_r0 : ClassId) (h0 : Heap) (n0 : Nat) (v : Option Value) (h : Heap) (L : List Loc) : Prop := v = none ∧ Fr n0 L ∧ Keep h0 h [w_numbers_r0] ∧ Arv Z h w_numbers_r0 k_w_numbers_r0 .int (16 : Int32) [(.int (own_v3c_w_numbers_r0_0 i1 e0_w_numbers_r0 e2_w_numbers_r0)), (.int (own_v3c_w_numbers_r0_1 i1 e1_w_numbers_r0 e2_w_numbers_r0)), (.int (own_v3c_w_numbers_r0_2 i1 e0_w_numbers_r0 e1_w_numbers_r0 e2_w_numbers_r0)), (.int (0 : Int32)), (.int (0 : Int32)), (.int (0 : Int32)), (.int (0 : Int32)), (.int (0 : Int32)), (.int (0 : Int32)), (.int (0 : Int32)), (.int (0 : Int32)), (.int (0 : Int32)), (.int (0 : Int32)), (.int (0 : Int32)), (.int (0 : Int32)), (.int (0 : Int32))] (.int (0 : Int32))
theorem ef_3c (m : MethodId) (x0 : Addr) (x1 : Int32) : entryFrame m #[(.ref x0), (.int x1)] 5 = mkF m 0 #[.val (.ref x0), .val (.int x1), .unset, .unset, .unset] [] := by first | (simp [entryFrame, mkF, argsToLocals, Value.category]; done) | rfl
set_option maxRecDepth 65536 in
set_option maxHeartbeats 40000000 in
theorem rm3c (l : Launch) (Z : State) (a0 : Array Value) (hw : ∀ d ∈ tables_1, d.before a0 Z = true) (ws : List Jvm.Cond) (r0 : Addr) (i1 : Int32) (w_numbers_r0 : Addr) (e0_w_numbers_r0 : Int32) (e1_w_numbers_r0 : Int32) (e2_w_numbers_r0 : Int32) (k_w_numbers_r0 : ClassId) (h0 : Heap) (n0 : Nat) (Z0 : n0 ≤ h0.size) (F_size_r0 : Fld Z h0 r0 "com/example/baum/baum/query/NodeList$Builder" "size" "I" (.int (3 : Int32))) (hst : i1 = (0 : Int32) ∨ i1 = (1 : Int32) ∨ i1 = (2 : Int32) ∨ i1 = (3 : Int32)) (F_numbers_r0 : Fld Z h0 r0 "com/example/baum/baum/query/NodeList$Builder" "numbers" "[I" (.ref w_numbers_r0)) (V_w_numbers_r0 : Arv Z h0 w_numbers_r0 k_w_numbers_r0 .int (16 : Int32) [(.int e0_w_numbers_r0), (.int e1_w_numbers_r0), (.int e2_w_numbers_r0), (.int (0 : Int32)), (.int (0 : Int32)), (.int (0 : Int32)), (.int (0 : Int32)), (.int (0 : Int32)), (.int (0 : Int32)), (.int (0 : Int32)), (.int (0 : Int32)), (.int (0 : Int32)), (.int (0 : Int32)), (.int (0 : Int32)), (.int (0 : Int32)), (.int (0 : Int32))] (.int (0 : Int32))) (g_w_numbers_r0 : n0 ≤ w_numbers_r0) (ne_r0_w_numbers_r0 : r0 ≠ w_numbers_r0) :
    MetFree l (⟨"com/example/baum/baum/query/NodeList$Builder", "reverseFrom", "(I)V"⟩ : MethodName) (head1 (Jvm.Cond.code (⟨"com/example/baum/baum/query/NodeList$Builder", "reverseFrom", "(I)V"⟩ : MethodName) prog_99_method_7_code 5 none :: ws) ({ frames := 0, cells := 0, slots := 0, locals := 0 } : Room)) (fun a U => a = #[(.ref r0), (.int i1)] ∧ Z.Warmed39 U.vm ∧ U.heap = h0) (fun _ _ _ _ _ => True) (fun _ U o U' => ∃ v L, o = .returned v ∧ Q3c Z r0 i1 w_numbers_r0 e0_w_numbers_r0 e1_w_numbers_r0 e2_w_numbers_r0 k_w_numbers_r0 h0 n0 v U'.heap L ∧ FrameEnd U o U' L ({ frames := 0, cells := 0, slots := 0, locals := 0 } : Room).cells ({ frames := 0, cells := 0, slots := 0, locals := 0 } : Room).slots) := by
  refine MetFree.of_bodySF (plainFor_of_name pn_0) hisR ?_
  intro p e s m args below meth c s₁ Bd hml0 hP hK
  obtain ⟨rfl, hZ, hh⟩ := hP
  have hx := Bd.exec
  have hby := Bd.bytes
  have hml : c.maxLocals = 5 := hml0
  have hown : s.vm.findClass "com/example/baum/baum/query/NodeList$Builder" = some m.cls := findClass_of_methodNamed Bd.named
  have hnm := (name_of_methodNamed Bd.named Bd.method).1
  have X0 : Stand p l e ({ frames := 0, cells := 0, slots := 0, locals := 0 } : Room) s m #[(.ref r0), (.int i1)] below meth c s₁ [] 0 0 := Stand.of_body Bd
  have e0 : s₁.heap = h0 := by rw [← hh, Bd.state]; rfl
  have N0 := Fr.nil n0
  have pre0 : ∀ t, Steps p.tables e below (s₁.setTop (mkF m 0 #[.val (.ref r0), .val (.int i1), .unset, .unset, .unset] [])) t → Steps p.tables e below (s₁.setTop (entryFrame m #[(.ref r0), (.int i1)] 5)) t := fun t k => castTop (ef_3c m r0 i1) k
  have pre1 : ∀ t, Steps p.tables e below (s₁.setTop (mkF m 2 #[.val (.ref r0), .val (.int i1), .val (.int i1), .unset, .unset] [])) t → Steps p.tables e below (s₁.setTop (entryFrame m #[(.ref r0), (.int i1)] 5)) t := by
    intro t k
    refine pre0 _ ?_
    show Steps p.tables e below (s₁.setTop (mkF m 0 #[.val (.ref r0), .val (.int i1), .unset, .unset, .unset] [])) _
    refine XS.iloadN X0.here hx rfl (hb hby d3_0) rfl ?_
    show Steps p.tables e below (s₁.setTop (mkF m 1 #[.val (.ref r0), .val (.int i1), .unset, .unset, .unset] [(.int i1)])) _
    refine XS.istoreN X0.here hx rfl (hb hby d3_1) rfl (l' := #[.val (.ref r0), .val (.int i1), .val (.int i1), .unset, .unset]) rfl ?_
    exact k
  rcases (hst : i1 = (0 : Int32) ∨ i1 = (1 : Int32) ∨ i1 = (2 : Int32) ∨ i1 = (3 : Int32)) with hk2 | hk2 | hk2 | hk2
  · have pre3 : ∀ t, Steps p.tables e below (s₁.setTop (mkF m 2 #[.val (.ref r0), .val (.int (0 : Int32)), .val (.int (0 : Int32)), .unset, .unset] [])) t → Steps p.tables e below (s₁.setTop (entryFrame m #[(.ref r0), (.int i1)] 5)) t := fun t k => pre1 t (by rw [hk2]; exact k)
    obtain ⟨T4, X4, e4, st4⟩ := getF X0 hx hZ hown (host := "") (Or.inl (hw _ (List.mem_of_getElem? (i := 18) rfl))) Via.refl e0 F_size_r0 (g := (mkF m 3 #[.val (.ref r0), .val (.int (0 : Int32)), .val (.int (0 : Int32)), .unset, .unset] [(.ref r0)])) rfl rfl (hb hby d3_3)
    obtain ⟨T5, X5, e5, st5⟩ := getF X4 hx hZ hown (host := "") (Or.inl (hw _ (List.mem_of_getElem? (i := 11) rfl))) Via.refl e4 F_numbers_r0 (g := (mkF m 15 #[.val (.ref r0), .val (.int (0 : Int32)), .val (.int (0 : Int32)), .val (.int (2 : Int32)), .unset] [(.ref r0)])) rfl rfl (hb hby d3_15)
    obtain ⟨cl6, Ar6, Cq6, Sz6, Nn6, Hh6, Gg6⟩ := id V_w_numbers_r0
    have hin6 : ¬ ((0 : Int32) < 0 ∨ cl6.slots.size ≤ ((0 : Int32)).toNatClampNeg) := inb_of Sz6 ⟨by decide, by decide⟩
    have hat6 : cl6.slots[((0 : Int32)).toNatClampNeg]? = some (.int e0_w_numbers_r0) := Hh6.at hin6 rfl
    obtain ⟨T7, X7, e7, st7⟩ := getF X5 hx hZ hown (host := "") (Or.inl (hw _ (List.mem_of_getElem? (i := 11) rfl))) Via.refl e5 F_numbers_r0 (g := (mkF m 23 #[.val (.ref r0), .val (.int (0 : Int32)), .val (.int (0 : Int32)), .val (.int (2 : Int32)), .val (.int e0_w_numbers_r0)] [(.ref r0)])) rfl rfl (hb hby d3_23)
    obtain ⟨T8, X8, e8, st8⟩ := getF X7 hx hZ hown (host := "") (Or.inl (hw _ (List.mem_of_getElem? (i := 11) rfl))) Via.refl e7 F_numbers_r0 (g := (mkF m 28 #[.val (.ref r0), .val (.int (0 : Int32)), .val (.int (0 : Int32)), .val (.int (2 : Int32)), .val (.int e0_w_numbers_r0)] [(.ref r0), (.int (0 : Int32)), (.ref w_numbers_r0)])) rfl rfl (hb hby d3_28)
    obtain ⟨cl9, Ar9, Cq9, Sz9, Nn9, Hh9, Gg9⟩ := id V_w_numbers_r0
    have hin9 : ¬ ((2 : Int32) < 0 ∨ cl9.slots.size ≤ ((2 : Int32)).toNatClampNeg) := inb_of Sz9 ⟨by decide, by decide⟩
    have hat9 : cl9.slots[((2 : Int32)).toNatClampNeg]? = some (.int e2_w_numbers_r0) := Hh9.at hin9 rfl
    obtain ⟨cl10, Ar10, Cq10, Sz10, Nn10, Hh10, Gg10⟩ := id V_w_numbers_r0
    have hin10 : ¬ ((0 : Int32) < 0 ∨ cl10.slots.size ≤ ((0 : Int32)).toNatClampNeg) := inb_of Sz10 ⟨by decide, by decide⟩
    obtain ⟨T10, h10, X10, e10, W10, st10⟩ := stI X8 hx hZ e8 Ar10 (j := (0 : Int32)) hin10 (g := (mkF m 33 #[.val (.ref r0), .val (.int (0 : Int32)), .val (.int (0 : Int32)), .val (.int (2 : Int32)), .val (.int e0_w_numbers_r0)] [(.int e2_w_numbers_r0), (.int (0 : Int32)), (.ref w_numbers_r0)])) rfl rfl (hb hby d3_33)
    have V10 : Arv Z h10 w_numbers_r0 k_w_numbers_r0 .int (16 : Int32) [(.int e2_w_numbers_r0), (.int e1_w_numbers_r0), (.int e2_w_numbers_r0), (.int (0 : Int32)), (.int (0 : Int32)), (.int (0 : Int32)), (.int (0 : Int32)), (.int (0 : Int32)), (.int (0 : Int32)), (.int (0 : Int32)), (.int (0 : Int32)), (.int (0 : Int32)), (.int (0 : Int32)), (.int (0 : Int32)), (.int (0 : Int32)), (.int (0 : Int32))] (.int (0 : Int32)) := Arv.set Ar10 Cq10 Sz10 Nn10 Hh10 Gg10 rfl W10 0 rfl (Nat.le_of_ble_eq_true rfl)
    have N10 := Fr.snoc X10 N0 g_w_numbers_r0
    have K11 : Keep h0 h10 [w_numbers_r0] := (Keep.refl h0 [w_numbers_r0]).wr W10 (Or.inl (List.mem_of_getElem? (i := 0) rfl))
    have f12 := (F_numbers_r0.other W10 (Or.inl ne_r0_w_numbers_r0))
    obtain ⟨T13, X13, e13, st13⟩ := getF X10 hx hZ hown (host := "") (Or.inl (hw _ (List.mem_of_getElem? (i := 11) rfl))) Via.refl e10 f12 (g := (mkF m 35 #[.val (.ref r0), .val (.int (0 : Int32)), .val (.int (0 : Int32)), .val (.int (2 : Int32)), .val (.int e0_w_numbers_r0)] [(.ref r0)])) rfl rfl (hb hby d3_35)
    obtain ⟨cl14, Ar14, Cq14, Sz14, Nn14, Hh14, Gg14⟩ := id V10
    have hin14 : ¬ ((2 : Int32) < 0 ∨ cl14.slots.size ≤ ((2 : Int32)).toNatClampNeg) := inb_of Sz14 ⟨by decide, by decide⟩
    obtain ⟨T14, h14, X14, e14, W14, st14⟩ := stI X13 hx hZ e13 Ar14 (j := (2 : Int32)) hin14 (g := (mkF m 41 #[.val (.ref r0), .val (.int (0 : Int32)), .val (.int (0 : Int32)), .val (.int (2 : Int32)), .val (.int e0_w_numbers_r0)] [(.int e0_w_numbers_r0), (.int (2 : Int32)), (.ref w_numbers_r0)])) rfl rfl (hb hby d3_41)
    have V14 : Arv Z h14 w_numbers_r0 k_w_numbers_r0 .int (16 : Int32) [(.int e2_w_numbers_r0), (.int e1_w_numbers_r0), (.int e0_w_numbers_r0), (.int (0 : Int32)), (.int (0 : Int32)), (.int (0 : Int32)), (.int (0 : Int32)), (.int (0 : Int32)), (.int (0 : Int32)), (.int (0 : Int32)), (.int (0 : Int32)), (.int (0 : Int32)), (.int (0 : Int32)), (.int (0 : Int32)), (.int (0 : Int32)), (.int (0 : Int32))] (.int (0 : Int32)) := Arv.set Ar14 Cq14 Sz14 Nn14 Hh14 Gg14 rfl W14 2 rfl (Nat.le_of_ble_eq_true rfl)
    have N14 := Fr.snoc X14 N10 g_w_numbers_r0
    have K15 : Keep h0 h14 [w_numbers_r0] := K11.wr W14 (Or.inl (List.mem_of_getElem? (i := 0) rfl))
    have pre16 : ∀ t, Steps p.tables e below (T14.setTop (mkF m 51 #[.val (.ref r0), .val (.int (0 : Int32)), .val (.int (1 : Int32)), .val (.int (1 : Int32)), .val (.int e0_w_numbers_r0)] [])) t → Steps p.tables e below (s₁.setTop (entryFrame m #[(.ref r0), (.int i1)] 5)) t := by
      intro t k
      refine pre3 _ ?_
      show Steps p.tables e below (s₁.setTop (mkF m 2 #[.val (.ref r0), .val (.int (0 : Int32)), .val (.int (0 : Int32)), .unset, .unset] [])) _
      refine XS.aloadN X0.here hx rfl (hb hby d3_2) rfl rfl ?_
      show Steps p.tables e below (s₁.setTop (mkF m 3 #[.val (.ref r0), .val (.int (0 : Int32)), .val (.int (0 : Int32)), .unset, .unset] [(.ref r0)])) _
      refine st4 _ ?_
      show Steps p.tables e below (T4.setTop (mkF m 6 #[.val (.ref r0), .val (.int (0 : Int32)), .val (.int (0 : Int32)), .unset, .unset] [(.int (3 : Int32))])) _
      refine XS.iconst X4.here hx rfl (hb hby d3_6) ?_
      show Steps p.tables e below (T4.setTop (mkF m 7 #[.val (.ref r0), .val (.int (0 : Int32)), .val (.int (0 : Int32)), .unset, .unset] [(.int (1 : Int32)), (.int (3 : Int32))])) _
      refine XS.isub X4.here hx rfl (hb hby d3_7) rfl ?_
      show Steps p.tables e below (T4.setTop (mkF m 8 #[.val (.ref r0), .val (.int (0 : Int32)), .val (.int (0 : Int32)), .unset, .unset] [(.int (2 : Int32))])) _
      refine XS.istoreN X4.here hx rfl (hb hby d3_8) rfl (l' := #[.val (.ref r0), .val (.int (0 : Int32)), .val (.int (0 : Int32)), .val (.int (2 : Int32)), .unset]) rfl ?_
      show Steps p.tables e below (T4.setTop (mkF m 9 #[.val (.ref r0), .val (.int (0 : Int32)), .val (.int (0 : Int32)), .val (.int (2 : Int32)), .unset] [])) _
      refine XS.iloadN X4.here hx rfl (hb hby d3_9) rfl ?_
      show Steps p.tables e below (T4.setTop (mkF m 10 #[.val (.ref r0), .val (.int (0 : Int32)), .val (.int (0 : Int32)), .val (.int (2 : Int32)), .unset] [(.int (0 : Int32))])) _
      refine XS.iloadN X4.here hx rfl (hb hby d3_10) rfl ?_
      show Steps p.tables e below (T4.setTop (mkF m 11 #[.val (.ref r0), .val (.int (0 : Int32)), .val (.int (0 : Int32)), .val (.int (2 : Int32)), .unset] [(.int (2 : Int32)), (.int (0 : Int32))])) _
      refine XS.icmpNo X4.here hx rfl (hb hby d3_11) rfl (tlt (by decide : (0 : Int32) < (2 : Int32))).2.1 ?_
      show Steps p.tables e below (T4.setTop (mkF m 14 #[.val (.ref r0), .val (.int (0 : Int32)), .val (.int (0 : Int32)), .val (.int (2 : Int32)), .unset] [])) _
      refine XS.aloadN X4.here hx rfl (hb hby d3_14) rfl rfl ?_
      show Steps p.tables e below (T4.setTop (mkF m 15 #[.val (.ref r0), .val (.int (0 : Int32)), .val (.int (0 : Int32)), .val (.int (2 : Int32)), .unset] [(.ref r0)])) _
      refine st5 _ ?_
      show Steps p.tables e below (T5.setTop (mkF m 18 #[.val (.ref r0), .val (.int (0 : Int32)), .val (.int (0 : Int32)), .val (.int (2 : Int32)), .unset] [(.ref w_numbers_r0)])) _
      refine XS.iloadN X5.here hx rfl (hb hby d3_18) rfl ?_
      show Steps p.tables e below (T5.setTop (mkF m 19 #[.val (.ref r0), .val (.int (0 : Int32)), .val (.int (0 : Int32)), .val (.int (2 : Int32)), .unset] [(.int (0 : Int32)), (.ref w_numbers_r0)])) _
      refine X5.iaload hx (j := (0 : Int32)) (v := (.int e0_w_numbers_r0)) (by rw [e5]; exact Ar6.1) (State.isArrayOf_alike hZ.alike Ar6.2.1) Ar6.2.2 hin6 hat6 (g := (mkF m 19 #[.val (.ref r0), .val (.int (0 : Int32)), .val (.int (0 : Int32)), .val (.int (2 : Int32)), .unset] [(.int (0 : Int32)), (.ref w_numbers_r0)])) rfl rfl (hb hby d3_19) _ ?_
      show Steps p.tables e below (T5.setTop (mkF m 20 #[.val (.ref r0), .val (.int (0 : Int32)), .val (.int (0 : Int32)), .val (.int (2 : Int32)), .unset] [(.int e0_w_numbers_r0)])) _
      refine XS.istore X5.here hx rfl (hb hby d3_20) rfl (l' := #[.val (.ref r0), .val (.int (0 : Int32)), .val (.int (0 : Int32)), .val (.int (2 : Int32)), .val (.int e0_w_numbers_r0)]) rfl ?_
      show Steps p.tables e below (T5.setTop (mkF m 22 #[.val (.ref r0), .val (.int (0 : Int32)), .val (.int (0 : Int32)), .val (.int (2 : Int32)), .val (.int e0_w_numbers_r0)] [])) _
      refine XS.aloadN X5.here hx rfl (hb hby d3_22) rfl rfl ?_
      show Steps p.tables e below (T5.setTop (mkF m 23 #[.val (.ref r0), .val (.int (0 : Int32)), .val (.int (0 : Int32)), .val (.int (2 : Int32)), .val (.int e0_w_numbers_r0)] [(.ref r0)])) _
      refine st7 _ ?_
      show Steps p.tables e below (T7.setTop (mkF m 26 #[.val (.ref r0), .val (.int (0 : Int32)), .val (.int (0 : Int32)), .val (.int (2 : Int32)), .val (.int e0_w_numbers_r0)] [(.ref w_numbers_r0)])) _
      refine XS.iloadN X7.here hx rfl (hb hby d3_26) rfl ?_
      show Steps p.tables e below (T7.setTop (mkF m 27 #[.val (.ref r0), .val (.int (0 : Int32)), .val (.int (0 : Int32)), .val (.int (2 : Int32)), .val (.int e0_w_numbers_r0)] [(.int (0 : Int32)), (.ref w_numbers_r0)])) _
      refine XS.aloadN X7.here hx rfl (hb hby d3_27) rfl rfl ?_
      show Steps p.tables e below (T7.setTop (mkF m 28 #[.val (.ref r0), .val (.int (0 : Int32)), .val (.int (0 : Int32)), .val (.int (2 : Int32)), .val (.int e0_w_numbers_r0)] [(.ref r0), (.int (0 : Int32)), (.ref w_numbers_r0)])) _
      refine st8 _ ?_
      show Steps p.tables e below (T8.setTop (mkF m 31 #[.val (.ref r0), .val (.int (0 : Int32)), .val (.int (0 : Int32)), .val (.int (2 : Int32)), .val (.int e0_w_numbers_r0)] [(.ref w_numbers_r0), (.int (0 : Int32)), (.ref w_numbers_r0)])) _
      refine XS.iloadN X8.here hx rfl (hb hby d3_31) rfl ?_
      show Steps p.tables e below (T8.setTop (mkF m 32 #[.val (.ref r0), .val (.int (0 : Int32)), .val (.int (0 : Int32)), .val (.int (2 : Int32)), .val (.int e0_w_numbers_r0)] [(.int (2 : Int32)), (.ref w_numbers_r0), (.int (0 : Int32)), (.ref w_numbers_r0)])) _
      refine X8.iaload hx (j := (2 : Int32)) (v := (.int e2_w_numbers_r0)) (by rw [e8]; exact Ar9.1) (State.isArrayOf_alike hZ.alike Ar9.2.1) Ar9.2.2 hin9 hat9 (g := (mkF m 32 #[.val (.ref r0), .val (.int (0 : Int32)), .val (.int (0 : Int32)), .val (.int (2 : Int32)), .val (.int e0_w_numbers_r0)] [(.int (2 : Int32)), (.ref w_numbers_r0), (.int (0 : Int32)), (.ref w_numbers_r0)])) rfl rfl (hb hby d3_32) _ ?_
      show Steps p.tables e below (T8.setTop (mkF m 33 #[.val (.ref r0), .val (.int (0 : Int32)), .val (.int (0 : Int32)), .val (.int (2 : Int32)), .val (.int e0_w_numbers_r0)] [(.int e2_w_numbers_r0), (.int (0 : Int32)), (.ref w_numbers_r0)])) _
      refine st10 _ ?_
      show Steps p.tables e below (T10.setTop (mkF m 34 #[.val (.ref r0), .val (.int (0 : Int32)), .val (.int (0 : Int32)), .val (.int (2 : Int32)), .val (.int e0_w_numbers_r0)] [])) _
      refine XS.aloadN X10.here hx rfl (hb hby d3_34) rfl rfl ?_
      show Steps p.tables e below (T10.setTop (mkF m 35 #[.val (.ref r0), .val (.int (0 : Int32)), .val (.int (0 : Int32)), .val (.int (2 : Int32)), .val (.int e0_w_numbers_r0)] [(.ref r0)])) _
      refine st13 _ ?_
      show Steps p.tables e below (T13.setTop (mkF m 38 #[.val (.ref r0), .val (.int (0 : Int32)), .val (.int (0 : Int32)), .val (.int (2 : Int32)), .val (.int e0_w_numbers_r0)] [(.ref w_numbers_r0)])) _
      refine XS.iloadN X13.here hx rfl (hb hby d3_38) rfl ?_
      show Steps p.tables e below (T13.setTop (mkF m 39 #[.val (.ref r0), .val (.int (0 : Int32)), .val (.int (0 : Int32)), .val (.int (2 : Int32)), .val (.int e0_w_numbers_r0)] [(.int (2 : Int32)), (.ref w_numbers_r0)])) _
      refine XS.iload X13.here hx rfl (hb hby d3_39) rfl ?_
      show Steps p.tables e below (T13.setTop (mkF m 41 #[.val (.ref r0), .val (.int (0 : Int32)), .val (.int (0 : Int32)), .val (.int (2 : Int32)), .val (.int e0_w_numbers_r0)] [(.int e0_w_numbers_r0), (.int (2 : Int32)), (.ref w_numbers_r0)])) _
      refine st14 _ ?_
      show Steps p.tables e below (T14.setTop (mkF m 42 #[.val (.ref r0), .val (.int (0 : Int32)), .val (.int (0 : Int32)), .val (.int (2 : Int32)), .val (.int e0_w_numbers_r0)] [])) _
      refine XS.iinc X14.here hx rfl (hb hby d3_42) rfl (l' := #[.val (.ref r0), .val (.int (0 : Int32)), .val (.int (1 : Int32)), .val (.int (2 : Int32)), .val (.int e0_w_numbers_r0)]) rfl ?_
      show Steps p.tables e below (T14.setTop (mkF m 45 #[.val (.ref r0), .val (.int (0 : Int32)), .val (.int (1 : Int32)), .val (.int (2 : Int32)), .val (.int e0_w_numbers_r0)] [])) _
      refine XS.iinc X14.here hx rfl (hb hby d3_45) rfl (l' := #[.val (.ref r0), .val (.int (0 : Int32)), .val (.int (1 : Int32)), .val (.int (1 : Int32)), .val (.int e0_w_numbers_r0)]) rfl ?_
      show Steps p.tables e below (T14.setTop (mkF m 48 #[.val (.ref r0), .val (.int (0 : Int32)), .val (.int (1 : Int32)), .val (.int (1 : Int32)), .val (.int e0_w_numbers_r0)] [])) _
      refine XS.goto X14.here hx rfl (pc0 := 48) (pc' := 9) rfl (hb hby d3_48) (by decide) (by decide) ?_
      show Steps p.tables e below (T14.setTop (mkF m 9 #[.val (.ref r0), .val (.int (0 : Int32)), .val (.int (1 : Int32)), .val (.int (1 : Int32)), .val (.int e0_w_numbers_r0)] [])) _
      refine XS.iloadN X14.here hx rfl (hb hby d3_9) rfl ?_
      show Steps p.tables e below (T14.setTop (mkF m 10 #[.val (.ref r0), .val (.int (0 : Int32)), .val (.int (1 : Int32)), .val (.int (1 : Int32)), .val (.int e0_w_numbers_r0)] [(.int (1 : Int32))])) _
      refine XS.iloadN X14.here hx rfl (hb hby d3_10) rfl ?_
      show Steps p.tables e below (T14.setTop (mkF m 11 #[.val (.ref r0), .val (.int (0 : Int32)), .val (.int (1 : Int32)), .val (.int (1 : Int32)), .val (.int e0_w_numbers_r0)] [(.int (1 : Int32)), (.int (1 : Int32))])) _
      refine XS.icmpYes X14.here hx rfl (pc0 := 11) (pc' := 51) rfl (hb hby d3_11) rfl (flt (by decide : ¬ ((1 : Int32) < (1 : Int32)))).2.1 (by decide) (by decide) ?_
      exact k
    obtain ⟨fs, hr, hrun, hended, hW, hsame⟩ := X14.leave (v := none) (fun _ => rfl)
    refine ⟨_, _, pre16 _ ?_, hrun, hended, _, _, rfl, ?_, ⟨_, rfl⟩, hW, hsame.mono (by decide) (by decide)⟩
    · show Steps p.tables e below (T14.setTop (mkF m 51 #[.val (.ref r0), .val (.int (0 : Int32)), .val (.int (1 : Int32)), .val (.int (1 : Int32)), .val (.int e0_w_numbers_r0)] [])) _
      exact X14.returnOut hx Bd.returns (hb hby d3_51) hr
    · show Q3c Z r0 i1 w_numbers_r0 e0_w_numbers_r0 e1_w_numbers_r0 e2_w_numbers_r0 k_w_numbers_r0 h0 n0 _ T14.heap _
      rw [e14]
      exact ⟨rfl, N14, K15, (by rw [show (own_v3c_w_numbers_r0_2 i1 e0_w_numbers_r0 e1_w_numbers_r0 e2_w_numbers_r0) = e0_w_numbers_r0 from (if_pos hk2)]; exact (by rw [show (own_v3c_w_numbers_r0_1 i1 e1_w_numbers_r0 e2_w_numbers_r0) = e1_w_numbers_r0 from (if_pos hk2)]; exact (by rw [show (own_v3c_w_numbers_r0_0 i1 e0_w_numbers_r0 e2_w_numbers_r0) = e2_w_numbers_r0 from (if_pos hk2)]; exact V14)))⟩
  · have pre17 : ∀ t, Steps p.tables e below (s₁.setTop (mkF m 2 #[.val (.ref r0), .val (.int (1 : Int32)), .val (.int (1 : Int32)), .unset, .unset] [])) t → Steps p.tables e below (s₁.setTop (entryFrame m #[(.ref r0), (.int i1)] 5)) t := fun t k => pre1 t (by rw [hk2]; exact k)
    obtain ⟨T18, X18, e18, st18⟩ := getF X0 hx hZ hown (host := "") (Or.inl (hw _ (List.mem_of_getElem? (i := 18) rfl))) Via.refl e0 F_size_r0 (g := (mkF m 3 #[.val (.ref r0), .val (.int (1 : Int32)), .val (.int (1 : Int32)), .unset, .unset] [(.ref r0)])) rfl rfl (hb hby d3_3)
    obtain ⟨T19, X19, e19, st19⟩ := getF X18 hx hZ hown (host := "") (Or.inl (hw _ (List.mem_of_getElem? (i := 11) rfl))) Via.refl e18 F_numbers_r0 (g := (mkF m 15 #[.val (.ref r0), .val (.int (1 : Int32)), .val (.int (1 : Int32)), .val (.int (2 : Int32)), .unset] [(.ref r0)])) rfl rfl (hb hby d3_15)
    obtain ⟨cl20, Ar20, Cq20, Sz20, Nn20, Hh20, Gg20⟩ := id V_w_numbers_r0
    have hin20 : ¬ ((1 : Int32) < 0 ∨ cl20.slots.size ≤ ((1 : Int32)).toNatClampNeg) := inb_of Sz20 ⟨by decide, by decide⟩
    have hat20 : cl20.slots[((1 : Int32)).toNatClampNeg]? = some (.int e1_w_numbers_r0) := Hh20.at hin20 rfl
    obtain ⟨T21, X21, e21, st21⟩ := getF X19 hx hZ hown (host := "") (Or.inl (hw _ (List.mem_of_getElem? (i := 11) rfl))) Via.refl e19 F_numbers_r0 (g := (mkF m 23 #[.val (.ref r0), .val (.int (1 : Int32)), .val (.int (1 : Int32)), .val (.int (2 : Int32)), .val (.int e1_w_numbers_r0)] [(.ref r0)])) rfl rfl (hb hby d3_23)
    obtain ⟨T22, X22, e22, st22⟩ := getF X21 hx hZ hown (host := "") (Or.inl (hw _ (List.mem_of_getElem? (i := 11) rfl))) Via.refl e21 F_numbers_r0 (g := (mkF m 28 #[.val (.ref r0), .val (.int (1 : Int32)), .val (.int (1 : Int32)), .val (.int (2 : Int32)), .val (.int e1_w_numbers_r0)] [(.ref r0), (.int (1 : Int32)), (.ref w_numbers_r0)])) rfl rfl (hb hby d3_28)
    obtain ⟨cl23, Ar23, Cq23, Sz23, Nn23, Hh23, Gg23⟩ := id V_w_numbers_r0
    have hin23 : ¬ ((2 : Int32) < 0 ∨ cl23.slots.size ≤ ((2 : Int32)).toNatClampNeg) := inb_of Sz23 ⟨by decide, by decide⟩
    have hat23 : cl23.slots[((2 : Int32)).toNatClampNeg]? = some (.int e2_w_numbers_r0) := Hh23.at hin23 rfl
    obtain ⟨cl24, Ar24, Cq24, Sz24, Nn24, Hh24, Gg24⟩ := id V_w_numbers_r0
    have hin24 : ¬ ((1 : Int32) < 0 ∨ cl24.slots.size ≤ ((1 : Int32)).toNatClampNeg) := inb_of Sz24 ⟨by decide, by decide⟩
    obtain ⟨T24, h24, X24, e24, W24, st24⟩ := stI X22 hx hZ e22 Ar24 (j := (1 : Int32)) hin24 (g := (mkF m 33 #[.val (.ref r0), .val (.int (1 : Int32)), .val (.int (1 : Int32)), .val (.int (2 : Int32)), .val (.int e1_w_numbers_r0)] [(.int e2_w_numbers_r0), (.int (1 : Int32)), (.ref w_numbers_r0)])) rfl rfl (hb hby d3_33)
    have V24 : Arv Z h24 w_numbers_r0 k_w_numbers_r0 .int (16 : Int32) [(.int e0_w_numbers_r0), (.int e2_w_numbers_r0), (.int e2_w_numbers_r0), (.int (0 : Int32)), (.int (0 : Int32)), (.int (0 : Int32)), (.int (0 : Int32)), (.int (0 : Int32)), (.int (0 : Int32)), (.int (0 : Int32)), (.int (0 : Int32)), (.int (0 : Int32)), (.int (0 : Int32)), (.int (0 : Int32)), (.int (0 : Int32)), (.int (0 : Int32))] (.int (0 : Int32)) := Arv.set Ar24 Cq24 Sz24 Nn24 Hh24 Gg24 rfl W24 1 rfl (Nat.le_of_ble_eq_true rfl)
    have N24 := Fr.snoc X24 N0 g_w_numbers_r0
    have K25 : Keep h0 h24 [w_numbers_r0] := (Keep.refl h0 [w_numbers_r0]).wr W24 (Or.inl (List.mem_of_getElem? (i := 0) rfl))
    have f26 := (F_numbers_r0.other W24 (Or.inl ne_r0_w_numbers_r0))
    obtain ⟨T27, X27, e27, st27⟩ := getF X24 hx hZ hown (host := "") (Or.inl (hw _ (List.mem_of_getElem? (i := 11) rfl))) Via.refl e24 f26 (g := (mkF m 35 #[.val (.ref r0), .val (.int (1 : Int32)), .val (.int (1 : Int32)), .val (.int (2 : Int32)), .val (.int e1_w_numbers_r0)] [(.ref r0)])) rfl rfl (hb hby d3_35)
    obtain ⟨cl28, Ar28, Cq28, Sz28, Nn28, Hh28, Gg28⟩ := id V24
    have hin28 : ¬ ((2 : Int32) < 0 ∨ cl28.slots.size ≤ ((2 : Int32)).toNatClampNeg) := inb_of Sz28 ⟨by decide, by decide⟩
    obtain ⟨T28, h28, X28, e28, W28, st28⟩ := stI X27 hx hZ e27 Ar28 (j := (2 : Int32)) hin28 (g := (mkF m 41 #[.val (.ref r0), .val (.int (1 : Int32)), .val (.int (1 : Int32)), .val (.int (2 : Int32)), .val (.int e1_w_numbers_r0)] [(.int e1_w_numbers_r0), (.int (2 : Int32)), (.ref w_numbers_r0)])) rfl rfl (hb hby d3_41)
    have V28 : Arv Z h28 w_numbers_r0 k_w_numbers_r0 .int (16 : Int32) [(.int e0_w_numbers_r0), (.int e2_w_numbers_r0), (.int e1_w_numbers_r0), (.int (0 : Int32)), (.int (0 : Int32)), (.int (0 : Int32)), (.int (0 : Int32)), (.int (0 : Int32)), (.int (0 : Int32)), (.int (0 : Int32)), (.int (0 : Int32)), (.int (0 : Int32)), (.int (0 : Int32)), (.int (0 : Int32)), (.int (0 : Int32)), (.int (0 : Int32))] (.int (0 : Int32)) := Arv.set Ar28 Cq28 Sz28 Nn28 Hh28 Gg28 rfl W28 2 rfl (Nat.le_of_ble_eq_true rfl)
    have N28 := Fr.snoc X28 N24 g_w_numbers_r0
    have K29 : Keep h0 h28 [w_numbers_r0] := K25.wr W28 (Or.inl (List.mem_of_getElem? (i := 0) rfl))
    have pre30 : ∀ t, Steps p.tables e below (T28.setTop (mkF m 51 #[.val (.ref r0), .val (.int (1 : Int32)), .val (.int (2 : Int32)), .val (.int (1 : Int32)), .val (.int e1_w_numbers_r0)] [])) t → Steps p.tables e below (s₁.setTop (entryFrame m #[(.ref r0), (.int i1)] 5)) t := by
      intro t k
      refine pre17 _ ?_
      show Steps p.tables e below (s₁.setTop (mkF m 2 #[.val (.ref r0), .val (.int (1 : Int32)), .val (.int (1 : Int32)), .unset, .unset] [])) _
      refine XS.aloadN X0.here hx rfl (hb hby d3_2) rfl rfl ?_
      show Steps p.tables e below (s₁.setTop (mkF m 3 #[.val (.ref r0), .val (.int (1 : Int32)), .val (.int (1 : Int32)), .unset, .unset] [(.ref r0)])) _
      refine st18 _ ?_
      show Steps p.tables e below (T18.setTop (mkF m 6 #[.val (.ref r0), .val (.int (1 : Int32)), .val (.int (1 : Int32)), .unset, .unset] [(.int (3 : Int32))])) _
      refine XS.iconst X18.here hx rfl (hb hby d3_6) ?_
      show Steps p.tables e below (T18.setTop (mkF m 7 #[.val (.ref r0), .val (.int (1 : Int32)), .val (.int (1 : Int32)), .unset, .unset] [(.int (1 : Int32)), (.int (3 : Int32))])) _
      refine XS.isub X18.here hx rfl (hb hby d3_7) rfl ?_
      show Steps p.tables e below (T18.setTop (mkF m 8 #[.val (.ref r0), .val (.int (1 : Int32)), .val (.int (1 : Int32)), .unset, .unset] [(.int (2 : Int32))])) _
      refine XS.istoreN X18.here hx rfl (hb hby d3_8) rfl (l' := #[.val (.ref r0), .val (.int (1 : Int32)), .val (.int (1 : Int32)), .val (.int (2 : Int32)), .unset]) rfl ?_
      show Steps p.tables e below (T18.setTop (mkF m 9 #[.val (.ref r0), .val (.int (1 : Int32)), .val (.int (1 : Int32)), .val (.int (2 : Int32)), .unset] [])) _
      refine XS.iloadN X18.here hx rfl (hb hby d3_9) rfl ?_
      show Steps p.tables e below (T18.setTop (mkF m 10 #[.val (.ref r0), .val (.int (1 : Int32)), .val (.int (1 : Int32)), .val (.int (2 : Int32)), .unset] [(.int (1 : Int32))])) _
      refine XS.iloadN X18.here hx rfl (hb hby d3_10) rfl ?_
      show Steps p.tables e below (T18.setTop (mkF m 11 #[.val (.ref r0), .val (.int (1 : Int32)), .val (.int (1 : Int32)), .val (.int (2 : Int32)), .unset] [(.int (2 : Int32)), (.int (1 : Int32))])) _
      refine XS.icmpNo X18.here hx rfl (hb hby d3_11) rfl (tlt (by decide : (1 : Int32) < (2 : Int32))).2.1 ?_
      show Steps p.tables e below (T18.setTop (mkF m 14 #[.val (.ref r0), .val (.int (1 : Int32)), .val (.int (1 : Int32)), .val (.int (2 : Int32)), .unset] [])) _
      refine XS.aloadN X18.here hx rfl (hb hby d3_14) rfl rfl ?_
      show Steps p.tables e below (T18.setTop (mkF m 15 #[.val (.ref r0), .val (.int (1 : Int32)), .val (.int (1 : Int32)), .val (.int (2 : Int32)), .unset] [(.ref r0)])) _
      refine st19 _ ?_
      show Steps p.tables e below (T19.setTop (mkF m 18 #[.val (.ref r0), .val (.int (1 : Int32)), .val (.int (1 : Int32)), .val (.int (2 : Int32)), .unset] [(.ref w_numbers_r0)])) _
      refine XS.iloadN X19.here hx rfl (hb hby d3_18) rfl ?_
      show Steps p.tables e below (T19.setTop (mkF m 19 #[.val (.ref r0), .val (.int (1 : Int32)), .val (.int (1 : Int32)), .val (.int (2 : Int32)), .unset] [(.int (1 : Int32)), (.ref w_numbers_r0)])) _
      refine X19.iaload hx (j := (1 : Int32)) (v := (.int e1_w_numbers_r0)) (by rw [e19]; exact Ar20.1) (State.isArrayOf_alike hZ.alike Ar20.2.1) Ar20.2.2 hin20 hat20 (g := (mkF m 19 #[.val (.ref r0), .val (.int (1 : Int32)), .val (.int (1 : Int32)), .val (.int (2 : Int32)), .unset] [(.int (1 : Int32)), (.ref w_numbers_r0)])) rfl rfl (hb hby d3_19) _ ?_
      show Steps p.tables e below (T19.setTop (mkF m 20 #[.val (.ref r0), .val (.int (1 : Int32)), .val (.int (1 : Int32)), .val (.int (2 : Int32)), .unset] [(.int e1_w_numbers_r0)])) _
      refine XS.istore X19.here hx rfl (hb hby d3_20) rfl (l' := #[.val (.ref r0), .val (.int (1 : Int32)), .val (.int (1 : Int32)), .val (.int (2 : Int32)), .val (.int e1_w_numbers_r0)]) rfl ?_
      show Steps p.tables e below (T19.setTop (mkF m 22 #[.val (.ref r0), .val (.int (1 : Int32)), .val (.int (1 : Int32)), .val (.int (2 : Int32)), .val (.int e1_w_numbers_r0)] [])) _
      refine XS.aloadN X19.here hx rfl (hb hby d3_22) rfl rfl ?_
      show Steps p.tables e below (T19.setTop (mkF m 23 #[.val (.ref r0), .val (.int (1 : Int32)), .val (.int (1 : Int32)), .val (.int (2 : Int32)), .val (.int e1_w_numbers_r0)] [(.ref r0)])) _
      refine st21 _ ?_
      show Steps p.tables e below (T21.setTop (mkF m 26 #[.val (.ref r0), .val (.int (1 : Int32)), .val (.int (1 : Int32)), .val (.int (2 : Int32)), .val (.int e1_w_numbers_r0)] [(.ref w_numbers_r0)])) _
      refine XS.iloadN X21.here hx rfl (hb hby d3_26) rfl ?_
      show Steps p.tables e below (T21.setTop (mkF m 27 #[.val (.ref r0), .val (.int (1 : Int32)), .val (.int (1 : Int32)), .val (.int (2 : Int32)), .val (.int e1_w_numbers_r0)] [(.int (1 : Int32)), (.ref w_numbers_r0)])) _
      refine XS.aloadN X21.here hx rfl (hb hby d3_27) rfl rfl ?_
      show Steps p.tables e below (T21.setTop (mkF m 28 #[.val (.ref r0), .val (.int (1 : Int32)), .val (.int (1 : Int32)), .val (.int (2 : Int32)), .val (.int e1_w_numbers_r0)] [(.ref r0), (.int (1 : Int32)), (.ref w_numbers_r0)])) _
      refine st22 _ ?_
      show Steps p.tables e below (T22.setTop (mkF m 31 #[.val (.ref r0), .val (.int (1 : Int32)), .val (.int (1 : Int32)), .val (.int (2 : Int32)), .val (.int e1_w_numbers_r0)] [(.ref w_numbers_r0), (.int (1 : Int32)), (.ref w_numbers_r0)])) _
      refine XS.iloadN X22.here hx rfl (hb hby d3_31) rfl ?_
      show Steps p.tables e below (T22.setTop (mkF m 32 #[.val (.ref r0), .val (.int (1 : Int32)), .val (.int (1 : Int32)), .val (.int (2 : Int32)), .val (.int e1_w_numbers_r0)] [(.int (2 : Int32)), (.ref w_numbers_r0), (.int (1 : Int32)), (.ref w_numbers_r0)])) _
      refine X22.iaload hx (j := (2 : Int32)) (v := (.int e2_w_numbers_r0)) (by rw [e22]; exact Ar23.1) (State.isArrayOf_alike hZ.alike Ar23.2.1) Ar23.2.2 hin23 hat23 (g := (mkF m 32 #[.val (.ref r0), .val (.int (1 : Int32)), .val (.int (1 : Int32)), .val (.int (2 : Int32)), .val (.int e1_w_numbers_r0)] [(.int (2 : Int32)), (.ref w_numbers_r0), (.int (1 : Int32)), (.ref w_numbers_r0)])) rfl rfl (hb hby d3_32) _ ?_
      show Steps p.tables e below (T22.setTop (mkF m 33 #[.val (.ref r0), .val (.int (1 : Int32)), .val (.int (1 : Int32)), .val (.int (2 : Int32)), .val (.int e1_w_numbers_r0)] [(.int e2_w_numbers_r0), (.int (1 : Int32)), (.ref w_numbers_r0)])) _
      refine st24 _ ?_
      show Steps p.tables e below (T24.setTop (mkF m 34 #[.val (.ref r0), .val (.int (1 : Int32)), .val (.int (1 : Int32)), .val (.int (2 : Int32)), .val (.int e1_w_numbers_r0)] [])) _
      refine XS.aloadN X24.here hx rfl (hb hby d3_34) rfl rfl ?_
      show Steps p.tables e below (T24.setTop (mkF m 35 #[.val (.ref r0), .val (.int (1 : Int32)), .val (.int (1 : Int32)), .val (.int (2 : Int32)), .val (.int e1_w_numbers_r0)] [(.ref r0)])) _
      refine st27 _ ?_
      show Steps p.tables e below (T27.setTop (mkF m 38 #[.val (.ref r0), .val (.int (1 : Int32)), .val (.int (1 : Int32)), .val (.int (2 : Int32)), .val (.int e1_w_numbers_r0)] [(.ref w_numbers_r0)])) _
      refine XS.iloadN X27.here hx rfl (hb hby d3_38) rfl ?_
      show Steps p.tables e below (T27.setTop (mkF m 39 #[.val (.ref r0), .val (.int (1 : Int32)), .val (.int (1 : Int32)), .val (.int (2 : Int32)), .val (.int e1_w_numbers_r0)] [(.int (2 : Int32)), (.ref w_numbers_r0)])) _
      refine XS.iload X27.here hx rfl (hb hby d3_39) rfl ?_
      show Steps p.tables e below (T27.setTop (mkF m 41 #[.val (.ref r0), .val (.int (1 : Int32)), .val (.int (1 : Int32)), .val (.int (2 : Int32)), .val (.int e1_w_numbers_r0)] [(.int e1_w_numbers_r0), (.int (2 : Int32)), (.ref w_numbers_r0)])) _
      refine st28 _ ?_
      show Steps p.tables e below (T28.setTop (mkF m 42 #[.val (.ref r0), .val (.int (1 : Int32)), .val (.int (1 : Int32)), .val (.int (2 : Int32)), .val (.int e1_w_numbers_r0)] [])) _
      refine XS.iinc X28.here hx rfl (hb hby d3_42) rfl (l' := #[.val (.ref r0), .val (.int (1 : Int32)), .val (.int (2 : Int32)), .val (.int (2 : Int32)), .val (.int e1_w_numbers_r0)]) rfl ?_
      show Steps p.tables e below (T28.setTop (mkF m 45 #[.val (.ref r0), .val (.int (1 : Int32)), .val (.int (2 : Int32)), .val (.int (2 : Int32)), .val (.int e1_w_numbers_r0)] [])) _
      refine XS.iinc X28.here hx rfl (hb hby d3_45) rfl (l' := #[.val (.ref r0), .val (.int (1 : Int32)), .val (.int (2 : Int32)), .val (.int (1 : Int32)), .val (.int e1_w_numbers_r0)]) rfl ?_
      show Steps p.tables e below (T28.setTop (mkF m 48 #[.val (.ref r0), .val (.int (1 : Int32)), .val (.int (2 : Int32)), .val (.int (1 : Int32)), .val (.int e1_w_numbers_r0)] [])) _
      refine XS.goto X28.here hx rfl (pc0 := 48) (pc' := 9) rfl (hb hby d3_48) (by decide) (by decide) ?_
      show Steps p.tables e below (T28.setTop (mkF m 9 #[.val (.ref r0), .val (.int (1 : Int32)), .val (.int (2 : Int32)), .val (.int (1 : Int32)), .val (.int e1_w_numbers_r0)] [])) _
      refine XS.iloadN X28.here hx rfl (hb hby d3_9) rfl ?_
      show Steps p.tables e below (T28.setTop (mkF m 10 #[.val (.ref r0), .val (.int (1 : Int32)), .val (.int (2 : Int32)), .val (.int (1 : Int32)), .val (.int e1_w_numbers_r0)] [(.int (2 : Int32))])) _
      refine XS.iloadN X28.here hx rfl (hb hby d3_10) rfl ?_
      show Steps p.tables e below (T28.setTop (mkF m 11 #[.val (.ref r0), .val (.int (1 : Int32)), .val (.int (2 : Int32)), .val (.int (1 : Int32)), .val (.int e1_w_numbers_r0)] [(.int (1 : Int32)), (.int (2 : Int32))])) _
      refine XS.icmpYes X28.here hx rfl (pc0 := 11) (pc' := 51) rfl (hb hby d3_11) rfl (flt (by decide : ¬ ((2 : Int32) < (1 : Int32)))).2.1 (by decide) (by decide) ?_
      exact k
    obtain ⟨fs, hr, hrun, hended, hW, hsame⟩ := X28.leave (v := none) (fun _ => rfl)
    refine ⟨_, _, pre30 _ ?_, hrun, hended, _, _, rfl, ?_, ⟨_, rfl⟩, hW, hsame.mono (by decide) (by decide)⟩
    · show Steps p.tables e below (T28.setTop (mkF m 51 #[.val (.ref r0), .val (.int (1 : Int32)), .val (.int (2 : Int32)), .val (.int (1 : Int32)), .val (.int e1_w_numbers_r0)] [])) _
      exact X28.returnOut hx Bd.returns (hb hby d3_51) hr
    · show Q3c Z r0 i1 w_numbers_r0 e0_w_numbers_r0 e1_w_numbers_r0 e2_w_numbers_r0 k_w_numbers_r0 h0 n0 _ T28.heap _
      rw [e28]
      exact ⟨rfl, N28, K29, (by rw [show (own_v3c_w_numbers_r0_2 i1 e0_w_numbers_r0 e1_w_numbers_r0 e2_w_numbers_r0) = e1_w_numbers_r0 from ((if_neg (by rw [hk2]; decide)).trans (if_pos hk2))]; exact (by rw [show (own_v3c_w_numbers_r0_1 i1 e1_w_numbers_r0 e2_w_numbers_r0) = e2_w_numbers_r0 from ((if_neg (by rw [hk2]; decide)).trans (if_pos hk2))]; exact (by rw [show (own_v3c_w_numbers_r0_0 i1 e0_w_numbers_r0 e2_w_numbers_r0) = e0_w_numbers_r0 from ((if_neg (by rw [hk2]; decide)).trans (if_pos hk2))]; exact V28)))⟩
  · have pre31 : ∀ t, Steps p.tables e below (s₁.setTop (mkF m 2 #[.val (.ref r0), .val (.int (2 : Int32)), .val (.int (2 : Int32)), .unset, .unset] [])) t → Steps p.tables e below (s₁.setTop (entryFrame m #[(.ref r0), (.int i1)] 5)) t := fun t k => pre1 t (by rw [hk2]; exact k)
    obtain ⟨T32, X32, e32, st32⟩ := getF X0 hx hZ hown (host := "") (Or.inl (hw _ (List.mem_of_getElem? (i := 18) rfl))) Via.refl e0 F_size_r0 (g := (mkF m 3 #[.val (.ref r0), .val (.int (2 : Int32)), .val (.int (2 : Int32)), .unset, .unset] [(.ref r0)])) rfl rfl (hb hby d3_3)
    have pre33 : ∀ t, Steps p.tables e below (T32.setTop (mkF m 51 #[.val (.ref r0), .val (.int (2 : Int32)), .val (.int (2 : Int32)), .val (.int (2 : Int32)), .unset] [])) t → Steps p.tables e below (s₁.setTop (entryFrame m #[(.ref r0), (.int i1)] 5)) t := by
      intro t k
      refine pre31 _ ?_
      show Steps p.tables e below (s₁.setTop (mkF m 2 #[.val (.ref r0), .val (.int (2 : Int32)), .val (.int (2 : Int32)), .unset, .unset] [])) _
      refine XS.aloadN X0.here hx rfl (hb hby d3_2) rfl rfl ?_
      show Steps p.tables e below (s₁.setTop (mkF m 3 #[.val (.ref r0), .val (.int (2 : Int32)), .val (.int (2 : Int32)), .unset, .unset] [(.ref r0)])) _
      refine st32 _ ?_
      show Steps p.tables e below (T32.setTop (mkF m 6 #[.val (.ref r0), .val (.int (2 : Int32)), .val (.int (2 : Int32)), .unset, .unset] [(.int (3 : Int32))])) _
      refine XS.iconst X32.here hx rfl (hb hby d3_6) ?_
      show Steps p.tables e below (T32.setTop (mkF m 7 #[.val (.ref r0), .val (.int (2 : Int32)), .val (.int (2 : Int32)), .unset, .unset] [(.int (1 : Int32)), (.int (3 : Int32))])) _
      refine XS.isub X32.here hx rfl (hb hby d3_7) rfl ?_
      show Steps p.tables e below (T32.setTop (mkF m 8 #[.val (.ref r0), .val (.int (2 : Int32)), .val (.int (2 : Int32)), .unset, .unset] [(.int (2 : Int32))])) _
      refine XS.istoreN X32.here hx rfl (hb hby d3_8) rfl (l' := #[.val (.ref r0), .val (.int (2 : Int32)), .val (.int (2 : Int32)), .val (.int (2 : Int32)), .unset]) rfl ?_
      show Steps p.tables e below (T32.setTop (mkF m 9 #[.val (.ref r0), .val (.int (2 : Int32)), .val (.int (2 : Int32)), .val (.int (2 : Int32)), .unset] [])) _
      refine XS.iloadN X32.here hx rfl (hb hby d3_9) rfl ?_
      show Steps p.tables e below (T32.setTop (mkF m 10 #[.val (.ref r0), .val (.int (2 : Int32)), .val (.int (2 : Int32)), .val (.int (2 : Int32)), .unset] [(.int (2 : Int32))])) _
      refine XS.iloadN X32.here hx rfl (hb hby d3_10) rfl ?_
      show Steps p.tables e below (T32.setTop (mkF m 11 #[.val (.ref r0), .val (.int (2 : Int32)), .val (.int (2 : Int32)), .val (.int (2 : Int32)), .unset] [(.int (2 : Int32)), (.int (2 : Int32))])) _
      refine XS.icmpYes X32.here hx rfl (pc0 := 11) (pc' := 51) rfl (hb hby d3_11) rfl (flt (by decide : ¬ ((2 : Int32) < (2 : Int32)))).2.1 (by decide) (by decide) ?_
      exact k
    obtain ⟨fs, hr, hrun, hended, hW, hsame⟩ := X32.leave (v := none) (fun _ => rfl)
    refine ⟨_, _, pre33 _ ?_, hrun, hended, _, _, rfl, ?_, ⟨_, rfl⟩, hW, hsame.mono (by decide) (by decide)⟩
    · show Steps p.tables e below (T32.setTop (mkF m 51 #[.val (.ref r0), .val (.int (2 : Int32)), .val (.int (2 : Int32)), .val (.int (2 : Int32)), .unset] [])) _
      exact X32.returnOut hx Bd.returns (hb hby d3_51) hr
    · show Q3c Z r0 i1 w_numbers_r0 e0_w_numbers_r0 e1_w_numbers_r0 e2_w_numbers_r0 k_w_numbers_r0 h0 n0 _ T32.heap _
      rw [e32]
      exact ⟨rfl, N0, (Keep.refl h0 [w_numbers_r0]), (by rw [show (own_v3c_w_numbers_r0_2 i1 e0_w_numbers_r0 e1_w_numbers_r0 e2_w_numbers_r0) = e2_w_numbers_r0 from ((if_neg (by rw [hk2]; decide)).trans ((if_neg (by rw [hk2]; decide)).trans (if_pos hk2)))]; exact (by rw [show (own_v3c_w_numbers_r0_1 i1 e1_w_numbers_r0 e2_w_numbers_r0) = e1_w_numbers_r0 from ((if_neg (by rw [hk2]; decide)).trans ((if_neg (by rw [hk2]; decide)).trans (if_pos hk2)))]; exact (by rw [show (own_v3c_w_numbers_r0_0 i1 e0_w_numbers_r0 e2_w_numbers_r0) = e0_w_numbers_r0 from ((if_neg (by rw [hk2]; decide)).trans ((if_neg (by rw [hk2]; decide)).trans (if_pos hk2)))]; exact V_w_numbers_r0)))⟩
  · have pre34 : ∀ t, Steps p.tables e below (s₁.setTop (mkF m 2 #[.val (.ref r0), .val (.int (3 : Int32)), .val (.int (3 : Int32)), .unset, .unset] [])) t → Steps p.tables e below (s₁.setTop (entryFrame m #[(.ref r0), (.int i1)] 5)) t := fun t k => pre1 t (by rw [hk2]; exact k)
    obtain ⟨T35, X35, e35, st35⟩ := getF X0 hx hZ hown (host := "") (Or.inl (hw _ (List.mem_of_getElem? (i := 18) rfl))) Via.refl e0 F_size_r0 (g := (mkF m 3 #[.val (.ref r0), .val (.int (3 : Int32)), .val (.int (3 : Int32)), .unset, .unset] [(.ref r0)])) rfl rfl (hb hby d3_3)
    have pre36 : ∀ t, Steps p.tables e below (T35.setTop (mkF m 51 #[.val (.ref r0), .val (.int (3 : Int32)), .val (.int (3 : Int32)), .val (.int (2 : Int32)), .unset] [])) t → Steps p.tables e below (s₁.setTop (entryFrame m #[(.ref r0), (.int i1)] 5)) t := by
      intro t k
      refine pre34 _ ?_
      show Steps p.tables e below (s₁.setTop (mkF m 2 #[.val (.ref r0), .val (.int (3 : Int32)), .val (.int (3 : Int32)), .unset, .unset] [])) _
      refine XS.aloadN X0.here hx rfl (hb hby d3_2) rfl rfl ?_
      show Steps p.tables e below (s₁.setTop (mkF m 3 #[.val (.ref r0), .val (.int (3 : Int32)), .val (.int (3 : Int32)), .unset, .unset] [(.ref r0)])) _
      refine st35 _ ?_
      show Steps p.tables e below (T35.setTop (mkF m 6 #[.val (.ref r0), .val (.int (3 : Int32)), .val (.int (3 : Int32)), .unset, .unset] [(.int (3 : Int32))])) _
      refine XS.iconst X35.here hx rfl (hb hby d3_6) ?_
      show Steps p.tables e below (T35.setTop (mkF m 7 #[.val (.ref r0), .val (.int (3 : Int32)), .val (.int (3 : Int32)), .unset, .unset] [(.int (1 : Int32)), (.int (3 : Int32))])) _
      refine XS.isub X35.here hx rfl (hb hby d3_7) rfl ?_
      show Steps p.tables e below (T35.setTop (mkF m 8 #[.val (.ref r0), .val (.int (3 : Int32)), .val (.int (3 : Int32)), .unset, .unset] [(.int (2 : Int32))])) _
      refine XS.istoreN X35.here hx rfl (hb hby d3_8) rfl (l' := #[.val (.ref r0), .val (.int (3 : Int32)), .val (.int (3 : Int32)), .val (.int (2 : Int32)), .unset]) rfl ?_
      show Steps p.tables e below (T35.setTop (mkF m 9 #[.val (.ref r0), .val (.int (3 : Int32)), .val (.int (3 : Int32)), .val (.int (2 : Int32)), .unset] [])) _
      refine XS.iloadN X35.here hx rfl (hb hby d3_9) rfl ?_
      show Steps p.tables e below (T35.setTop (mkF m 10 #[.val (.ref r0), .val (.int (3 : Int32)), .val (.int (3 : Int32)), .val (.int (2 : Int32)), .unset] [(.int (3 : Int32))])) _
      refine XS.iloadN X35.here hx rfl (hb hby d3_10) rfl ?_
      show Steps p.tables e below (T35.setTop (mkF m 11 #[.val (.ref r0), .val (.int (3 : Int32)), .val (.int (3 : Int32)), .val (.int (2 : Int32)), .unset] [(.int (2 : Int32)), (.int (3 : Int32))])) _
      refine XS.icmpYes X35.here hx rfl (pc0 := 11) (pc' := 51) rfl (hb hby d3_11) rfl (flt (by decide : ¬ ((3 : Int32) < (2 : Int32)))).2.1 (by decide) (by decide) ?_
      exact k
    obtain ⟨fs, hr, hrun, hended, hW, hsame⟩ := X35.leave (v := none) (fun _ => rfl)
    refine ⟨_, _, pre36 _ ?_, hrun, hended, _, _, rfl, ?_, ⟨_, rfl⟩, hW, hsame.mono (by decide) (by decide)⟩
    · show Steps p.tables e below (T35.setTop (mkF m 51 #[.val (.ref r0), .val (.int (3 : Int32)), .val (.int (3 : Int32)), .val (.int (2 : Int32)), .unset] [])) _
      exact X35.returnOut hx Bd.returns (hb hby d3_51) hr
    · show Q3c Z r0 i1 w_numbers_r0 e0_w_numbers_r0 e1_w_numbers_r0 e2_w_numbers_r0 k_w_numbers_r0 h0 n0 _ T35.heap _
      rw [e35]
      exact ⟨rfl, N0, (Keep.refl h0 [w_numbers_r0]), (by rw [show (own_v3c_w_numbers_r0_2 i1 e0_w_numbers_r0 e1_w_numbers_r0 e2_w_numbers_r0) = e2_w_numbers_r0 from ((if_neg (by rw [hk2]; decide)).trans ((if_neg (by rw [hk2]; decide)).trans (if_neg (by rw [hk2]; decide))))]; exact (by rw [show (own_v3c_w_numbers_r0_1 i1 e1_w_numbers_r0 e2_w_numbers_r0) = e1_w_numbers_r0 from ((if_neg (by rw [hk2]; decide)).trans ((if_neg (by rw [hk2]; decide)).trans (if_neg (by rw [hk2]; decide))))]; exact (by rw [show (own_v3c_w_numbers_r0_0 i1 e0_w_numbers_r0 e2_w_numbers_r0) = e0_w_numbers_r0 from ((if_neg (by rw [hk2]; decide)).trans ((if_neg (by rw [hk2]; decide)).trans (if_neg (by rw [hk2]; decide))))]; exact V_w_numbers_r0)))⟩
def Q4c (Z : State) (r0 : Addr) (h0 : Heap) (n0 : Nat) (v : Option Value) (h : Heap) (L : List Loc) : Prop := v = some (.int (3 : Int32)) ∧ Fr n0 L ∧ h = h0
theorem ef_4c (m : MethodId) (x0 : Addr) : entryFrame m #[(.ref x0)] 1 = mkF m 0 #[.val (.ref x0)] [] := by first | (simp [entryFrame, mkF, argsToLocals, Value.category]; done) | rfl
set_option maxRecDepth 65536 in
set_option maxHeartbeats 40000000 in
theorem rm4c (l : Launch) (Z : State) (a0 : Array Value) (hw : ∀ d ∈ tables_1, d.before a0 Z = true) (ws : List Jvm.Cond) (r0 : Addr) (h0 : Heap) (n0 : Nat) (Z0 : n0 ≤ h0.size) (F_size_r0 : Fld Z h0 r0 "com/example/baum/baum/query/NodeList$Builder" "size" "I" (.int (3 : Int32))) :
    MetFree l (⟨"com/example/baum/baum/query/NodeList$Builder", "size", "()I"⟩ : MethodName) (head1 (Jvm.Cond.code (⟨"com/example/baum/baum/query/NodeList$Builder", "size", "()I"⟩ : MethodName) prog_99_method_5_code 1 (some .int) :: ws) ({ frames := 0, cells := 0, slots := 0, locals := 0 } : Room)) (fun a U => a = #[(.ref r0)] ∧ Z.Warmed39 U.vm ∧ U.heap = h0) (fun _ _ _ _ _ => True) (fun _ U o U' => ∃ v L, o = .returned v ∧ Q4c Z r0 h0 n0 v U'.heap L ∧ FrameEnd U o U' L ({ frames := 0, cells := 0, slots := 0, locals := 0 } : Room).cells ({ frames := 0, cells := 0, slots := 0, locals := 0 } : Room).slots) := by
  refine MetFree.of_bodySF (plainFor_of_name pn_0) hisR ?_
  intro p e s m args below meth c s₁ Bd hml0 hP hK
  obtain ⟨rfl, hZ, hh⟩ := hP
  have hx := Bd.exec
  have hby := Bd.bytes
  have hml : c.maxLocals = 1 := hml0
  have hown : s.vm.findClass "com/example/baum/baum/query/NodeList$Builder" = some m.cls := findClass_of_methodNamed Bd.named
  have hnm := (name_of_methodNamed Bd.named Bd.method).1
  have X0 : Stand p l e ({ frames := 0, cells := 0, slots := 0, locals := 0 } : Room) s m #[(.ref r0)] below meth c s₁ [] 0 0 := Stand.of_body Bd
  have e0 : s₁.heap = h0 := by rw [← hh, Bd.state]; rfl
  have N0 := Fr.nil n0
  have pre0 : ∀ t, Steps p.tables e below (s₁.setTop (mkF m 0 #[.val (.ref r0)] [])) t → Steps p.tables e below (s₁.setTop (entryFrame m #[(.ref r0)] 1)) t := fun t k => castTop (ef_4c m r0) k
  obtain ⟨T1, X1, e1, st1⟩ := getF X0 hx hZ hown (host := "") (Or.inl (hw _ (List.mem_of_getElem? (i := 18) rfl))) Via.refl e0 F_size_r0 (g := (mkF m 1 #[.val (.ref r0)] [(.ref r0)])) rfl rfl (hb hby d4_1)
  have pre2 : ∀ t, Steps p.tables e below (T1.setTop (mkF m 4 #[.val (.ref r0)] [(.int (3 : Int32))])) t → Steps p.tables e below (s₁.setTop (entryFrame m #[(.ref r0)] 1)) t := by
    intro t k
    refine pre0 _ ?_
    show Steps p.tables e below (s₁.setTop (mkF m 0 #[.val (.ref r0)] [])) _
    refine XS.aloadN X0.here hx rfl (hb hby d4_0) rfl rfl ?_
    show Steps p.tables e below (s₁.setTop (mkF m 1 #[.val (.ref r0)] [(.ref r0)])) _
    refine st1 _ ?_
    exact k
  obtain ⟨fs, hr, hrun, hended, hW, hsame⟩ := X1.leave (v := some (.int (3 : Int32))) (fun h => by rw [Bd.returns] at h; cases h)
  refine ⟨_, _, pre2 _ ?_, hrun, hended, _, _, rfl, ?_, ⟨_, rfl⟩, hW, hsame.mono (by decide) (by decide)⟩
  · show Steps p.tables e below (T1.setTop (mkF m 4 #[.val (.ref r0)] [(.int (3 : Int32))])) _
    exact retI X1 hx Bd.returns (hb hby d4_4) hr
  · show Q4c Z r0 h0 n0 _ T1.heap _
    rw [e1]
    exact ⟨rfl, N0, rfl⟩
def Q8c (Z : State)  (h0 : Heap) (n0 : Nat) (v : Option Value) (h : Heap) (L : List Loc) : Prop := v = some (.int (0 : Int32)) ∧ Fr n0 L ∧ h = h0
theorem ef_8c (m : MethodId)  : entryFrame m #[(.int (0 : Int32)), (.int (3 : Int32)), .null] 3 = mkF m 0 #[.val (.int (0 : Int32)), .val (.int (3 : Int32)), .val .null] [] := by first | (simp [entryFrame, mkF, argsToLocals, Value.category]; done) | rfl
set_option maxRecDepth 65536 in
set_option maxHeartbeats 40000000 in
theorem rm8c (l : Launch) (Z : State) (a0 : Array Value) (hw : ∀ d ∈ tables_1, d.before a0 Z = true) (ws : List Jvm.Cond)  (h0 : Heap) (n0 : Nat) (Z0 : n0 ≤ h0.size) :
    MetFree l (⟨"jdk/internal/util/Preconditions", "checkIndex", "(IILjava/util/function/BiFunction;)I"⟩ : MethodName) (head1 (Jvm.Cond.code (⟨"jdk/internal/util/Preconditions", "checkIndex", "(IILjava/util/function/BiFunction;)I"⟩ : MethodName) jdk_41_method_11_code 3 (some .int) :: ws) ({ frames := 0, cells := 0, slots := 0, locals := 0 } : Room)) (fun a U => a = #[(.int (0 : Int32)), (.int (3 : Int32)), .null] ∧ Z.Warmed39 U.vm ∧ U.heap = h0) (fun _ _ _ _ _ => True) (fun _ U o U' => ∃ v L, o = .returned v ∧ Q8c Z  h0 n0 v U'.heap L ∧ FrameEnd U o U' L ({ frames := 0, cells := 0, slots := 0, locals := 0 } : Room).cells ({ frames := 0, cells := 0, slots := 0, locals := 0 } : Room).slots) := by
  refine MetFree.of_bodySF (plainFor_of_name pn_1) hisR ?_
  intro p e s m args below meth c s₁ Bd hml0 hP hK
  obtain ⟨rfl, hZ, hh⟩ := hP
  have hx := Bd.exec
  have hby := Bd.bytes
  have hml : c.maxLocals = 3 := hml0
  have hown : s.vm.findClass "jdk/internal/util/Preconditions" = some m.cls := findClass_of_methodNamed Bd.named
  have hnm := (name_of_methodNamed Bd.named Bd.method).1
  have X0 : Stand p l e ({ frames := 0, cells := 0, slots := 0, locals := 0 } : Room) s m #[(.int (0 : Int32)), (.int (3 : Int32)), .null] below meth c s₁ [] 0 0 := Stand.of_body Bd
  have e0 : s₁.heap = h0 := by rw [← hh, Bd.state]; rfl
  have N0 := Fr.nil n0
  have pre0 : ∀ t, Steps p.tables e below (s₁.setTop (mkF m 0 #[.val (.int (0 : Int32)), .val (.int (3 : Int32)), .val .null] [])) t → Steps p.tables e below (s₁.setTop (entryFrame m #[(.int (0 : Int32)), (.int (3 : Int32)), .null] 3)) t := fun t k => castTop (ef_8c m ) k
  have pre1 : ∀ t, Steps p.tables e below (s₁.setTop (mkF m 17 #[.val (.int (0 : Int32)), .val (.int (3 : Int32)), .val .null] [(.int (0 : Int32))])) t → Steps p.tables e below (s₁.setTop (entryFrame m #[(.int (0 : Int32)), (.int (3 : Int32)), .null] 3)) t := by
    intro t k
    refine pre0 _ ?_
    show Steps p.tables e below (s₁.setTop (mkF m 0 #[.val (.int (0 : Int32)), .val (.int (3 : Int32)), .val .null] [])) _
    refine XS.iloadN X0.here hx rfl (hb hby d8_0) rfl ?_
    show Steps p.tables e below (s₁.setTop (mkF m 1 #[.val (.int (0 : Int32)), .val (.int (3 : Int32)), .val .null] [(.int (0 : Int32))])) _
    refine XS.ifNo X0.here hx rfl (hb hby d8_1) rfl ((if0 _ _).trans (flt (by decide : ¬ ((0 : Int32) < (0 : Int32)))).1) ?_
    show Steps p.tables e below (s₁.setTop (mkF m 4 #[.val (.int (0 : Int32)), .val (.int (3 : Int32)), .val .null] [])) _
    refine XS.iloadN X0.here hx rfl (hb hby d8_4) rfl ?_
    show Steps p.tables e below (s₁.setTop (mkF m 5 #[.val (.int (0 : Int32)), .val (.int (3 : Int32)), .val .null] [(.int (0 : Int32))])) _
    refine XS.iloadN X0.here hx rfl (hb hby d8_5) rfl ?_
    show Steps p.tables e below (s₁.setTop (mkF m 6 #[.val (.int (0 : Int32)), .val (.int (3 : Int32)), .val .null] [(.int (3 : Int32)), (.int (0 : Int32))])) _
    refine XS.icmpYes X0.here hx rfl (pc0 := 6) (pc' := 16) rfl (hb hby d8_6) rfl (tlt (by decide : (0 : Int32) < (3 : Int32))).1 (by decide) (by decide) ?_
    show Steps p.tables e below (s₁.setTop (mkF m 16 #[.val (.int (0 : Int32)), .val (.int (3 : Int32)), .val .null] [])) _
    refine XS.iloadN X0.here hx rfl (hb hby d8_16) rfl ?_
    exact k
  obtain ⟨fs, hr, hrun, hended, hW, hsame⟩ := X0.leave (v := some (.int (0 : Int32))) (fun h => by rw [Bd.returns] at h; cases h)
  refine ⟨_, _, pre1 _ ?_, hrun, hended, _, _, rfl, ?_, ⟨_, rfl⟩, hW, hsame.mono (by decide) (by decide)⟩
  · show Steps p.tables e below (s₁.setTop (mkF m 17 #[.val (.int (0 : Int32)), .val (.int (3 : Int32)), .val .null] [(.int (0 : Int32))])) _
    exact retI X0 hx Bd.returns (hb hby d8_17) hr
  · show Q8c Z  h0 n0 _ s₁.heap _
    rw [e0]
    exact ⟨rfl, N0, rfl⟩
def Q7c (Z : State)  (h0 : Heap) (n0 : Nat) (v : Option Value) (h : Heap) (L : List Loc) : Prop := v = some (.int (0 : Int32)) ∧ Fr n0 L ∧ h = h0
theorem ef_7c (m : MethodId)  : entryFrame m #[(.int (0 : Int32)), (.int (3 : Int32))] 2 = mkF m 0 #[.val (.int (0 : Int32)), .val (.int (3 : Int32))] [] := by first | (simp [entryFrame, mkF, argsToLocals, Value.category]; done) | rfl
set_option maxRecDepth 65536 in
set_option maxHeartbeats 40000000 in
theorem rm7c (l : Launch) (Z : State) (a0 : Array Value) (hw : ∀ d ∈ tables_1, d.before a0 Z = true) (ws : List Jvm.Cond)  (h0 : Heap) (n0 : Nat) (Z0 : n0 ≤ h0.size) :
    MetFree l (⟨"java/util/Objects", "checkIndex", "(II)I"⟩ : MethodName) (head1 (Jvm.Cond.code (⟨"java/util/Objects", "checkIndex", "(II)I"⟩ : MethodName) jdk_31_method_17_code 2 (some .int) :: ws) ({ frames := 1, cells := 0, slots := 0, locals := 14 } : Room)) (fun a U => a = #[(.int (0 : Int32)), (.int (3 : Int32))] ∧ Z.Warmed39 U.vm ∧ U.heap = h0) (fun _ _ _ _ _ => True) (fun _ U o U' => ∃ v L, o = .returned v ∧ Q7c Z  h0 n0 v U'.heap L ∧ FrameEnd U o U' L ({ frames := 1, cells := 0, slots := 0, locals := 14 } : Room).cells ({ frames := 1, cells := 0, slots := 0, locals := 14 } : Room).slots) := by
  refine MetFree.of_bodySF (plainFor_of_name pn_2) hisR ?_
  intro p e s m args below meth c s₁ Bd hml0 hP hK
  obtain ⟨rfl, hZ, hh⟩ := hP
  have hx := Bd.exec
  have hby := Bd.bytes
  have hml : c.maxLocals = 2 := hml0
  have hown : s.vm.findClass "java/util/Objects" = some m.cls := findClass_of_methodNamed Bd.named
  have hnm := (name_of_methodNamed Bd.named Bd.method).1
  have X0 : Stand p l e ({ frames := 1, cells := 0, slots := 0, locals := 14 } : Room) s m #[(.int (0 : Int32)), (.int (3 : Int32))] below meth c s₁ [] 0 0 := Stand.of_body Bd
  have e0 : s₁.heap = h0 := by rw [← hh, Bd.state]; rfl
  have N0 := Fr.nil n0
  have pre0 : ∀ t, Steps p.tables e below (s₁.setTop (mkF m 0 #[.val (.int (0 : Int32)), .val (.int (3 : Int32))] [])) t → Steps p.tables e below (s₁.setTop (entryFrame m #[(.int (0 : Int32)), (.int (3 : Int32))] 2)) t := fun t k => castTop (ef_7c m ) k
  obtain ⟨_, _, ⟨T1, L1, k1, n1⟩, -, X1, ⟨Lc1, hQ1, l1, y1, z1⟩, st1⟩ := Jvm.LawKit.callS X0 hx (y := (⟨"jdk/internal/util/Preconditions", "checkIndex", "(IILjava/util/function/BiFunction;)I"⟩ : MethodName)) hown (mvT hZ (hw _ (List.mem_of_getElem? (i := 39) rfl))) (mvT hZ (hw _ (List.mem_of_getElem? (i := 40) rfl))) (mvT hZ (hw _ (List.mem_of_getElem? (i := 41) rfl))) (mvT hZ (hw _ (List.mem_of_getElem? (i := 42) rfl))) (by decide) (backOf (W := 0) (rm8c l Z a0 hw []  h0 n0 (Nat.le_trans Z0 (Keep.refl h0 []).1) ) hZ (hw _ (List.mem_of_getElem? (i := 42) rfl)) (hw _ (List.mem_of_getElem? (i := 41) rfl)) (by decide) (by decide)) (g := (mkF m 3 #[.val (.int (0 : Int32)), .val (.int (3 : Int32))] [.null, (.int (3 : Int32)), (.int (0 : Int32))])) rfl (by rw [hml]; rfl) (argsL := [(.int (0 : Int32)), (.int (3 : Int32)), .null]) (rest := []) (lenOf pd_3 rfl) rfl (by show 2 * 0 + _ ≤ _; exact Nat.le_of_eq rfl) (hb hby d7_3) (fun _ _ => ⟨rfl, e0, (by decide : 0 + 0 ≤ _), (by decide : 0 + 0 ≤ _)⟩)
  dsimp only [Pt.U, Pt.locs, Pt.cells, Pt.slots] at X1 l1 y1 z1 st1 hQ1
  subst l1 y1 z1
  obtain ⟨rfl, Nq1, e1⟩ := hQ1
  have N1 := Fr.app N0 Nq1
  have pre2 : ∀ t, Steps p.tables e below (T1.setTop (mkF m 6 #[.val (.int (0 : Int32)), .val (.int (3 : Int32))] [(.int (0 : Int32))])) t → Steps p.tables e below (s₁.setTop (entryFrame m #[(.int (0 : Int32)), (.int (3 : Int32))] 2)) t := by
    intro t k
    refine pre0 _ ?_
    show Steps p.tables e below (s₁.setTop (mkF m 0 #[.val (.int (0 : Int32)), .val (.int (3 : Int32))] [])) _
    refine XS.iloadN X0.here hx rfl (hb hby d7_0) rfl ?_
    show Steps p.tables e below (s₁.setTop (mkF m 1 #[.val (.int (0 : Int32)), .val (.int (3 : Int32))] [(.int (0 : Int32))])) _
    refine XS.iloadN X0.here hx rfl (hb hby d7_1) rfl ?_
    show Steps p.tables e below (s₁.setTop (mkF m 2 #[.val (.int (0 : Int32)), .val (.int (3 : Int32))] [(.int (3 : Int32)), (.int (0 : Int32))])) _
    refine XS.aconstNull X0.here hx rfl (hb hby d7_2) ?_
    show Steps p.tables e below (s₁.setTop (mkF m 3 #[.val (.int (0 : Int32)), .val (.int (3 : Int32))] [.null, (.int (3 : Int32)), (.int (0 : Int32))])) _
    refine st1 _ ?_
    exact k
  obtain ⟨fs, hr, hrun, hended, hW, hsame⟩ := X1.leave (v := some (.int (0 : Int32))) (fun h => by rw [Bd.returns] at h; cases h)
  refine ⟨_, _, pre2 _ ?_, hrun, hended, _, _, rfl, ?_, ⟨_, rfl⟩, hW, hsame.mono (by decide) (by decide)⟩
  · show Steps p.tables e below (T1.setTop (mkF m 6 #[.val (.int (0 : Int32)), .val (.int (3 : Int32))] [(.int (0 : Int32))])) _
    exact retI X1 hx Bd.returns (hb hby d7_6) hr
  · show Q7c Z  h0 n0 _ T1.heap _
    rw [e1]
    exact ⟨rfl, N1, rfl⟩
def Q6c (Z : State) (r0 : Addr) (w_numbers_r0 : Addr) (e0_w_numbers_r0 : Int32) (e1_w_numbers_r0 : Int32) (e2_w_numbers_r0 : Int32) (k_w_numbers_r0 : ClassId) (h0 : Heap) (n0 : Nat) (v : Option Value) (h : Heap) (L : List Loc) : Prop := v = some (.int e0_w_numbers_r0) ∧ Fr n0 L ∧ h = h0
theorem ef_6c (m : MethodId) (x0 : Addr) : entryFrame m #[(.ref x0), (.int (0 : Int32))] 2 = mkF m 0 #[.val (.ref x0), .val (.int (0 : Int32))] [] := by first | (simp [entryFrame, mkF, argsToLocals, Value.category]; done) | rfl
set_option maxRecDepth 65536 in
set_option maxHeartbeats 40000000 in
theorem rm6c (l : Launch) (Z : State) (a0 : Array Value) (hw : ∀ d ∈ tables_1, d.before a0 Z = true) (ws : List Jvm.Cond) (r0 : Addr) (w_numbers_r0 : Addr) (e0_w_numbers_r0 : Int32) (e1_w_numbers_r0 : Int32) (e2_w_numbers_r0 : Int32) (k_w_numbers_r0 : ClassId) (h0 : Heap) (n0 : Nat) (Z0 : n0 ≤ h0.size) (F_numbers_r0 : Fld Z h0 r0 "com/example/baum/baum/query/NodeList$Builder" "numbers" "[I" (.ref w_numbers_r0)) (F_size_r0 : Fld Z h0 r0 "com/example/baum/baum/query/NodeList$Builder" "size" "I" (.int (3 : Int32))) (V_w_numbers_r0 : Arv Z h0 w_numbers_r0 k_w_numbers_r0 .int (16 : Int32) [(.int e0_w_numbers_r0), (.int e1_w_numbers_r0), (.int e2_w_numbers_r0), (.int (0 : Int32)), (.int (0 : Int32)), (.int (0 : Int32)), (.int (0 : Int32)), (.int (0 : Int32)), (.int (0 : Int32)), (.int (0 : Int32)), (.int (0 : Int32)), (.int (0 : Int32)), (.int (0 : Int32)), (.int (0 : Int32)), (.int (0 : Int32)), (.int (0 : Int32))] (.int (0 : Int32))) :
    MetFree l (⟨"com/example/baum/baum/query/NodeList$Builder", "get", "(I)I"⟩ : MethodName) (head1 (Jvm.Cond.code (⟨"com/example/baum/baum/query/NodeList$Builder", "get", "(I)I"⟩ : MethodName) prog_99_method_6_code 2 (some .int) :: ws) ({ frames := 2, cells := 0, slots := 0, locals := 28 } : Room)) (fun a U => a = #[(.ref r0), (.int (0 : Int32))] ∧ Z.Warmed39 U.vm ∧ U.heap = h0) (fun _ _ _ _ _ => True) (fun _ U o U' => ∃ v L, o = .returned v ∧ Q6c Z r0 w_numbers_r0 e0_w_numbers_r0 e1_w_numbers_r0 e2_w_numbers_r0 k_w_numbers_r0 h0 n0 v U'.heap L ∧ FrameEnd U o U' L ({ frames := 2, cells := 0, slots := 0, locals := 28 } : Room).cells ({ frames := 2, cells := 0, slots := 0, locals := 28 } : Room).slots) := by
  refine MetFree.of_bodySF (plainFor_of_name pn_0) hisR ?_
  intro p e s m args below meth c s₁ Bd hml0 hP hK
  obtain ⟨rfl, hZ, hh⟩ := hP
  have hx := Bd.exec
  have hby := Bd.bytes
  have hml : c.maxLocals = 2 := hml0
  have hown : s.vm.findClass "com/example/baum/baum/query/NodeList$Builder" = some m.cls := findClass_of_methodNamed Bd.named
  have hnm := (name_of_methodNamed Bd.named Bd.method).1
  have X0 : Stand p l e ({ frames := 2, cells := 0, slots := 0, locals := 28 } : Room) s m #[(.ref r0), (.int (0 : Int32))] below meth c s₁ [] 0 0 := Stand.of_body Bd
  have e0 : s₁.heap = h0 := by rw [← hh, Bd.state]; rfl
  have N0 := Fr.nil n0
  have pre0 : ∀ t, Steps p.tables e below (s₁.setTop (mkF m 0 #[.val (.ref r0), .val (.int (0 : Int32))] [])) t → Steps p.tables e below (s₁.setTop (entryFrame m #[(.ref r0), (.int (0 : Int32))] 2)) t := fun t k => castTop (ef_6c m r0) k
  obtain ⟨T1, X1, e1, st1⟩ := getF X0 hx hZ hown (host := "") (Or.inl (hw _ (List.mem_of_getElem? (i := 11) rfl))) Via.refl e0 F_numbers_r0 (g := (mkF m 1 #[.val (.ref r0), .val (.int (0 : Int32))] [(.ref r0)])) rfl rfl (hb hby d6_1)
  obtain ⟨T2, X2, e2, st2⟩ := getF X1 hx hZ hown (host := "") (Or.inl (hw _ (List.mem_of_getElem? (i := 18) rfl))) Via.refl e1 F_size_r0 (g := (mkF m 6 #[.val (.ref r0), .val (.int (0 : Int32))] [(.ref r0), (.int (0 : Int32)), (.ref w_numbers_r0)])) rfl rfl (hb hby d6_6)
  obtain ⟨_, _, ⟨T3, L3, k3, n3⟩, -, X3, ⟨Lc3, hQ3, l3, y3, z3⟩, st3⟩ := Jvm.LawKit.callS X2 hx (y := (⟨"java/util/Objects", "checkIndex", "(II)I"⟩ : MethodName)) hown (mvT hZ (hw _ (List.mem_of_getElem? (i := 35) rfl))) (mvT hZ (hw _ (List.mem_of_getElem? (i := 36) rfl))) (mvT hZ (hw _ (List.mem_of_getElem? (i := 37) rfl))) (mvT hZ (hw _ (List.mem_of_getElem? (i := 38) rfl))) (by decide) (backOf (W := 1) (rm7c l Z a0 hw []  h0 n0 (Nat.le_trans Z0 (Keep.refl h0 []).1) ) hZ (hw _ (List.mem_of_getElem? (i := 38) rfl)) (hw _ (List.mem_of_getElem? (i := 37) rfl)) (by decide) (by decide)) (g := (mkF m 9 #[.val (.ref r0), .val (.int (0 : Int32))] [(.int (3 : Int32)), (.int (0 : Int32)), (.ref w_numbers_r0)])) rfl (by rw [hml]; rfl) (argsL := [(.int (0 : Int32)), (.int (3 : Int32))]) (rest := [(.ref w_numbers_r0)]) (lenOf pd_4 rfl) rfl (by show 2 * 0 + _ ≤ _; exact Nat.le_of_eq rfl) (hb hby d6_9) (fun _ _ => ⟨rfl, e2, (by decide : 0 + 0 ≤ _), (by decide : 0 + 0 ≤ _)⟩)
  dsimp only [Pt.U, Pt.locs, Pt.cells, Pt.slots] at X3 l3 y3 z3 st3 hQ3
  subst l3 y3 z3
  obtain ⟨rfl, Nq3, e3⟩ := hQ3
  have N3 := Fr.app N0 Nq3
  obtain ⟨cl4, Ar4, Cq4, Sz4, Nn4, Hh4, Gg4⟩ := id V_w_numbers_r0
  have hin4 : ¬ ((0 : Int32) < 0 ∨ cl4.slots.size ≤ ((0 : Int32)).toNatClampNeg) := inb_of Sz4 ⟨by decide, by decide⟩
  have hat4 : cl4.slots[((0 : Int32)).toNatClampNeg]? = some (.int e0_w_numbers_r0) := Hh4.at hin4 rfl
  have pre5 : ∀ t, Steps p.tables e below (T3.setTop (mkF m 13 #[.val (.ref r0), .val (.int (0 : Int32))] [(.int e0_w_numbers_r0)])) t → Steps p.tables e below (s₁.setTop (entryFrame m #[(.ref r0), (.int (0 : Int32))] 2)) t := by
    intro t k
    refine pre0 _ ?_
    show Steps p.tables e below (s₁.setTop (mkF m 0 #[.val (.ref r0), .val (.int (0 : Int32))] [])) _
    refine XS.aloadN X0.here hx rfl (hb hby d6_0) rfl rfl ?_
    show Steps p.tables e below (s₁.setTop (mkF m 1 #[.val (.ref r0), .val (.int (0 : Int32))] [(.ref r0)])) _
    refine st1 _ ?_
    show Steps p.tables e below (T1.setTop (mkF m 4 #[.val (.ref r0), .val (.int (0 : Int32))] [(.ref w_numbers_r0)])) _
    refine XS.iloadN X1.here hx rfl (hb hby d6_4) rfl ?_
    show Steps p.tables e below (T1.setTop (mkF m 5 #[.val (.ref r0), .val (.int (0 : Int32))] [(.int (0 : Int32)), (.ref w_numbers_r0)])) _
    refine XS.aloadN X1.here hx rfl (hb hby d6_5) rfl rfl ?_
    show Steps p.tables e below (T1.setTop (mkF m 6 #[.val (.ref r0), .val (.int (0 : Int32))] [(.ref r0), (.int (0 : Int32)), (.ref w_numbers_r0)])) _
    refine st2 _ ?_
    show Steps p.tables e below (T2.setTop (mkF m 9 #[.val (.ref r0), .val (.int (0 : Int32))] [(.int (3 : Int32)), (.int (0 : Int32)), (.ref w_numbers_r0)])) _
    refine st3 _ ?_
    show Steps p.tables e below (T3.setTop (mkF m 12 #[.val (.ref r0), .val (.int (0 : Int32))] [(.int (0 : Int32)), (.ref w_numbers_r0)])) _
    refine X3.iaload hx (j := (0 : Int32)) (v := (.int e0_w_numbers_r0)) (by rw [e3]; exact Ar4.1) (State.isArrayOf_alike hZ.alike Ar4.2.1) Ar4.2.2 hin4 hat4 (g := (mkF m 12 #[.val (.ref r0), .val (.int (0 : Int32))] [(.int (0 : Int32)), (.ref w_numbers_r0)])) rfl rfl (hb hby d6_12) _ ?_
    exact k
  obtain ⟨fs, hr, hrun, hended, hW, hsame⟩ := X3.leave (v := some (.int e0_w_numbers_r0)) (fun h => by rw [Bd.returns] at h; cases h)
  refine ⟨_, _, pre5 _ ?_, hrun, hended, _, _, rfl, ?_, ⟨_, rfl⟩, hW, hsame.mono (by decide) (by decide)⟩
  · show Steps p.tables e below (T3.setTop (mkF m 13 #[.val (.ref r0), .val (.int (0 : Int32))] [(.int e0_w_numbers_r0)])) _
    exact retI X3 hx Bd.returns (hb hby d6_13) hr
  · show Q6c Z r0 w_numbers_r0 e0_w_numbers_r0 e1_w_numbers_r0 e2_w_numbers_r0 k_w_numbers_r0 h0 n0 _ T3.heap _
    rw [e3]
    exact ⟨rfl, N3, rfl⟩
def Q8d (Z : State)  (h0 : Heap) (n0 : Nat) (v : Option Value) (h : Heap) (L : List Loc) : Prop := v = some (.int (1 : Int32)) ∧ Fr n0 L ∧ h = h0
theorem ef_8d (m : MethodId)  : entryFrame m #[(.int (1 : Int32)), (.int (3 : Int32)), .null] 3 = mkF m 0 #[.val (.int (1 : Int32)), .val (.int (3 : Int32)), .val .null] [] := by first | (simp [entryFrame, mkF, argsToLocals, Value.category]; done) | rfl
set_option maxRecDepth 65536 in
set_option maxHeartbeats 40000000 in
theorem rm8d (l : Launch) (Z : State) (a0 : Array Value) (hw : ∀ d ∈ tables_1, d.before a0 Z = true) (ws : List Jvm.Cond)  (h0 : Heap) (n0 : Nat) (Z0 : n0 ≤ h0.size) :
    MetFree l (⟨"jdk/internal/util/Preconditions", "checkIndex", "(IILjava/util/function/BiFunction;)I"⟩ : MethodName) (head1 (Jvm.Cond.code (⟨"jdk/internal/util/Preconditions", "checkIndex", "(IILjava/util/function/BiFunction;)I"⟩ : MethodName) jdk_41_method_11_code 3 (some .int) :: ws) ({ frames := 0, cells := 0, slots := 0, locals := 0 } : Room)) (fun a U => a = #[(.int (1 : Int32)), (.int (3 : Int32)), .null] ∧ Z.Warmed39 U.vm ∧ U.heap = h0) (fun _ _ _ _ _ => True) (fun _ U o U' => ∃ v L, o = .returned v ∧ Q8d Z  h0 n0 v U'.heap L ∧ FrameEnd U o U' L ({ frames := 0, cells := 0, slots := 0, locals := 0 } : Room).cells ({ frames := 0, cells := 0, slots := 0, locals := 0 } : Room).slots) := by
  refine MetFree.of_bodySF (plainFor_of_name pn_1) hisR ?_
  intro p e s m args below meth c s₁ Bd hml0 hP hK
  obtain ⟨rfl, hZ, hh⟩ := hP
  have hx := Bd.exec
  have hby := Bd.bytes
  have hml : c.maxLocals = 3 := hml0
  have hown : s.vm.findClass "jdk/internal/util/Preconditions" = some m.cls := findClass_of_methodNamed Bd.named
  have hnm := (name_of_methodNamed Bd.named Bd.method).1
  have X0 : Stand p l e ({ frames := 0, cells := 0, slots := 0, locals := 0 } : Room) s m #[(.int (1 : Int32)), (.int (3 : Int32)), .null] below meth c s₁ [] 0 0 := Stand.of_body Bd
  have e0 : s₁.heap = h0 := by rw [← hh, Bd.state]; rfl
  have N0 := Fr.nil n0
  have pre0 : ∀ t, Steps p.tables e below (s₁.setTop (mkF m 0 #[.val (.int (1 : Int32)), .val (.int (3 : Int32)), .val .null] [])) t → Steps p.tables e below (s₁.setTop (entryFrame m #[(.int (1 : Int32)), (.int (3 : Int32)), .null] 3)) t := fun t k => castTop (ef_8d m ) k
  have pre1 : ∀ t, Steps p.tables e below (s₁.setTop (mkF m 17 #[.val (.int (1 : Int32)), .val (.int (3 : Int32)), .val .null] [(.int (1 : Int32))])) t → Steps p.tables e below (s₁.setTop (entryFrame m #[(.int (1 : Int32)), (.int (3 : Int32)), .null] 3)) t := by
    intro t k
    refine pre0 _ ?_
    show Steps p.tables e below (s₁.setTop (mkF m 0 #[.val (.int (1 : Int32)), .val (.int (3 : Int32)), .val .null] [])) _
    refine XS.iloadN X0.here hx rfl (hb hby d8_0) rfl ?_
    show Steps p.tables e below (s₁.setTop (mkF m 1 #[.val (.int (1 : Int32)), .val (.int (3 : Int32)), .val .null] [(.int (1 : Int32))])) _
    refine XS.ifNo X0.here hx rfl (hb hby d8_1) rfl ((if0 _ _).trans (flt (by decide : ¬ ((1 : Int32) < (0 : Int32)))).1) ?_
    show Steps p.tables e below (s₁.setTop (mkF m 4 #[.val (.int (1 : Int32)), .val (.int (3 : Int32)), .val .null] [])) _
    refine XS.iloadN X0.here hx rfl (hb hby d8_4) rfl ?_
    show Steps p.tables e below (s₁.setTop (mkF m 5 #[.val (.int (1 : Int32)), .val (.int (3 : Int32)), .val .null] [(.int (1 : Int32))])) _
    refine XS.iloadN X0.here hx rfl (hb hby d8_5) rfl ?_
    show Steps p.tables e below (s₁.setTop (mkF m 6 #[.val (.int (1 : Int32)), .val (.int (3 : Int32)), .val .null] [(.int (3 : Int32)), (.int (1 : Int32))])) _
    refine XS.icmpYes X0.here hx rfl (pc0 := 6) (pc' := 16) rfl (hb hby d8_6) rfl (tlt (by decide : (1 : Int32) < (3 : Int32))).1 (by decide) (by decide) ?_
    show Steps p.tables e below (s₁.setTop (mkF m 16 #[.val (.int (1 : Int32)), .val (.int (3 : Int32)), .val .null] [])) _
    refine XS.iloadN X0.here hx rfl (hb hby d8_16) rfl ?_
    exact k
  obtain ⟨fs, hr, hrun, hended, hW, hsame⟩ := X0.leave (v := some (.int (1 : Int32))) (fun h => by rw [Bd.returns] at h; cases h)
  refine ⟨_, _, pre1 _ ?_, hrun, hended, _, _, rfl, ?_, ⟨_, rfl⟩, hW, hsame.mono (by decide) (by decide)⟩
  · show Steps p.tables e below (s₁.setTop (mkF m 17 #[.val (.int (1 : Int32)), .val (.int (3 : Int32)), .val .null] [(.int (1 : Int32))])) _
    exact retI X0 hx Bd.returns (hb hby d8_17) hr
  · show Q8d Z  h0 n0 _ s₁.heap _
    rw [e0]
    exact ⟨rfl, N0, rfl⟩
def Q7d (Z : State)  (h0 : Heap) (n0 : Nat) (v : Option Value) (h : Heap) (L : List Loc) : Prop := v = some (.int (1 : Int32)) ∧ Fr n0 L ∧ h = h0
theorem ef_7d (m : MethodId)  : entryFrame m #[(.int (1 : Int32)), (.int (3 : Int32))] 2 = mkF m 0 #[.val (.int (1 : Int32)), .val (.int (3 : Int32))] [] := by first | (simp [entryFrame, mkF, argsToLocals, Value.category]; done) | rfl
set_option maxRecDepth 65536 in
set_option maxHeartbeats 40000000 in
theorem rm7d (l : Launch) (Z : State) (a0 : Array Value) (hw : ∀ d ∈ tables_1, d.before a0 Z = true) (ws : List Jvm.Cond)  (h0 : Heap) (n0 : Nat) (Z0 : n0 ≤ h0.size) :
    MetFree l (⟨"java/util/Objects", "checkIndex", "(II)I"⟩ : MethodName) (head1 (Jvm.Cond.code (⟨"java/util/Objects", "checkIndex", "(II)I"⟩ : MethodName) jdk_31_method_17_code 2 (some .int) :: ws) ({ frames := 1, cells := 0, slots := 0, locals := 14 } : Room)) (fun a U => a = #[(.int (1 : Int32)), (.int (3 : Int32))] ∧ Z.Warmed39 U.vm ∧ U.heap = h0) (fun _ _ _ _ _ => True) (fun _ U o U' => ∃ v L, o = .returned v ∧ Q7d Z  h0 n0 v U'.heap L ∧ FrameEnd U o U' L ({ frames := 1, cells := 0, slots := 0, locals := 14 } : Room).cells ({ frames := 1, cells := 0, slots := 0, locals := 14 } : Room).slots) := by
  refine MetFree.of_bodySF (plainFor_of_name pn_2) hisR ?_
  intro p e s m args below meth c s₁ Bd hml0 hP hK
  obtain ⟨rfl, hZ, hh⟩ := hP
  have hx := Bd.exec
  have hby := Bd.bytes
  have hml : c.maxLocals = 2 := hml0
  have hown : s.vm.findClass "java/util/Objects" = some m.cls := findClass_of_methodNamed Bd.named
  have hnm := (name_of_methodNamed Bd.named Bd.method).1
  have X0 : Stand p l e ({ frames := 1, cells := 0, slots := 0, locals := 14 } : Room) s m #[(.int (1 : Int32)), (.int (3 : Int32))] below meth c s₁ [] 0 0 := Stand.of_body Bd
  have e0 : s₁.heap = h0 := by rw [← hh, Bd.state]; rfl
  have N0 := Fr.nil n0
  have pre0 : ∀ t, Steps p.tables e below (s₁.setTop (mkF m 0 #[.val (.int (1 : Int32)), .val (.int (3 : Int32))] [])) t → Steps p.tables e below (s₁.setTop (entryFrame m #[(.int (1 : Int32)), (.int (3 : Int32))] 2)) t := fun t k => castTop (ef_7d m ) k
  obtain ⟨_, _, ⟨T1, L1, k1, n1⟩, -, X1, ⟨Lc1, hQ1, l1, y1, z1⟩, st1⟩ := Jvm.LawKit.callS X0 hx (y := (⟨"jdk/internal/util/Preconditions", "checkIndex", "(IILjava/util/function/BiFunction;)I"⟩ : MethodName)) hown (mvT hZ (hw _ (List.mem_of_getElem? (i := 39) rfl))) (mvT hZ (hw _ (List.mem_of_getElem? (i := 40) rfl))) (mvT hZ (hw _ (List.mem_of_getElem? (i := 41) rfl))) (mvT hZ (hw _ (List.mem_of_getElem? (i := 42) rfl))) (by decide) (backOf (W := 0) (rm8d l Z a0 hw []  h0 n0 (Nat.le_trans Z0 (Keep.refl h0 []).1) ) hZ (hw _ (List.mem_of_getElem? (i := 42) rfl)) (hw _ (List.mem_of_getElem? (i := 41) rfl)) (by decide) (by decide)) (g := (mkF m 3 #[.val (.int (1 : Int32)), .val (.int (3 : Int32))] [.null, (.int (3 : Int32)), (.int (1 : Int32))])) rfl (by rw [hml]; rfl) (argsL := [(.int (1 : Int32)), (.int (3 : Int32)), .null]) (rest := []) (lenOf pd_3 rfl) rfl (by show 2 * 0 + _ ≤ _; exact Nat.le_of_eq rfl) (hb hby d7_3) (fun _ _ => ⟨rfl, e0, (by decide : 0 + 0 ≤ _), (by decide : 0 + 0 ≤ _)⟩)
  dsimp only [Pt.U, Pt.locs, Pt.cells, Pt.slots] at X1 l1 y1 z1 st1 hQ1
  subst l1 y1 z1
  obtain ⟨rfl, Nq1, e1⟩ := hQ1
  have N1 := Fr.app N0 Nq1
  have pre2 : ∀ t, Steps p.tables e below (T1.setTop (mkF m 6 #[.val (.int (1 : Int32)), .val (.int (3 : Int32))] [(.int (1 : Int32))])) t → Steps p.tables e below (s₁.setTop (entryFrame m #[(.int (1 : Int32)), (.int (3 : Int32))] 2)) t := by
    intro t k
    refine pre0 _ ?_
    show Steps p.tables e below (s₁.setTop (mkF m 0 #[.val (.int (1 : Int32)), .val (.int (3 : Int32))] [])) _
    refine XS.iloadN X0.here hx rfl (hb hby d7_0) rfl ?_
    show Steps p.tables e below (s₁.setTop (mkF m 1 #[.val (.int (1 : Int32)), .val (.int (3 : Int32))] [(.int (1 : Int32))])) _
    refine XS.iloadN X0.here hx rfl (hb hby d7_1) rfl ?_
    show Steps p.tables e below (s₁.setTop (mkF m 2 #[.val (.int (1 : Int32)), .val (.int (3 : Int32))] [(.int (3 : Int32)), (.int (1 : Int32))])) _
    refine XS.aconstNull X0.here hx rfl (hb hby d7_2) ?_
    show Steps p.tables e below (s₁.setTop (mkF m 3 #[.val (.int (1 : Int32)), .val (.int (3 : Int32))] [.null, (.int (3 : Int32)), (.int (1 : Int32))])) _
    refine st1 _ ?_
    exact k
  obtain ⟨fs, hr, hrun, hended, hW, hsame⟩ := X1.leave (v := some (.int (1 : Int32))) (fun h => by rw [Bd.returns] at h; cases h)
  refine ⟨_, _, pre2 _ ?_, hrun, hended, _, _, rfl, ?_, ⟨_, rfl⟩, hW, hsame.mono (by decide) (by decide)⟩
  · show Steps p.tables e below (T1.setTop (mkF m 6 #[.val (.int (1 : Int32)), .val (.int (3 : Int32))] [(.int (1 : Int32))])) _
    exact retI X1 hx Bd.returns (hb hby d7_6) hr
  · show Q7d Z  h0 n0 _ T1.heap _
    rw [e1]
    exact ⟨rfl, N1, rfl⟩
def Q6d (Z : State) (r0 : Addr) (w_numbers_r0 : Addr) (e0_w_numbers_r0 : Int32) (e1_w_numbers_r0 : Int32) (e2_w_numbers_r0 : Int32) (k_w_numbers_r0 : ClassId) (h0 : Heap) (n0 : Nat) (v : Option Value) (h : Heap) (L : List Loc) : Prop := v = some (.int e1_w_numbers_r0) ∧ Fr n0 L ∧ h = h0
theorem ef_6d (m : MethodId) (x0 : Addr) : entryFrame m #[(.ref x0), (.int (1 : Int32))] 2 = mkF m 0 #[.val (.ref x0), .val (.int (1 : Int32))] [] := by first | (simp [entryFrame, mkF, argsToLocals, Value.category]; done) | rfl
set_option maxRecDepth 65536 in
set_option maxHeartbeats 40000000 in
theorem rm6d (l : Launch) (Z : State) (a0 : Array Value) (hw : ∀ d ∈ tables_1, d.before a0 Z = true) (ws : List Jvm.Cond) (r0 : Addr) (w_numbers_r0 : Addr) (e0_w_numbers_r0 : Int32) (e1_w_numbers_r0 : Int32) (e2_w_numbers_r0 : Int32) (k_w_numbers_r0 : ClassId) (h0 : Heap) (n0 : Nat) (Z0 : n0 ≤ h0.size) (F_numbers_r0 : Fld Z h0 r0 "com/example/baum/baum/query/NodeList$Builder" "numbers" "[I" (.ref w_numbers_r0)) (F_size_r0 : Fld Z h0 r0 "com/example/baum/baum/query/NodeList$Builder" "size" "I" (.int (3 : Int32))) (V_w_numbers_r0 : Arv Z h0 w_numbers_r0 k_w_numbers_r0 .int (16 : Int32) [(.int e0_w_numbers_r0), (.int e1_w_numbers_r0), (.int e2_w_numbers_r0), (.int (0 : Int32)), (.int (0 : Int32)), (.int (0 : Int32)), (.int (0 : Int32)), (.int (0 : Int32)), (.int (0 : Int32)), (.int (0 : Int32)), (.int (0 : Int32)), (.int (0 : Int32)), (.int (0 : Int32)), (.int (0 : Int32)), (.int (0 : Int32)), (.int (0 : Int32))] (.int (0 : Int32))) :
    MetFree l (⟨"com/example/baum/baum/query/NodeList$Builder", "get", "(I)I"⟩ : MethodName) (head1 (Jvm.Cond.code (⟨"com/example/baum/baum/query/NodeList$Builder", "get", "(I)I"⟩ : MethodName) prog_99_method_6_code 2 (some .int) :: ws) ({ frames := 2, cells := 0, slots := 0, locals := 28 } : Room)) (fun a U => a = #[(.ref r0), (.int (1 : Int32))] ∧ Z.Warmed39 U.vm ∧ U.heap = h0) (fun _ _ _ _ _ => True) (fun _ U o U' => ∃ v L, o = .returned v ∧ Q6d Z r0 w_numbers_r0 e0_w_numbers_r0 e1_w_numbers_r0 e2_w_numbers_r0 k_w_numbers_r0 h0 n0 v U'.heap L ∧ FrameEnd U o U' L ({ frames := 2, cells := 0, slots := 0, locals := 28 } : Room).cells ({ frames := 2, cells := 0, slots := 0, locals := 28 } : Room).slots) := by
  refine MetFree.of_bodySF (plainFor_of_name pn_0) hisR ?_
  intro p e s m args below meth c s₁ Bd hml0 hP hK
  obtain ⟨rfl, hZ, hh⟩ := hP
  have hx := Bd.exec
  have hby := Bd.bytes
  have hml : c.maxLocals = 2 := hml0
  have hown : s.vm.findClass "com/example/baum/baum/query/NodeList$Builder" = some m.cls := findClass_of_methodNamed Bd.named
  have hnm := (name_of_methodNamed Bd.named Bd.method).1
  have X0 : Stand p l e ({ frames := 2, cells := 0, slots := 0, locals := 28 } : Room) s m #[(.ref r0), (.int (1 : Int32))] below meth c s₁ [] 0 0 := Stand.of_body Bd
  have e0 : s₁.heap = h0 := by rw [← hh, Bd.state]; rfl
  have N0 := Fr.nil n0
  have pre0 : ∀ t, Steps p.tables e below (s₁.setTop (mkF m 0 #[.val (.ref r0), .val (.int (1 : Int32))] [])) t → Steps p.tables e below (s₁.setTop (entryFrame m #[(.ref r0), (.int (1 : Int32))] 2)) t := fun t k => castTop (ef_6d m r0) k
  obtain ⟨T1, X1, e1, st1⟩ := getF X0 hx hZ hown (host := "") (Or.inl (hw _ (List.mem_of_getElem? (i := 11) rfl))) Via.refl e0 F_numbers_r0 (g := (mkF m 1 #[.val (.ref r0), .val (.int (1 : Int32))] [(.ref r0)])) rfl rfl (hb hby d6_1)
  obtain ⟨T2, X2, e2, st2⟩ := getF X1 hx hZ hown (host := "") (Or.inl (hw _ (List.mem_of_getElem? (i := 18) rfl))) Via.refl e1 F_size_r0 (g := (mkF m 6 #[.val (.ref r0), .val (.int (1 : Int32))] [(.ref r0), (.int (1 : Int32)), (.ref w_numbers_r0)])) rfl rfl (hb hby d6_6)
  obtain ⟨_, _, ⟨T3, L3, k3, n3⟩, -, X3, ⟨Lc3, hQ3, l3, y3, z3⟩, st3⟩ := Jvm.LawKit.callS X2 hx (y := (⟨"java/util/Objects", "checkIndex", "(II)I"⟩ : MethodName)) hown (mvT hZ (hw _ (List.mem_of_getElem? (i := 35) rfl))) (mvT hZ (hw _ (List.mem_of_getElem? (i := 36) rfl))) (mvT hZ (hw _ (List.mem_of_getElem? (i := 37) rfl))) (mvT hZ (hw _ (List.mem_of_getElem? (i := 38) rfl))) (by decide) (backOf (W := 1) (rm7d l Z a0 hw []  h0 n0 (Nat.le_trans Z0 (Keep.refl h0 []).1) ) hZ (hw _ (List.mem_of_getElem? (i := 38) rfl)) (hw _ (List.mem_of_getElem? (i := 37) rfl)) (by decide) (by decide)) (g := (mkF m 9 #[.val (.ref r0), .val (.int (1 : Int32))] [(.int (3 : Int32)), (.int (1 : Int32)), (.ref w_numbers_r0)])) rfl (by rw [hml]; rfl) (argsL := [(.int (1 : Int32)), (.int (3 : Int32))]) (rest := [(.ref w_numbers_r0)]) (lenOf pd_4 rfl) rfl (by show 2 * 0 + _ ≤ _; exact Nat.le_of_eq rfl) (hb hby d6_9) (fun _ _ => ⟨rfl, e2, (by decide : 0 + 0 ≤ _), (by decide : 0 + 0 ≤ _)⟩)
  dsimp only [Pt.U, Pt.locs, Pt.cells, Pt.slots] at X3 l3 y3 z3 st3 hQ3
  subst l3 y3 z3
  obtain ⟨rfl, Nq3, e3⟩ := hQ3
  have N3 := Fr.app N0 Nq3
  obtain ⟨cl4, Ar4, Cq4, Sz4, Nn4, Hh4, Gg4⟩ := id V_w_numbers_r0
  have hin4 : ¬ ((1 : Int32) < 0 ∨ cl4.slots.size ≤ ((1 : Int32)).toNatClampNeg) := inb_of Sz4 ⟨by decide, by decide⟩
  have hat4 : cl4.slots[((1 : Int32)).toNatClampNeg]? = some (.int e1_w_numbers_r0) := Hh4.at hin4 rfl
  have pre5 : ∀ t, Steps p.tables e below (T3.setTop (mkF m 13 #[.val (.ref r0), .val (.int (1 : Int32))] [(.int e1_w_numbers_r0)])) t → Steps p.tables e below (s₁.setTop (entryFrame m #[(.ref r0), (.int (1 : Int32))] 2)) t := by
    intro t k
    refine pre0 _ ?_
    show Steps p.tables e below (s₁.setTop (mkF m 0 #[.val (.ref r0), .val (.int (1 : Int32))] [])) _
    refine XS.aloadN X0.here hx rfl (hb hby d6_0) rfl rfl ?_
    show Steps p.tables e below (s₁.setTop (mkF m 1 #[.val (.ref r0), .val (.int (1 : Int32))] [(.ref r0)])) _
    refine st1 _ ?_
    show Steps p.tables e below (T1.setTop (mkF m 4 #[.val (.ref r0), .val (.int (1 : Int32))] [(.ref w_numbers_r0)])) _
    refine XS.iloadN X1.here hx rfl (hb hby d6_4) rfl ?_
    show Steps p.tables e below (T1.setTop (mkF m 5 #[.val (.ref r0), .val (.int (1 : Int32))] [(.int (1 : Int32)), (.ref w_numbers_r0)])) _
    refine XS.aloadN X1.here hx rfl (hb hby d6_5) rfl rfl ?_
    show Steps p.tables e below (T1.setTop (mkF m 6 #[.val (.ref r0), .val (.int (1 : Int32))] [(.ref r0), (.int (1 : Int32)), (.ref w_numbers_r0)])) _
    refine st2 _ ?_
    show Steps p.tables e below (T2.setTop (mkF m 9 #[.val (.ref r0), .val (.int (1 : Int32))] [(.int (3 : Int32)), (.int (1 : Int32)), (.ref w_numbers_r0)])) _
    refine st3 _ ?_
    show Steps p.tables e below (T3.setTop (mkF m 12 #[.val (.ref r0), .val (.int (1 : Int32))] [(.int (1 : Int32)), (.ref w_numbers_r0)])) _
    refine X3.iaload hx (j := (1 : Int32)) (v := (.int e1_w_numbers_r0)) (by rw [e3]; exact Ar4.1) (State.isArrayOf_alike hZ.alike Ar4.2.1) Ar4.2.2 hin4 hat4 (g := (mkF m 12 #[.val (.ref r0), .val (.int (1 : Int32))] [(.int (1 : Int32)), (.ref w_numbers_r0)])) rfl rfl (hb hby d6_12) _ ?_
    exact k
  obtain ⟨fs, hr, hrun, hended, hW, hsame⟩ := X3.leave (v := some (.int e1_w_numbers_r0)) (fun h => by rw [Bd.returns] at h; cases h)
  refine ⟨_, _, pre5 _ ?_, hrun, hended, _, _, rfl, ?_, ⟨_, rfl⟩, hW, hsame.mono (by decide) (by decide)⟩
  · show Steps p.tables e below (T3.setTop (mkF m 13 #[.val (.ref r0), .val (.int (1 : Int32))] [(.int e1_w_numbers_r0)])) _
    exact retI X3 hx Bd.returns (hb hby d6_13) hr
  · show Q6d Z r0 w_numbers_r0 e0_w_numbers_r0 e1_w_numbers_r0 e2_w_numbers_r0 k_w_numbers_r0 h0 n0 _ T3.heap _
    rw [e3]
    exact ⟨rfl, N3, rfl⟩
def Q8e (Z : State)  (h0 : Heap) (n0 : Nat) (v : Option Value) (h : Heap) (L : List Loc) : Prop := v = some (.int (2 : Int32)) ∧ Fr n0 L ∧ h = h0
theorem ef_8e (m : MethodId)  : entryFrame m #[(.int (2 : Int32)), (.int (3 : Int32)), .null] 3 = mkF m 0 #[.val (.int (2 : Int32)), .val (.int (3 : Int32)), .val .null] [] := by first | (simp [entryFrame, mkF, argsToLocals, Value.category]; done) | rfl
set_option maxRecDepth 65536 in
set_option maxHeartbeats 40000000 in
theorem rm8e (l : Launch) (Z : State) (a0 : Array Value) (hw : ∀ d ∈ tables_1, d.before a0 Z = true) (ws : List Jvm.Cond)  (h0 : Heap) (n0 : Nat) (Z0 : n0 ≤ h0.size) :
    MetFree l (⟨"jdk/internal/util/Preconditions", "checkIndex", "(IILjava/util/function/BiFunction;)I"⟩ : MethodName) (head1 (Jvm.Cond.code (⟨"jdk/internal/util/Preconditions", "checkIndex", "(IILjava/util/function/BiFunction;)I"⟩ : MethodName) jdk_41_method_11_code 3 (some .int) :: ws) ({ frames := 0, cells := 0, slots := 0, locals := 0 } : Room)) (fun a U => a = #[(.int (2 : Int32)), (.int (3 : Int32)), .null] ∧ Z.Warmed39 U.vm ∧ U.heap = h0) (fun _ _ _ _ _ => True) (fun _ U o U' => ∃ v L, o = .returned v ∧ Q8e Z  h0 n0 v U'.heap L ∧ FrameEnd U o U' L ({ frames := 0, cells := 0, slots := 0, locals := 0 } : Room).cells ({ frames := 0, cells := 0, slots := 0, locals := 0 } : Room).slots) := by
  refine MetFree.of_bodySF (plainFor_of_name pn_1) hisR ?_
  intro p e s m args below meth c s₁ Bd hml0 hP hK
  obtain ⟨rfl, hZ, hh⟩ := hP
  have hx := Bd.exec
  have hby := Bd.bytes
  have hml : c.maxLocals = 3 := hml0
  have hown : s.vm.findClass "jdk/internal/util/Preconditions" = some m.cls := findClass_of_methodNamed Bd.named
  have hnm := (name_of_methodNamed Bd.named Bd.method).1
  have X0 : Stand p l e ({ frames := 0, cells := 0, slots := 0, locals := 0 } : Room) s m #[(.int (2 : Int32)), (.int (3 : Int32)), .null] below meth c s₁ [] 0 0 := Stand.of_body Bd
  have e0 : s₁.heap = h0 := by rw [← hh, Bd.state]; rfl
  have N0 := Fr.nil n0
  have pre0 : ∀ t, Steps p.tables e below (s₁.setTop (mkF m 0 #[.val (.int (2 : Int32)), .val (.int (3 : Int32)), .val .null] [])) t → Steps p.tables e below (s₁.setTop (entryFrame m #[(.int (2 : Int32)), (.int (3 : Int32)), .null] 3)) t := fun t k => castTop (ef_8e m ) k
  have pre1 : ∀ t, Steps p.tables e below (s₁.setTop (mkF m 17 #[.val (.int (2 : Int32)), .val (.int (3 : Int32)), .val .null] [(.int (2 : Int32))])) t → Steps p.tables e below (s₁.setTop (entryFrame m #[(.int (2 : Int32)), (.int (3 : Int32)), .null] 3)) t := by
    intro t k
    refine pre0 _ ?_
    show Steps p.tables e below (s₁.setTop (mkF m 0 #[.val (.int (2 : Int32)), .val (.int (3 : Int32)), .val .null] [])) _
    refine XS.iloadN X0.here hx rfl (hb hby d8_0) rfl ?_
    show Steps p.tables e below (s₁.setTop (mkF m 1 #[.val (.int (2 : Int32)), .val (.int (3 : Int32)), .val .null] [(.int (2 : Int32))])) _
    refine XS.ifNo X0.here hx rfl (hb hby d8_1) rfl ((if0 _ _).trans (flt (by decide : ¬ ((2 : Int32) < (0 : Int32)))).1) ?_
    show Steps p.tables e below (s₁.setTop (mkF m 4 #[.val (.int (2 : Int32)), .val (.int (3 : Int32)), .val .null] [])) _
    refine XS.iloadN X0.here hx rfl (hb hby d8_4) rfl ?_
    show Steps p.tables e below (s₁.setTop (mkF m 5 #[.val (.int (2 : Int32)), .val (.int (3 : Int32)), .val .null] [(.int (2 : Int32))])) _
    refine XS.iloadN X0.here hx rfl (hb hby d8_5) rfl ?_
    show Steps p.tables e below (s₁.setTop (mkF m 6 #[.val (.int (2 : Int32)), .val (.int (3 : Int32)), .val .null] [(.int (3 : Int32)), (.int (2 : Int32))])) _
    refine XS.icmpYes X0.here hx rfl (pc0 := 6) (pc' := 16) rfl (hb hby d8_6) rfl (tlt (by decide : (2 : Int32) < (3 : Int32))).1 (by decide) (by decide) ?_
    show Steps p.tables e below (s₁.setTop (mkF m 16 #[.val (.int (2 : Int32)), .val (.int (3 : Int32)), .val .null] [])) _
    refine XS.iloadN X0.here hx rfl (hb hby d8_16) rfl ?_
    exact k
  obtain ⟨fs, hr, hrun, hended, hW, hsame⟩ := X0.leave (v := some (.int (2 : Int32))) (fun h => by rw [Bd.returns] at h; cases h)
  refine ⟨_, _, pre1 _ ?_, hrun, hended, _, _, rfl, ?_, ⟨_, rfl⟩, hW, hsame.mono (by decide) (by decide)⟩
  · show Steps p.tables e below (s₁.setTop (mkF m 17 #[.val (.int (2 : Int32)), .val (.int (3 : Int32)), .val .null] [(.int (2 : Int32))])) _
    exact retI X0 hx Bd.returns (hb hby d8_17) hr
  · show Q8e Z  h0 n0 _ s₁.heap _
    rw [e0]
    exact ⟨rfl, N0, rfl⟩
def Q7e (Z : State)  (h0 : Heap) (n0 : Nat) (v : Option Value) (h : Heap) (L : List Loc) : Prop := v = some (.int (2 : Int32)) ∧ Fr n0 L ∧ h = h0
theorem ef_7e (m : MethodId)  : entryFrame m #[(.int (2 : Int32)), (.int (3 : Int32))] 2 = mkF m 0 #[.val (.int (2 : Int32)), .val (.int (3 : Int32))] [] := by first | (simp [entryFrame, mkF, argsToLocals, Value.category]; done) | rfl
set_option maxRecDepth 65536 in
set_option maxHeartbeats 40000000 in
theorem rm7e (l : Launch) (Z : State) (a0 : Array Value) (hw : ∀ d ∈ tables_1, d.before a0 Z = true) (ws : List Jvm.Cond)  (h0 : Heap) (n0 : Nat) (Z0 : n0 ≤ h0.size) :
    MetFree l (⟨"java/util/Objects", "checkIndex", "(II)I"⟩ : MethodName) (head1 (Jvm.Cond.code (⟨"java/util/Objects", "checkIndex", "(II)I"⟩ : MethodName) jdk_31_method_17_code 2 (some .int) :: ws) ({ frames := 1, cells := 0, slots := 0, locals := 14 } : Room)) (fun a U => a = #[(.int (2 : Int32)), (.int (3 : Int32))] ∧ Z.Warmed39 U.vm ∧ U.heap = h0) (fun _ _ _ _ _ => True) (fun _ U o U' => ∃ v L, o = .returned v ∧ Q7e Z  h0 n0 v U'.heap L ∧ FrameEnd U o U' L ({ frames := 1, cells := 0, slots := 0, locals := 14 } : Room).cells ({ frames := 1, cells := 0, slots := 0, locals := 14 } : Room).slots) := by
  refine MetFree.of_bodySF (plainFor_of_name pn_2) hisR ?_
  intro p e s m args below meth c s₁ Bd hml0 hP hK
  obtain ⟨rfl, hZ, hh⟩ := hP
  have hx := Bd.exec
  have hby := Bd.bytes
  have hml : c.maxLocals = 2 := hml0
  have hown : s.vm.findClass "java/util/Objects" = some m.cls := findClass_of_methodNamed Bd.named
  have hnm := (name_of_methodNamed Bd.named Bd.method).1
  have X0 : Stand p l e ({ frames := 1, cells := 0, slots := 0, locals := 14 } : Room) s m #[(.int (2 : Int32)), (.int (3 : Int32))] below meth c s₁ [] 0 0 := Stand.of_body Bd
  have e0 : s₁.heap = h0 := by rw [← hh, Bd.state]; rfl
  have N0 := Fr.nil n0
  have pre0 : ∀ t, Steps p.tables e below (s₁.setTop (mkF m 0 #[.val (.int (2 : Int32)), .val (.int (3 : Int32))] [])) t → Steps p.tables e below (s₁.setTop (entryFrame m #[(.int (2 : Int32)), (.int (3 : Int32))] 2)) t := fun t k => castTop (ef_7e m ) k
  obtain ⟨_, _, ⟨T1, L1, k1, n1⟩, -, X1, ⟨Lc1, hQ1, l1, y1, z1⟩, st1⟩ := Jvm.LawKit.callS X0 hx (y := (⟨"jdk/internal/util/Preconditions", "checkIndex", "(IILjava/util/function/BiFunction;)I"⟩ : MethodName)) hown (mvT hZ (hw _ (List.mem_of_getElem? (i := 39) rfl))) (mvT hZ (hw _ (List.mem_of_getElem? (i := 40) rfl))) (mvT hZ (hw _ (List.mem_of_getElem? (i := 41) rfl))) (mvT hZ (hw _ (List.mem_of_getElem? (i := 42) rfl))) (by decide) (backOf (W := 0) (rm8e l Z a0 hw []  h0 n0 (Nat.le_trans Z0 (Keep.refl h0 []).1) ) hZ (hw _ (List.mem_of_getElem? (i := 42) rfl)) (hw _ (List.mem_of_getElem? (i := 41) rfl)) (by decide) (by decide)) (g := (mkF m 3 #[.val (.int (2 : Int32)), .val (.int (3 : Int32))] [.null, (.int (3 : Int32)), (.int (2 : Int32))])) rfl (by rw [hml]; rfl) (argsL := [(.int (2 : Int32)), (.int (3 : Int32)), .null]) (rest := []) (lenOf pd_3 rfl) rfl (by show 2 * 0 + _ ≤ _; exact Nat.le_of_eq rfl) (hb hby d7_3) (fun _ _ => ⟨rfl, e0, (by decide : 0 + 0 ≤ _), (by decide : 0 + 0 ≤ _)⟩)
  dsimp only [Pt.U, Pt.locs, Pt.cells, Pt.slots] at X1 l1 y1 z1 st1 hQ1
  subst l1 y1 z1
  obtain ⟨rfl, Nq1, e1⟩ := hQ1
  have N1 := Fr.app N0 Nq1
  have pre2 : ∀ t, Steps p.tables e below (T1.setTop (mkF m 6 #[.val (.int (2 : Int32)), .val (.int (3 : Int32))] [(.int (2 : Int32))])) t → Steps p.tables e below (s₁.setTop (entryFrame m #[(.int (2 : Int32)), (.int (3 : Int32))] 2)) t := by
    intro t k
    refine pre0 _ ?_
    show Steps p.tables e below (s₁.setTop (mkF m 0 #[.val (.int (2 : Int32)), .val (.int (3 : Int32))] [])) _
    refine XS.iloadN X0.here hx rfl (hb hby d7_0) rfl ?_
    show Steps p.tables e below (s₁.setTop (mkF m 1 #[.val (.int (2 : Int32)), .val (.int (3 : Int32))] [(.int (2 : Int32))])) _
    refine XS.iloadN X0.here hx rfl (hb hby d7_1) rfl ?_
    show Steps p.tables e below (s₁.setTop (mkF m 2 #[.val (.int (2 : Int32)), .val (.int (3 : Int32))] [(.int (3 : Int32)), (.int (2 : Int32))])) _
    refine XS.aconstNull X0.here hx rfl (hb hby d7_2) ?_
    show Steps p.tables e below (s₁.setTop (mkF m 3 #[.val (.int (2 : Int32)), .val (.int (3 : Int32))] [.null, (.int (3 : Int32)), (.int (2 : Int32))])) _
    refine st1 _ ?_
    exact k
  obtain ⟨fs, hr, hrun, hended, hW, hsame⟩ := X1.leave (v := some (.int (2 : Int32))) (fun h => by rw [Bd.returns] at h; cases h)
  refine ⟨_, _, pre2 _ ?_, hrun, hended, _, _, rfl, ?_, ⟨_, rfl⟩, hW, hsame.mono (by decide) (by decide)⟩
  · show Steps p.tables e below (T1.setTop (mkF m 6 #[.val (.int (2 : Int32)), .val (.int (3 : Int32))] [(.int (2 : Int32))])) _
    exact retI X1 hx Bd.returns (hb hby d7_6) hr
  · show Q7e Z  h0 n0 _ T1.heap _
    rw [e1]
    exact ⟨rfl, N1, rfl⟩
def Q6e (Z : State) (r0 : Addr) (w_numbers_r0 : Addr) (e0_w_numbers_r0 : Int32) (e1_w_numbers_r0 : Int32) (e2_w_numbers_r0 : Int32) (k_w_numbers_r0 : ClassId) (h0 : Heap) (n0 : Nat) (v : Option Value) (h : Heap) (L : List Loc) : Prop := v = some (.int e2_w_numbers_r0) ∧ Fr n0 L ∧ h = h0
theorem ef_6e (m : MethodId) (x0 : Addr) : entryFrame m #[(.ref x0), (.int (2 : Int32))] 2 = mkF m 0 #[.val (.ref x0), .val (.int (2 : Int32))] [] := by first | (simp [entryFrame, mkF, argsToLocals, Value.category]; done) | rfl
set_option maxRecDepth 65536 in
set_option maxHeartbeats 40000000 in
theorem rm6e (l : Launch) (Z : State) (a0 : Array Value) (hw : ∀ d ∈ tables_1, d.before a0 Z = true) (ws : List Jvm.Cond) (r0 : Addr) (w_numbers_r0 : Addr) (e0_w_numbers_r0 : Int32) (e1_w_numbers_r0 : Int32) (e2_w_numbers_r0 : Int32) (k_w_numbers_r0 : ClassId) (h0 : Heap) (n0 : Nat) (Z0 : n0 ≤ h0.size) (F_numbers_r0 : Fld Z h0 r0 "com/example/baum/baum/query/NodeList$Builder" "numbers" "[I" (.ref w_numbers_r0)) (F_size_r0 : Fld Z h0 r0 "com/example/baum/baum/query/NodeList$Builder" "size" "I" (.int (3 : Int32))) (V_w_numbers_r0 : Arv Z h0 w_numbers_r0 k_w_numbers_r0 .int (16 : Int32) [(.int e0_w_numbers_r0), (.int e1_w_numbers_r0), (.int e2_w_numbers_r0), (.int (0 : Int32)), (.int (0 : Int32)), (.int (0 : Int32)), (.int (0 : Int32)), (.int (0 : Int32)), (.int (0 : Int32)), (.int (0 : Int32)), (.int (0 : Int32)), (.int (0 : Int32)), (.int (0 : Int32)), (.int (0 : Int32)), (.int (0 : Int32)), (.int (0 : Int32))] (.int (0 : Int32))) :
    MetFree l (⟨"com/example/baum/baum/query/NodeList$Builder", "get", "(I)I"⟩ : MethodName) (head1 (Jvm.Cond.code (⟨"com/example/baum/baum/query/NodeList$Builder", "get", "(I)I"⟩ : MethodName) prog_99_method_6_code 2 (some .int) :: ws) ({ frames := 2, cells := 0, slots := 0, locals := 28 } : Room)) (fun a U => a = #[(.ref r0), (.int (2 : Int32))] ∧ Z.Warmed39 U.vm ∧ U.heap = h0) (fun _ _ _ _ _ => True) (fun _ U o U' => ∃ v L, o = .returned v ∧ Q6e Z r0 w_numbers_r0 e0_w_numbers_r0 e1_w_numbers_r0 e2_w_numbers_r0 k_w_numbers_r0 h0 n0 v U'.heap L ∧ FrameEnd U o U' L ({ frames := 2, cells := 0, slots := 0, locals := 28 } : Room).cells ({ frames := 2, cells := 0, slots := 0, locals := 28 } : Room).slots) := by
  refine MetFree.of_bodySF (plainFor_of_name pn_0) hisR ?_
  intro p e s m args below meth c s₁ Bd hml0 hP hK
  obtain ⟨rfl, hZ, hh⟩ := hP
  have hx := Bd.exec
  have hby := Bd.bytes
  have hml : c.maxLocals = 2 := hml0
  have hown : s.vm.findClass "com/example/baum/baum/query/NodeList$Builder" = some m.cls := findClass_of_methodNamed Bd.named
  have hnm := (name_of_methodNamed Bd.named Bd.method).1
  have X0 : Stand p l e ({ frames := 2, cells := 0, slots := 0, locals := 28 } : Room) s m #[(.ref r0), (.int (2 : Int32))] below meth c s₁ [] 0 0 := Stand.of_body Bd
  have e0 : s₁.heap = h0 := by rw [← hh, Bd.state]; rfl
  have N0 := Fr.nil n0
  have pre0 : ∀ t, Steps p.tables e below (s₁.setTop (mkF m 0 #[.val (.ref r0), .val (.int (2 : Int32))] [])) t → Steps p.tables e below (s₁.setTop (entryFrame m #[(.ref r0), (.int (2 : Int32))] 2)) t := fun t k => castTop (ef_6e m r0) k
  obtain ⟨T1, X1, e1, st1⟩ := getF X0 hx hZ hown (host := "") (Or.inl (hw _ (List.mem_of_getElem? (i := 11) rfl))) Via.refl e0 F_numbers_r0 (g := (mkF m 1 #[.val (.ref r0), .val (.int (2 : Int32))] [(.ref r0)])) rfl rfl (hb hby d6_1)
  obtain ⟨T2, X2, e2, st2⟩ := getF X1 hx hZ hown (host := "") (Or.inl (hw _ (List.mem_of_getElem? (i := 18) rfl))) Via.refl e1 F_size_r0 (g := (mkF m 6 #[.val (.ref r0), .val (.int (2 : Int32))] [(.ref r0), (.int (2 : Int32)), (.ref w_numbers_r0)])) rfl rfl (hb hby d6_6)
  obtain ⟨_, _, ⟨T3, L3, k3, n3⟩, -, X3, ⟨Lc3, hQ3, l3, y3, z3⟩, st3⟩ := Jvm.LawKit.callS X2 hx (y := (⟨"java/util/Objects", "checkIndex", "(II)I"⟩ : MethodName)) hown (mvT hZ (hw _ (List.mem_of_getElem? (i := 35) rfl))) (mvT hZ (hw _ (List.mem_of_getElem? (i := 36) rfl))) (mvT hZ (hw _ (List.mem_of_getElem? (i := 37) rfl))) (mvT hZ (hw _ (List.mem_of_getElem? (i := 38) rfl))) (by decide) (backOf (W := 1) (rm7e l Z a0 hw []  h0 n0 (Nat.le_trans Z0 (Keep.refl h0 []).1) ) hZ (hw _ (List.mem_of_getElem? (i := 38) rfl)) (hw _ (List.mem_of_getElem? (i := 37) rfl)) (by decide) (by decide)) (g := (mkF m 9 #[.val (.ref r0), .val (.int (2 : Int32))] [(.int (3 : Int32)), (.int (2 : Int32)), (.ref w_numbers_r0)])) rfl (by rw [hml]; rfl) (argsL := [(.int (2 : Int32)), (.int (3 : Int32))]) (rest := [(.ref w_numbers_r0)]) (lenOf pd_4 rfl) rfl (by show 2 * 0 + _ ≤ _; exact Nat.le_of_eq rfl) (hb hby d6_9) (fun _ _ => ⟨rfl, e2, (by decide : 0 + 0 ≤ _), (by decide : 0 + 0 ≤ _)⟩)
  dsimp only [Pt.U, Pt.locs, Pt.cells, Pt.slots] at X3 l3 y3 z3 st3 hQ3
  subst l3 y3 z3
  obtain ⟨rfl, Nq3, e3⟩ := hQ3
  have N3 := Fr.app N0 Nq3
  obtain ⟨cl4, Ar4, Cq4, Sz4, Nn4, Hh4, Gg4⟩ := id V_w_numbers_r0
  have hin4 : ¬ ((2 : Int32) < 0 ∨ cl4.slots.size ≤ ((2 : Int32)).toNatClampNeg) := inb_of Sz4 ⟨by decide, by decide⟩
  have hat4 : cl4.slots[((2 : Int32)).toNatClampNeg]? = some (.int e2_w_numbers_r0) := Hh4.at hin4 rfl
  have pre5 : ∀ t, Steps p.tables e below (T3.setTop (mkF m 13 #[.val (.ref r0), .val (.int (2 : Int32))] [(.int e2_w_numbers_r0)])) t → Steps p.tables e below (s₁.setTop (entryFrame m #[(.ref r0), (.int (2 : Int32))] 2)) t := by
    intro t k
    refine pre0 _ ?_
    show Steps p.tables e below (s₁.setTop (mkF m 0 #[.val (.ref r0), .val (.int (2 : Int32))] [])) _
    refine XS.aloadN X0.here hx rfl (hb hby d6_0) rfl rfl ?_
    show Steps p.tables e below (s₁.setTop (mkF m 1 #[.val (.ref r0), .val (.int (2 : Int32))] [(.ref r0)])) _
    refine st1 _ ?_
    show Steps p.tables e below (T1.setTop (mkF m 4 #[.val (.ref r0), .val (.int (2 : Int32))] [(.ref w_numbers_r0)])) _
    refine XS.iloadN X1.here hx rfl (hb hby d6_4) rfl ?_
    show Steps p.tables e below (T1.setTop (mkF m 5 #[.val (.ref r0), .val (.int (2 : Int32))] [(.int (2 : Int32)), (.ref w_numbers_r0)])) _
    refine XS.aloadN X1.here hx rfl (hb hby d6_5) rfl rfl ?_
    show Steps p.tables e below (T1.setTop (mkF m 6 #[.val (.ref r0), .val (.int (2 : Int32))] [(.ref r0), (.int (2 : Int32)), (.ref w_numbers_r0)])) _
    refine st2 _ ?_
    show Steps p.tables e below (T2.setTop (mkF m 9 #[.val (.ref r0), .val (.int (2 : Int32))] [(.int (3 : Int32)), (.int (2 : Int32)), (.ref w_numbers_r0)])) _
    refine st3 _ ?_
    show Steps p.tables e below (T3.setTop (mkF m 12 #[.val (.ref r0), .val (.int (2 : Int32))] [(.int (2 : Int32)), (.ref w_numbers_r0)])) _
    refine X3.iaload hx (j := (2 : Int32)) (v := (.int e2_w_numbers_r0)) (by rw [e3]; exact Ar4.1) (State.isArrayOf_alike hZ.alike Ar4.2.1) Ar4.2.2 hin4 hat4 (g := (mkF m 12 #[.val (.ref r0), .val (.int (2 : Int32))] [(.int (2 : Int32)), (.ref w_numbers_r0)])) rfl rfl (hb hby d6_12) _ ?_
    exact k
  obtain ⟨fs, hr, hrun, hended, hW, hsame⟩ := X3.leave (v := some (.int e2_w_numbers_r0)) (fun h => by rw [Bd.returns] at h; cases h)
  refine ⟨_, _, pre5 _ ?_, hrun, hended, _, _, rfl, ?_, ⟨_, rfl⟩, hW, hsame.mono (by decide) (by decide)⟩
  · show Steps p.tables e below (T3.setTop (mkF m 13 #[.val (.ref r0), .val (.int (2 : Int32))] [(.int e2_w_numbers_r0)])) _
    exact retI X3 hx Bd.returns (hb hby d6_13) hr
  · show Q6e Z r0 w_numbers_r0 e0_w_numbers_r0 e1_w_numbers_r0 e2_w_numbers_r0 k_w_numbers_r0 h0 n0 _ T3.heap _
    rw [e3]
    exact ⟨rfl, N3, rfl⟩
def Q5c (Z : State) (r0 : Addr) (i1 : Int32) (w_numbers_r0 : Addr) (e0_w_numbers_r0 : Int32) (e1_w_numbers_r0 : Int32) (e2_w_numbers_r0 : Int32) (k_w_numbers_r0 : ClassId) (h0 : Heap) (n0 : Nat) (v : Option Value) (h : Heap) (L : List Loc) : Prop := v = none ∧ Fr n0 L ∧ Keep h0 h [r0, w_numbers_r0] ∧ Fld Z h r0 "com/example/baum/baum/query/NodeList$Builder" "size" "I" (.int (4 : Int32)) ∧ Fld Z h r0 "com/example/baum/baum/query/NodeList$Builder" "numbers" "[I" (.ref w_numbers_r0) ∧ Arv Z h w_numbers_r0 k_w_numbers_r0 .int (16 : Int32) [(.int e0_w_numbers_r0), (.int e1_w_numbers_r0), (.int e2_w_numbers_r0), (.int i1), (.int (0 : Int32)), (.int (0 : Int32)), (.int (0 : Int32)), (.int (0 : Int32)), (.int (0 : Int32)), (.int (0 : Int32)), (.int (0 : Int32)), (.int (0 : Int32)), (.int (0 : Int32)), (.int (0 : Int32)), (.int (0 : Int32)), (.int (0 : Int32))] (.int (0 : Int32)) ∧ Exa Z h r0 "com/example/baum/baum/query/NodeList$Builder"
theorem ef_5c (m : MethodId) (x0 : Addr) (x1 : Int32) : entryFrame m #[(.ref x0), (.int x1)] 2 = mkF m 0 #[.val (.ref x0), .val (.int x1)] [] := by first | (simp [entryFrame, mkF, argsToLocals, Value.category]; done) | rfl
set_option maxRecDepth 65536 in
set_option maxHeartbeats 40000000 in
theorem rm5c (l : Launch) (Z : State) (a0 : Array Value) (hw : ∀ d ∈ tables_1, d.before a0 Z = true) (ws : List Jvm.Cond) (r0 : Addr) (i1 : Int32) (w_numbers_r0 : Addr) (e0_w_numbers_r0 : Int32) (e1_w_numbers_r0 : Int32) (e2_w_numbers_r0 : Int32) (k_w_numbers_r0 : ClassId) (h0 : Heap) (n0 : Nat) (Z0 : n0 ≤ h0.size) (F_size_r0 : Fld Z h0 r0 "com/example/baum/baum/query/NodeList$Builder" "size" "I" (.int (3 : Int32))) (F_numbers_r0 : Fld Z h0 r0 "com/example/baum/baum/query/NodeList$Builder" "numbers" "[I" (.ref w_numbers_r0)) (V_w_numbers_r0 : Arv Z h0 w_numbers_r0 k_w_numbers_r0 .int (16 : Int32) [(.int e0_w_numbers_r0), (.int e1_w_numbers_r0), (.int e2_w_numbers_r0), (.int (0 : Int32)), (.int (0 : Int32)), (.int (0 : Int32)), (.int (0 : Int32)), (.int (0 : Int32)), (.int (0 : Int32)), (.int (0 : Int32)), (.int (0 : Int32)), (.int (0 : Int32)), (.int (0 : Int32)), (.int (0 : Int32)), (.int (0 : Int32)), (.int (0 : Int32))] (.int (0 : Int32))) (E_r0 : Exa Z h0 r0 "com/example/baum/baum/query/NodeList$Builder") (g_r0 : n0 ≤ r0) (ne_w_numbers_r0_r0 : w_numbers_r0 ≠ r0) (g_w_numbers_r0 : n0 ≤ w_numbers_r0) :
    MetFree l (⟨"com/example/baum/baum/query/NodeList$Builder", "add", "(I)V"⟩ : MethodName) (head1 (Jvm.Cond.code (⟨"com/example/baum/baum/query/NodeList$Builder", "add", "(I)V"⟩ : MethodName) prog_99_method_4_code 2 none :: ws) ({ frames := 0, cells := 0, slots := 0, locals := 0 } : Room)) (fun a U => a = #[(.ref r0), (.int i1)] ∧ Z.Warmed39 U.vm ∧ U.heap = h0) (fun _ _ _ _ _ => True) (fun _ U o U' => ∃ v L, o = .returned v ∧ Q5c Z r0 i1 w_numbers_r0 e0_w_numbers_r0 e1_w_numbers_r0 e2_w_numbers_r0 k_w_numbers_r0 h0 n0 v U'.heap L ∧ FrameEnd U o U' L ({ frames := 0, cells := 0, slots := 0, locals := 0 } : Room).cells ({ frames := 0, cells := 0, slots := 0, locals := 0 } : Room).slots) := by
  refine MetFree.of_bodySF (plainFor_of_name pn_0) hisR ?_
  intro p e s m args below meth c s₁ Bd hml0 hP hK
  obtain ⟨rfl, hZ, hh⟩ := hP
  have hx := Bd.exec
  have hby := Bd.bytes
  have hml : c.maxLocals = 2 := hml0
  have hown : s.vm.findClass "com/example/baum/baum/query/NodeList$Builder" = some m.cls := findClass_of_methodNamed Bd.named
  have hnm := (name_of_methodNamed Bd.named Bd.method).1
  have X0 : Stand p l e ({ frames := 0, cells := 0, slots := 0, locals := 0 } : Room) s m #[(.ref r0), (.int i1)] below meth c s₁ [] 0 0 := Stand.of_body Bd
  have e0 : s₁.heap = h0 := by rw [← hh, Bd.state]; rfl
  have N0 := Fr.nil n0
  have pre0 : ∀ t, Steps p.tables e below (s₁.setTop (mkF m 0 #[.val (.ref r0), .val (.int i1)] [])) t → Steps p.tables e below (s₁.setTop (entryFrame m #[(.ref r0), (.int i1)] 2)) t := fun t k => castTop (ef_5c m r0 i1) k
  obtain ⟨T1, X1, e1, st1⟩ := getF X0 hx hZ hown (host := "") (Or.inl (hw _ (List.mem_of_getElem? (i := 18) rfl))) Via.refl e0 F_size_r0 (g := (mkF m 1 #[.val (.ref r0), .val (.int i1)] [(.ref r0)])) rfl rfl (hb hby d5_1)
  obtain ⟨T2, X2, e2, st2⟩ := getF X1 hx hZ hown (host := "") (Or.inl (hw _ (List.mem_of_getElem? (i := 11) rfl))) Via.refl e1 F_numbers_r0 (g := (mkF m 5 #[.val (.ref r0), .val (.int i1)] [(.ref r0), (.int (3 : Int32))])) rfl rfl (hb hby d5_5)
  obtain ⟨cl3, Ar3, -, Sz3, Nn3, -, -⟩ := id V_w_numbers_r0
  obtain ⟨T4, X4, e4, st4⟩ := getF X2 hx hZ hown (host := "") (Or.inl (hw _ (List.mem_of_getElem? (i := 11) rfl))) Via.refl e2 F_numbers_r0 (g := (mkF m 30 #[.val (.ref r0), .val (.int i1)] [(.ref r0)])) rfl rfl (hb hby d5_30)
  obtain ⟨T5, X5, e5, st5⟩ := getF X4 hx hZ hown (host := "") (Or.inl (hw _ (List.mem_of_getElem? (i := 18) rfl))) Via.refl e4 F_size_r0 (g := (mkF m 35 #[.val (.ref r0), .val (.int i1)] [(.ref r0), (.ref r0), (.ref w_numbers_r0)])) rfl rfl (hb hby d5_35)
  obtain ⟨T6, h6, X6, e6, W6, st6⟩ := putF X5 hx hZ hown (host := "") (Or.inl (hw _ (List.mem_of_getElem? (i := 18) rfl))) Via.refl e5 F_size_r0 E_r0 (Or.inl (hw _ (List.mem_of_getElem? (i := 19) rfl))) (hw _ (List.mem_of_getElem? (i := 2) rfl)) (ty := .int) (by decide) rfl rfl (g := (mkF m 41 #[.val (.ref r0), .val (.int i1)] [(.int (4 : Int32)), (.ref r0), (.int (3 : Int32)), (.ref w_numbers_r0)])) rfl rfl (hb hby d5_41)
  have N6 := Fr.snoc X6 N0 g_r0
  have K7 : Keep h0 h6 [r0, w_numbers_r0] := (Keep.refl h0 [r0, w_numbers_r0]).wr W6 (Or.inl (List.mem_of_getElem? (i := 0) rfl))
  have F6 := F_size_r0.same W6
  have f8 := (V_w_numbers_r0.other W6 ne_w_numbers_r0_r0)
  obtain ⟨cl9, Ar9, Cq9, Sz9, Nn9, Hh9, Gg9⟩ := id f8
  have hin9 : ¬ ((3 : Int32) < 0 ∨ cl9.slots.size ≤ ((3 : Int32)).toNatClampNeg) := inb_of Sz9 ⟨by decide, by decide⟩
  obtain ⟨T9, h9, X9, e9, W9, st9⟩ := stI X6 hx hZ e6 Ar9 (j := (3 : Int32)) hin9 (g := (mkF m 45 #[.val (.ref r0), .val (.int i1)] [(.int i1), (.int (3 : Int32)), (.ref w_numbers_r0)])) rfl rfl (hb hby d5_45)
  have V9 : Arv Z h9 w_numbers_r0 k_w_numbers_r0 .int (16 : Int32) [(.int e0_w_numbers_r0), (.int e1_w_numbers_r0), (.int e2_w_numbers_r0), (.int i1), (.int (0 : Int32)), (.int (0 : Int32)), (.int (0 : Int32)), (.int (0 : Int32)), (.int (0 : Int32)), (.int (0 : Int32)), (.int (0 : Int32)), (.int (0 : Int32)), (.int (0 : Int32)), (.int (0 : Int32)), (.int (0 : Int32)), (.int (0 : Int32))] (.int (0 : Int32)) := Arv.set Ar9 Cq9 Sz9 Nn9 Hh9 Gg9 rfl W9 3 rfl (Nat.le_of_ble_eq_true rfl)
  have N9 := Fr.snoc X9 N6 g_w_numbers_r0
  have K10 : Keep h0 h9 [r0, w_numbers_r0] := K7.wr W9 (Or.inl (List.mem_of_getElem? (i := 1) rfl))
  have pre11 : ∀ t, Steps p.tables e below (T9.setTop (mkF m 46 #[.val (.ref r0), .val (.int i1)] [])) t → Steps p.tables e below (s₁.setTop (entryFrame m #[(.ref r0), (.int i1)] 2)) t := by
    intro t k
    refine pre0 _ ?_
    show Steps p.tables e below (s₁.setTop (mkF m 0 #[.val (.ref r0), .val (.int i1)] [])) _
    refine XS.aloadN X0.here hx rfl (hb hby d5_0) rfl rfl ?_
    show Steps p.tables e below (s₁.setTop (mkF m 1 #[.val (.ref r0), .val (.int i1)] [(.ref r0)])) _
    refine st1 _ ?_
    show Steps p.tables e below (T1.setTop (mkF m 4 #[.val (.ref r0), .val (.int i1)] [(.int (3 : Int32))])) _
    refine XS.aloadN X1.here hx rfl (hb hby d5_4) rfl rfl ?_
    show Steps p.tables e below (T1.setTop (mkF m 5 #[.val (.ref r0), .val (.int i1)] [(.ref r0), (.int (3 : Int32))])) _
    refine st2 _ ?_
    show Steps p.tables e below (T2.setTop (mkF m 8 #[.val (.ref r0), .val (.int i1)] [(.ref w_numbers_r0), (.int (3 : Int32))])) _
    refine X2.arraylength hx (by rw [e2]; exact Ar3.1) (State.isArrayOf_alike hZ.alike Ar3.2.1) (g := (mkF m 8 #[.val (.ref r0), .val (.int i1)] [(.ref w_numbers_r0), (.int (3 : Int32))])) rfl rfl (hb hby d5_8) _ ?_
    rw [len_of Sz3 Nn3]
    show Steps p.tables e below (T2.setTop (mkF m 9 #[.val (.ref r0), .val (.int i1)] [(.int (16 : Int32)), (.int (3 : Int32))])) _
    refine XS.icmpYes X2.here hx rfl (pc0 := 9) (pc' := 29) rfl (hb hby d5_9) rfl (feq (by decide : ¬ ((3 : Int32) = (16 : Int32)))).2 (by decide) (by decide) ?_
    show Steps p.tables e below (T2.setTop (mkF m 29 #[.val (.ref r0), .val (.int i1)] [])) _
    refine XS.aloadN X2.here hx rfl (hb hby d5_29) rfl rfl ?_
    show Steps p.tables e below (T2.setTop (mkF m 30 #[.val (.ref r0), .val (.int i1)] [(.ref r0)])) _
    refine st4 _ ?_
    show Steps p.tables e below (T4.setTop (mkF m 33 #[.val (.ref r0), .val (.int i1)] [(.ref w_numbers_r0)])) _
    refine XS.aloadN X4.here hx rfl (hb hby d5_33) rfl rfl ?_
    show Steps p.tables e below (T4.setTop (mkF m 34 #[.val (.ref r0), .val (.int i1)] [(.ref r0), (.ref w_numbers_r0)])) _
    refine XS.dup X4.here hx rfl (hb hby d5_34) rfl rfl ?_
    show Steps p.tables e below (T4.setTop (mkF m 35 #[.val (.ref r0), .val (.int i1)] [(.ref r0), (.ref r0), (.ref w_numbers_r0)])) _
    refine st5 _ ?_
    show Steps p.tables e below (T5.setTop (mkF m 38 #[.val (.ref r0), .val (.int i1)] [(.int (3 : Int32)), (.ref r0), (.ref w_numbers_r0)])) _
    refine XS.dupX1 X5.here hx rfl (hb hby d5_38) rfl rfl rfl ?_
    show Steps p.tables e below (T5.setTop (mkF m 39 #[.val (.ref r0), .val (.int i1)] [(.int (3 : Int32)), (.ref r0), (.int (3 : Int32)), (.ref w_numbers_r0)])) _
    refine XS.iconst X5.here hx rfl (hb hby d5_39) ?_
    show Steps p.tables e below (T5.setTop (mkF m 40 #[.val (.ref r0), .val (.int i1)] [(.int (1 : Int32)), (.int (3 : Int32)), (.ref r0), (.int (3 : Int32)), (.ref w_numbers_r0)])) _
    refine XS.iadd X5.here hx rfl (hb hby d5_40) rfl ?_
    show Steps p.tables e below (T5.setTop (mkF m 41 #[.val (.ref r0), .val (.int i1)] [(.int (4 : Int32)), (.ref r0), (.int (3 : Int32)), (.ref w_numbers_r0)])) _
    refine st6 _ ?_
    show Steps p.tables e below (T6.setTop (mkF m 44 #[.val (.ref r0), .val (.int i1)] [(.int (3 : Int32)), (.ref w_numbers_r0)])) _
    refine XS.iloadN X6.here hx rfl (hb hby d5_44) rfl ?_
    show Steps p.tables e below (T6.setTop (mkF m 45 #[.val (.ref r0), .val (.int i1)] [(.int i1), (.int (3 : Int32)), (.ref w_numbers_r0)])) _
    refine st9 _ ?_
    exact k
  have f12 := (F6.other W9 (Or.inl (Ne.symm ne_w_numbers_r0_r0)))
  have f13 := ((F_numbers_r0.other W6 (Or.inr (slot_ne (Or.inl (hw _ (List.mem_of_getElem? (i := 12) rfl))) (Or.inl (hw _ (List.mem_of_getElem? (i := 19) rfl))) (by decide) (t := (.array .int)) (t' := .int) (by decide) (by decide)))).other W9 (Or.inl (Ne.symm ne_w_numbers_r0_r0)))
  have f14 := ((E_r0.wr W6).wr W9)
  obtain ⟨fs, hr, hrun, hended, hW, hsame⟩ := X9.leave (v := none) (fun _ => rfl)
  refine ⟨_, _, pre11 _ ?_, hrun, hended, _, _, rfl, ?_, ⟨_, rfl⟩, hW, hsame.mono (by decide) (by decide)⟩
  · show Steps p.tables e below (T9.setTop (mkF m 46 #[.val (.ref r0), .val (.int i1)] [])) _
    exact X9.returnOut hx Bd.returns (hb hby d5_46) hr
  · show Q5c Z r0 i1 w_numbers_r0 e0_w_numbers_r0 e1_w_numbers_r0 e2_w_numbers_r0 k_w_numbers_r0 h0 n0 _ T9.heap _
    rw [e9]
    exact ⟨rfl, N9, K10, f12, f13, V9, f14⟩
def own_v3d_w_numbers_r0_0 (i1 : Int32) (e0_w_numbers_r0 : Int32) (e3_w_numbers_r0 : Int32) : Int32 := (if i1 = (0 : Int32) then e3_w_numbers_r0 else (if i1 = (1 : Int32) then e0_w_numbers_r0 else (if i1 = (2 : Int32) then e0_w_numbers_r0 else (if i1 = (3 : Int32) then e0_w_numbers_r0 else e0_w_numbers_r0))))
def own_v3d_w_numbers_r0_1 (i1 : Int32) (e1_w_numbers_r0 : Int32) (e2_w_numbers_r0 : Int32) (e3_w_numbers_r0 : Int32) : Int32 := (if i1 = (0 : Int32) then e2_w_numbers_r0 else (if i1 = (1 : Int32) then e3_w_numbers_r0 else (if i1 = (2 : Int32) then e1_w_numbers_r0 else (if i1 = (3 : Int32) then e1_w_numbers_r0 else e1_w_numbers_r0))))
def own_v3d_w_numbers_r0_2 (i1 : Int32) (e1_w_numbers_r0 : Int32) (e2_w_numbers_r0 : Int32) (e3_w_numbers_r0 : Int32) : Int32 := (if i1 = (0 : Int32) then e1_w_numbers_r0 else (if i1 = (1 : Int32) then e2_w_numbers_r0 else (if i1 = (2 : Int32) then e3_w_numbers_r0 else (if i1 = (3 : Int32) then e2_w_numbers_r0 else e2_w_numbers_r0))))
def own_v3d_w_numbers_r0_3 (i1 : Int32) (e0_w_numbers_r0 : Int32) (e1_w_numbers_r0 : Int32) (e2_w_numbers_r0 : Int32) (e3_w_numbers_r0 : Int32) : Int32 := (if i1 = (0 : Int32) then e0_w_numbers_r0 else (if i1 = (1 : Int32) then e1_w_numbers_r0 else (if i1 = (2 : Int32) then e2_w_numbers_r0 else (if i1 = (3 : Int32) then e3_w_numbers_r0 else e3_w_numbers_r0))))
def Q3d (Z : State) (r0 : Addr) (i1 : Int32) (w_numbers_r0 : Addr) (e0_w_numbers_r0 : Int32) (e1_w_numbers_r0 : Int32) (e2_w_numbers_r0 : Int32) (e3_w_numbers_r0 : Int32) (k_w_numbers_r0 : ClassId) (h0 : Heap) (n0 : Nat) (v : Option Value) (h : Heap) (L : List Loc) : Prop := v = none ∧ Fr n0 L ∧ Keep h0 h [w_numbers_r0] ∧ Arv Z h w_numbers_r0 k_w_numbers_r0 .int (16 : Int32) [(.int (own_v3d_w_numbers_r0_0 i1 e0_w_numbers_r0 e3_w_numbers_r0)), (.int (own_v3d_w_numbers_r0_1 i1 e1_w_numbers_r0 e2_w_numbers_r0 e3_w_numbers_r0)), (.int (own_v3d_w_numbers_r0_2 i1 e1_w_numbers_r0 e2_w_numbers_r0 e3_w_numbers_r0)), (.int (own_v3d_w_numbers_r0_3 i1 e0_w_numbers_r0 e1_w_numbers_r0 e2_w_numbers_r0 e3_w_numbers_r0)), (.int (0 : Int32)), (.int (0 : Int32)), (.int (0 : Int32)), (.int (0 : Int32)), (.int (0 : Int32)), (.int (0 : Int32)), (.int (0 : Int32)), (.int (0 : Int32)), (.int (0 : Int32)), (.int (0 : Int32)), (.int (0 : Int32)), (.int (0 : Int32))] (.int (0 : Int32))
theorem ef_3d (m : MethodId) (x0 : Addr) (x1 : Int32) : entryFrame m #[(.ref x0), (.int x1)] 5 = mkF m 0 #[.val (.ref x0), .val (.int x1), .unset, .unset, .unset] [] := by first | (simp [entryFrame, mkF, argsToLocals, Value.category]; done) | rfl
set_option maxRecDepth 65536 in
set_option maxHeartbeats 40000000 in
theorem rm3d (l : Launch) (Z : State) (a0 : Array Value) (hw : ∀ d ∈ tables_1, d.before a0 Z = true) (ws : List Jvm.Cond) (r0 : Addr) (i1 : Int32) (w_numbers_r0 : Addr) (e0_w_numbers_r0 : Int32) (e1_w_numbers_r0 : Int32) (e2_w_numbers_r0 : Int32) (e3_w_numbers_r0 : Int32) (k_w_numbers_r0 : ClassId) (h0 : Heap) (n0 : Nat) (Z0 : n0 ≤ h0.size) (F_size_r0 : Fld Z h0 r0 "com/example/baum/baum/query/NodeList$Builder" "size" "I" (.int (4 : Int32))) (hst : i1 = (0 : Int32) ∨ i1 = (1 : Int32) ∨ i1 = (2 : Int32) ∨ i1 = (3 : Int32) ∨ i1 = (4 : Int32)) (F_numbers_r0 : Fld Z h0 r0 "com/example/baum/baum/query/NodeList$Builder" "numbers" "[I" (.ref w_numbers_r0)) (V_w_numbers_r0 : Arv Z h0 w_numbers_r0 k_w_numbers_r0 .int (16 : Int32) [(.int e0_w_numbers_r0), (.int e1_w_numbers_r0), (.int e2_w_numbers_r0), (.int e3_w_numbers_r0), (.int (0 : Int32)), (.int (0 : Int32)), (.int (0 : Int32)), (.int (0 : Int32)), (.int (0 : Int32)), (.int (0 : Int32)), (.int (0 : Int32)), (.int (0 : Int32)), (.int (0 : Int32)), (.int (0 : Int32)), (.int (0 : Int32)), (.int (0 : Int32))] (.int (0 : Int32))) (g_w_numbers_r0 : n0 ≤ w_numbers_r0) (ne_r0_w_numbers_r0 : r0 ≠ w_numbers_r0) :
    MetFree l (⟨"com/example/baum/baum/query/NodeList$Builder", "reverseFrom", "(I)V"⟩ : MethodName) (head1 (Jvm.Cond.code (⟨"com/example/baum/baum/query/NodeList$Builder", "reverseFrom", "(I)V"⟩ : MethodName) prog_99_method_7_code 5 none :: ws) ({ frames := 0, cells := 0, slots := 0, locals := 0 } : Room)) (fun a U => a = #[(.ref r0), (.int i1)] ∧ Z.Warmed39 U.vm ∧ U.heap = h0) (fun _ _ _ _ _ => True) (fun _ U o U' => ∃ v L, o = .returned v ∧ Q3d Z r0 i1 w_numbers_r0 e0_w_numbers_r0 e1_w_numbers_r0 e2_w_numbers_r0 e3_w_numbers_r0 k_w_numbers_r0 h0 n0 v U'.heap L ∧ FrameEnd U o U' L ({ frames := 0, cells := 0, slots := 0, locals := 0 } : Room).cells ({ frames := 0, cells := 0, slots := 0, locals := 0 } : Room).slots) := by
  refine MetFree.of_bodySF (plainFor_of_name pn_0) hisR ?_
  intro p e s m args below meth c s₁ Bd hml0 hP hK
  obtain ⟨rfl, hZ, hh⟩ := hP
  have hx := Bd.exec
  have hby := Bd.bytes
  have hml : c.maxLocals = 5 := hml0
  have hown : s.vm.findClass "com/example/baum/baum/query/NodeList$Builder" = some m.cls := findClass_of_methodNamed Bd.named
  have hnm := (name_of_methodNamed Bd.named Bd.method).1
  have X0 : Stand p l e ({ frames := 0, cells := 0, slots := 0, locals := 0 } : Room) s m #[(.ref r0), (.int i1)] below meth c s₁ [] 0 0 := Stand.of_body Bd
  have e0 : s₁.heap = h0 := by rw [← hh, Bd.state]; rfl
  have N0 := Fr.nil n0
  have pre0 : ∀ t, Steps p.tables e below (s₁.setTop (mkF m 0 #[.val (.ref r0), .val (.int i1), .unset, .unset, .unset] [])) t → Steps p.tables e below (s₁.setTop (entryFrame m #[(.ref r0), (.int i1)] 5)) t := fun t k => castTop (ef_3d m r0 i1) k
  have pre1 : ∀ t, Steps p.tables e below (s₁.setTop (mkF m 2 #[.val (.ref r0), .val (.int i1), .val (.int i1), .unset, .unset] [])) t → Steps p.tables e below (s₁.setTop (entryFrame m #[(.ref r0), (.int i1)] 5)) t := by
    intro t k
    refine pre0 _ ?_
    show Steps p.tables e below (s₁.setTop (mkF m 0 #[.val (.ref r0), .val (.int i1), .unset, .unset, .unset] [])) _
    refine XS.iloadN X0.here hx rfl (hb hby d3_0) rfl ?_
    show Steps p.tables e below (s₁.setTop (mkF m 1 #[.val (.ref r0), .val (.int i1), .unset, .unset, .unset] [(.int i1)])) _
    refine XS.istoreN X0.here hx rfl (hb hby d3_1) rfl (l' := #[.val (.ref r0), .val (.int i1), .val (.int i1), .unset, .unset]) rfl ?_
    exact k
  rcases (hst : i1 = (0 : Int32) ∨ i1 = (1 : Int32) ∨ i1 = (2 : Int32) ∨ i1 = (3 : Int32) ∨ i1 = (4 : Int32)) with hk2 | hk2 | hk2 | hk2 | hk2
  · have pre3 : ∀ t, Steps p.tables e below (s₁.setTop (mkF m 2 #[.val (.ref r0), .val (.int (0 : Int32)), .val (.int (0 : Int32)), .unset, .unset] [])) t → Steps p.tables e below (s₁.setTop (entryFrame m #[(.ref r0), (.int i1)] 5)) t := fun t k => pre1 t (by rw [hk2]; exact k)
    obtain ⟨T4, X4, e4, st4⟩ := getF X0 hx hZ hown (host := "") (Or.inl (hw _ (List.mem_of_getElem? (i := 18) rfl))) Via.refl e0 F_size_r0 (g := (mkF m 3 #[.val (.ref r0), .val (.int (0 : Int32)), .val (.int (0 : Int32)), .unset, .unset] [(.ref r0)])) rfl rfl (hb hby d3_3)
    obtain ⟨T5, X5, e5, st5⟩ := getF X4 hx hZ hown (host := "") (Or.inl (hw _ (List.mem_of_getElem? (i := 11) rfl))) Via.refl e4 F_numbers_r0 (g := (mkF m 15 #[.val (.ref r0), .val (.int (0 : Int32)), .val (.int (0 : Int32)), .val (.int (3 : Int32)), .unset] [(.ref r0)])) rfl rfl (hb hby d3_15)
    obtain ⟨cl6, Ar6, Cq6, Sz6, Nn6, Hh6, Gg6⟩ := id V_w_numbers_r0
    have hin6 : ¬ ((0 : Int32) < 0 ∨ cl6.slots.size ≤ ((0 : Int32)).toNatClampNeg) := inb_of Sz6 ⟨by decide, by decide⟩
    have hat6 : cl6.slots[((0 : Int32)).toNatClampNeg]? = some (.int e0_w_numbers_r0) := Hh6.at hin6 rfl
    obtain ⟨T7, X7, e7, st7⟩ := getF X5 hx hZ hown (host := "") (Or.inl (hw _ (List.mem_of_getElem? (i := 11) rfl))) Via.refl e5 F_numbers_r0 (g := (mkF m 23 #[.val (.ref r0), .val (.int (0 : Int32)), .val (.int (0 : Int32)), .val (.int (3 : Int32)), .val (.int e0_w_numbers_r0)] [(.ref r0)])) rfl rfl (hb hby d3_23)
    obtain ⟨T8, X8, e8, st8⟩ := getF X7 hx hZ hown (host := "") (Or.inl (hw _ (List.mem_of_getElem? (i := 11) rfl))) Via.refl e7 F_numbers_r0 (g := (mkF m 28 #[.val (.ref r0), .val (.int (0 : Int32)), .val (.int (0 : Int32)), .val (.int (3 : Int32)), .val (.int e0_w_numbers_r0)] [(.ref r0), (.int (0 : Int32)), (.ref w_numbers_r0)])) rfl rfl (hb hby d3_28)
    obtain ⟨cl9, Ar9, Cq9, Sz9, Nn9, Hh9, Gg9⟩ := id V_w_numbers_r0
    have hin9 : ¬ ((3 : Int32) < 0 ∨ cl9.slots.size ≤ ((3 : Int32)).toNatClampNeg) := inb_of Sz9 ⟨by decide, by decide⟩
    have hat9 : cl9.slots[((3 : Int32)).toNatClampNeg]? = some (.int e3_w_numbers_r0) := Hh9.at hin9 rfl
    obtain ⟨cl10, Ar10, Cq10, Sz10, Nn10, Hh10, Gg10⟩ := id V_w_numbers_r0
    have hin10 : ¬ ((0 : Int32) < 0 ∨ cl10.slots.size ≤ ((0 : Int32)).toNatClampNeg) := inb_of Sz10 ⟨by decide, by decide⟩
    obtain ⟨T10, h10, X10, e10, W10, st10⟩ := stI X8 hx hZ e8 Ar10 (j := (0 : Int32)) hin10 (g := (mkF m 33 #[.val (.ref r0), .val (.int (0 : Int32)), .val (.int (0 : Int32)), .val (.int (3 : Int32)), .val (.int e0_w_numbers_r0)] [(.int e3_w_numbers_r0), (.int (0 : Int32)), (.ref w_numbers_r0)])) rfl rfl (hb hby d3_33)
    have V10 : Arv Z h10 w_numbers_r0 k_w_numbers_r0 .int (16 : Int32) [(.int e3_w_numbers_r0), (.int e1_w_numbers_r0), (.int e2_w_numbers_r0), (.int e3_w_numbers_r0), (.int (0 : Int32)), (.int (0 : Int32)), (.int (0 : Int32)), (.int (0 : Int32)), (.int (0 : Int32)), (.int (0 : Int32)), (.int (0 : Int32)), (.int (0 : Int32)), (.int (0 : Int32)), (.int (0 : Int32)), (.int (0 : Int32)), (.int (0 : Int32))] (.int (0 : Int32)) := Arv.set Ar10 Cq10 Sz10 Nn10 Hh10 Gg10 rfl W10 0 rfl (Nat.le_of_ble_eq_true rfl)
    have N10 := Fr.snoc X10 N0 g_w_numbers_r0
    have K11 : Keep h0 h10 [w_numbers_r0] := (Keep.refl h0 [w_numbers_r0]).wr W10 (Or.inl (List.mem_of_getElem? (i := 0) rfl))
    have f12 := (F_numbers_r0.other W10 (Or.inl ne_r0_w_numbers_r0))
    obtain ⟨T13, X13, e13, st13⟩ := getF X10 hx hZ hown (host := "") (Or.inl (hw _ (List.mem_of_getElem? (i := 11) rfl))) Via.refl e10 f12 (g := (mkF m 35 #[.val (.ref r0), .val (.int (0 : Int32)), .val (.int (0 : Int32)), .val (.int (3 : Int32)), .val (.int e0_w_numbers_r0)] [(.ref r0)])) rfl rfl (hb hby d3_35)
    obtain ⟨cl14, Ar14, Cq14, Sz14, Nn14, Hh14, Gg14⟩ := id V10
    have hin14 : ¬ ((3 : Int32) < 0 ∨ cl14.slots.size ≤ ((3 : Int32)).toNatClampNeg) := inb_of Sz14 ⟨by decide, by decide⟩
    obtain ⟨T14, h14, X14, e14, W14, st14⟩ := stI X13 hx hZ e13 Ar14 (j := (3 : Int32)) hin14 (g := (mkF m 41 #[.val (.ref r0), .val (.int (0 : Int32)), .val (.int (0 : Int32)), .val (.int (3 : Int32)), .val (.int e0_w_numbers_r0)] [(.int e0_w_numbers_r0), (.int (3 : Int32)), (.ref w_numbers_r0)])) rfl rfl (hb hby d3_41)
    have V14 : Arv Z h14 w_numbers_r0 k_w_numbers_r0 .int (16 : Int32) [(.int e3_w_numbers_r0), (.int e1_w_numbers_r0), (.int e2_w_numbers_r0), (.int e0_w_numbers_r0), (.int (0 : Int32)), (.int (0 : Int32)), (.int (0 : Int32)), (.int (0 : Int32)), (.int (0 : Int32)), (.int (0 : Int32)), (.int (0 : Int32)), (.int (0 : Int32)), (.int (0 : Int32)), (.int (0 : Int32)), (.int (0 : Int32)), (.int (0 : Int32))] (.int (0 : Int32)) := Arv.set Ar14 Cq14 Sz14 Nn14 Hh14 Gg14 rfl W14 3 rfl (Nat.le_of_ble_eq_true rfl)
    have N14 := Fr.snoc X14 N10 g_w_numbers_r0
    have K15 : Keep h0 h14 [w_numbers_r0] := K11.wr W14 (Or.inl (List.mem_of_getElem? (i := 0) rfl))
    have f16 := (f12.other W14 (Or.inl ne_r0_w_numbers_r0))
    obtain ⟨T17, X17, e17, st17⟩ := getF X14 hx hZ hown (host := "") (Or.inl (hw _ (List.mem_of_getElem? (i := 11) rfl))) Via.refl e14 f16 (g := (mkF m 15 #[.val (.ref r0), .val (.int (0 : Int32)), .val (.int (1 : Int32)), .val (.int (2 : Int32)), .val (.int e0_w_numbers_r0)] [(.ref r0)])) rfl rfl (hb hby d3_15)
    obtain ⟨cl18, Ar18, Cq18, Sz18, Nn18, Hh18, Gg18⟩ := id V14
    have hin18 : ¬ ((1 : Int32) < 0 ∨ cl18.slots.size ≤ ((1 : Int32)).toNatClampNeg) := inb_of Sz18 ⟨by decide, by decide⟩
    have hat18 : cl18.slots[((1 : Int32)).toNatClampNeg]? = some (.int e1_w_numbers_r0) := Hh18.at hin18 rfl
    obtain ⟨T19, X19, e19, st19⟩ := getF X17 hx hZ hown (host := "") (Or.inl (hw _ (List.mem_of_getElem? (i := 11) rfl))) Via.refl e17 f16 (g := (mkF m 23 #[.val (.ref r0), .val (.int (0 : Int32)), .val (.int (1 : Int32)), .val (.int (2 : Int32)), .val (.int e1_w_numbers_r0)] [(.ref r0)])) rfl rfl (hb hby d3_23)
    obtain ⟨T20, X20, e20, st20⟩ := getF X19 hx hZ hown (host := "") (Or.inl (hw _ (List.mem_of_getElem? (i := 11) rfl))) Via.refl e19 f16 (g := (mkF m 28 #[.val (.ref r0), .val (.int (0 : Int32)), .val (.int (1 : Int32)), .val (.int (2 : Int32)), .val (.int e1_w_numbers_r0)] [(.ref r0), (.int (1 : Int32)), (.ref w_numbers_r0)])) rfl rfl (hb hby d3_28)
    obtain ⟨cl21, Ar21, Cq21, Sz21, Nn21, Hh21, Gg21⟩ := id V14
    have hin21 : ¬ ((2 : Int32) < 0 ∨ cl21.slots.size ≤ ((2 : Int32)).toNatClampNeg) := inb_of Sz21 ⟨by decide, by decide⟩
    have hat21 : cl21.slots[((2 : Int32)).toNatClampNeg]? = some (.int e2_w_numbers_r0) := Hh21.at hin21 rfl
    obtain ⟨cl22, Ar22, Cq22, Sz22, Nn22, Hh22, Gg22⟩ := id V14
    have hin22 : ¬ ((1 : Int32) < 0 ∨ cl22.slots.size ≤ ((1 : Int32)).toNatClampNeg) := inb_of Sz22 ⟨by decide, by decide⟩
    obtain ⟨T22, h22, X22, e22, W22, st22⟩ := stI X20 hx hZ e20 Ar22 (j := (1 : Int32)) hin22 (g := (mkF m 33 #[.val (.ref r0), .val (.int (0 : Int32)), .val (.int (1 : Int32)), .val (.int (2 : Int32)), .val (.int e1_w_numbers_r0)] [(.int e2_w_numbers_r0), (.int (1 : Int32)), (.ref w_numbers_r0)])) rfl rfl (hb hby d3_33)
    have V22 : Arv Z h22 w_numbers_r0 k_w_numbers_r0 .int (16 : Int32) [(.int e3_w_numbers_r0), (.int e2_w_numbers_r0), (.int e2_w_numbers_r0), (.int e0_w_numbers_r0), (.int (0 : Int32)), (.int (0 : Int32)), (.int (0 : Int32)), (.int (0 : Int32)), (.int (0 : Int32)), (.int (0 : Int32)), (.int (0 : Int32)), (.int (0 : Int32)), (.int (0 : Int32)), (.int (0 : Int32)), (.int (0 : Int32)), (.int (0 : Int32))] (.int (0 : Int32)) := Arv.set Ar22 Cq22 Sz22 Nn22 Hh22 Gg22 rfl W22 1 rfl (Nat.le_of_ble_eq_true rfl)
    have N22 := Fr.snoc X22 N14 g_w_numbers_r0
    have K23 : Keep h0 h22 [w_numbers_r0] := K15.wr W22 (Or.inl (List.mem_of_getElem? (i := 0) rfl))
    have f24 := (f16.other W22 (Or.inl ne_r0_w_numbers_r0))
    obtain ⟨T25, X25, e25, st25⟩ := getF X22 hx hZ hown (host := "") (Or.inl (hw _ (List.mem_of_getElem? (i := 11) rfl))) Via.refl e22 f24 (g := (mkF m 35 #[.val (.ref r0), .val (.int (0 : Int32)), .val (.int (1 : Int32)), .val (.int (2 : Int32)), .val (.int e1_w_numbers_r0)] [(.ref r0)])) rfl rfl (hb hby d3_35)
    obtain ⟨cl26, Ar26, Cq26, Sz26, Nn26, Hh26, Gg26⟩ := id V22
    have hin26 : ¬ ((2 : Int32) < 0 ∨ cl26.slots.size ≤ ((2 : Int32)).toNatClampNeg) := inb_of Sz26 ⟨by decide, by decide⟩
    obtain ⟨T26, h26, X26, e26, W26, st26⟩ := stI X25 hx hZ e25 Ar26 (j := (2 : Int32)) hin26 (g := (mkF m 41 #[.val (.ref r0), .val (.int (0 : Int32)), .val (.int (1 : Int32)), .val (.int (2 : Int32)), .val (.int e1_w_numbers_r0)] [(.int e1_w_numbers_r0), (.int (2 : Int32)), (.ref w_numbers_r0)])) rfl rfl (hb hby d3_41)
    have V26 : Arv Z h26 w_numbers_r0 k_w_numbers_r0 .int (16 : Int32) [(.int e3_w_numbers_r0), (.int e2_w_numbers_r0), (.int e1_w_numbers_r0), (.int e0_w_numbers_r0), (.int (0 : Int32)), (.int (0 : Int32)), (.int (0 : Int32)), (.int (0 : Int32)), (.int (0 : Int32)), (.int (0 : Int32)), (.int (0 : Int32)), (.int (0 : Int32)), (.int (0 : Int32)), (.int (0 : Int32)), (.int (0 : Int32)), (.int (0 : Int32))] (.int (0 : Int32)) := Arv.set Ar26 Cq26 Sz26 Nn26 Hh26 Gg26 rfl W26 2 rfl (Nat.le_of_ble_eq_true rfl)
    have N26 := Fr.snoc X26 N22 g_w_numbers_r0
    have K27 : Keep h0 h26 [w_numbers_r0] := K23.wr W26 (Or.inl (List.mem_of_getElem? (i := 0) rfl))
    have pre28 : ∀ t, Steps p.tables e below (T26.setTop (mkF m 51 #[.val (.ref r0), .val (.int (0 : Int32)), .val (.int (2 : Int32)), .val (.int (1 : Int32)), .val (.int e1_w_numbers_r0)] [])) t → Steps p.tables e below (s₁.setTop (entryFrame m #[(.ref r0), (.int i1)] 5)) t := by
      intro t k
      refine pre3 _ ?_
      show Steps p.tables e below (s₁.setTop (mkF m 2 #[.val (.ref r0), .val (.int (0 : Int32)), .val (.int (0 : Int32)), .unset, .unset] [])) _
      refine XS.aloadN X0.here hx rfl (hb hby d3_2) rfl rfl ?_
      show Steps p.tables e below (s₁.setTop (mkF m 3 #[.val (.ref r0), .val (.int (0 : Int32)), .val (.int (0 : Int32)), .unset, .unset] [(.ref r0)])) _
      refine st4 _ ?_
      show Steps p.tables e below (T4.setTop (mkF m 6 #[.val (.ref r0), .val (.int (0 : Int32)), .val (.int (0 : Int32)), .unset, .unset] [(.int (4 : Int32))])) _
      refine XS.iconst X4.here hx rfl (hb hby d3_6) ?_
      show Steps p.tables e below (T4.setTop (mkF m 7 #[.val (.ref r0), .val (.int (0 : Int32)), .val (.int (0 : Int32)), .unset, .unset] [(.int (1 : Int32)), (.int (4 : Int32))])) _
      refine XS.isub X4.here hx rfl (hb hby d3_7) rfl ?_
      show Steps p.tables e below (T4.setTop (mkF m 8 #[.val (.ref r0), .val (.int (0 : Int32)), .val (.int (0 : Int32)), .unset, .unset] [(.int (3 : Int32))])) _
      refine XS.istoreN X4.here hx rfl (hb hby d3_8) rfl (l' := #[.val (.ref r0), .val (.int (0 : Int32)), .val (.int (0 : Int32)), .val (.int (3 : Int32)), .unset]) rfl ?_
      show Steps p.tables e below (T4.setTop (mkF m 9 #[.val (.ref r0), .val (.int (0 : Int32)), .val (.int (0 : Int32)), .val (.int (3 : Int32)), .unset] [])) _
      refine XS.iloadN X4.here hx rfl (hb hby d3_9) rfl ?_
      show Steps p.tables e below (T4.setTop (mkF m 10 #[.val (.ref r0), .val (.int (0 : Int32)), .val (.int (0 : Int32)), .val (.int (3 : Int32)), .unset] [(.int (0 : Int32))])) _
      refine XS.iloadN X4.here hx rfl (hb hby d3_10) rfl ?_
      show Steps p.tables e below (T4.setTop (mkF m 11 #[.val (.ref r0), .val (.int (0 : Int32)), .val (.int (0 : Int32)), .val (.int (3 : Int32)), .unset] [(.int (3 : Int32)), (.int (0 : Int32))])) _
      refine XS.icmpNo X4.here hx rfl (hb hby d3_11) rfl (tlt (by decide : (0 : Int32) < (3 : Int32))).2.1 ?_
      show Steps p.tables e below (T4.setTop (mkF m 14 #[.val (.ref r0), .val (.int (0 : Int32)), .val (.int (0 : Int32)), .val (.int (3 : Int32)), .unset] [])) _
      refine XS.aloadN X4.here hx rfl (hb hby d3_14) rfl rfl ?_
      show Steps p.tables e below (T4.setTop (mkF m 15 #[.val (.ref r0), .val (.int (0 : Int32)), .val (.int (0 : Int32)), .val (.int (3 : Int32)), .unset] [(.ref r0)])) _
      refine st5 _ ?_
      show Steps p.tables e below (T5.setTop (mkF m 18 #[.val (.ref r0), .val (.int (0 : Int32)), .val (.int (0 : Int32)), .val (.int (3 : Int32)), .unset] [(.ref w_numbers_r0)])) _
      refine XS.iloadN X5.here hx rfl (hb hby d3_18) rfl ?_
      show Steps p.tables e below (T5.setTop (mkF m 19 #[.val (.ref r0), .val (.int (0 : Int32)), .val (.int (0 : Int32)), .val (.int (3 : Int32)), .unset] [(.int (0 : Int32)), (.ref w_numbers_r0)])) _
      refine X5.iaload hx (j := (0 : Int32)) (v := (.int e0_w_numbers_r0)) (by rw [e5]; exact Ar6.1) (State.isArrayOf_alike hZ.alike Ar6.2.1) Ar6.2.2 hin6 hat6 (g := (mkF m 19 #[.val (.ref r0), .val (.int (0 : Int32)), .val (.int (0 : Int32)), .val (.int (3 : Int32)), .unset] [(.int (0 : Int32)), (.ref w_numbers_r0)])) rfl rfl (hb hby d3_19) _ ?_
      show Steps p.tables e below (T5.setTop (mkF m 20 #[.val (.ref r0), .val (.int (0 : Int32)), .val (.int (0 : Int32)), .val (.int (3 : Int32)), .unset] [(.int e0_w_numbers_r0)])) _
      refine XS.istore X5.here hx rfl (hb hby d3_20) rfl (l' := #[.val (.ref r0), .val (.int (0 : Int32)), .val (.int (0 : Int32)), .val (.int (3 : Int32)), .val (.int e0_w_numbers_r0)]) rfl ?_
      show Steps p.tables e below (T5.setTop (mkF m 22 #[.val (.ref r0), .val (.int (0 : Int32)), .val (.int (0 : Int32)), .val (.int (3 : Int32)), .val (.int e0_w_numbers_r0)] [])) _
      refine XS.aloadN X5.here hx rfl (hb hby d3_22) rfl rfl ?_
      show Steps p.tables e below (T5.setTop (mkF m 23 #[.val (.ref r0), .val (.int (0 : Int32)), .val (.int (0 : Int32)), .val (.int (3 : Int32)), .val (.int e0_w_numbers_r0)] [(.ref r0)])) _
      refine st7 _ ?_
      show Steps p.tables e below (T7.setTop (mkF m 26 #[.val (.ref r0), .val (.int (0 : Int32)), .val (.int (0 : Int32)), .val (.int (3 : Int32)), .val (.int e0_w_numbers_r0)] [(.ref w_numbers_r0)])) _
      refine XS.iloadN X7.here hx rfl (hb hby d3_26) rfl ?_
      show Steps p.tables e below (T7.setTop (mkF m 27 #[.val (.ref r0), .val (.int (0 : Int32)), .val (.int (0 : Int32)), .val (.int (3 : Int32)), .val (.int e0_w_numbers_r0)] [(.int (0 : Int32)), (.ref w_numbers_r0)])) _
      refine XS.aloadN X7.here hx rfl (hb hby d3_27) rfl rfl ?_
      show Steps p.tables e below (T7.setTop (mkF m 28 #[.val (.ref r0), .val (.int (0 : Int32)), .val (.int (0 : Int32)), .val (.int (3 : Int32)), .val (.int e0_w_numbers_r0)] [(.ref r0), (.int (0 : Int32)), (.ref w_numbers_r0)])) _
      refine st8 _ ?_
      show Steps p.tables e below (T8.setTop (mkF m 31 #[.val (.ref r0), .val (.int (0 : Int32)), .val (.int (0 : Int32)), .val (.int (3 : Int32)), .val (.int e0_w_numbers_r0)] [(.ref w_numbers_r0), (.int (0 : Int32)), (.ref w_numbers_r0)])) _
      refine XS.iloadN X8.here hx rfl (hb hby d3_31) rfl ?_
      show Steps p.tables e below (T8.setTop (mkF m 32 #[.val (.ref r0), .val (.int (0 : Int32)), .val (.int (0 : Int32)), .val (.int (3 : Int32)), .val (.int e0_w_numbers_r0)] [(.int (3 : Int32)), (.ref w_numbers_r0), (.int (0 : Int32)), (.ref w_numbers_r0)])) _
      refine X8.iaload hx (j := (3 : Int32)) (v := (.int e3_w_numbers_r0)) (by rw [e8]; exact Ar9.1) (State.isArrayOf_alike hZ.alike Ar9.2.1) Ar9.2.2 hin9 hat9 (g := (mkF m 32 #[.val (.ref r0), .val (.int (0 : Int32)), .val (.int (0 : Int32)), .val (.int (3 : Int32)), .val (.int e0_w_numbers_r0)] [(.int (3 : Int32)), (.ref w_numbers_r0), (.int (0 : Int32)), (.ref w_numbers_r0)])) rfl rfl (hb hby d3_32) _ ?_
      show Steps p.tables e below (T8.setTop (mkF m 33 #[.val (.ref r0), .val (.int (0 : Int32)), .val (.int (0 : Int32)), .val (.int (3 : Int32)), .val (.int e0_w_numbers_r0)] [(.int e3_w_numbers_r0), (.int (0 : Int32)), (.ref w_numbers_r0)])) _
      refine st10 _ ?_
      show Steps p.tables e below (T10.setTop (mkF m 34 #[.val (.ref r0), .val (.int (0 : Int32)), .val (.int (0 : Int32)), .val (.int (3 : Int32)), .val (.int e0_w_numbers_r0)] [])) _
      refine XS.aloadN X10.here hx rfl (hb hby d3_34) rfl rfl ?_
      show Steps p.tables e below (T10.setTop (mkF m 35 #[.val (.ref r0), .val (.int (0 : Int32)), .val (.int (0 : Int32)), .val (.int (3 : Int32)), .val (.int e0_w_numbers_r0)] [(.ref r0)])) _
      refine st13 _ ?_
      show Steps p.tables e below (T13.setTop (mkF m 38 #[.val (.ref r0), .val (.int (0 : Int32)), .val (.int (0 : Int32)), .val (.int (3 : Int32)), .val (.int e0_w_numbers_r0)] [(.ref w_numbers_r0)])) _
      refine XS.iloadN X13.here hx rfl (hb hby d3_38) rfl ?_
      show Steps p.tables e below (T13.setTop (mkF m 39 #[.val (.ref r0), .val (.int (0 : Int32)), .val (.int (0 : Int32)), .val (.int (3 : Int32)), .val (.int e0_w_numbers_r0)] [(.int (3 : Int32)), (.ref w_numbers_r0)])) _
      refine XS.iload X13.here hx rfl (hb hby d3_39) rfl ?_
      show Steps p.tables e below (T13.setTop (mkF m 41 #[.val (.ref r0), .val (.int (0 : Int32)), .val (.int (0 : Int32)), .val (.int (3 : Int32)), .val (.int e0_w_numbers_r0)] [(.int e0_w_numbers_r0), (.int (3 : Int32)), (.ref w_numbers_r0)])) _
      refine st14 _ ?_
      show Steps p.tables e below (T14.setTop (mkF m 42 #[.val (.ref r0), .val (.int (0 : Int32)), .val (.int (0 : Int32)), .val (.int (3 : Int32)), .val (.int e0_w_numbers_r0)] [])) _
      refine XS.iinc X14.here hx rfl (hb hby d3_42) rfl (l' := #[.val (.ref r0), .val (.int (0 : Int32)), .val (.int (1 : Int32)), .val (.int (3 : Int32)), .val (.int e0_w_numbers_r0)]) rfl ?_
      show Steps p.tables e below (T14.setTop (mkF m 45 #[.val (.ref r0), .val (.int (0 : Int32)), .val (.int (1 : Int32)), .val (.int (3 : Int32)), .val (.int e0_w_numbers_r0)] [])) _
      refine XS.iinc X14.here hx rfl (hb hby d3_45) rfl (l' := #[.val (.ref r0), .val (.int (0 : Int32)), .val (.int (1 : Int32)), .val (.int (2 : Int32)), .val (.int e0_w_numbers_r0)]) rfl ?_
      show Steps p.tables e below (T14.setTop (mkF m 48 #[.val (.ref r0), .val (.int (0 : Int32)), .val (.int (1 : Int32)), .val (.int (2 : Int32)), .val (.int e0_w_numbers_r0)] [])) _
      refine XS.goto X14.here hx rfl (pc0 := 48) (pc' := 9) rfl (hb hby d3_48) (by decide) (by decide) ?_
      show Steps p.tables e below (T14.setTop (mkF m 9 #[.val (.ref r0), .val (.int (0 : Int32)), .val (.int (1 : Int32)), .val (.int (2 : Int32)), .val (.int e0_w_numbers_r0)] [])) _
      refine XS.iloadN X14.here hx rfl (hb hby d3_9) rfl ?_
      show Steps p.tables e below (T14.setTop (mkF m 10 #[.val (.ref r0), .val (.int (0 : Int32)), .val (.int (1 : Int32)), .val (.int (2 : Int32)), .val (.int e0_w_numbers_r0)] [(.int (1 : Int32))])) _
      refine XS.iloadN X14.here hx rfl (hb hby d3_10) rfl ?_
      show Steps p.tables e below (T14.setTop (mkF m 11 #[.val (.ref r0), .val (.int (0 : Int32)), .val (.int (1 : Int32)), .val (.int (2 : Int32)), .val (.int e0_w_numbers_r0)] [(.int (2 : Int32)), (.int (1 : Int32))])) _
      refine XS.icmpNo X14.here hx rfl (hb hby d3_11) rfl (tlt (by decide : (1 : Int32) < (2 : Int32))).2.1 ?_
      show Steps p.tables e below (T14.setTop (mkF m 14 #[.val (.ref r0), .val (.int (0 : Int32)), .val (.int (1 : Int32)), .val (.int (2 : Int32)), .val (.int e0_w_numbers_r0)] [])) _
      refine XS.aloadN X14.here hx rfl (hb hby d3_14) rfl rfl ?_
      show Steps p.tables e below (T14.setTop (mkF m 15 #[.val (.ref r0), .val (.int (0 : Int32)), .val (.int (1 : Int32)), .val (.int (2 : Int32)), .val (.int e0_w_numbers_r0)] [(.ref r0)])) _
      refine st17 _ ?_
      show Steps p.tables e below (T17.setTop (mkF m 18 #[.val (.ref r0), .val (.int (0 : Int32)), .val (.int (1 : Int32)), .val (.int (2 : Int32)), .val (.int e0_w_numbers_r0)] [(.ref w_numbers_r0)])) _
      refine XS.iloadN X17.here hx rfl (hb hby d3_18) rfl ?_
      show Steps p.tables e below (T17.setTop (mkF m 19 #[.val (.ref r0), .val (.int (0 : Int32)), .val (.int (1 : Int32)), .val (.int (2 : Int32)), .val (.int e0_w_numbers_r0)] [(.int (1 : Int32)), (.ref w_numbers_r0)])) _
      refine X17.iaload hx (j := (1 : Int32)) (v := (.int e1_w_numbers_r0)) (by rw [e17]; exact Ar18.1) (State.isArrayOf_alike hZ.alike Ar18.2.1) Ar18.2.2 hin18 hat18 (g := (mkF m 19 #[.val (.ref r0), .val (.int (0 : Int32)), .val (.int (1 : Int32)), .val (.int (2 : Int32)), .val (.int e0_w_numbers_r0)] [(.int (1 : Int32)), (.ref w_numbers_r0)])) rfl rfl (hb hby d3_19) _ ?_
      show Steps p.tables e below (T17.setTop (mkF m 20 #[.val (.ref r0), .val (.int (0 : Int32)), .val (.int (1 : Int32)), .val (.int (2 : Int32)), .val (.int e0_w_numbers_r0)] [(.int e1_w_numbers_r0)])) _
      refine XS.istore X17.here hx rfl (hb hby d3_20) rfl (l' := #[.val (.ref r0), .val (.int (0 : Int32)), .val (.int (1 : Int32)), .val (.int (2 : Int32)), .val (.int e1_w_numbers_r0)]) rfl ?_
      show Steps p.tables e below (T17.setTop (mkF m 22 #[.val (.ref r0), .val (.int (0 : Int32)), .val (.int (1 : Int32)), .val (.int (2 : Int32)), .val (.int e1_w_numbers_r0)] [])) _
      refine XS.aloadN X17.here hx rfl (hb hby d3_22) rfl rfl ?_
      show Steps p.tables e below (T17.setTop (mkF m 23 #[.val (.ref r0), .val (.int (0 : Int32)), .val (.int (1 : Int32)), .val (.int (2 : Int32)), .val (.int e1_w_numbers_r0)] [(.ref r0)])) _
      refine st19 _ ?_
      show Steps p.tables e below (T19.setTop (mkF m 26 #[.val (.ref r0), .val (.int (0 : Int32)), .val (.int (1 : Int32)), .val (.int (2 : Int32)), .val (.int e1_w_numbers_r0)] [(.ref w_numbers_r0)])) _
      refine XS.iloadN X19.here hx rfl (hb hby d3_26) rfl ?_
      show Steps p.tables e below (T19.setTop (mkF m 27 #[.val (.ref r0), .val (.int (0 : Int32)), .val (.int (1 : Int32)), .val (.int (2 : Int32)), .val (.int e1_w_numbers_r0)] [(.int (1 : Int32)), (.ref w_numbers_r0)])) _
      refine XS.aloadN X19.here hx rfl (hb hby d3_27) rfl rfl ?_
      show Steps p.tables e below (T19.setTop (mkF m 28 #[.val (.ref r0), .val (.int (0 : Int32)), .val (.int (1 : Int32)), .val (.int (2 : Int32)), .val (.int e1_w_numbers_r0)] [(.ref r0), (.int (1 : Int32)), (.ref w_numbers_r0)])) _
      refine st20 _ ?_
      show Steps p.tables e below (T20.setTop (mkF m 31 #[.val (.ref r0), .val (.int (0 : Int32)), .val (.int (1 : Int32)), .val (.int (2 : Int32)), .val (.int e1_w_numbers_r0)] [(.ref w_numbers_r0), (.int (1 : Int32)), (.ref w_numbers_r0)])) _
      refine XS.iloadN X20.here hx rfl (hb hby d3_31) rfl ?_
      show Steps p.tables e below (T20.setTop (mkF m 32 #[.val (.ref r0), .val (.int (0 : Int32)), .val (.int (1 : Int32)), .val (.int (2 : Int32)), .val (.int e1_w_numbers_r0)] [(.int (2 : Int32)), (.ref w_numbers_r0), (.int (1 : Int32)), (.ref w_numbers_r0)])) _
      refine X20.iaload hx (j := (2 : Int32)) (v := (.int e2_w_numbers_r0)) (by rw [e20]; exact Ar21.1) (State.isArrayOf_alike hZ.alike Ar21.2.1) Ar21.2.2 hin21 hat21 (g := (mkF m 32 #[.val (.ref r0), .val (.int (0 : Int32)), .val (.int (1 : Int32)), .val (.int (2 : Int32)), .val (.int e1_w_numbers_r0)] [(.int (2 : Int32)), (.ref w_numbers_r0), (.int (1 : Int32)), (.ref w_numbers_r0)])) rfl rfl (hb hby d3_32) _ ?_
      show Steps p.tables e below (T20.setTop (mkF m 33 #[.val (.ref r0), .val (.int (0 : Int32)), .val (.int (1 : Int32)), .val (.int (2 : Int32)), .val (.int e1_w_numbers_r0)] [(.int e2_w_numbers_r0), (.int (1 : Int32)), (.ref w_numbers_r0)])) _
      refine st22 _ ?_
      show Steps p.tables e below (T22.setTop (mkF m 34 #[.val (.ref r0), .val (.int (0 : Int32)), .val (.int (1 : Int32)), .val (.int (2 : Int32)), .val (.int e1_w_numbers_r0)] [])) _
      refine XS.aloadN X22.here hx rfl (hb hby d3_34) rfl rfl ?_
      show Steps p.tables e below (T22.setTop (mkF m 35 #[.val (.ref r0), .val (.int (0 : Int32)), .val (.int (1 : Int32)), .val (.int (2 : Int32)), .val (.int e1_w_numbers_r0)] [(.ref r0)])) _
      refine st25 _ ?_
      show Steps p.tables e below (T25.setTop (mkF m 38 #[.val (.ref r0), .val (.int (0 : Int32)), .val (.int (1 : Int32)), .val (.int (2 : Int32)), .val (.int e1_w_numbers_r0)] [(.ref w_numbers_r0)])) _
      refine XS.iloadN X25.here hx rfl (hb hby d3_38) rfl ?_
      show Steps p.tables e below (T25.setTop (mkF m 39 #[.val (.ref r0), .val (.int (0 : Int32)), .val (.int (1 : Int32)), .val (.int (2 : Int32)), .val (.int e1_w_numbers_r0)] [(.int (2 : Int32)), (.ref w_numbers_r0)])) _
      refine XS.iload X25.here hx rfl (hb hby d3_39) rfl ?_
      show Steps p.tables e below (T25.setTop (mkF m 41 #[.val (.ref r0), .val (.int (0 : Int32)), .val (.int (1 : Int32)), .val (.int (2 : Int32)), .val (.int e1_w_numbers_r0)] [(.int e1_w_numbers_r0), (.int (2 : Int32)), (.ref w_numbers_r0)])) _
      refine st26 _ ?_
      show Steps p.tables e below (T26.setTop (mkF m 42 #[.val (.ref r0), .val (.int (0 : Int32)), .val (.int (1 : Int32)), .val (.int (2 : Int32)), .val (.int e1_w_numbers_r0)] [])) _
      refine XS.iinc X26.here hx rfl (hb hby d3_42) rfl (l' := #[.val (.ref r0), .val (.int (0 : Int32)), .val (.int (2 : Int32)), .val (.int (2 : Int32)), .val (.int e1_w_numbers_r0)]) rfl ?_
      show Steps p.tables e below (T26.setTop (mkF m 45 #[.val (.ref r0), .val (.int (0 : Int32)), .val (.int (2 : Int32)), .val (.int (2 : Int32)), .val (.int e1_w_numbers_r0)] [])) _
      refine XS.iinc X26.here hx rfl (hb hby d3_45) rfl (l' := #[.val (.ref r0), .val (.int (0 : Int32)), .val (.int (2 : Int32)), .val (.int (1 : Int32)), .val (.int e1_w_numbers_r0)]) rfl ?_
      show Steps p.tables e below (T26.setTop (mkF m 48 #[.val (.ref r0), .val (.int (0 : Int32)), .val (.int (2 : Int32)), .val (.int (1 : Int32)), .val (.int e1_w_numbers_r0)] [])) _
      refine XS.goto X26.here hx rfl (pc0 := 48) (pc' := 9) rfl (hb hby d3_48) (by decide) (by decide) ?_
      show Steps p.tables e below (T26.setTop (mkF m 9 #[.val (.ref r0), .val (.int (0 : Int32)), .val (.int (2 : Int32)), .val (.int (1 : Int32)), .val (.int e1_w_numbers_r0)] [])) _
      refine XS.iloadN X26.here hx rfl (hb hby d3_9) rfl ?_
      show Steps p.tables e below (T26.setTop (mkF m 10 #[.val (.ref r0), .val (.int (0 : Int32)), .val (.int (2 : Int32)), .val (.int (1 : Int32)), .val (.int e1_w_numbers_r0)] [(.int (2 : Int32))])) _
      refine XS.iloadN X26.here hx rfl (hb hby d3_10) rfl ?_
      show Steps p.tables e below (T26.setTop (mkF m 11 #[.val (.ref r0), .val (.int (0 : Int32)), .val (.int (2 : Int32)), .val (.int (1 : Int32)), .val (.int e1_w_numbers_r0)] [(.int (1 : Int32)), (.int (2 : Int32))])) _
      refine XS.icmpYes X26.here hx rfl (pc0 := 11) (pc' := 51) rfl (hb hby d3_11) rfl (flt (by decide : ¬ ((2 : Int32) < (1 : Int32)))).2.1 (by decide) (by decide) ?_
      exact k
    obtain ⟨fs, hr, hrun, hended, hW, hsame⟩ := X26.leave (v := none) (fun _ => rfl)
    refine ⟨_, _, pre28 _ ?_, hrun, hended, _, _, rfl, ?_, ⟨_, rfl⟩, hW, hsame.mono (by decide) (by decide)⟩
    · show Steps p.tables e below (T26.setTop (mkF m 51 #[.val (.ref r0), .val (.int (0 : Int32)), .val (.int (2 : Int32)), .val (.int (1 : Int32)), .val (.int e1_w_numbers_r0)] [])) _
      exact X26.returnOut hx Bd.returns (hb hby d3_51) hr
    · show Q3d Z r0 i1 w_numbers_r0 e0_w_numbers_r0 e1_w_numbers_r0 e2_w_numbers_r0 e3_w_numbers_r0 k_w_numbers_r0 h0 n0 _ T26.heap _
      rw [e26]
      exact ⟨rfl, N26, K27, (by rw [show (own_v3d_w_numbers_r0_3 i1 e0_w_numbers_r0 e1_w_numbers_r0 e2_w_numbers_r0 e3_w_numbers_r0) = e0_w_numbers_r0 from (if_pos hk2)]; exact (by rw [show (own_v3d_w_numbers_r0_2 i1 e1_w_numbers_r0 e2_w_numbers_r0 e3_w_numbers_r0) = e1_w_numbers_r0 from (if_pos hk2)]; exact (by rw [show (own_v3d_w_numbers_r0_1 i1 e1_w_numbers_r0 e2_w_numbers_r0 e3_w_numbers_r0) = e2_w_numbers_r0 from (if_pos hk2)]; exact (by rw [show (own_v3d_w_numbers_r0_0 i1 e0_w_numbers_r0 e3_w_numbers_r0) = e3_w_numbers_r0 from (if_pos hk2)]; exact V26))))⟩
  · have pre29 : ∀ t, Steps p.tables e below (s₁.setTop (mkF m 2 #[.val (.ref r0), .val (.int (1 : Int32)), .val (.int (1 : Int32)), .unset, .unset] [])) t → Steps p.tables e below (s₁.setTop (entryFrame m #[(.ref r0), (.int i1)] 5)) t := fun t k => pre1 t (by rw [hk2]; exact k)
    obtain ⟨T30, X30, e30, st30⟩ := getF X0 hx hZ hown (host := "") (Or.inl (hw _ (List.mem_of_getElem? (i := 18) rfl))) Via.refl e0 F_size_r0 (g := (mkF m 3 #[.val (.ref r0), .val (.int (1 : Int32)), .val (.int (1 : Int32)), .unset, .unset] [(.ref r0)])) rfl rfl (hb hby d3_3)
    obtain ⟨T31, X31, e31, st31⟩ := getF X30 hx hZ hown (host := "") (Or.inl (hw _ (List.mem_of_getElem? (i := 11) rfl))) Via.refl e30 F_numbers_r0 (g := (mkF m 15 #[.val (.ref r0), .val (.int (1 : Int32)), .val (.int (1 : Int32)), .val (.int (3 : Int32)), .unset] [(.ref r0)])) rfl rfl (hb hby d3_15)
    obtain ⟨cl32, Ar32, Cq32, Sz32, Nn32, Hh32, Gg32⟩ := id V_w_numbers_r0
    have hin32 : ¬ ((1 : Int32) < 0 ∨ cl32.slots.size ≤ ((1 : Int32)).toNatClampNeg) := inb_of Sz32 ⟨by decide, by decide⟩
    have hat32 : cl32.slots[((1 : Int32)).toNatClampNeg]? = some (.int e1_w_numbers_r0) := Hh32.at hin32 rfl
    obtain ⟨T33, X33, e33, st33⟩ := getF X31 hx hZ hown (host := "") (Or.inl (hw _ (List.mem_of_getElem? (i := 11) rfl))) Via.refl e31 F_numbers_r0 (g := (mkF m 23 #[.val (.ref r0), .val (.int (1 : Int32)), .val (.int (1 : Int32)), .val (.int (3 : Int32)), .val (.int e1_w_numbers_r0)] [(.ref r0)])) rfl rfl (hb hby d3_23)
    obtain ⟨T34, X34, e34, st34⟩ := getF X33 hx hZ hown (host := "") (Or.inl (hw _ (List.mem_of_getElem? (i := 11) rfl))) Via.refl e33 F_numbers_r0 (g := (mkF m 28 #[.val (.ref r0), .val (.int (1 : Int32)), .val (.int (1 : Int32)), .val (.int (3 : Int32)), .val (.int e1_w_numbers_r0)] [(.ref r0), (.int (1 : Int32)), (.ref w_numbers_r0)])) rfl rfl (hb hby d3_28)
    obtain ⟨cl35, Ar35, Cq35, Sz35, Nn35, Hh35, Gg35⟩ := id V_w_numbers_r0
    have hin35 : ¬ ((3 : Int32) < 0 ∨ cl35.slots.size ≤ ((3 : Int32)).toNatClampNeg) := inb_of Sz35 ⟨by decide, by decide⟩
    have hat35 : cl35.slots[((3 : Int32)).toNatClampNeg]? = some (.int e3_w_numbers_r0) := Hh35.at hin35 rfl
    obtain ⟨cl36, Ar36, Cq36, Sz36, Nn36, Hh36, Gg36⟩ := id V_w_numbers_r0
    have hin36 : ¬ ((1 : Int32) < 0 ∨ cl36.slots.size ≤ ((1 : Int32)).toNatClampNeg) := inb_of Sz36 ⟨by decide, by decide⟩
    obtain ⟨T36, h36, X36, e36, W36, st36⟩ := stI X34 hx hZ e34 Ar36 (j := (1 : Int32)) hin36 (g := (mkF m 33 #[.val (.ref r0), .val (.int (1 : Int32)), .val (.int (1 : Int32)), .val (.int (3 : Int32)), .val (.int e1_w_numbers_r0)] [(.int e3_w_numbers_r0), (.int (1 : Int32)), (.ref w_numbers_r0)])) rfl rfl (hb hby d3_33)
    have V36 : Arv Z h36 w_numbers_r0 k_w_numbers_r0 .int (16 : Int32) [(.int e0_w_numbers_r0), (.int e3_w_numbers_r0), (.int e2_w_numbers_r0), (.int e3_w_numbers_r0), (.int (0 : Int32)), (.int (0 : Int32)), (.int (0 : Int32)), (.int (0 : Int32)), (.int (0 : Int32)), (.int (0 : Int32)), (.int (0 : Int32)), (.int (0 : Int32)), (.int (0 : Int32)), (.int (0 : Int32)), (.int (0 : Int32)), (.int (0 : Int32))] (.int (0 : Int32)) := Arv.set Ar36 Cq36 Sz36 Nn36 Hh36 Gg36 rfl W36 1 rfl (Nat.le_of_ble_eq_true rfl)
    have N36 := Fr.snoc X36 N0 g_w_numbers_r0
    have K37 : Keep h0 h36 [w_numbers_r0] := (Keep.refl h0 [w_numbers_r0]).wr W36 (Or.inl (List.mem_of_getElem? (i := 0) rfl))
    have f38 := (F_numbers_r0.other W36 (Or.inl ne_r0_w_numbers_r0))
    obtain ⟨T39, X39, e39, st39⟩ := getF X36 hx hZ hown (host := "") (Or.inl (hw _ (List.mem_of_getElem? (i := 11) rfl))) Via.refl e36 f38 (g := (mkF m 35 #[.val (.ref r0), .val (.int (1 : Int32)), .val (.int (1 : Int32)), .val (.int (3 : Int32)), .val (.int e1_w_numbers_r0)] [(.ref r0)])) rfl rfl (hb hby d3_35)
    obtain ⟨cl40, Ar40, Cq40, Sz40, Nn40, Hh40, Gg40⟩ := id V36
    have hin40 : ¬ ((3 : Int32) < 0 ∨ cl40.slots.size ≤ ((3 : Int32)).toNatClampNeg) := inb_of Sz40 ⟨by decide, by decide⟩
    obtain ⟨T40, h40, X40, e40, W40, st40⟩ := stI X39 hx hZ e39 Ar40 (j := (3 : Int32)) hin40 (g := (mkF m 41 #[.val (.ref r0), .val (.int (1 : Int32)), .val (.int (1 : Int32)), .val (.int (3 : Int32)), .val (.int e1_w_numbers_r0)] [(.int e1_w_numbers_r0), (.int (3 : Int32)), (.ref w_numbers_r0)])) rfl rfl (hb hby d3_41)
    have V40 : Arv Z h40 w_numbers_r0 k_w_numbers_r0 .int (16 : Int32) [(.int e0_w_numbers_r0), (.int e3_w_numbers_r0), (.int e2_w_numbers_r0), (.int e1_w_numbers_r0), (.int (0 : Int32)), (.int (0 : Int32)), (.int (0 : Int32)), (.int (0 : Int32)), (.int (0 : Int32)), (.int (0 : Int32)), (.int (0 : Int32)), (.int (0 : Int32)), (.int (0 : Int32)), (.int (0 : Int32)), (.int (0 : Int32)), (.int (0 : Int32))] (.int (0 : Int32)) := Arv.set Ar40 Cq40 Sz40 Nn40 Hh40 Gg40 rfl W40 3 rfl (Nat.le_of_ble_eq_true rfl)
    have N40 := Fr.snoc X40 N36 g_w_numbers_r0
    have K41 : Keep h0 h40 [w_numbers_r0] := K37.wr W40 (Or.inl (List.mem_of_getElem? (i := 0) rfl))
    have pre42 : ∀ t, Steps p.tables e below (T40.setTop (mkF m 51 #[.val (.ref r0), .val (.int (1 : Int32)), .val (.int (2 : Int32)), .val (.int (2 : Int32)), .val (.int e1_w_numbers_r0)] [])) t → Steps p.tables e below (s₁.setTop (entryFrame m #[(.ref r0), (.int i1)] 5)) t := by
      intro t k
      refine pre29 _ ?_
      show Steps p.tables e below (s₁.setTop (mkF m 2 #[.val (.ref r0), .val (.int (1 : Int32)), .val (.int (1 : Int32)), .unset, .unset] [])) _
      refine XS.aloadN X0.here hx rfl (hb hby d3_2) rfl rfl ?_
      show Steps p.tables e below (s₁.setTop (mkF m 3 #[.val (.ref r0), .val (.int (1 : Int32)), .val (.int (1 : Int32)), .unset, .unset] [(.ref r0)])) _
      refine st30 _ ?_
      show Steps p.tables e below (T30.setTop (mkF m 6 #[.val (.ref r0), .val (.int (1 : Int32)), .val (.int (1 : Int32)), .unset, .unset] [(.int (4 : Int32))])) _
      refine XS.iconst X30.here hx rfl (hb hby d3_6) ?_
      show Steps p.tables e below (T30.setTop (mkF m 7 #[.val (.ref r0), .val (.int (1 : Int32)), .val (.int (1 : Int32)), .unset, .unset] [(.int (1 : Int32)), (.int (4 : Int32))])) _
      refine XS.isub X30.here hx rfl (hb hby d3_7) rfl ?_
      show Steps p.tables e below (T30.setTop (mkF m 8 #[.val (.ref r0), .val (.int (1 : Int32)), .val (.int (1 : Int32)), .unset, .unset] [(.int (3 : Int32))])) _
      refine XS.istoreN X30.here hx rfl (hb hby d3_8) rfl (l' := #[.val (.ref r0), .val (.int (1 : Int32)), .val (.int (1 : Int32)), .val (.int (3 : Int32)), .unset]) rfl ?_
      show Steps p.tables e below (T30.setTop (mkF m 9 #[.val (.ref r0), .val (.int (1 : Int32)), .val (.int (1 : Int32)), .val (.int (3 : Int32)), .unset] [])) _
      refine XS.iloadN X30.here hx rfl (hb hby d3_9) rfl ?_
      show Steps p.tables e below (T30.setTop (mkF m 10 #[.val (.ref r0), .val (.int (1 : Int32)), .val (.int (1 : Int32)), .val (.int (3 : Int32)), .unset] [(.int (1 : Int32))])) _
      refine XS.iloadN X30.here hx rfl (hb hby d3_10) rfl ?_
      show Steps p.tables e below (T30.setTop (mkF m 11 #[.val (.ref r0), .val (.int (1 : Int32)), .val (.int (1 : Int32)), .val (.int (3 : Int32)), .unset] [(.int (3 : Int32)), (.int (1 : Int32))])) _
      refine XS.icmpNo X30.here hx rfl (hb hby d3_11) rfl (tlt (by decide : (1 : Int32) < (3 : Int32))).2.1 ?_
      show Steps p.tables e below (T30.setTop (mkF m 14 #[.val (.ref r0), .val (.int (1 : Int32)), .val (.int (1 : Int32)), .val (.int (3 : Int32)), .unset] [])) _
      refine XS.aloadN X30.here hx rfl (hb hby d3_14) rfl rfl ?_
      show Steps p.tables e below (T30.setTop (mkF m 15 #[.val (.ref r0), .val (.int (1 : Int32)), .val (.int (1 : Int32)), .val (.int (3 : Int32)), .unset] [(.ref r0)])) _
      refine st31 _ ?_
      show Steps p.tables e below (T31.setTop (mkF m 18 #[.val (.ref r0), .val (.int (1 : Int32)), .val (.int (1 : Int32)), .val (.int (3 : Int32)), .unset] [(.ref w_numbers_r0)])) _
      refine XS.iloadN X31.here hx rfl (hb hby d3_18) rfl ?_
      show Steps p.tables e below (T31.setTop (mkF m 19 #[.val (.ref r0), .val (.int (1 : Int32)), .val (.int (1 : Int32)), .val (.int (3 : Int32)), .unset] [(.int (1 : Int32)), (.ref w_numbers_r0)])) _
      refine X31.iaload hx (j := (1 : Int32)) (v := (.int e1_w_numbers_r0)) (by rw [e31]; exact Ar32.1) (State.isArrayOf_alike hZ.alike Ar32.2.1) Ar32.2.2 hin32 hat32 (g := (mkF m 19 #[.val (.ref r0), .val (.int (1 : Int32)), .val (.int (1 : Int32)), .val (.int (3 : Int32)), .unset] [(.int (1 : Int32)), (.ref w_numbers_r0)])) rfl rfl (hb hby d3_19) _ ?_
      show Steps p.tables e below (T31.setTop (mkF m 20 #[.val (.ref r0), .val (.int (1 : Int32)), .val (.int (1 : Int32)), .val (.int (3 : Int32)), .unset] [(.int e1_w_numbers_r0)])) _
      refine XS.istore X31.here hx rfl (hb hby d3_20) rfl (l' := #[.val (.ref r0), .val (.int (1 : Int32)), .val (.int (1 : Int32)), .val (.int (3 : Int32)), .val (.int e1_w_numbers_r0)]) rfl ?_
      show Steps p.tables e below (T31.setTop (mkF m 22 #[.val (.ref r0), .val (.int (1 : Int32)), .val (.int (1 : Int32)), .val (.int (3 : Int32)), .val (.int e1_w_numbers_r0)] [])) _
      refine XS.aloadN X31.here hx rfl (hb hby d3_22) rfl rfl ?_
      show Steps p.tables e below (T31.setTop (mkF m 23 #[.val (.ref r0), .val (.int (1 : Int32)), .val (.int (1 : Int32)), .val (.int (3 : Int32)), .val (.int e1_w_numbers_r0)] [(.ref r0)])) _
      refine st33 _ ?_
      show Steps p.tables e below (T33.setTop (mkF m 26 #[.val (.ref r0), .val (.int (1 : Int32)), .val (.int (1 : Int32)), .val (.int (3 : Int32)), .val (.int e1_w_numbers_r0)] [(.ref w_numbers_r0)])) _
      refine XS.iloadN X33.here hx rfl (hb hby d3_26) rfl ?_
      show Steps p.tables e below (T33.setTop (mkF m 27 #[.val (.ref r0), .val (.int (1 : Int32)), .val (.int (1 : Int32)), .val (.int (3 : Int32)), .val (.int e1_w_numbers_r0)] [(.int (1 : Int32)), (.ref w_numbers_r0)])) _
      refine XS.aloadN X33.here hx rfl (hb hby d3_27) rfl rfl ?_
      show Steps p.tables e below (T33.setTop (mkF m 28 #[.val (.ref r0), .val (.int (1 : Int32)), .val (.int (1 : Int32)), .val (.int (3 : Int32)), .val (.int e1_w_numbers_r0)] [(.ref r0), (.int (1 : Int32)), (.ref w_numbers_r0)])) _
      refine st34 _ ?_
      show Steps p.tables e below (T34.setTop (mkF m 31 #[.val (.ref r0), .val (.int (1 : Int32)), .val (.int (1 : Int32)), .val (.int (3 : Int32)), .val (.int e1_w_numbers_r0)] [(.ref w_numbers_r0), (.int (1 : Int32)), (.ref w_numbers_r0)])) _
      refine XS.iloadN X34.here hx rfl (hb hby d3_31) rfl ?_
      show Steps p.tables e below (T34.setTop (mkF m 32 #[.val (.ref r0), .val (.int (1 : Int32)), .val (.int (1 : Int32)), .val (.int (3 : Int32)), .val (.int e1_w_numbers_r0)] [(.int (3 : Int32)), (.ref w_numbers_r0), (.int (1 : Int32)), (.ref w_numbers_r0)])) _
      refine X34.iaload hx (j := (3 : Int32)) (v := (.int e3_w_numbers_r0)) (by rw [e34]; exact Ar35.1) (State.isArrayOf_alike hZ.alike Ar35.2.1) Ar35.2.2 hin35 hat35 (g := (mkF m 32 #[.val (.ref r0), .val (.int (1 : Int32)), .val (.int (1 : Int32)), .val (.int (3 : Int32)), .val (.int e1_w_numbers_r0)] [(.int (3 : Int32)), (.ref w_numbers_r0), (.int (1 : Int32)), (.ref w_numbers_r0)])) rfl rfl (hb hby d3_32) _ ?_
      show Steps p.tables e below (T34.setTop (mkF m 33 #[.val (.ref r0), .val (.int (1 : Int32)), .val (.int (1 : Int32)), .val (.int (3 : Int32)), .val (.int e1_w_numbers_r0)] [(.int e3_w_numbers_r0), (.int (1 : Int32)), (.ref w_numbers_r0)])) _
      refine st36 _ ?_
      show Steps p.tables e below (T36.setTop (mkF m 34 #[.val (.ref r0), .val (.int (1 : Int32)), .val (.int (1 : Int32)), .val (.int (3 : Int32)), .val (.int e1_w_numbers_r0)] [])) _
      refine XS.aloadN X36.here hx rfl (hb hby d3_34) rfl rfl ?_
      show Steps p.tables e below (T36.setTop (mkF m 35 #[.val (.ref r0), .val (.int (1 : Int32)), .val (.int (1 : Int32)), .val (.int (3 : Int32)), .val (.int e1_w_numbers_r0)] [(.ref r0)])) _
      refine st39 _ ?_
      show Steps p.tables e below (T39.setTop (mkF m 38 #[.val (.ref r0), .val (.int (1 : Int32)), .val (.int (1 : Int32)), .val (.int (3 : Int32)), .val (.int e1_w_numbers_r0)] [(.ref w_numbers_r0)])) _
      refine XS.iloadN X39.here hx rfl (hb hby d3_38) rfl ?_
      show Steps p.tables e below (T39.setTop (mkF m 39 #[.val (.ref r0), .val (.int (1 : Int32)), .val (.int (1 : Int32)), .val (.int (3 : Int32)), .val (.int e1_w_numbers_r0)] [(.int (3 : Int32)), (.ref w_numbers_r0)])) _
      refine XS.iload X39.here hx rfl (hb hby d3_39) rfl ?_
      show Steps p.tables e below (T39.setTop (mkF m 41 #[.val (.ref r0), .val (.int (1 : Int32)), .val (.int (1 : Int32)), .val (.int (3 : Int32)), .val (.int e1_w_numbers_r0)] [(.int e1_w_numbers_r0), (.int (3 : Int32)), (.ref w_numbers_r0)])) _
      refine st40 _ ?_
      show Steps p.tables e below (T40.setTop (mkF m 42 #[.val (.ref r0), .val (.int (1 : Int32)), .val (.int (1 : Int32)), .val (.int (3 : Int32)), .val (.int e1_w_numbers_r0)] [])) _
      refine XS.iinc X40.here hx rfl (hb hby d3_42) rfl (l' := #[.val (.ref r0), .val (.int (1 : Int32)), .val (.int (2 : Int32)), .val (.int (3 : Int32)), .val (.int e1_w_numbers_r0)]) rfl ?_
      show Steps p.tables e below (T40.setTop (mkF m 45 #[.val (.ref r0), .val (.int (1 : Int32)), .val (.int (2 : Int32)), .val (.int (3 : Int32)), .val (.int e1_w_numbers_r0)] [])) _
      refine XS.iinc X40.here hx rfl (hb hby d3_45) rfl (l' := #[.val (.ref r0), .val (.int (1 : Int32)), .val (.int (2 : Int32)), .val (.int (2 : Int32)), .val (.int e1_w_numbers_r0)]) rfl ?_
      show Steps p.tables e below (T40.setTop (mkF m 48 #[.val (.ref r0), .val (.int (1 : Int32)), .val (.int (2 : Int32)), .val (.int (2 : Int32)), .val (.int e1_w_numbers_r0)] [])) _
      refine XS.goto X40.here hx rfl (pc0 := 48) (pc' := 9) rfl (hb hby d3_48) (by decide) (by decide) ?_
      show Steps p.tables e below (T40.setTop (mkF m 9 #[.val (.ref r0), .val (.int (1 : Int32)), .val (.int (2 : Int32)), .val (.int (2 : Int32)), .val (.int e1_w_numbers_r0)] [])) _
      refine XS.iloadN X40.here hx rfl (hb hby d3_9) rfl ?_
      show Steps p.tables e below (T40.setTop (mkF m 10 #[.val (.ref r0), .val (.int (1 : Int32)), .val (.int (2 : Int32)), .val (.int (2 : Int32)), .val (.int e1_w_numbers_r0)] [(.int (2 : Int32))])) _
      refine XS.iloadN X40.here hx rfl (hb hby d3_10) rfl ?_
      show Steps p.tables e below (T40.setTop (mkF m 11 #[.val (.ref r0), .val (.int (1 : Int32)), .val (.int (2 : Int32)), .val (.int (2 : Int32)), .val (.int e1_w_numbers_r0)] [(.int (2 : Int32)), (.int (2 : Int32))])) _
      refine XS.icmpYes X40.here hx rfl (pc0 := 11) (pc' := 51) rfl (hb hby d3_11) rfl (flt (by decide : ¬ ((2 : Int32) < (2 : Int32)))).2.1 (by decide) (by decide) ?_
      exact k
    obtain ⟨fs, hr, hrun, hended, hW, hsame⟩ := X40.leave (v := none) (fun _ => rfl)
    refine ⟨_, _, pre42 _ ?_, hrun, hended, _, _, rfl, ?_, ⟨_, rfl⟩, hW, hsame.mono (by decide) (by decide)⟩
    · show Steps p.tables e below (T40.setTop (mkF m 51 #[.val (.ref r0), .val (.int (1 : Int32)), .val (.int (2 : Int32)), .val (.int (2 : Int32)), .val (.int e1_w_numbers_r0)] [])) _
      exact X40.returnOut hx Bd.returns (hb hby d3_51) hr
    · show Q3d Z r0 i1 w_numbers_r0 e0_w_numbers_r0 e1_w_numbers_r0 e2_w_numbers_r0 e3_w_numbers_r0 k_w_numbers_r0 h0 n0 _ T40.heap _
      rw [e40]
      exact ⟨rfl, N40, K41, (by rw [show (own_v3d_w_numbers_r0_3 i1 e0_w_numbers_r0 e1_w_numbers_r0 e2_w_numbers_r0 e3_w_numbers_r0) = e1_w_numbers_r0 from ((if_neg (by rw [hk2]; decide)).trans (if_pos hk2))]; exact (by rw [show (own_v3d_w_numbers_r0_2 i1 e1_w_numbers_r0 e2_w_numbers_r0 e3_w_numbers_r0) = e2_w_numbers_r0 from ((if_neg (by rw [hk2]; decide)).trans (if_pos hk2))]; exact (by rw [show (own_v3d_w_numbers_r0_1 i1 e1_w_numbers_r0 e2_w_numbers_r0 e3_w_numbers_r0) = e3_w_numbers_r0 from ((if_neg (by rw [hk2]; decide)).trans (if_pos hk2))]; exact (by rw [show (own_v3d_w_numbers_r0_0 i1 e0_w_numbers_r0 e3_w_numbers_r0) = e0_w_numbers_r0 from ((if_neg (by rw [hk2]; decide)).trans (if_pos hk2))]; exact V40))))⟩
  · have pre43 : ∀ t, Steps p.tables e below (s₁.setTop (mkF m 2 #[.val (.ref r0), .val (.int (2 : Int32)), .val (.int (2 : Int32)), .unset, .unset] [])) t → Steps p.tables e below (s₁.setTop (entryFrame m #[(.ref r0), (.int i1)] 5)) t := fun t k => pre1 t (by rw [hk2]; exact k)
    obtain ⟨T44, X44, e44, st44⟩ := getF X0 hx hZ hown (host := "") (Or.inl (hw _ (List.mem_of_getElem? (i := 18) rfl))) Via.refl e0 F_size_r0 (g := (mkF m 3 #[.val (.ref r0), .val (.int (2 : Int32)), .val (.int (2 : Int32)), .unset, .unset] [(.ref r0)])) rfl rfl (hb hby d3_3)
    obtain ⟨T45, X45, e45, st45⟩ := getF X44 hx hZ hown (host := "") (Or.inl (hw _ (List.mem_of_getElem? (i := 11) rfl))) Via.refl e44 F_numbers_r0 (g := (mkF m 15 #[.val (.ref r0), .val (.int (2 : Int32)), .val (.int (2 : Int32)), .val (.int (3 : Int32)), .unset] [(.ref r0)])) rfl rfl (hb hby d3_15)
    obtain ⟨cl46, Ar46, Cq46, Sz46, Nn46, Hh46, Gg46⟩ := id V_w_numbers_r0
    have hin46 : ¬ ((2 : Int32) < 0 ∨ cl46.slots.size ≤ ((2 : Int32)).toNatClampNeg) := inb_of Sz46 ⟨by decide, by decide⟩
    have hat46 : cl46.slots[((2 : Int32)).toNatClampNeg]? = some (.int e2_w_numbers_r0) := Hh46.at hin46 rfl
    obtain ⟨T47, X47, e47, st47⟩ := getF X45 hx hZ hown (host := "") (Or.inl (hw _ (List.mem_of_getElem? (i := 11) rfl))) Via.refl e45 F_numbers_r0 (g := (mkF m 23 #[.val (.ref r0), .val (.int (2 : Int32)), .val (.int (2 : Int32)), .val (.int (3 : Int32)), .val (.int e2_w_numbers_r0)] [(.ref r0)])) rfl rfl (hb hby d3_23)
    obtain ⟨T48, X48, e48, st48⟩ := getF X47 hx hZ hown (host := "") (Or.inl (hw _ (List.mem_of_getElem? (i := 11) rfl))) Via.refl e47 F_numbers_r0 (g := (mkF m 28 #[.val (.ref r0), .val (.int (2 : Int32)), .val (.int (2 : Int32)), .val (.int (3 : Int32)), .val (.int e2_w_numbers_r0)] [(.ref r0), (.int (2 : Int32)), (.ref w_numbers_r0)])) rfl rfl (hb hby d3_28)
    obtain ⟨cl49, Ar49, Cq49, Sz49, Nn49, Hh49, Gg49⟩ := id V_w_numbers_r0
    have hin49 : ¬ ((3 : Int32) < 0 ∨ cl49.slots.size ≤ ((3 : Int32)).toNatClampNeg) := inb_of Sz49 ⟨by decide, by decide⟩
    have hat49 : cl49.slots[((3 : Int32)).toNatClampNeg]? = some (.int e3_w_numbers_r0) := Hh49.at hin49 rfl
    obtain ⟨cl50, Ar50, Cq50, Sz50, Nn50, Hh50, Gg50⟩ := id V_w_numbers_r0
    have hin50 : ¬ ((2 : Int32) < 0 ∨ cl50.slots.size ≤ ((2 : Int32)).toNatClampNeg) := inb_of Sz50 ⟨by decide, by decide⟩
    obtain ⟨T50, h50, X50, e50, W50, st50⟩ := stI X48 hx hZ e48 Ar50 (j := (2 : Int32)) hin50 (g := (mkF m 33 #[.val (.ref r0), .val (.int (2 : Int32)), .val (.int (2 : Int32)), .val (.int (3 : Int32)), .val (.int e2_w_numbers_r0)] [(.int e3_w_numbers_r0), (.int (2 : Int32)), (.ref w_numbers_r0)])) rfl rfl (hb hby d3_33)
    have V50 : Arv Z h50 w_numbers_r0 k_w_numbers_r0 .int (16 : Int32) [(.int e0_w_numbers_r0), (.int e1_w_numbers_r0), (.int e3_w_numbers_r0), (.int e3_w_numbers_r0), (.int (0 : Int32)), (.int (0 : Int32)), (.int (0 : Int32)), (.int (0 : Int32)), (.int (0 : Int32)), (.int (0 : Int32)), (.int (0 : Int32)), (.int (0 : Int32)), (.int (0 : Int32)), (.int (0 : Int32)), (.int (0 : Int32)), (.int (0 : Int32))] (.int (0 : Int32)) := Arv.set Ar50 Cq50 Sz50 Nn50 Hh50 Gg50 rfl W50 2 rfl (Nat.le_of_ble_eq_true rfl)
    have N50 := Fr.snoc X50 N0 g_w_numbers_r0
    have K51 : Keep h0 h50 [w_numbers_r0] := (Keep.refl h0 [w_numbers_r0]).wr W50 (Or.inl (List.mem_of_getElem? (i := 0) rfl))
    have f52 := (F_numbers_r0.other W50 (Or.inl ne_r0_w_numbers_r0))
    obtain ⟨T53, X53, e53, st53⟩ := getF X50 hx hZ hown (host := "") (Or.inl (hw _ (List.mem_of_getElem? (i := 11) rfl))) Via.refl e50 f52 (g := (mkF m 35 #[.val (.ref r0), .val (.int (2 : Int32)), .val (.int (2 : Int32)), .val (.int (3 : Int32)), .val (.int e2_w_numbers_r0)] [(.ref r0)])) rfl rfl (hb hby d3_35)
    obtain ⟨cl54, Ar54, Cq54, Sz54, Nn54, Hh54, Gg54⟩ := id V50
    have hin54 : ¬ ((3 : Int32) < 0 ∨ cl54.slots.size ≤ ((3 : Int32)).toNatClampNeg) := inb_of Sz54 ⟨by decide, by decide⟩
    obtain ⟨T54, h54, X54, e54, W54, st54⟩ := stI X53 hx hZ e53 Ar54 (j := (3 : Int32)) hin54 (g := (mkF m 41 #[.val (.ref r0), .val (.int (2 : Int32)), .val (.int (2 : Int32)), .val (.int (3 : Int32)), .val (.int e2_w_numbers_r0)] [(.int e2_w_numbers_r0), (.int (3 : Int32)), (.ref w_numbers_r0)])) rfl rfl (hb hby d3_41)
    have V54 : Arv Z h54 w_numbers_r0 k_w_numbers_r0 .int (16 : Int32) [(.int e0_w_numbers_r0), (.int e1_w_numbers_r0), (.int e3_w_numbers_r0), (.int e2_w_numbers_r0), (.int (0 : Int32)), (.int (0 : Int32)), (.int (0 : Int32)), (.int (0 : Int32)), (.int (0 : Int32)), (.int (0 : Int32)), (.int (0 : Int32)), (.int (0 : Int32)), (.int (0 : Int32)), (.int (0 : Int32)), (.int (0 : Int32)), (.int (0 : Int32))] (.int (0 : Int32)) := Arv.set Ar54 Cq54 Sz54 Nn54 Hh54 Gg54 rfl W54 3 rfl (Nat.le_of_ble_eq_true rfl)
    have N54 := Fr.snoc X54 N50 g_w_numbers_r0
    have K55 : Keep h0 h54 [w_numbers_r0] := K51.wr W54 (Or.inl (List.mem_of_getElem? (i := 0) rfl))
    have pre56 : ∀ t, Steps p.tables e below (T54.setTop (mkF m 51 #[.val (.ref r0), .val (.int (2 : Int32)), .val (.int (3 : Int32)), .val (.int (2 : Int32)), .val (.int e2_w_numbers_r0)] [])) t → Steps p.tables e below (s₁.setTop (entryFrame m #[(.ref r0), (.int i1)] 5)) t := by
      intro t k
      refine pre43 _ ?_
      show Steps p.tables e below (s₁.setTop (mkF m 2 #[.val (.ref r0), .val (.int (2 : Int32)), .val (.int (2 : Int32)), .unset, .unset] [])) _
      refine XS.aloadN X0.here hx rfl (hb hby d3_2) rfl rfl ?_
      show Steps p.tables e below (s₁.setTop (mkF m 3 #[.val (.ref r0), .val (.int (2 : Int32)), .val (.int (2 : Int32)), .unset, .unset] [(.ref r0)])) _
      refine st44 _ ?_
      show Steps p.tables e below (T44.setTop (mkF m 6 #[.val (.ref r0), .val (.int (2 : Int32)), .val (.int (2 : Int32)), .unset, .unset] [(.int (4 : Int32))])) _
      refine XS.iconst X44.here hx rfl (hb hby d3_6) ?_
      show Steps p.tables e below (T44.setTop (mkF m 7 #[.val (.ref r0), .val (.int (2 : Int32)), .val (.int (2 : Int32)), .unset, .unset] [(.int (1 : Int32)), (.int (4 : Int32))])) _
      refine XS.isub X44.here hx rfl (hb hby d3_7) rfl ?_
      show Steps p.tables e below (T44.setTop (mkF m 8 #[.val (.ref r0), .val (.int (2 : Int32)), .val (.int (2 : Int32)), .unset, .unset] [(.int (3 : Int32))])) _
      refine XS.istoreN X44.here hx rfl (hb hby d3_8) rfl (l' := #[.val (.ref r0), .val (.int (2 : Int32)), .val (.int (2 : Int32)), .val (.int (3 : Int32)), .unset]) rfl ?_
      show Steps p.tables e below (T44.setTop (mkF m 9 #[.val (.ref r0), .val (.int (2 : Int32)), .val (.int (2 : Int32)), .val (.int (3 : Int32)), .unset] [])) _
      refine XS.iloadN X44.here hx rfl (hb hby d3_9) rfl ?_
      show Steps p.tables e below (T44.setTop (mkF m 10 #[.val (.ref r0), .val (.int (2 : Int32)), .val (.int (2 : Int32)), .val (.int (3 : Int32)), .unset] [(.int (2 : Int32))])) _
      refine XS.iloadN X44.here hx rfl (hb hby d3_10) rfl ?_
      show Steps p.tables e below (T44.setTop (mkF m 11 #[.val (.ref r0), .val (.int (2 : Int32)), .val (.int (2 : Int32)), .val (.int (3 : Int32)), .unset] [(.int (3 : Int32)), (.int (2 : Int32))])) _
      refine XS.icmpNo X44.here hx rfl (hb hby d3_11) rfl (tlt (by decide : (2 : Int32) < (3 : Int32))).2.1 ?_
      show Steps p.tables e below (T44.setTop (mkF m 14 #[.val (.ref r0), .val (.int (2 : Int32)), .val (.int (2 : Int32)), .val (.int (3 : Int32)), .unset] [])) _
      refine XS.aloadN X44.here hx rfl (hb hby d3_14) rfl rfl ?_
      show Steps p.tables e below (T44.setTop (mkF m 15 #[.val (.ref r0), .val (.int (2 : Int32)), .val (.int (2 : Int32)), .val (.int (3 : Int32)), .unset] [(.ref r0)])) _
      refine st45 _ ?_
      show Steps p.tables e below (T45.setTop (mkF m 18 #[.val (.ref r0), .val (.int (2 : Int32)), .val (.int (2 : Int32)), .val (.int (3 : Int32)), .unset] [(.ref w_numbers_r0)])) _
      refine XS.iloadN X45.here hx rfl (hb hby d3_18) rfl ?_
      show Steps p.tables e below (T45.setTop (mkF m 19 #[.val (.ref r0), .val (.int (2 : Int32)), .val (.int (2 : Int32)), .val (.int (3 : Int32)), .unset] [(.int (2 : Int32)), (.ref w_numbers_r0)])) _
      refine X45.iaload hx (j := (2 : Int32)) (v := (.int e2_w_numbers_r0)) (by rw [e45]; exact Ar46.1) (State.isArrayOf_alike hZ.alike Ar46.2.1) Ar46.2.2 hin46 hat46 (g := (mkF m 19 #[.val (.ref r0), .val (.int (2 : Int32)), .val (.int (2 : Int32)), .val (.int (3 : Int32)), .unset] [(.int (2 : Int32)), (.ref w_numbers_r0)])) rfl rfl (hb hby d3_19) _ ?_
      show Steps p.tables e below (T45.setTop (mkF m 20 #[.val (.ref r0), .val (.int (2 : Int32)), .val (.int (2 : Int32)), .val (.int (3 : Int32)), .unset] [(.int e2_w_numbers_r0)])) _
      refine XS.istore X45.here hx rfl (hb hby d3_20) rfl (l' := #[.val (.ref r0), .val (.int (2 : Int32)), .val (.int (2 : Int32)), .val (.int (3 : Int32)), .val (.int e2_w_numbers_r0)]) rfl ?_
      show Steps p.tables e below (T45.setTop (mkF m 22 #[.val (.ref r0), .val (.int (2 : Int32)), .val (.int (2 : Int32)), .val (.int (3 : Int32)), .val (.int e2_w_numbers_r0)] [])) _
      refine XS.aloadN X45.here hx rfl (hb hby d3_22) rfl rfl ?_
      show Steps p.tables e below (T45.setTop (mkF m 23 #[.val (.ref r0), .val (.int (2 : Int32)), .val (.int (2 : Int32)), .val (.int (3 : Int32)), .val (.int e2_w_numbers_r0)] [(.ref r0)])) _
      refine st47 _ ?_
      show Steps p.tables e below (T47.setTop (mkF m 26 #[.val (.ref r0), .val (.int (2 : Int32)), .val (.int (2 : Int32)), .val (.int (3 : Int32)), .val (.int e2_w_numbers_r0)] [(.ref w_numbers_r0)])) _
      refine XS.iloadN X47.here hx rfl (hb hby d3_26) rfl ?_
      show Steps p.tables e below (T47.setTop (mkF m 27 #[.val (.ref r0), .val (.int (2 : Int32)), .val (.int (2 : Int32)), .val (.int (3 : Int32)), .val (.int e2_w_numbers_r0)] [(.int (2 : Int32)), (.ref w_numbers_r0)])) _
      refine XS.aloadN X47.here hx rfl (hb hby d3_27) rfl rfl ?_
      show Steps p.tables e below (T47.setTop (mkF m 28 #[.val (.ref r0), .val (.int (2 : Int32)), .val (.int (2 : Int32)), .val (.int (3 : Int32)), .val (.int e2_w_numbers_r0)] [(.ref r0), (.int (2 : Int32)), (.ref w_numbers_r0)])) _
      refine st48 _ ?_
      show Steps p.tables e below (T48.setTop (mkF m 31 #[.val (.ref r0), .val (.int (2 : Int32)), .val (.int (2 : Int32)), .val (.int (3 : Int32)), .val (.int e2_w_numbers_r0)] [(.ref w_numbers_r0), (.int (2 : Int32)), (.ref w_numbers_r0)])) _
      refine XS.iloadN X48.here hx rfl (hb hby d3_31) rfl ?_
      show Steps p.tables e below (T48.setTop (mkF m 32 #[.val (.ref r0), .val (.int (2 : Int32)), .val (.int (2 : Int32)), .val (.int (3 : Int32)), .val (.int e2_w_numbers_r0)] [(.int (3 : Int32)), (.ref w_numbers_r0), (.int (2 : Int32)), (.ref w_numbers_r0)])) _
      refine X48.iaload hx (j := (3 : Int32)) (v := (.int e3_w_numbers_r0)) (by rw [e48]; exact Ar49.1) (State.isArrayOf_alike hZ.alike Ar49.2.1) Ar49.2.2 hin49 hat49 (g := (mkF m 32 #[.val (.ref r0), .val (.int (2 : Int32)), .val (.int (2 : Int32)), .val (.int (3 : Int32)), .val (.int e2_w_numbers_r0)] [(.int (3 : Int32)), (.ref w_numbers_r0), (.int (2 : Int32)), (.ref w_numbers_r0)])) rfl rfl (hb hby d3_32) _ ?_
      show Steps p.tables e below (T48.setTop (mkF m 33 #[.val (.ref r0), .val (.int (2 : Int32)), .val (.int (2 : Int32)), .val (.int (3 : Int32)), .val (.int e2_w_numbers_r0)] [(.int e3_w_numbers_r0), (.int (2 : Int32)), (.ref w_numbers_r0)])) _
      refine st50 _ ?_
      show Steps p.tables e below (T50.setTop (mkF m 34 #[.val (.ref r0), .val (.int (2 : Int32)), .val (.int (2 : Int32)), .val (.int (3 : Int32)), .val (.int e2_w_numbers_r0)] [])) _
      refine XS.aloadN X50.here hx rfl (hb hby d3_34) rfl rfl ?_
      show Steps p.tables e below (T50.setTop (mkF m 35 #[.val (.ref r0), .val (.int (2 : Int32)), .val (.int (2 : Int32)), .val (.int (3 : Int32)), .val (.int e2_w_numbers_r0)] [(.ref r0)])) _
      refine st53 _ ?_
      show Steps p.tables e below (T53.setTop (mkF m 38 #[.val (.ref r0), .val (.int (2 : Int32)), .val (.int (2 : Int32)), .val (.int (3 : Int32)), .val (.int e2_w_numbers_r0)] [(.ref w_numbers_r0)])) _
      refine XS.iloadN X53.here hx rfl (hb hby d3_38) rfl ?_
      show Steps p.tables e below (T53.setTop (mkF m 39 #[.val (.ref r0), .val (.int (2 : Int32)), .val (.int (2 : Int32)), .val (.int (3 : Int32)), .val (.int e2_w_numbers_r0)] [(.int (3 : Int32)), (.ref w_numbers_r0)])) _
      refine XS.iload X53.here hx rfl (hb hby d3_39) rfl ?_
      show Steps p.tables e below (T53.setTop (mkF m 41 #[.val (.ref r0), .val (.int (2 : Int32)), .val (.int (2 : Int32)), .val (.int (3 : Int32)), .val (.int e2_w_numbers_r0)] [(.int e2_w_numbers_r0), (.int (3 : Int32)), (.ref w_numbers_r0)])) _
      refine st54 _ ?_
      show Steps p.tables e below (T54.setTop (mkF m 42 #[.val (.ref r0), .val (.int (2 : Int32)), .val (.int (2 : Int32)), .val (.int (3 : Int32)), .val (.int e2_w_numbers_r0)] [])) _
      refine XS.iinc X54.here hx rfl (hb hby d3_42) rfl (l' := #[.val (.ref r0), .val (.int (2 : Int32)), .val (.int (3 : Int32)), .val (.int (3 : Int32)), .val (.int e2_w_numbers_r0)]) rfl ?_
      show Steps p.tables e below (T54.setTop (mkF m 45 #[.val (.ref r0), .val (.int (2 : Int32)), .val (.int (3 : Int32)), .val (.int (3 : Int32)), .val (.int e2_w_numbers_r0)] [])) _
      refine XS.iinc X54.here hx rfl (hb hby d3_45) rfl (l' := #[.val (.ref r0), .val (.int (2 : Int32)), .val (.int (3 : Int32)), .val (.int (2 : Int32)), .val (.int e2_w_numbers_r0)]) rfl ?_
      show Steps p.tables e below (T54.setTop (mkF m 48 #[.val (.ref r0), .val (.int (2 : Int32)), .val (.int (3 : Int32)), .val (.int (2 : Int32)), .val (.int e2_w_numbers_r0)] [])) _
      refine XS.goto X54.here hx rfl (pc0 := 48) (pc' := 9) rfl (hb hby d3_48) (by decide) (by decide) ?_
      show Steps p.tables e below (T54.setTop (mkF m 9 #[.val (.ref r0), .val (.int (2 : Int32)), .val (.int (3 : Int32)), .val (.int (2 : Int32)), .val (.int e2_w_numbers_r0)] [])) _
      refine XS.iloadN X54.here hx rfl (hb hby d3_9) rfl ?_
      show Steps p.tables e below (T54.setTop (mkF m 10 #[.val (.ref r0), .val (.int (2 : Int32)), .val (.int (3 : Int32)), .val (.int (2 : Int32)), .val (.int e2_w_numbers_r0)] [(.int (3 : Int32))])) _
      refine XS.iloadN X54.here hx rfl (hb hby d3_10) rfl ?_
      show Steps p.tables e below (T54.setTop (mkF m 11 #[.val (.ref r0), .val (.int (2 : Int32)), .val (.int (3 : Int32)), .val (.int (2 : Int32)), .val (.int e2_w_numbers_r0)] [(.int (2 : Int32)), (.int (3 : Int32))])) _
      refine XS.icmpYes X54.here hx rfl (pc0 := 11) (pc' := 51) rfl (hb hby d3_11) rfl (flt (by decide : ¬ ((3 : Int32) < (2 : Int32)))).2.1 (by decide) (by decide) ?_
      exact k
    obtain ⟨fs, hr, hrun, hended, hW, hsame⟩ := X54.leave (v := none) (fun _ => rfl)
    refine ⟨_, _, pre56 _ ?_, hrun, hended, _, _, rfl, ?_, ⟨_, rfl⟩, hW, hsame.mono (by decide) (by decide)⟩
    · show Steps p.tables e below (T54.setTop (mkF m 51 #[.val (.ref r0), .val (.int (2 : Int32)), .val (.int (3 : Int32)), .val (.int (2 : Int32)), .val (.int e2_w_numbers_r0)] [])) _
      exact X54.returnOut hx Bd.returns (hb hby d3_51) hr
    · show Q3d Z r0 i1 w_numbers_r0 e0_w_numbers_r0 e1_w_numbers_r0 e2_w_numbers_r0 e3_w_numbers_r0 k_w_numbers_r0 h0 n0 _ T54.heap _
      rw [e54]
      exact ⟨rfl, N54, K55, (by rw [show (own_v3d_w_numbers_r0_3 i1 e0_w_numbers_r0 e1_w_numbers_r0 e2_w_numbers_r0 e3_w_numbers_r0) = e2_w_numbers_r0 from ((if_neg (by rw [hk2]; decide)).trans ((if_neg (by rw [hk2]; decide)).trans (if_pos hk2)))]; exact (by rw [show (own_v3d_w_numbers_r0_2 i1 e1_w_numbers_r0 e2_w_numbers_r0 e3_w_numbers_r0) = e3_w_numbers_r0 from ((if_neg (by rw [hk2]; decide)).trans ((if_neg (by rw [hk2]; decide)).trans (if_pos hk2)))]; exact (by rw [show (own_v3d_w_numbers_r0_1 i1 e1_w_numbers_r0 e2_w_numbers_r0 e3_w_numbers_r0) = e1_w_numbers_r0 from ((if_neg (by rw [hk2]; decide)).trans ((if_neg (by rw [hk2]; decide)).trans (if_pos hk2)))]; exact (by rw [show (own_v3d_w_numbers_r0_0 i1 e0_w_numbers_r0 e3_w_numbers_r0) = e0_w_numbers_r0 from ((if_neg (by rw [hk2]; decide)).trans ((if_neg (by rw [hk2]; decide)).trans (if_pos hk2)))]; exact V54))))⟩
  · have pre57 : ∀ t, Steps p.tables e below (s₁.setTop (mkF m 2 #[.val (.ref r0), .val (.int (3 : Int32)), .val (.int (3 : Int32)), .unset, .unset] [])) t → Steps p.tables e below (s₁.setTop (entryFrame m #[(.ref r0), (.int i1)] 5)) t := fun t k => pre1 t (by rw [hk2]; exact k)
    obtain ⟨T58, X58, e58, st58⟩ := getF X0 hx hZ hown (host := "") (Or.inl (hw _ (List.mem_of_getElem? (i := 18) rfl))) Via.refl e0 F_size_r0 (g := (mkF m 3 #[.val (.ref r0), .val (.int (3 : Int32)), .val (.int (3 : Int32)), .unset, .unset] [(.ref r0)])) rfl rfl (hb hby d3_3)
    have pre59 : ∀ t, Steps p.tables e below (T58.setTop (mkF m 51 #[.val (.ref r0), .val (.int (3 : Int32)), .val (.int (3 : Int32)), .val (.int (3 : Int32)), .unset] [])) t → Steps p.tables e below (s₁.setTop (entryFrame m #[(.ref r0), (.int i1)] 5)) t := by
      intro t k
      refine pre57 _ ?_
      show Steps p.tables e below (s₁.setTop (mkF m 2 #[.val (.ref r0), .val (.int (3 : Int32)), .val (.int (3 : Int32)), .unset, .unset] [])) _
      refine XS.aloadN X0.here hx rfl (hb hby d3_2) rfl rfl ?_
      show Steps p.tables e below (s₁.setTop (mkF m 3 #[.val (.ref r0), .val (.int (3 : Int32)), .val (.int (3 : Int32)), .unset, .unset] [(.ref r0)])) _
      refine st58 _ ?_
      show Steps p.tables e below (T58.setTop (mkF m 6 #[.val (.ref r0), .val (.int (3 : Int32)), .val (.int (3 : Int32)), .unset, .unset] [(.int (4 : Int32))])) _
      refine XS.iconst X58.here hx rfl (hb hby d3_6) ?_
      show Steps p.tables e below (T58.setTop (mkF m 7 #[.val (.ref r0), .val (.int (3 : Int32)), .val (.int (3 : Int32)), .unset, .unset] [(.int (1 : Int32)), (.int (4 : Int32))])) _
      refine XS.isub X58.here hx rfl (hb hby d3_7) rfl ?_
      show Steps p.tables e below (T58.setTop (mkF m 8 #[.val (.ref r0), .val (.int (3 : Int32)), .val (.int (3 : Int32)), .unset, .unset] [(.int (3 : Int32))])) _
      refine XS.istoreN X58.here hx rfl (hb hby d3_8) rfl (l' := #[.val (.ref r0), .val (.int (3 : Int32)), .val (.int (3 : Int32)), .val (.int (3 : Int32)), .unset]) rfl ?_
      show Steps p.tables e below (T58.setTop (mkF m 9 #[.val (.ref r0), .val (.int (3 : Int32)), .val (.int (3 : Int32)), .val (.int (3 : Int32)), .unset] [])) _
      refine XS.iloadN X58.here hx rfl (hb hby d3_9) rfl ?_
      show Steps p.tables e below (T58.setTop (mkF m 10 #[.val (.ref r0), .val (.int (3 : Int32)), .val (.int (3 : Int32)), .val (.int (3 : Int32)), .unset] [(.int (3 : Int32))])) _
      refine XS.iloadN X58.here hx rfl (hb hby d3_10) rfl ?_
      show Steps p.tables e below (T58.setTop (mkF m 11 #[.val (.ref r0), .val (.int (3 : Int32)), .val (.int (3 : Int32)), .val (.int (3 : Int32)), .unset] [(.int (3 : Int32)), (.int (3 : Int32))])) _
      refine XS.icmpYes X58.here hx rfl (pc0 := 11) (pc' := 51) rfl (hb hby d3_11) rfl (flt (by decide : ¬ ((3 : Int32) < (3 : Int32)))).2.1 (by decide) (by decide) ?_
      exact k
    obtain ⟨fs, hr, hrun, hended, hW, hsame⟩ := X58.leave (v := none) (fun _ => rfl)
    refine ⟨_, _, pre59 _ ?_, hrun, hended, _, _, rfl, ?_, ⟨_, rfl⟩, hW, hsame.mono (by decide) (by decide)⟩
    · show Steps p.tables e below (T58.setTop (mkF m 51 #[.val (.ref r0), .val (.int (3 : Int32)), .val (.int (3 : Int32)), .val (.int (3 : Int32)), .unset] [])) _
      exact X58.returnOut hx Bd.returns (hb hby d3_51) hr
    · show Q3d Z r0 i1 w_numbers_r0 e0_w_numbers_r0 e1_w_numbers_r0 e2_w_numbers_r0 e3_w_numbers_r0 k_w_numbers_r0 h0 n0 _ T58.heap _
      rw [e58]
      exact ⟨rfl, N0, (Keep.refl h0 [w_numbers_r0]), (by rw [show (own_v3d_w_numbers_r0_3 i1 e0_w_numbers_r0 e1_w_numbers_r0 e2_w_numbers_r0 e3_w_numbers_r0) = e3_w_numbers_r0 from ((if_neg (by rw [hk2]; decide)).trans ((if_neg (by rw [hk2]; decide)).trans ((if_neg (by rw [hk2]; decide)).trans (if_pos hk2))))]; exact (by rw [show (own_v3d_w_numbers_r0_2 i1 e1_w_numbers_r0 e2_w_numbers_r0 e3_w_numbers_r0) = e2_w_numbers_r0 from ((if_neg (by rw [hk2]; decide)).trans ((if_neg (by rw [hk2]; decide)).trans ((if_neg (by rw [hk2]; decide)).trans (if_pos hk2))))]; exact (by rw [show (own_v3d_w_numbers_r0_1 i1 e1_w_numbers_r0 e2_w_numbers_r0 e3_w_numbers_r0) = e1_w_numbers_r0 from ((if_neg (by rw [hk2]; decide)).trans ((if_neg (by rw [hk2]; decide)).trans ((if_neg (by rw [hk2]; decide)).trans (if_pos hk2))))]; exact (by rw [show (own_v3d_w_numbers_r0_0 i1 e0_w_numbers_r0 e3_w_numbers_r0) = e0_w_numbers_r0 from ((if_neg (by rw [hk2]; decide)).trans ((if_neg (by rw [hk2]; decide)).trans ((if_neg (by rw [hk2]; decide)).trans (if_pos hk2))))]; exact V_w_numbers_r0))))⟩
  · have pre60 : ∀ t, Steps p.tables e below (s₁.setTop (mkF m 2 #[.val (.ref r0), .val (.int (4 : Int32)), .val (.int (4 : Int32)), .unset, .unset] [])) t → Steps p.tables e below (s₁.setTop (entryFrame m #[(.ref r0), (.int i1)] 5)) t := fun t k => pre1 t (by rw [hk2]; exact k)
    obtain ⟨T61, X61, e61, st61⟩ := getF X0 hx hZ hown (host := "") (Or.inl (hw _ (List.mem_of_getElem? (i := 18) rfl))) Via.refl e0 F_size_r0 (g := (mkF m 3 #[.val (.ref r0), .val (.int (4 : Int32)), .val (.int (4 : Int32)), .unset, .unset] [(.ref r0)])) rfl rfl (hb hby d3_3)
    have pre62 : ∀ t, Steps p.tables e below (T61.setTop (mkF m 51 #[.val (.ref r0), .val (.int (4 : Int32)), .val (.int (4 : Int32)), .val (.int (3 : Int32)), .unset] [])) t → Steps p.tables e below (s₁.setTop (entryFrame m #[(.ref r0), (.int i1)] 5)) t := by
      intro t k
      refine pre60 _ ?_
      show Steps p.tables e below (s₁.setTop (mkF m 2 #[.val (.ref r0), .val (.int (4 : Int32)), .val (.int (4 : Int32)), .unset, .unset] [])) _
      refine XS.aloadN X0.here hx rfl (hb hby d3_2) rfl rfl ?_
      show Steps p.tables e below (s₁.setTop (mkF m 3 #[.val (.ref r0), .val (.int (4 : Int32)), .val (.int (4 : Int32)), .unset, .unset] [(.ref r0)])) _
      refine st61 _ ?_
      show Steps p.tables e below (T61.setTop (mkF m 6 #[.val (.ref r0), .val (.int (4 : Int32)), .val (.int (4 : Int32)), .unset, .unset] [(.int (4 : Int32))])) _
      refine XS.iconst X61.here hx rfl (hb hby d3_6) ?_
      show Steps p.tables e below (T61.setTop (mkF m 7 #[.val (.ref r0), .val (.int (4 : Int32)), .val (.int (4 : Int32)), .unset, .unset] [(.int (1 : Int32)), (.int (4 : Int32))])) _
      refine XS.isub X61.here hx rfl (hb hby d3_7) rfl ?_
      show Steps p.tables e below (T61.setTop (mkF m 8 #[.val (.ref r0), .val (.int (4 : Int32)), .val (.int (4 : Int32)), .unset, .unset] [(.int (3 : Int32))])) _
      refine XS.istoreN X61.here hx rfl (hb hby d3_8) rfl (l' := #[.val (.ref r0), .val (.int (4 : Int32)), .val (.int (4 : Int32)), .val (.int (3 : Int32)), .unset]) rfl ?_
      show Steps p.tables e below (T61.setTop (mkF m 9 #[.val (.ref r0), .val (.int (4 : Int32)), .val (.int (4 : Int32)), .val (.int (3 : Int32)), .unset] [])) _
      refine XS.iloadN X61.here hx rfl (hb hby d3_9) rfl ?_
      show Steps p.tables e below (T61.setTop (mkF m 10 #[.val (.ref r0), .val (.int (4 : Int32)), .val (.int (4 : Int32)), .val (.int (3 : Int32)), .unset] [(.int (4 : Int32))])) _
      refine XS.iloadN X61.here hx rfl (hb hby d3_10) rfl ?_
      show Steps p.tables e below (T61.setTop (mkF m 11 #[.val (.ref r0), .val (.int (4 : Int32)), .val (.int (4 : Int32)), .val (.int (3 : Int32)), .unset] [(.int (3 : Int32)), (.int (4 : Int32))])) _
      refine XS.icmpYes X61.here hx rfl (pc0 := 11) (pc' := 51) rfl (hb hby d3_11) rfl (flt (by decide : ¬ ((4 : Int32) < (3 : Int32)))).2.1 (by decide) (by decide) ?_
      exact k
    obtain ⟨fs, hr, hrun, hended, hW, hsame⟩ := X61.leave (v := none) (fun _ => rfl)
    refine ⟨_, _, pre62 _ ?_, hrun, hended, _, _, rfl, ?_, ⟨_, rfl⟩, hW, hsame.mono (by decide) (by decide)⟩
    · show Steps p.tables e below (T61.setTop (mkF m 51 #[.val (.ref r0), .val (.int (4 : Int32)), .val (.int (4 : Int32)), .val (.int (3 : Int32)), .unset] [])) _
      exact X61.returnOut hx Bd.returns (hb hby d3_51) hr
    · show Q3d Z r0 i1 w_numbers_r0 e0_w_numbers_r0 e1_w_numbers_r0 e2_w_numbers_r0 e3_w_numbers_r0 k_w_numbers_r0 h0 n0 _ T61.heap _
      rw [e61]
      exact ⟨rfl, N0, (Keep.refl h0 [w_numbers_r0]), (by rw [show (own_v3d_w_numbers_r0_3 i1 e0_w_numbers_r0 e1_w_numbers_r0 e2_w_numbers_r0 e3_w_numbers_r0) = e3_w_numbers_r0 from ((if_neg (by rw [hk2]; decide)).trans ((if_neg (by rw [hk2]; decide)).trans ((if_neg (by rw [hk2]; decide)).trans (if_neg (by rw [hk2]; decide)))))]; exact (by rw [show (own_v3d_w_numbers_r0_2 i1 e1_w_numbers_r0 e2_w_numbers_r0 e3_w_numbers_r0) = e2_w_numbers_r0 from ((if_neg (by rw [hk2]; decide)).trans ((if_neg (by rw [hk2]; decide)).trans ((if_neg (by rw [hk2]; decide)).trans (if_neg (by rw [hk2]; decide)))))]; exact (by rw [show (own_v3d_w_numbers_r0_1 i1 e1_w_numbers_r0 e2_w_numbers_r0 e3_w_numbers_r0) = e1_w_numbers_r0 from ((if_neg (by rw [hk2]; decide)).trans ((if_neg (by rw [hk2]; decide)).trans ((if_neg (by rw [hk2]; decide)).trans (if_neg (by rw [hk2]; decide)))))]; exact (by rw [show (own_v3d_w_numbers_r0_0 i1 e0_w_numbers_r0 e3_w_numbers_r0) = e0_w_numbers_r0 from ((if_neg (by rw [hk2]; decide)).trans ((if_neg (by rw [hk2]; decide)).trans ((if_neg (by rw [hk2]; decide)).trans (if_neg (by rw [hk2]; decide)))))]; exact V_w_numbers_r0))))⟩
def Q4d (Z : State) (r0 : Addr) (h0 : Heap) (n0 : Nat) (v : Option Value) (h : Heap) (L : List Loc) : Prop := v = some (.int (4 : Int32)) ∧ Fr n0 L ∧ h = h0
theorem ef_4d (m : MethodId) (x0 : Addr) : entryFrame m #[(.ref x0)] 1 = mkF m 0 #[.val (.ref x0)] [] := by first | (simp [entryFrame, mkF, argsToLocals, Value.category]; done) | rfl
set_option maxRecDepth 65536 in
set_option maxHeartbeats 40000000 in
theorem rm4d (l : Launch) (Z : State) (a0 : Array Value) (hw : ∀ d ∈ tables_1, d.before a0 Z = true) (ws : List Jvm.Cond) (r0 : Addr) (h0 : Heap) (n0 : Nat) (Z0 : n0 ≤ h0.size) (F_size_r0 : Fld Z h0 r0 "com/example/baum/baum/query/NodeList$Builder" "size" "I" (.int (4 : Int32))) :
    MetFree l (⟨"com/example/baum/baum/query/NodeList$Builder", "size", "()I"⟩ : MethodName) (head1 (Jvm.Cond.code (⟨"com/example/baum/baum/query/NodeList$Builder", "size", "()I"⟩ : MethodName) prog_99_method_5_code 1 (some .int) :: ws) ({ frames := 0, cells := 0, slots := 0, locals := 0 } : Room)) (fun a U => a = #[(.ref r0)] ∧ Z.Warmed39 U.vm ∧ U.heap = h0) (fun _ _ _ _ _ => True) (fun _ U o U' => ∃ v L, o = .returned v ∧ Q4d Z r0 h0 n0 v U'.heap L ∧ FrameEnd U o U' L ({ frames := 0, cells := 0, slots := 0, locals := 0 } : Room).cells ({ frames := 0, cells := 0, slots := 0, locals := 0 } : Room).slots) := by
  refine MetFree.of_bodySF (plainFor_of_name pn_0) hisR ?_
  intro p e s m args below meth c s₁ Bd hml0 hP hK
  obtain ⟨rfl, hZ, hh⟩ := hP
  have hx := Bd.exec
  have hby := Bd.bytes
  have hml : c.maxLocals = 1 := hml0
  have hown : s.vm.findClass "com/example/baum/baum/query/NodeList$Builder" = some m.cls := findClass_of_methodNamed Bd.named
  have hnm := (name_of_methodNamed Bd.named Bd.method).1
  have X0 : Stand p l e ({ frames := 0, cells := 0, slots := 0, locals := 0 } : Room) s m #[(.ref r0)] below meth c s₁ [] 0 0 := Stand.of_body Bd
  have e0 : s₁.heap = h0 := by rw [← hh, Bd.state]; rfl
  have N0 := Fr.nil n0
  have pre0 : ∀ t, Steps p.tables e below (s₁.setTop (mkF m 0 #[.val (.ref r0)] [])) t → Steps p.tables e below (s₁.setTop (entryFrame m #[(.ref r0)] 1)) t := fun t k => castTop (ef_4d m r0) k
  obtain ⟨T1, X1, e1, st1⟩ := getF X0 hx hZ hown (host := "") (Or.inl (hw _ (List.mem_of_getElem? (i := 18) rfl))) Via.refl e0 F_size_r0 (g := (mkF m 1 #[.val (.ref r0)] [(.ref r0)])) rfl rfl (hb hby d4_1)
  have pre2 : ∀ t, Steps p.tables e below (T1.setTop (mkF m 4 #[.val (.ref r0)] [(.int (4 : Int32))])) t → Steps p.tables e below (s₁.setTop (entryFrame m #[(.ref r0)] 1)) t := by
    intro t k
    refine pre0 _ ?_
    show Steps p.tables e below (s₁.setTop (mkF m 0 #[.val (.ref r0)] [])) _
    refine XS.aloadN X0.here hx rfl (hb hby d4_0) rfl rfl ?_
    show Steps p.tables e below (s₁.setTop (mkF m 1 #[.val (.ref r0)] [(.ref r0)])) _
    refine st1 _ ?_
    exact k
  obtain ⟨fs, hr, hrun, hended, hW, hsame⟩ := X1.leave (v := some (.int (4 : Int32))) (fun h => by rw [Bd.returns] at h; cases h)
  refine ⟨_, _, pre2 _ ?_, hrun, hended, _, _, rfl, ?_, ⟨_, rfl⟩, hW, hsame.mono (by decide) (by decide)⟩
  · show Steps p.tables e below (T1.setTop (mkF m 4 #[.val (.ref r0)] [(.int (4 : Int32))])) _
    exact retI X1 hx Bd.returns (hb hby d4_4) hr
  · show Q4d Z r0 h0 n0 _ T1.heap _
    rw [e1]
    exact ⟨rfl, N0, rfl⟩
def Q8f (Z : State)  (h0 : Heap) (n0 : Nat) (v : Option Value) (h : Heap) (L : List Loc) : Prop := v = some (.int (0 : Int32)) ∧ Fr n0 L ∧ h = h0
theorem ef_8f (m : MethodId)  : entryFrame m #[(.int (0 : Int32)), (.int (4 : Int32)), .null] 3 = mkF m 0 #[.val (.int (0 : Int32)), .val (.int (4 : Int32)), .val .null] [] := by first | (simp [entryFrame, mkF, argsToLocals, Value.category]; done) | rfl
set_option maxRecDepth 65536 in
set_option maxHeartbeats 40000000 in
theorem rm8f (l : Launch) (Z : State) (a0 : Array Value) (hw : ∀ d ∈ tables_1, d.before a0 Z = true) (ws : List Jvm.Cond)  (h0 : Heap) (n0 : Nat) (Z0 : n0 ≤ h0.size) :
    MetFree l (⟨"jdk/internal/util/Preconditions", "checkIndex", "(IILjava/util/function/BiFunction;)I"⟩ : MethodName) (head1 (Jvm.Cond.code (⟨"jdk/internal/util/Preconditions", "checkIndex", "(IILjava/util/function/BiFunction;)I"⟩ : MethodName) jdk_41_method_11_code 3 (some .int) :: ws) ({ frames := 0, cells := 0, slots := 0, locals := 0 } : Room)) (fun a U => a = #[(.int (0 : Int32)), (.int (4 : Int32)), .null] ∧ Z.Warmed39 U.vm ∧ U.heap = h0) (fun _ _ _ _ _ => True) (fun _ U o U' => ∃ v L, o = .returned v ∧ Q8f Z  h0 n0 v U'.heap L ∧ FrameEnd U o U' L ({ frames := 0, cells := 0, slots := 0, locals := 0 } : Room).cells ({ frames := 0, cells := 0, slots := 0, locals := 0 } : Room).slots) := by
  refine MetFree.of_bodySF (plainFor_of_name pn_1) hisR ?_
  intro p e s m args below meth c s₁ Bd hml0 hP hK
  obtain ⟨rfl, hZ, hh⟩ := hP
  have hx := Bd.exec
  have hby := Bd.bytes
  have hml : c.maxLocals = 3 := hml0
  have hown : s.vm.findClass "jdk/internal/util/Preconditions" = some m.cls := findClass_of_methodNamed Bd.named
  have hnm := (name_of_methodNamed Bd.named Bd.method).1
  have X0 : Stand p l e ({ frames := 0, cells := 0, slots := 0, locals := 0 } : Room) s m #[(.int (0 : Int32)), (.int (4 : Int32)), .null] below meth c s₁ [] 0 0 := Stand.of_body Bd
  have e0 : s₁.heap = h0 := by rw [← hh, Bd.state]; rfl
  have N0 := Fr.nil n0
  have pre0 : ∀ t, Steps p.tables e below (s₁.setTop (mkF m 0 #[.val (.int (0 : Int32)), .val (.int (4 : Int32)), .val .null] [])) t → Steps p.tables e below (s₁.setTop (entryFrame m #[(.int (0 : Int32)), (.int (4 : Int32)), .null] 3)) t := fun t k => castTop (ef_8f m ) k
  have pre1 : ∀ t, Steps p.tables e below (s₁.setTop (mkF m 17 #[.val (.int (0 : Int32)), .val (.int (4 : Int32)), .val .null] [(.int (0 : Int32))])) t → Steps p.tables e below (s₁.setTop (entryFrame m #[(.int (0 : Int32)), (.int (4 : Int32)), .null] 3)) t := by
    intro t k
    refine pre0 _ ?_
    show Steps p.tables e below (s₁.setTop (mkF m 0 #[.val (.int (0 : Int32)), .val (.int (4 : Int32)), .val .null] [])) _
    refine XS.iloadN X0.here hx rfl (hb hby d8_0) rfl ?_
    show Steps p.tables e below (s₁.setTop (mkF m 1 #[.val (.int (0 : Int32)), .val (.int (4 : Int32)), .val .null] [(.int (0 : Int32))])) _
    refine XS.ifNo X0.here hx rfl (hb hby d8_1) rfl ((if0 _ _).trans (flt (by decide : ¬ ((0 : Int32) < (0 : Int32)))).1) ?_
    show Steps p.tables e below (s₁.setTop (mkF m 4 #[.val (.int (0 : Int32)), .val (.int (4 : Int32)), .val .null] [])) _
    refine XS.iloadN X0.here hx rfl (hb hby d8_4) rfl ?_
    show Steps p.tables e below (s₁.setTop (mkF m 5 #[.val (.int (0 : Int32)), .val (.int (4 : Int32)), .val .null] [(.int (0 : Int32))])) _
    refine XS.iloadN X0.here hx rfl (hb hby d8_5) rfl ?_
    show Steps p.tables e below (s₁.setTop (mkF m 6 #[.val (.int (0 : Int32)), .val (.int (4 : Int32)), .val .null] [(.int (4 : Int32)), (.int (0 : Int32))])) _
    refine XS.icmpYes X0.here hx rfl (pc0 := 6) (pc' := 16) rfl (hb hby d8_6) rfl (tlt (by decide : (0 : Int32) < (4 : Int32))).1 (by decide) (by decide) ?_
    show Steps p.tables e below (s₁.setTop (mkF m 16 #[.val (.int (0 : Int32)), .val (.int (4 : Int32)), .val .null] [])) _
    refine XS.iloadN X0.here hx rfl (hb hby d8_16) rfl ?_
    exact k
  obtain ⟨fs, hr, hrun, hended, hW, hsame⟩ := X0.leave (v := some (.int (0 : Int32))) (fun h => by rw [Bd.returns] at h; cases h)
  refine ⟨_, _, pre1 _ ?_, hrun, hended, _, _, rfl, ?_, ⟨_, rfl⟩, hW, hsame.mono (by decide) (by decide)⟩
  · show Steps p.tables e below (s₁.setTop (mkF m 17 #[.val (.int (0 : Int32)), .val (.int (4 : Int32)), .val .null] [(.int (0 : Int32))])) _
    exact retI X0 hx Bd.returns (hb hby d8_17) hr
  · show Q8f Z  h0 n0 _ s₁.heap _
    rw [e0]
    exact ⟨rfl, N0, rfl⟩
def Q7f (Z : State)  (h0 : Heap) (n0 : Nat) (v : Option Value) (h : Heap) (L : List Loc) : Prop := v = some (.int (0 : Int32)) ∧ Fr n0 L ∧ h = h0
theorem ef_7f (m : MethodId)  : entryFrame m #[(.int (0 : Int32)), (.int (4 : Int32))] 2 = mkF m 0 #[.val (.int (0 : Int32)), .val (.int (4 : Int32))] [] := by first | (simp [entryFrame, mkF, argsToLocals, Value.category]; done) | rfl
set_option maxRecDepth 65536 in
set_option maxHeartbeats 40000000 in
theorem rm7f (l : Launch) (Z : State) (a0 : Array Value) (hw : ∀ d ∈ tables_1, d.before a0 Z = true) (ws : List Jvm.Cond)  (h0 : Heap) (n0 : Nat) (Z0 : n0 ≤ h0.size) :
    MetFree l (⟨"java/util/Objects", "checkIndex", "(II)I"⟩ : MethodName) (head1 (Jvm.Cond.code (⟨"java/util/Objects", "checkIndex", "(II)I"⟩ : MethodName) jdk_31_method_17_code 2 (some .int) :: ws) ({ frames := 1, cells := 0, slots := 0, locals := 14 } : Room)) (fun a U => a = #[(.int (0 : Int32)), (.int (4 : Int32))] ∧ Z.Warmed39 U.vm ∧ U.heap = h0) (fun _ _ _ _ _ => True) (fun _ U o U' => ∃ v L, o = .returned v ∧ Q7f Z  h0 n0 v U'.heap L ∧ FrameEnd U o U' L ({ frames := 1, cells := 0, slots := 0, locals := 14 } : Room).cells ({ frames := 1, cells := 0, slots := 0, locals := 14 } : Room).slots) := by
  refine MetFree.of_bodySF (plainFor_of_name pn_2) hisR ?_
  intro p e s m args below meth c s₁ Bd hml0 hP hK
  obtain ⟨rfl, hZ, hh⟩ := hP
  have hx := Bd.exec
  have hby := Bd.bytes
  have hml : c.maxLocals = 2 := hml0
  have hown : s.vm.findClass "java/util/Objects" = some m.cls := findClass_of_methodNamed Bd.named
  have hnm := (name_of_methodNamed Bd.named Bd.method).1
  have X0 : Stand p l e ({ frames := 1, cells := 0, slots := 0, locals := 14 } : Room) s m #[(.int (0 : Int32)), (.int (4 : Int32))] below meth c s₁ [] 0 0 := Stand.of_body Bd
  have e0 : s₁.heap = h0 := by rw [← hh, Bd.state]; rfl
  have N0 := Fr.nil n0
  have pre0 : ∀ t, Steps p.tables e below (s₁.setTop (mkF m 0 #[.val (.int (0 : Int32)), .val (.int (4 : Int32))] [])) t → Steps p.tables e below (s₁.setTop (entryFrame m #[(.int (0 : Int32)), (.int (4 : Int32))] 2)) t := fun t k => castTop (ef_7f m ) k
  obtain ⟨_, _, ⟨T1, L1, k1, n1⟩, -, X1, ⟨Lc1, hQ1, l1, y1, z1⟩, st1⟩ := Jvm.LawKit.callS X0 hx (y := (⟨"jdk/internal/util/Preconditions", "checkIndex", "(IILjava/util/function/BiFunction;)I"⟩ : MethodName)) hown (mvT hZ (hw _ (List.mem_of_getElem? (i := 39) rfl))) (mvT hZ (hw _ (List.mem_of_getElem? (i := 40) rfl))) (mvT hZ (hw _ (List.mem_of_getElem? (i := 41) rfl))) (mvT hZ (hw _ (List.mem_of_getElem? (i := 42) rfl))) (by decide) (backOf (W := 0) (rm8f l Z a0 hw []  h0 n0 (Nat.le_trans Z0 (Keep.refl h0 []).1) ) hZ (hw _ (List.mem_of_getElem? (i := 42) rfl)) (hw _ (List.mem_of_getElem? (i := 41) rfl)) (by decide) (by decide)) (g := (mkF m 3 #[.val (.int (0 : Int32)), .val (.int (4 : Int32))] [.null, (.int (4 : Int32)), (.int (0 : Int32))])) rfl (by rw [hml]; rfl) (argsL := [(.int (0 : Int32)), (.int (4 : Int32)), .null]) (rest := []) (lenOf pd_3 rfl) rfl (by show 2 * 0 + _ ≤ _; exact Nat.le_of_eq rfl) (hb hby d7_3) (fun _ _ => ⟨rfl, e0, (by decide : 0 + 0 ≤ _), (by decide : 0 + 0 ≤ _)⟩)
  dsimp only [Pt.U, Pt.locs, Pt.cells, Pt.slots] at X1 l1 y1 z1 st1 hQ1
  subst l1 y1 z1
  obtain ⟨rfl, Nq1, e1⟩ := hQ1
  have N1 := Fr.app N0 Nq1
  have pre2 : ∀ t, Steps p.tables e below (T1.setTop (mkF m 6 #[.val (.int (0 : Int32)), .val (.int (4 : Int32))] [(.int (0 : Int32))])) t → Steps p.tables e below (s₁.setTop (entryFrame m #[(.int (0 : Int32)), (.int (4 : Int32))] 2)) t := by
    intro t k
    refine pre0 _ ?_
    show Steps p.tables e below (s₁.setTop (mkF m 0 #[.val (.int (0 : Int32)), .val (.int (4 : Int32))] [])) _
    refine XS.iloadN X0.here hx rfl (hb hby d7_0) rfl ?_
    show Steps p.tables e below (s₁.setTop (mkF m 1 #[.val (.int (0 : Int32)), .val (.int (4 : Int32))] [(.int (0 : Int32))])) _
    refine XS.iloadN X0.here hx rfl (hb hby d7_1) rfl ?_
    show Steps p.tables e below (s₁.setTop (mkF m 2 #[.val (.int (0 : Int32)), .val (.int (4 : Int32))] [(.int (4 : Int32)), (.int (0 : Int32))])) _
    refine XS.aconstNull X0.here hx rfl (hb hby d7_2) ?_
    show Steps p.tables e below (s₁.setTop (mkF m 3 #[.val (.int (0 : Int32)), .val (.int (4 : Int32))] [.null, (.int (4 : Int32)), (.int (0 : Int32))])) _
    refine st1 _ ?_
    exact k
  obtain ⟨fs, hr, hrun, hended, hW, hsame⟩ := X1.leave (v := some (.int (0 : Int32))) (fun h => by rw [Bd.returns] at h; cases h)
  refine ⟨_, _, pre2 _ ?_, hrun, hended, _, _, rfl, ?_, ⟨_, rfl⟩, hW, hsame.mono (by decide) (by decide)⟩
  · show Steps p.tables e below (T1.setTop (mkF m 6 #[.val (.int (0 : Int32)), .val (.int (4 : Int32))] [(.int (0 : Int32))])) _
    exact retI X1 hx Bd.returns (hb hby d7_6) hr
  · show Q7f Z  h0 n0 _ T1.heap _
    rw [e1]
    exact ⟨rfl, N1, rfl⟩
def Q6f (Z : State) (r0 : Addr) (w_numbers_r0 : Addr) (e0_w_numbers_r0 : Int32) (e1_w_numbers_r0 : Int32) (e2_w_numbers_r0 : Int32) (e3_w_numbers_r0 : Int32) (k_w_numbers_r0 : ClassId) (h0 : Heap) (n0 : Nat) (v : Option Value) (h : Heap) (L : List Loc) : Prop := v = some (.int e0_w_numbers_r0) ∧ Fr n0 L ∧ h = h0
theorem ef_6f (m : MethodId) (x0 : Addr) : entryFrame m #[(.ref x0), (.int (0 : Int32))] 2 = mkF m 0 #[.val (.ref x0), .val (.int (0 : Int32))] [] := by first | (simp [entryFrame, mkF, argsToLocals, Value.category]; done) | rfl
set_option maxRecDepth 65536 in
set_option maxHeartbeats 40000000 in
theorem rm6f (l : Launch) (Z : State) (a0 : Array Value) (hw : ∀ d ∈ tables_1, d.before a0 Z = true) (ws : List Jvm.Cond) (r0 : Addr) (w_numbers_r0 : Addr) (e0_w_numbers_r0 : Int32) (e1_w_numbers_r0 : Int32) (e2_w_numbers_r0 : Int32) (e3_w_numbers_r0 : Int32) (k_w_numbers_r0 : ClassId) (h0 : Heap) (n0 : Nat) (Z0 : n0 ≤ h0.size) (F_numbers_r0 : Fld Z h0 r0 "com/example/baum/baum/query/NodeList$Builder" "numbers" "[I" (.ref w_numbers_r0)) (F_size_r0 : Fld Z h0 r0 "com/example/baum/baum/query/NodeList$Builder" "size" "I" (.int (4 : Int32))) (V_w_numbers_r0 : Arv Z h0 w_numbers_r0 k_w_numbers_r0 .int (16 : Int32) [(.int e0_w_numbers_r0), (.int e1_w_numbers_r0), (.int e2_w_numbers_r0), (.int e3_w_numbers_r0), (.int (0 : Int32)), (.int (0 : Int32)), (.int (0 : Int32)), (.int (0 : Int32)), (.int (0 : Int32)), (.int (0 : Int32)), (.int (0 : Int32)), (.int (0 : Int32)), (.int (0 : Int32)), (.int (0 : Int32)), (.int (0 : Int32)), (.int (0 : Int32))] (.int (0 : Int32))) :
    MetFree l (⟨"com/example/baum/baum/query/NodeList$Builder", "get", "(I)I"⟩ : MethodName) (head1 (Jvm.Cond.code (⟨"com/example/baum/baum/query/NodeList$Builder", "get", "(I)I"⟩ : MethodName) prog_99_method_6_code 2 (some .int) :: ws) ({ frames := 2, cells := 0, slots := 0, locals := 28 } : Room)) (fun a U => a = #[(.ref r0), (.int (0 : Int32))] ∧ Z.Warmed39 U.vm ∧ U.heap = h0) (fun _ _ _ _ _ => True) (fun _ U o U' => ∃ v L, o = .returned v ∧ Q6f Z r0 w_numbers_r0 e0_w_numbers_r0 e1_w_numbers_r0 e2_w_numbers_r0 e3_w_numbers_r0 k_w_numbers_r0 h0 n0 v U'.heap L ∧ FrameEnd U o U' L ({ frames := 2, cells := 0, slots := 0, locals := 28 } : Room).cells ({ frames := 2, cells := 0, slots := 0, locals := 28 } : Room).slots) := by
  refine MetFree.of_bodySF (plainFor_of_name pn_0) hisR ?_
  intro p e s m args below meth c s₁ Bd hml0 hP hK
  obtain ⟨rfl, hZ, hh⟩ := hP
  have hx := Bd.exec
  have hby := Bd.bytes
  have hml : c.maxLocals = 2 := hml0
  have hown : s.vm.findClass "com/example/baum/baum/query/NodeList$Builder" = some m.cls := findClass_of_methodNamed Bd.named
  have hnm := (name_of_methodNamed Bd.named Bd.method).1
  have X0 : Stand p l e ({ frames := 2, cells := 0, slots := 0, locals := 28 } : Room) s m #[(.ref r0), (.int (0 : Int32))] below meth c s₁ [] 0 0 := Stand.of_body Bd
  have e0 : s₁.heap = h0 := by rw [← hh, Bd.state]; rfl
  have N0 := Fr.nil n0
  have pre0 : ∀ t, Steps p.tables e below (s₁.setTop (mkF m 0 #[.val (.ref r0), .val (.int (0 : Int32))] [])) t → Steps p.tables e below (s₁.setTop (entryFrame m #[(.ref r0), (.int (0 : Int32))] 2)) t := fun t k => castTop (ef_6f m r0) k
  obtain ⟨T1, X1, e1, st1⟩ := getF X0 hx hZ hown (host := "") (Or.inl (hw _ (List.mem_of_getElem? (i := 11) rfl))) Via.refl e0 F_numbers_r0 (g := (mkF m 1 #[.val (.ref r0), .val (.int (0 : Int32))] [(.ref r0)])) rfl rfl (hb hby d6_1)
  obtain ⟨T2, X2, e2, st2⟩ := getF X1 hx hZ hown (host := "") (Or.inl (hw _ (List.mem_of_getElem? (i := 18) rfl))) Via.refl e1 F_size_r0 (g := (mkF m 6 #[.val (.ref r0), .val (.int (0 : Int32))] [(.ref r0), (.int (0 : Int32)), (.ref w_numbers_r0)])) rfl rfl (hb hby d6_6)
  obtain ⟨_, _, ⟨T3, L3, k3, n3⟩, -, X3, ⟨Lc3, hQ3, l3, y3, z3⟩, st3⟩ := Jvm.LawKit.callS X2 hx (y := (⟨"java/util/Objects", "checkIndex", "(II)I"⟩ : MethodName)) hown (mvT hZ (hw _ (List.mem_of_getElem? (i := 35) rfl))) (mvT hZ (hw _ (List.mem_of_getElem? (i := 36) rfl))) (mvT hZ (hw _ (List.mem_of_getElem? (i := 37) rfl))) (mvT hZ (hw _ (List.mem_of_getElem? (i := 38) rfl))) (by decide) (backOf (W := 1) (rm7f l Z a0 hw []  h0 n0 (Nat.le_trans Z0 (Keep.refl h0 []).1) ) hZ (hw _ (List.mem_of_getElem? (i := 38) rfl)) (hw _ (List.mem_of_getElem? (i := 37) rfl)) (by decide) (by decide)) (g := (mkF m 9 #[.val (.ref r0), .val (.int (0 : Int32))] [(.int (4 : Int32)), (.int (0 : Int32)), (.ref w_numbers_r0)])) rfl (by rw [hml]; rfl) (argsL := [(.int (0 : Int32)), (.int (4 : Int32))]) (rest := [(.ref w_numbers_r0)]) (lenOf pd_4 rfl) rfl (by show 2 * 0 + _ ≤ _; exact Nat.le_of_eq rfl) (hb hby d6_9) (fun _ _ => ⟨rfl, e2, (by decide : 0 + 0 ≤ _), (by decide : 0 + 0 ≤ _)⟩)
  dsimp only [Pt.U, Pt.locs, Pt.cells, Pt.slots] at X3 l3 y3 z3 st3 hQ3
  subst l3 y3 z3
  obtain ⟨rfl, Nq3, e3⟩ := hQ3
  have N3 := Fr.app N0 Nq3
  obtain ⟨cl4, Ar4, Cq4, Sz4, Nn4, Hh4, Gg4⟩ := id V_w_numbers_r0
  have hin4 : ¬ ((0 : Int32) < 0 ∨ cl4.slots.size ≤ ((0 : Int32)).toNatClampNeg) := inb_of Sz4 ⟨by decide, by decide⟩
  have hat4 : cl4.slots[((0 : Int32)).toNatClampNeg]? = some (.int e0_w_numbers_r0) := Hh4.at hin4 rfl
  have pre5 : ∀ t, Steps p.tables e below (T3.setTop (mkF m 13 #[.val (.ref r0), .val (.int (0 : Int32))] [(.int e0_w_numbers_r0)])) t → Steps p.tables e below (s₁.setTop (entryFrame m #[(.ref r0), (.int (0 : Int32))] 2)) t := by
    intro t k
    refine pre0 _ ?_
    show Steps p.tables e below (s₁.setTop (mkF m 0 #[.val (.ref r0), .val (.int (0 : Int32))] [])) _
    refine XS.aloadN X0.here hx rfl (hb hby d6_0) rfl rfl ?_
    show Steps p.tables e below (s₁.setTop (mkF m 1 #[.val (.ref r0), .val (.int (0 : Int32))] [(.ref r0)])) _
    refine st1 _ ?_
    show Steps p.tables e below (T1.setTop (mkF m 4 #[.val (.ref r0), .val (.int (0 : Int32))] [(.ref w_numbers_r0)])) _
    refine XS.iloadN X1.here hx rfl (hb hby d6_4) rfl ?_
    show Steps p.tables e below (T1.setTop (mkF m 5 #[.val (.ref r0), .val (.int (0 : Int32))] [(.int (0 : Int32)), (.ref w_numbers_r0)])) _
    refine XS.aloadN X1.here hx rfl (hb hby d6_5) rfl rfl ?_
    show Steps p.tables e below (T1.setTop (mkF m 6 #[.val (.ref r0), .val (.int (0 : Int32))] [(.ref r0), (.int (0 : Int32)), (.ref w_numbers_r0)])) _
    refine st2 _ ?_
    show Steps p.tables e below (T2.setTop (mkF m 9 #[.val (.ref r0), .val (.int (0 : Int32))] [(.int (4 : Int32)), (.int (0 : Int32)), (.ref w_numbers_r0)])) _
    refine st3 _ ?_
    show Steps p.tables e below (T3.setTop (mkF m 12 #[.val (.ref r0), .val (.int (0 : Int32))] [(.int (0 : Int32)), (.ref w_numbers_r0)])) _
    refine X3.iaload hx (j := (0 : Int32)) (v := (.int e0_w_numbers_r0)) (by rw [e3]; exact Ar4.1) (State.isArrayOf_alike hZ.alike Ar4.2.1) Ar4.2.2 hin4 hat4 (g := (mkF m 12 #[.val (.ref r0), .val (.int (0 : Int32))] [(.int (0 : Int32)), (.ref w_numbers_r0)])) rfl rfl (hb hby d6_12) _ ?_
    exact k
  obtain ⟨fs, hr, hrun, hended, hW, hsame⟩ := X3.leave (v := some (.int e0_w_numbers_r0)) (fun h => by rw [Bd.returns] at h; cases h)
  refine ⟨_, _, pre5 _ ?_, hrun, hended, _, _, rfl, ?_, ⟨_, rfl⟩, hW, hsame.mono (by decide) (by decide)⟩
  · show Steps p.tables e below (T3.setTop (mkF m 13 #[.val (.ref r0), .val (.int (0 : Int32))] [(.int e0_w_numbers_r0)])) _
    exact retI X3 hx Bd.returns (hb hby d6_13) hr
  · show Q6f Z r0 w_numbers_r0 e0_w_numbers_r0 e1_w_numbers_r0 e2_w_numbers_r0 e3_w_numbers_r0 k_w_numbers_r0 h0 n0 _ T3.heap _
    rw [e3]
    exact ⟨rfl, N3, rfl⟩
def Q8g (Z : State)  (h0 : Heap) (n0 : Nat) (v : Option Value) (h : Heap) (L : List Loc) : Prop := v = some (.int (1 : Int32)) ∧ Fr n0 L ∧ h = h0
theorem ef_8g (m : MethodId)  : entryFrame m #[(.int (1 : Int32)), (.int (4 : Int32)), .null] 3 = mkF m 0 #[.val (.int (1 : Int32)), .val (.int (4 : Int32)), .val .null] [] := by first | (simp [entryFrame, mkF, argsToLocals, Value.category]; done) | rfl
set_option maxRecDepth 65536 in
set_option maxHeartbeats 40000000 in
theorem rm8g (l : Launch) (Z : State) (a0 : Array Value) (hw : ∀ d ∈ tables_1, d.before a0 Z = true) (ws : List Jvm.Cond)  (h0 : Heap) (n0 : Nat) (Z0 : n0 ≤ h0.size) :
    MetFree l (⟨"jdk/internal/util/Preconditions", "checkIndex", "(IILjava/util/function/BiFunction;)I"⟩ : MethodName) (head1 (Jvm.Cond.code (⟨"jdk/internal/util/Preconditions", "checkIndex", "(IILjava/util/function/BiFunction;)I"⟩ : MethodName) jdk_41_method_11_code 3 (some .int) :: ws) ({ frames := 0, cells := 0, slots := 0, locals := 0 } : Room)) (fun a U => a = #[(.int (1 : Int32)), (.int (4 : Int32)), .null] ∧ Z.Warmed39 U.vm ∧ U.heap = h0) (fun _ _ _ _ _ => True) (fun _ U o U' => ∃ v L, o = .returned v ∧ Q8g Z  h0 n0 v U'.heap L ∧ FrameEnd U o U' L ({ frames := 0, cells := 0, slots := 0, locals := 0 } : Room).cells ({ frames := 0, cells := 0, slots := 0, locals := 0 } : Room).slots) := by
  refine MetFree.of_bodySF (plainFor_of_name pn_1) hisR ?_
  intro p e s m args below meth c s₁ Bd hml0 hP hK
  obtain ⟨rfl, hZ, hh⟩ := hP
  have hx := Bd.exec
  have hby := Bd.bytes
  have hml : c.maxLocals = 3 := hml0
  have hown : s.vm.findClass "jdk/internal/util/Preconditions" = some m.cls := findClass_of_methodNamed Bd.named
  have hnm := (name_of_methodNamed Bd.named Bd.method).1
  have X0 : Stand p l e ({ frames := 0, cells := 0, slots := 0, locals := 0 } : Room) s m #[(.int (1 : Int32)), (.int (4 : Int32)), .null] below meth c s₁ [] 0 0 := Stand.of_body Bd
  have e0 : s₁.heap = h0 := by rw [← hh, Bd.state]; rfl
  have N0 := Fr.nil n0
  have pre0 : ∀ t, Steps p.tables e below (s₁.setTop (mkF m 0 #[.val (.int (1 : Int32)), .val (.int (4 : Int32)), .val .null] [])) t → Steps p.tables e below (s₁.setTop (entryFrame m #[(.int (1 : Int32)), (.int (4 : Int32)), .null] 3)) t := fun t k => castTop (ef_8g m ) k
  have pre1 : ∀ t, Steps p.tables e below (s₁.setTop (mkF m 17 #[.val (.int (1 : Int32)), .val (.int (4 : Int32)), .val .null] [(.int (1 : Int32))])) t → Steps p.tables e below (s₁.setTop (entryFrame m #[(.int (1 : Int32)), (.int (4 : Int32)), .null] 3)) t := by
    intro t k
    refine pre0 _ ?_
    show Steps p.tables e below (s₁.setTop (mkF m 0 #[.val (.int (1 : Int32)), .val (.int (4 : Int32)), .val .null] [])) _
    refine XS.iloadN X0.here hx rfl (hb hby d8_0) rfl ?_
    show Steps p.tables e below (s₁.setTop (mkF m 1 #[.val (.int (1 : Int32)), .val (.int (4 : Int32)), .val .null] [(.int (1 : Int32))])) _
    refine XS.ifNo X0.here hx rfl (hb hby d8_1) rfl ((if0 _ _).trans (flt (by decide : ¬ ((1 : Int32) < (0 : Int32)))).1) ?_
    show Steps p.tables e below (s₁.setTop (mkF m 4 #[.val (.int (1 : Int32)), .val (.int (4 : Int32)), .val .null] [])) _
    refine XS.iloadN X0.here hx rfl (hb hby d8_4) rfl ?_
    show Steps p.tables e below (s₁.setTop (mkF m 5 #[.val (.int (1 : Int32)), .val (.int (4 : Int32)), .val .null] [(.int (1 : Int32))])) _
    refine XS.iloadN X0.here hx rfl (hb hby d8_5) rfl ?_
    show Steps p.tables e below (s₁.setTop (mkF m 6 #[.val (.int (1 : Int32)), .val (.int (4 : Int32)), .val .null] [(.int (4 : Int32)), (.int (1 : Int32))])) _
    refine XS.icmpYes X0.here hx rfl (pc0 := 6) (pc' := 16) rfl (hb hby d8_6) rfl (tlt (by decide : (1 : Int32) < (4 : Int32))).1 (by decide) (by decide) ?_
    show Steps p.tables e below (s₁.setTop (mkF m 16 #[.val (.int (1 : Int32)), .val (.int (4 : Int32)), .val .null] [])) _
    refine XS.iloadN X0.here hx rfl (hb hby d8_16) rfl ?_
    exact k
  obtain ⟨fs, hr, hrun, hended, hW, hsame⟩ := X0.leave (v := some (.int (1 : Int32))) (fun h => by rw [Bd.returns] at h; cases h)
  refine ⟨_, _, pre1 _ ?_, hrun, hended, _, _, rfl, ?_, ⟨_, rfl⟩, hW, hsame.mono (by decide) (by decide)⟩
  · show Steps p.tables e below (s₁.setTop (mkF m 17 #[.val (.int (1 : Int32)), .val (.int (4 : Int32)), .val .null] [(.int (1 : Int32))])) _
    exact retI X0 hx Bd.returns (hb hby d8_17) hr
  · show Q8g Z  h0 n0 _ s₁.heap _
    rw [e0]
    exact ⟨rfl, N0, rfl⟩
def Q7g (Z : State)  (h0 : Heap) (n0 : Nat) (v : Option Value) (h : Heap) (L : List Loc) : Prop := v = some (.int (1 : Int32)) ∧ Fr n0 L ∧ h = h0
theorem ef_7g (m : MethodId)  : entryFrame m #[(.int (1 : Int32)), (.int (4 : Int32))] 2 = mkF m 0 #[.val (.int (1 : Int32)), .val (.int (4 : Int32))] [] := by first | (simp [entryFrame, mkF, argsToLocals, Value.category]; done) | rfl
set_option maxRecDepth 65536 in
set_option maxHeartbeats 40000000 in
theorem rm7g (l : Launch) (Z : State) (a0 : Array Value) (hw : ∀ d ∈ tables_1, d.before a0 Z = true) (ws : List Jvm.Cond)  (h0 : Heap) (n0 : Nat) (Z0 : n0 ≤ h0.size) :
    MetFree l (⟨"java/util/Objects", "checkIndex", "(II)I"⟩ : MethodName) (head1 (Jvm.Cond.code (⟨"java/util/Objects", "checkIndex", "(II)I"⟩ : MethodName) jdk_31_method_17_code 2 (some .int) :: ws) ({ frames := 1, cells := 0, slots := 0, locals := 14 } : Room)) (fun a U => a = #[(.int (1 : Int32)), (.int (4 : Int32))] ∧ Z.Warmed39 U.vm ∧ U.heap = h0) (fun _ _ _ _ _ => True) (fun _ U o U' => ∃ v L, o = .returned v ∧ Q7g Z  h0 n0 v U'.heap L ∧ FrameEnd U o U' L ({ frames := 1, cells := 0, slots := 0, locals := 14 } : Room).cells ({ frames := 1, cells := 0, slots := 0, locals := 14 } : Room).slots) := by
  refine MetFree.of_bodySF (plainFor_of_name pn_2) hisR ?_
  intro p e s m args below meth c s₁ Bd hml0 hP hK
  obtain ⟨rfl, hZ, hh⟩ := hP
  have hx := Bd.exec
  have hby := Bd.bytes
  have hml : c.maxLocals = 2 := hml0
  have hown : s.vm.findClass "java/util/Objects" = some m.cls := findClass_of_methodNamed Bd.named
  have hnm := (name_of_methodNamed Bd.named Bd.method).1
  have X0 : Stand p l e ({ frames := 1, cells := 0, slots := 0, locals := 14 } : Room) s m #[(.int (1 : Int32)), (.int (4 : Int32))] below meth c s₁ [] 0 0 := Stand.of_body Bd
  have e0 : s₁.heap = h0 := by rw [← hh, Bd.state]; rfl
  have N0 := Fr.nil n0
  have pre0 : ∀ t, Steps p.tables e below (s₁.setTop (mkF m 0 #[.val (.int (1 : Int32)), .val (.int (4 : Int32))] [])) t → Steps p.tables e below (s₁.setTop (entryFrame m #[(.int (1 : Int32)), (.int (4 : Int32))] 2)) t := fun t k => castTop (ef_7g m ) k
  obtain ⟨_, _, ⟨T1, L1, k1, n1⟩, -, X1, ⟨Lc1, hQ1, l1, y1, z1⟩, st1⟩ := Jvm.LawKit.callS X0 hx (y := (⟨"jdk/internal/util/Preconditions", "checkIndex", "(IILjava/util/function/BiFunction;)I"⟩ : MethodName)) hown (mvT hZ (hw _ (List.mem_of_getElem? (i := 39) rfl))) (mvT hZ (hw _ (List.mem_of_getElem? (i := 40) rfl))) (mvT hZ (hw _ (List.mem_of_getElem? (i := 41) rfl))) (mvT hZ (hw _ (List.mem_of_getElem? (i := 42) rfl))) (by decide) (backOf (W := 0) (rm8g l Z a0 hw []  h0 n0 (Nat.le_trans Z0 (Keep.refl h0 []).1) ) hZ (hw _ (List.mem_of_getElem? (i := 42) rfl)) (hw _ (List.mem_of_getElem? (i := 41) rfl)) (by decide) (by decide)) (g := (mkF m 3 #[.val (.int (1 : Int32)), .val (.int (4 : Int32))] [.null, (.int (4 : Int32)), (.int (1 : Int32))])) rfl (by rw [hml]; rfl) (argsL := [(.int (1 : Int32)), (.int (4 : Int32)), .null]) (rest := []) (lenOf pd_3 rfl) rfl (by show 2 * 0 + _ ≤ _; exact Nat.le_of_eq rfl) (hb hby d7_3) (fun _ _ => ⟨rfl, e0, (by decide : 0 + 0 ≤ _), (by decide : 0 + 0 ≤ _)⟩)
  dsimp only [Pt.U, Pt.locs, Pt.cells, Pt.slots] at X1 l1 y1 z1 st1 hQ1
  subst l1 y1 z1
  obtain ⟨rfl, Nq1, e1⟩ := hQ1
  have N1 := Fr.app N0 Nq1
  have pre2 : ∀ t, Steps p.tables e below (T1.setTop (mkF m 6 #[.val (.int (1 : Int32)), .val (.int (4 : Int32))] [(.int (1 : Int32))])) t → Steps p.tables e below (s₁.setTop (entryFrame m #[(.int (1 : Int32)), (.int (4 : Int32))] 2)) t := by
    intro t k
    refine pre0 _ ?_
    show Steps p.tables e below (s₁.setTop (mkF m 0 #[.val (.int (1 : Int32)), .val (.int (4 : Int32))] [])) _
    refine XS.iloadN X0.here hx rfl (hb hby d7_0) rfl ?_
    show Steps p.tables e below (s₁.setTop (mkF m 1 #[.val (.int (1 : Int32)), .val (.int (4 : Int32))] [(.int (1 : Int32))])) _
    refine XS.iloadN X0.here hx rfl (hb hby d7_1) rfl ?_
    show Steps p.tables e below (s₁.setTop (mkF m 2 #[.val (.int (1 : Int32)), .val (.int (4 : Int32))] [(.int (4 : Int32)), (.int (1 : Int32))])) _
    refine XS.aconstNull X0.here hx rfl (hb hby d7_2) ?_
    show Steps p.tables e below (s₁.setTop (mkF m 3 #[.val (.int (1 : Int32)), .val (.int (4 : Int32))] [.null, (.int (4 : Int32)), (.int (1 : Int32))])) _
    refine st1 _ ?_
    exact k
  obtain ⟨fs, hr, hrun, hended, hW, hsame⟩ := X1.leave (v := some (.int (1 : Int32))) (fun h => by rw [Bd.returns] at h; cases h)
  refine ⟨_, _, pre2 _ ?_, hrun, hended, _, _, rfl, ?_, ⟨_, rfl⟩, hW, hsame.mono (by decide) (by decide)⟩
  · show Steps p.tables e below (T1.setTop (mkF m 6 #[.val (.int (1 : Int32)), .val (.int (4 : Int32))] [(.int (1 : Int32))])) _
    exact retI X1 hx Bd.returns (hb hby d7_6) hr
  · show Q7g Z  h0 n0 _ T1.heap _
    rw [e1]
    exact ⟨rfl, N1, rfl⟩
def Q6g (Z : State) (r0 : Addr) (w_numbers_r0 : Addr) (e0_w_numbers_r0 : Int32) (e1_w_numbers_r0 : Int32) (e2_w_numbers_r0 : Int32) (e3_w_numbers_r0 : Int32) (k_w_numbers_r0 : ClassId) (h0 : Heap) (n0 : Nat) (v : Option Value) (h : Heap) (L : List Loc) : Prop := v = some (.int e1_w_numbers_r0) ∧ Fr n0 L ∧ h = h0
theorem ef_6g (m : MethodId) (x0 : Addr) : entryFrame m #[(.ref x0), (.int (1 : Int32))] 2 = mkF m 0 #[.val (.ref x0), .val (.int (1 : Int32))] [] := by first | (simp [entryFrame, mkF, argsToLocals, Value.category]; done) | rfl
set_option maxRecDepth 65536 in
set_option maxHeartbeats 40000000 in
theorem rm6g (l : Launch) (Z : State) (a0 : Array Value) (hw : ∀ d ∈ tables_1, d.before a0 Z = true) (ws : List Jvm.Cond) (r0 : Addr) (w_numbers_r0 : Addr) (e0_w_numbers_r0 : Int32) (e1_w_numbers_r0 : Int32) (e2_w_numbers_r0 : Int32) (e3_w_numbers_r0 : Int32) (k_w_numbers_r0 : ClassId) (h0 : Heap) (n0 : Nat) (Z0 : n0 ≤ h0.size) (F_numbers_r0 : Fld Z h0 r0 "com/example/baum/baum/query/NodeList$Builder" "numbers" "[I" (.ref w_numbers_r0)) (F_size_r0 : Fld Z h0 r0 "com/example/baum/baum/query/NodeList$Builder" "size" "I" (.int (4 : Int32))) (V_w_numbers_r0 : Arv Z h0 w_numbers_r0 k_w_numbers_r0 .int (16 : Int32) [(.int e0_w_numbers_r0), (.int e1_w_numbers_r0), (.int e2_w_numbers_r0), (.int e3_w_numbers_r0), (.int (0 : Int32)), (.int (0 : Int32)), (.int (0 : Int32)), (.int (0 : Int32)), (.int (0 : Int32)), (.int (0 : Int32)), (.int (0 : Int32)), (.int (0 : Int32)), (.int (0 : Int32)), (.int (0 : Int32)), (.int (0 : Int32)), (.int (0 : Int32))] (.int (0 : Int32))) :
    MetFree l (⟨"com/example/baum/baum/query/NodeList$Builder", "get", "(I)I"⟩ : MethodName) (head1 (Jvm.Cond.code (⟨"com/example/baum/baum/query/NodeList$Builder", "get", "(I)I"⟩ : MethodName) prog_99_method_6_code 2 (some .int) :: ws) ({ frames := 2, cells := 0, slots := 0, locals := 28 } : Room)) (fun a U => a = #[(.ref r0), (.int (1 : Int32))] ∧ Z.Warmed39 U.vm ∧ U.heap = h0) (fun _ _ _ _ _ => True) (fun _ U o U' => ∃ v L, o = .returned v ∧ Q6g Z r0 w_numbers_r0 e0_w_numbers_r0 e1_w_numbers_r0 e2_w_numbers_r0 e3_w_numbers_r0 k_w_numbers_r0 h0 n0 v U'.heap L ∧ FrameEnd U o U' L ({ frames := 2, cells := 0, slots := 0, locals := 28 } : Room).cells ({ frames := 2, cells := 0, slots := 0, locals := 28 } : Room).slots) := by
  refine MetFree.of_bodySF (plainFor_of_name pn_0) hisR ?_
  intro p e s m args below meth c s₁ Bd hml0 hP hK
  obtain ⟨rfl, hZ, hh⟩ := hP
  have hx := Bd.exec
  have hby := Bd.bytes
  have hml : c.maxLocals = 2 := hml0
  have hown : s.vm.findClass "com/example/baum/baum/query/NodeList$Builder" = some m.cls := findClass_of_methodNamed Bd.named
  have hnm := (name_of_methodNamed Bd.named Bd.method).1
  have X0 : Stand p l e ({ frames := 2, cells := 0, slots := 0, locals := 28 } : Room) s m #[(.ref r0), (.int (1 : Int32))] below meth c s₁ [] 0 0 := Stand.of_body Bd
  have e0 : s₁.heap = h0 := by rw [← hh, Bd.state]; rfl
  have N0 := Fr.nil n0
  have pre0 : ∀ t, Steps p.tables e below (s₁.setTop (mkF m 0 #[.val (.ref r0), .val (.int (1 : Int32))] [])) t → Steps p.tables e below (s₁.setTop (entryFrame m #[(.ref r0), (.int (1 : Int32))] 2)) t := fun t k => castTop (ef_6g m r0) k
  obtain ⟨T1, X1, e1, st1⟩ := getF X0 hx hZ hown (host := "") (Or.inl (hw _ (List.mem_of_getElem? (i := 11) rfl))) Via.refl e0 F_numbers_r0 (g := (mkF m 1 #[.val (.ref r0), .val (.int (1 : Int32))] [(.ref r0)])) rfl rfl (hb hby d6_1)
  obtain ⟨T2, X2, e2, st2⟩ := getF X1 hx hZ hown (host := "") (Or.inl (hw _ (List.mem_of_getElem? (i := 18) rfl))) Via.refl e1 F_size_r0 (g := (mkF m 6 #[.val (.ref r0), .val (.int (1 : Int32))] [(.ref r0), (.int (1 : Int32)), (.ref w_numbers_r0)])) rfl rfl (hb hby d6_6)
  obtain ⟨_, _, ⟨T3, L3, k3, n3⟩, -, X3, ⟨Lc3, hQ3, l3, y3, z3⟩, st3⟩ := Jvm.LawKit.callS X2 hx (y := (⟨"java/util/Objects", "checkIndex", "(II)I"⟩ : MethodName)) hown (mvT hZ (hw _ (List.mem_of_getElem? (i := 35) rfl))) (mvT hZ (hw _ (List.mem_of_getElem? (i := 36) rfl))) (mvT hZ (hw _ (List.mem_of_getElem? (i := 37) rfl))) (mvT hZ (hw _ (List.mem_of_getElem? (i := 38) rfl))) (by decide) (backOf (W := 1) (rm7g l Z a0 hw []  h0 n0 (Nat.le_trans Z0 (Keep.refl h0 []).1) ) hZ (hw _ (List.mem_of_getElem? (i := 38) rfl)) (hw _ (List.mem_of_getElem? (i := 37) rfl)) (by decide) (by decide)) (g := (mkF m 9 #[.val (.ref r0), .val (.int (1 : Int32))] [(.int (4 : Int32)), (.int (1 : Int32)), (.ref w_numbers_r0)])) rfl (by rw [hml]; rfl) (argsL := [(.int (1 : Int32)), (.int (4 : Int32))]) (rest := [(.ref w_numbers_r0)]) (lenOf pd_4 rfl) rfl (by show 2 * 0 + _ ≤ _; exact Nat.le_of_eq rfl) (hb hby d6_9) (fun _ _ => ⟨rfl, e2, (by decide : 0 + 0 ≤ _), (by decide : 0 + 0 ≤ _)⟩)
  dsimp only [Pt.U, Pt.locs, Pt.cells, Pt.slots] at X3 l3 y3 z3 st3 hQ3
  subst l3 y3 z3
  obtain ⟨rfl, Nq3, e3⟩ := hQ3
  have N3 := Fr.app N0 Nq3
  obtain ⟨cl4, Ar4, Cq4, Sz4, Nn4, Hh4, Gg4⟩ := id V_w_numbers_r0
  have hin4 : ¬ ((1 : Int32) < 0 ∨ cl4.slots.size ≤ ((1 : Int32)).toNatClampNeg) := inb_of Sz4 ⟨by decide, by decide⟩
  have hat4 : cl4.slots[((1 : Int32)).toNatClampNeg]? = some (.int e1_w_numbers_r0) := Hh4.at hin4 rfl
  have pre5 : ∀ t, Steps p.tables e below (T3.setTop (mkF m 13 #[.val (.ref r0), .val (.int (1 : Int32))] [(.int e1_w_numbers_r0)])) t → Steps p.tables e below (s₁.setTop (entryFrame m #[(.ref r0), (.int (1 : Int32))] 2)) t := by
    intro t k
    refine pre0 _ ?_
    show Steps p.tables e below (s₁.setTop (mkF m 0 #[.val (.ref r0), .val (.int (1 : Int32))] [])) _
    refine XS.aloadN X0.here hx rfl (hb hby d6_0) rfl rfl ?_
    show Steps p.tables e below (s₁.setTop (mkF m 1 #[.val (.ref r0), .val (.int (1 : Int32))] [(.ref r0)])) _
    refine st1 _ ?_
    show Steps p.tables e below (T1.setTop (mkF m 4 #[.val (.ref r0), .val (.int (1 : Int32))] [(.ref w_numbers_r0)])) _
    refine XS.iloadN X1.here hx rfl (hb hby d6_4) rfl ?_
    show Steps p.tables e below (T1.setTop (mkF m 5 #[.val (.ref r0), .val (.int (1 : Int32))] [(.int (1 : Int32)), (.ref w_numbers_r0)])) _
    refine XS.aloadN X1.here hx rfl (hb hby d6_5) rfl rfl ?_
    show Steps p.tables e below (T1.setTop (mkF m 6 #[.val (.ref r0), .val (.int (1 : Int32))] [(.ref r0), (.int (1 : Int32)), (.ref w_numbers_r0)])) _
    refine st2 _ ?_
    show Steps p.tables e below (T2.setTop (mkF m 9 #[.val (.ref r0), .val (.int (1 : Int32))] [(.int (4 : Int32)), (.int (1 : Int32)), (.ref w_numbers_r0)])) _
    refine st3 _ ?_
    show Steps p.tables e below (T3.setTop (mkF m 12 #[.val (.ref r0), .val (.int (1 : Int32))] [(.int (1 : Int32)), (.ref w_numbers_r0)])) _
    refine X3.iaload hx (j := (1 : Int32)) (v := (.int e1_w_numbers_r0)) (by rw [e3]; exact Ar4.1) (State.isArrayOf_alike hZ.alike Ar4.2.1) Ar4.2.2 hin4 hat4 (g := (mkF m 12 #[.val (.ref r0), .val (.int (1 : Int32))] [(.int (1 : Int32)), (.ref w_numbers_r0)])) rfl rfl (hb hby d6_12) _ ?_
    exact k
  obtain ⟨fs, hr, hrun, hended, hW, hsame⟩ := X3.leave (v := some (.int e1_w_numbers_r0)) (fun h => by rw [Bd.returns] at h; cases h)
  refine ⟨_, _, pre5 _ ?_, hrun, hended, _, _, rfl, ?_, ⟨_, rfl⟩, hW, hsame.mono (by decide) (by decide)⟩
  · show Steps p.tables e below (T3.setTop (mkF m 13 #[.val (.ref r0), .val (.int (1 : Int32))] [(.int e1_w_numbers_r0)])) _
    exact retI X3 hx Bd.returns (hb hby d6_13) hr
  · show Q6g Z r0 w_numbers_r0 e0_w_numbers_r0 e1_w_numbers_r0 e2_w_numbers_r0 e3_w_numbers_r0 k_w_numbers_r0 h0 n0 _ T3.heap _
    rw [e3]
    exact ⟨rfl, N3, rfl⟩
def Q8h (Z : State)  (h0 : Heap) (n0 : Nat) (v : Option Value) (h : Heap) (L : List Loc) : Prop := v = some (.int (2 : Int32)) ∧ Fr n0 L ∧ h = h0
theorem ef_8h (m : MethodId)  : entryFrame m #[(.int (2 : Int32)), (.int (4 : Int32)), .null] 3 = mkF m 0 #[.val (.int (2 : Int32)), .val (.int (4 : Int32)), .val .null] [] := by first | (simp [entryFrame, mkF, argsToLocals, Value.category]; done) | rfl
set_option maxRecDepth 65536 in
set_option maxHeartbeats 40000000 in
theorem rm8h (l : Launch) (Z : State) (a0 : Array Value) (hw : ∀ d ∈ tables_1, d.before a0 Z = true) (ws : List Jvm.Cond)  (h0 : Heap) (n0 : Nat) (Z0 : n0 ≤ h0.size) :
    MetFree l (⟨"jdk/internal/util/Preconditions", "checkIndex", "(IILjava/util/function/BiFunction;)I"⟩ : MethodName) (head1 (Jvm.Cond.code (⟨"jdk/internal/util/Preconditions", "checkIndex", "(IILjava/util/function/BiFunction;)I"⟩ : MethodName) jdk_41_method_11_code 3 (some .int) :: ws) ({ frames := 0, cells := 0, slots := 0, locals := 0 } : Room)) (fun a U => a = #[(.int (2 : Int32)), (.int (4 : Int32)), .null] ∧ Z.Warmed39 U.vm ∧ U.heap = h0) (fun _ _ _ _ _ => True) (fun _ U o U' => ∃ v L, o = .returned v ∧ Q8h Z  h0 n0 v U'.heap L ∧ FrameEnd U o U' L ({ frames := 0, cells := 0, slots := 0, locals := 0 } : Room).cells ({ frames := 0, cells := 0, slots := 0, locals := 0 } : Room).slots) := by
  refine MetFree.of_bodySF (plainFor_of_name pn_1) hisR ?_
  intro p e s m args below meth c s₁ Bd hml0 hP hK
  obtain ⟨rfl, hZ, hh⟩ := hP
  have hx := Bd.exec
  have hby := Bd.bytes
  have hml : c.maxLocals = 3 := hml0
  have hown : s.vm.findClass "jdk/internal/util/Preconditions" = some m.cls := findClass_of_methodNamed Bd.named
  have hnm := (name_of_methodNamed Bd.named Bd.method).1
  have X0 : Stand p l e ({ frames := 0, cells := 0, slots := 0, locals := 0 } : Room) s m #[(.int (2 : Int32)), (.int (4 : Int32)), .null] below meth c s₁ [] 0 0 := Stand.of_body Bd
  have e0 : s₁.heap = h0 := by rw [← hh, Bd.state]; rfl
  have N0 := Fr.nil n0
  have pre0 : ∀ t, Steps p.tables e below (s₁.setTop (mkF m 0 #[.val (.int (2 : Int32)), .val (.int (4 : Int32)), .val .null] [])) t → Steps p.tables e below (s₁.setTop (entryFrame m #[(.int (2 : Int32)), (.int (4 : Int32)), .null] 3)) t := fun t k => castTop (ef_8h m ) k
  have pre1 : ∀ t, Steps p.tables e below (s₁.setTop (mkF m 17 #[.val (.int (2 : Int32)), .val (.int (4 : Int32)), .val .null] [(.int (2 : Int32))])) t → Steps p.tables e below (s₁.setTop (entryFrame m #[(.int (2 : Int32)), (.int (4 : Int32)), .null] 3)) t := by
    intro t k
    refine pre0 _ ?_
    show Steps p.tables e below (s₁.setTop (mkF m 0 #[.val (.int (2 : Int32)), .val (.int (4 : Int32)), .val .null] [])) _
    refine XS.iloadN X0.here hx rfl (hb hby d8_0) rfl ?_
    show Steps p.tables e below (s₁.setTop (mkF m 1 #[.val (.int (2 : Int32)), .val (.int (4 : Int32)), .val .null] [(.int (2 : Int32))])) _
    refine XS.ifNo X0.here hx rfl (hb hby d8_1) rfl ((if0 _ _).trans (flt (by decide : ¬ ((2 : Int32) < (0 : Int32)))).1) ?_
    show Steps p.tables e below (s₁.setTop (mkF m 4 #[.val (.int (2 : Int32)), .val (.int (4 : Int32)), .val .null] [])) _
    refine XS.iloadN X0.here hx rfl (hb hby d8_4) rfl ?_
    show Steps p.tables e below (s₁.setTop (mkF m 5 #[.val (.int (2 : Int32)), .val (.int (4 : Int32)), .val .null] [(.int (2 : Int32))])) _
    refine XS.iloadN X0.here hx rfl (hb hby d8_5) rfl ?_
    show Steps p.tables e below (s₁.setTop (mkF m 6 #[.val (.int (2 : Int32)), .val (.int (4 : Int32)), .val .null] [(.int (4 : Int32)), (.int (2 : Int32))])) _
    refine XS.icmpYes X0.here hx rfl (pc0 := 6) (pc' := 16) rfl (hb hby d8_6) rfl (tlt (by decide : (2 : Int32) < (4 : Int32))).1 (by decide) (by decide) ?_
    show Steps p.tables e below (s₁.setTop (mkF m 16 #[.val (.int (2 : Int32)), .val (.int (4 : Int32)), .val .null] [])) _
    refine XS.iloadN X0.here hx rfl (hb hby d8_16) rfl ?_
    exact k
  obtain ⟨fs, hr, hrun, hended, hW, hsame⟩ := X0.leave (v := some (.int (2 : Int32))) (fun h => by rw [Bd.returns] at h; cases h)
  refine ⟨_, _, pre1 _ ?_, hrun, hended, _, _, rfl, ?_, ⟨_, rfl⟩, hW, hsame.mono (by decide) (by decide)⟩
  · show Steps p.tables e below (s₁.setTop (mkF m 17 #[.val (.int (2 : Int32)), .val (.int (4 : Int32)), .val .null] [(.int (2 : Int32))])) _
    exact retI X0 hx Bd.returns (hb hby d8_17) hr
  · show Q8h Z  h0 n0 _ s₁.heap _
    rw [e0]
    exact ⟨rfl, N0, rfl⟩
def Q7h (Z : State)  (h0 : Heap) (n0 : Nat) (v : Option Value) (h : Heap) (L : List Loc) : Prop := v = some (.int (2 : Int32)) ∧ Fr n0 L ∧ h = h0
theorem ef_7h (m : MethodId)  : entryFrame m #[(.int (2 : Int32)), (.int (4 : Int32))] 2 = mkF m 0 #[.val (.int (2 : Int32)), .val (.int (4 : Int32))] [] := by first | (simp [entryFrame, mkF, argsToLocals, Value.category]; done) | rfl
set_option maxRecDepth 65536 in
set_option maxHeartbeats 40000000 in
theorem rm7h (l : Launch) (Z : State) (a0 : Array Value) (hw : ∀ d ∈ tables_1, d.before a0 Z = true) (ws : List Jvm.Cond)  (h0 : Heap) (n0 : Nat) (Z0 : n0 ≤ h0.size) :
    MetFree l (⟨"java/util/Objects", "checkIndex", "(II)I"⟩ : MethodName) (head1 (Jvm.Cond.code (⟨"java/util/Objects", "checkIndex", "(II)I"⟩ : MethodName) jdk_31_method_17_code 2 (some .int) :: ws) ({ frames := 1, cells := 0, slots := 0, locals := 14 } : Room)) (fun a U => a = #[(.int (2 : Int32)), (.int (4 : Int32))] ∧ Z.Warmed39 U.vm ∧ U.heap = h0) (fun _ _ _ _ _ => True) (fun _ U o U' => ∃ v L, o = .returned v ∧ Q7h Z  h0 n0 v U'.heap L ∧ FrameEnd U o U' L ({ frames := 1, cells := 0, slots := 0, locals := 14 } : Room).cells ({ frames := 1, cells := 0, slots := 0, locals := 14 } : Room).slots) := by
  refine MetFree.of_bodySF (plainFor_of_name pn_2) hisR ?_
  intro p e s m args below meth c s₁ Bd hml0 hP hK
  obtain ⟨rfl, hZ, hh⟩ := hP
  have hx := Bd.exec
  have hby := Bd.bytes
  have hml : c.maxLocals = 2 := hml0
  have hown : s.vm.findClass "java/util/Objects" = some m.cls := findClass_of_methodNamed Bd.named
  have hnm := (name_of_methodNamed Bd.named Bd.method).1
  have X0 : Stand p l e ({ frames := 1, cells := 0, slots := 0, locals := 14 } : Room) s m #[(.int (2 : Int32)), (.int (4 : Int32))] below meth c s₁ [] 0 0 := Stand.of_body Bd
  have e0 : s₁.heap = h0 := by rw [← hh, Bd.state]; rfl
  have N0 := Fr.nil n0
  have pre0 : ∀ t, Steps p.tables e below (s₁.setTop (mkF m 0 #[.val (.int (2 : Int32)), .val (.int (4 : Int32))] [])) t → Steps p.tables e below (s₁.setTop (entryFrame m #[(.int (2 : Int32)), (.int (4 : Int32))] 2)) t := fun t k => castTop (ef_7h m ) k
  obtain ⟨_, _, ⟨T1, L1, k1, n1⟩, -, X1, ⟨Lc1, hQ1, l1, y1, z1⟩, st1⟩ := Jvm.LawKit.callS X0 hx (y := (⟨"jdk/internal/util/Preconditions", "checkIndex", "(IILjava/util/function/BiFunction;)I"⟩ : MethodName)) hown (mvT hZ (hw _ (List.mem_of_getElem? (i := 39) rfl))) (mvT hZ (hw _ (List.mem_of_getElem? (i := 40) rfl))) (mvT hZ (hw _ (List.mem_of_getElem? (i := 41) rfl))) (mvT hZ (hw _ (List.mem_of_getElem? (i := 42) rfl))) (by decide) (backOf (W := 0) (rm8h l Z a0 hw []  h0 n0 (Nat.le_trans Z0 (Keep.refl h0 []).1) ) hZ (hw _ (List.mem_of_getElem? (i := 42) rfl)) (hw _ (List.mem_of_getElem? (i := 41) rfl)) (by decide) (by decide)) (g := (mkF m 3 #[.val (.int (2 : Int32)), .val (.int (4 : Int32))] [.null, (.int (4 : Int32)), (.int (2 : Int32))])) rfl (by rw [hml]; rfl) (argsL := [(.int (2 : Int32)), (.int (4 : Int32)), .null]) (rest := []) (lenOf pd_3 rfl) rfl (by show 2 * 0 + _ ≤ _; exact Nat.le_of_eq rfl) (hb hby d7_3) (fun _ _ => ⟨rfl, e0, (by decide : 0 + 0 ≤ _), (by decide : 0 + 0 ≤ _)⟩)
  dsimp only [Pt.U, Pt.locs, Pt.cells, Pt.slots] at X1 l1 y1 z1 st1 hQ1
  subst l1 y1 z1
  obtain ⟨rfl, Nq1, e1⟩ := hQ1
  have N1 := Fr.app N0 Nq1
  have pre2 : ∀ t, Steps p.tables e below (T1.setTop (mkF m 6 #[.val (.int (2 : Int32)), .val (.int (4 : Int32))] [(.int (2 : Int32))])) t → Steps p.tables e below (s₁.setTop (entryFrame m #[(.int (2 : Int32)), (.int (4 : Int32))] 2)) t := by
    intro t k
    refine pre0 _ ?_
    show Steps p.tables e below (s₁.setTop (mkF m 0 #[.val (.int (2 : Int32)), .val (.int (4 : Int32))] [])) _
    refine XS.iloadN X0.here hx rfl (hb hby d7_0) rfl ?_
    show Steps p.tables e below (s₁.setTop (mkF m 1 #[.val (.int (2 : Int32)), .val (.int (4 : Int32))] [(.int (2 : Int32))])) _
    refine XS.iloadN X0.here hx rfl (hb hby d7_1) rfl ?_
    show Steps p.tables e below (s₁.setTop (mkF m 2 #[.val (.int (2 : Int32)), .val (.int (4 : Int32))] [(.int (4 : Int32)), (.int (2 : Int32))])) _
    refine XS.aconstNull X0.here hx rfl (hb hby d7_2) ?_
    show Steps p.tables e below (s₁.setTop (mkF m 3 #[.val (.int (2 : Int32)), .val (.int (4 : Int32))] [.null, (.int (4 : Int32)), (.int (2 : Int32))])) _
    refine st1 _ ?_
    exact k
  obtain ⟨fs, hr, hrun, hended, hW, hsame⟩ := X1.leave (v := some (.int (2 : Int32))) (fun h => by rw [Bd.returns] at h; cases h)
  refine ⟨_, _, pre2 _ ?_, hrun, hended, _, _, rfl, ?_, ⟨_, rfl⟩, hW, hsame.mono (by decide) (by decide)⟩
  · show Steps p.tables e below (T1.setTop (mkF m 6 #[.val (.int (2 : Int32)), .val (.int (4 : Int32))] [(.int (2 : Int32))])) _
    exact retI X1 hx Bd.returns (hb hby d7_6) hr
  · show Q7h Z  h0 n0 _ T1.heap _
    rw [e1]
    exact ⟨rfl, N1, rfl⟩
def Q6h (Z : State) (r0 : Addr) (w_numbers_r0 : Addr) (e0_w_numbers_r0 : Int32) (e1_w_numbers_r0 : Int32) (e2_w_numbers_r0 : Int32) (e3_w_numbers_r0 : Int32) (k_w_numbers_r0 : ClassId) (h0 : Heap) (n0 : Nat) (v : Option Value) (h : Heap) (L : List Loc) : Prop := v = some (.int e2_w_numbers_r0) ∧ Fr n0 L ∧ h = h0
theorem ef_6h (m : MethodId) (x0 : Addr) : entryFrame m #[(.ref x0), (.int (2 : Int32))] 2 = mkF m 0 #[.val (.ref x0), .val (.int (2 : Int32))] [] := by first | (simp [entryFrame, mkF, argsToLocals, Value.category]; done) | rfl
set_option maxRecDepth 65536 in
set_option maxHeartbeats 40000000 in
theorem rm6h (l : Launch) (Z : State) (a0 : Array Value) (hw : ∀ d ∈ tables_1, d.before a0 Z = true) (ws : List Jvm.Cond) (r0 : Addr) (w_numbers_r0 : Addr) (e0_w_numbers_r0 : Int32) (e1_w_numbers_r0 : Int32) (e2_w_numbers_r0 : Int32) (e3_w_numbers_r0 : Int32) (k_w_numbers_r0 : ClassId) (h0 : Heap) (n0 : Nat) (Z0 : n0 ≤ h0.size) (F_numbers_r0 : Fld Z h0 r0 "com/example/baum/baum/query/NodeList$Builder" "numbers" "[I" (.ref w_numbers_r0)) (F_size_r0 : Fld Z h0 r0 "com/example/baum/baum/query/NodeList$Builder" "size" "I" (.int (4 : Int32))) (V_w_numbers_r0 : Arv Z h0 w_numbers_r0 k_w_numbers_r0 .int (16 : Int32) [(.int e0_w_numbers_r0), (.int e1_w_numbers_r0), (.int e2_w_numbers_r0), (.int e3_w_numbers_r0), (.int (0 : Int32)), (.int (0 : Int32)), (.int (0 : Int32)), (.int (0 : Int32)), (.int (0 : Int32)), (.int (0 : Int32)), (.int (0 : Int32)), (.int (0 : Int32)), (.int (0 : Int32)), (.int (0 : Int32)), (.int (0 : Int32)), (.int (0 : Int32))] (.int (0 : Int32))) :
    MetFree l (⟨"com/example/baum/baum/query/NodeList$Builder", "get", "(I)I"⟩ : MethodName) (head1 (Jvm.Cond.code (⟨"com/example/baum/baum/query/NodeList$Builder", "get", "(I)I"⟩ : MethodName) prog_99_method_6_code 2 (some .int) :: ws) ({ frames := 2, cells := 0, slots := 0, locals := 28 } : Room)) (fun a U => a = #[(.ref r0), (.int (2 : Int32))] ∧ Z.Warmed39 U.vm ∧ U.heap = h0) (fun _ _ _ _ _ => True) (fun _ U o U' => ∃ v L, o = .returned v ∧ Q6h Z r0 w_numbers_r0 e0_w_numbers_r0 e1_w_numbers_r0 e2_w_numbers_r0 e3_w_numbers_r0 k_w_numbers_r0 h0 n0 v U'.heap L ∧ FrameEnd U o U' L ({ frames := 2, cells := 0, slots := 0, locals := 28 } : Room).cells ({ frames := 2, cells := 0, slots := 0, locals := 28 } : Room).slots) := by
  refine MetFree.of_bodySF (plainFor_of_name pn_0) hisR ?_
  intro p e s m args below meth c s₁ Bd hml0 hP hK
  obtain ⟨rfl, hZ, hh⟩ := hP
  have hx := Bd.exec
  have hby := Bd.bytes
  have hml : c.maxLocals = 2 := hml0
  have hown : s.vm.findClass "com/example/baum/baum/query/NodeList$Builder" = some m.cls := findClass_of_methodNamed Bd.named
  have hnm := (name_of_methodNamed Bd.named Bd.method).1
  have X0 : Stand p l e ({ frames := 2, cells := 0, slots := 0, locals := 28 } : Room) s m #[(.ref r0), (.int (2 : Int32))] below meth c s₁ [] 0 0 := Stand.of_body Bd
  have e0 : s₁.heap = h0 := by rw [← hh, Bd.state]; rfl
  have N0 := Fr.nil n0
  have pre0 : ∀ t, Steps p.tables e below (s₁.setTop (mkF m 0 #[.val (.ref r0), .val (.int (2 : Int32))] [])) t → Steps p.tables e below (s₁.setTop (entryFrame m #[(.ref r0), (.int (2 : Int32))] 2)) t := fun t k => castTop (ef_6h m r0) k
  obtain ⟨T1, X1, e1, st1⟩ := getF X0 hx hZ hown (host := "") (Or.inl (hw _ (List.mem_of_getElem? (i := 11) rfl))) Via.refl e0 F_numbers_r0 (g := (mkF m 1 #[.val (.ref r0), .val (.int (2 : Int32))] [(.ref r0)])) rfl rfl (hb hby d6_1)
  obtain ⟨T2, X2, e2, st2⟩ := getF X1 hx hZ hown (host := "") (Or.inl (hw _ (List.mem_of_getElem? (i := 18) rfl))) Via.refl e1 F_size_r0 (g := (mkF m 6 #[.val (.ref r0), .val (.int (2 : Int32))] [(.ref r0), (.int (2 : Int32)), (.ref w_numbers_r0)])) rfl rfl (hb hby d6_6)
  obtain ⟨_, _, ⟨T3, L3, k3, n3⟩, -, X3, ⟨Lc3, hQ3, l3, y3, z3⟩, st3⟩ := Jvm.LawKit.callS X2 hx (y := (⟨"java/util/Objects", "checkIndex", "(II)I"⟩ : MethodName)) hown (mvT hZ (hw _ (List.mem_of_getElem? (i := 35) rfl))) (mvT hZ (hw _ (List.mem_of_getElem? (i := 36) rfl))) (mvT hZ (hw _ (List.mem_of_getElem? (i := 37) rfl))) (mvT hZ (hw _ (List.mem_of_getElem? (i := 38) rfl))) (by decide) (backOf (W := 1) (rm7h l Z a0 hw []  h0 n0 (Nat.le_trans Z0 (Keep.refl h0 []).1) ) hZ (hw _ (List.mem_of_getElem? (i := 38) rfl)) (hw _ (List.mem_of_getElem? (i := 37) rfl)) (by decide) (by decide)) (g := (mkF m 9 #[.val (.ref r0), .val (.int (2 : Int32))] [(.int (4 : Int32)), (.int (2 : Int32)), (.ref w_numbers_r0)])) rfl (by rw [hml]; rfl) (argsL := [(.int (2 : Int32)), (.int (4 : Int32))]) (rest := [(.ref w_numbers_r0)]) (lenOf pd_4 rfl) rfl (by show 2 * 0 + _ ≤ _; exact Nat.le_of_eq rfl) (hb hby d6_9) (fun _ _ => ⟨rfl, e2, (by decide : 0 + 0 ≤ _), (by decide : 0 + 0 ≤ _)⟩)
  dsimp only [Pt.U, Pt.locs, Pt.cells, Pt.slots] at X3 l3 y3 z3 st3 hQ3
  subst l3 y3 z3
  obtain ⟨rfl, Nq3, e3⟩ := hQ3
  have N3 := Fr.app N0 Nq3
  obtain ⟨cl4, Ar4, Cq4, Sz4, Nn4, Hh4, Gg4⟩ := id V_w_numbers_r0
  have hin4 : ¬ ((2 : Int32) < 0 ∨ cl4.slots.size ≤ ((2 : Int32)).toNatClampNeg) := inb_of Sz4 ⟨by decide, by decide⟩
  have hat4 : cl4.slots[((2 : Int32)).toNatClampNeg]? = some (.int e2_w_numbers_r0) := Hh4.at hin4 rfl
  have pre5 : ∀ t, Steps p.tables e below (T3.setTop (mkF m 13 #[.val (.ref r0), .val (.int (2 : Int32))] [(.int e2_w_numbers_r0)])) t → Steps p.tables e below (s₁.setTop (entryFrame m #[(.ref r0), (.int (2 : Int32))] 2)) t := by
    intro t k
    refine pre0 _ ?_
    show Steps p.tables e below (s₁.setTop (mkF m 0 #[.val (.ref r0), .val (.int (2 : Int32))] [])) _
    refine XS.aloadN X0.here hx rfl (hb hby d6_0) rfl rfl ?_
    show Steps p.tables e below (s₁.setTop (mkF m 1 #[.val (.ref r0), .val (.int (2 : Int32))] [(.ref r0)])) _
    refine st1 _ ?_
    show Steps p.tables e below (T1.setTop (mkF m 4 #[.val (.ref r0), .val (.int (2 : Int32))] [(.ref w_numbers_r0)])) _
    refine XS.iloadN X1.here hx rfl (hb hby d6_4) rfl ?_
    show Steps p.tables e below (T1.setTop (mkF m 5 #[.val (.ref r0), .val (.int (2 : Int32))] [(.int (2 : Int32)), (.ref w_numbers_r0)])) _
    refine XS.aloadN X1.here hx rfl (hb hby d6_5) rfl rfl ?_
    show Steps p.tables e below (T1.setTop (mkF m 6 #[.val (.ref r0), .val (.int (2 : Int32))] [(.ref r0), (.int (2 : Int32)), (.ref w_numbers_r0)])) _
    refine st2 _ ?_
    show Steps p.tables e below (T2.setTop (mkF m 9 #[.val (.ref r0), .val (.int (2 : Int32))] [(.int (4 : Int32)), (.int (2 : Int32)), (.ref w_numbers_r0)])) _
    refine st3 _ ?_
    show Steps p.tables e below (T3.setTop (mkF m 12 #[.val (.ref r0), .val (.int (2 : Int32))] [(.int (2 : Int32)), (.ref w_numbers_r0)])) _
    refine X3.iaload hx (j := (2 : Int32)) (v := (.int e2_w_numbers_r0)) (by rw [e3]; exact Ar4.1) (State.isArrayOf_alike hZ.alike Ar4.2.1) Ar4.2.2 hin4 hat4 (g := (mkF m 12 #[.val (.ref r0), .val (.int (2 : Int32))] [(.int (2 : Int32)), (.ref w_numbers_r0)])) rfl rfl (hb hby d6_12) _ ?_
    exact k
  obtain ⟨fs, hr, hrun, hended, hW, hsame⟩ := X3.leave (v := some (.int e2_w_numbers_r0)) (fun h => by rw [Bd.returns] at h; cases h)
  refine ⟨_, _, pre5 _ ?_, hrun, hended, _, _, rfl, ?_, ⟨_, rfl⟩, hW, hsame.mono (by decide) (by decide)⟩
  · show Steps p.tables e below (T3.setTop (mkF m 13 #[.val (.ref r0), .val (.int (2 : Int32))] [(.int e2_w_numbers_r0)])) _
    exact retI X3 hx Bd.returns (hb hby d6_13) hr
  · show Q6h Z r0 w_numbers_r0 e0_w_numbers_r0 e1_w_numbers_r0 e2_w_numbers_r0 e3_w_numbers_r0 k_w_numbers_r0 h0 n0 _ T3.heap _
    rw [e3]
    exact ⟨rfl, N3, rfl⟩
def Q8i (Z : State)  (h0 : Heap) (n0 : Nat) (v : Option Value) (h : Heap) (L : List Loc) : Prop := v = some (.int (3 : Int32)) ∧ Fr n0 L ∧ h = h0
theorem ef_8i (m : MethodId)  : entryFrame m #[(.int (3 : Int32)), (.int (4 : Int32)), .null] 3 = mkF m 0 #[.val (.int (3 : Int32)), .val (.int (4 : Int32)), .val .null] [] := by first | (simp [entryFrame, mkF, argsToLocals, Value.category]; done) | rfl
set_option maxRecDepth 65536 in
set_option maxHeartbeats 40000000 in
theorem rm8i (l : Launch) (Z : State) (a0 : Array Value) (hw : ∀ d ∈ tables_1, d.before a0 Z = true) (ws : List Jvm.Cond)  (h0 : Heap) (n0 : Nat) (Z0 : n0 ≤ h0.size) :
    MetFree l (⟨"jdk/internal/util/Preconditions", "checkIndex", "(IILjava/util/function/BiFunction;)I"⟩ : MethodName) (head1 (Jvm.Cond.code (⟨"jdk/internal/util/Preconditions", "checkIndex", "(IILjava/util/function/BiFunction;)I"⟩ : MethodName) jdk_41_method_11_code 3 (some .int) :: ws) ({ frames := 0, cells := 0, slots := 0, locals := 0 } : Room)) (fun a U => a = #[(.int (3 : Int32)), (.int (4 : Int32)), .null] ∧ Z.Warmed39 U.vm ∧ U.heap = h0) (fun _ _ _ _ _ => True) (fun _ U o U' => ∃ v L, o = .returned v ∧ Q8i Z  h0 n0 v U'.heap L ∧ FrameEnd U o U' L ({ frames := 0, cells := 0, slots := 0, locals := 0 } : Room).cells ({ frames := 0, cells := 0, slots := 0, locals := 0 } : Room).slots) := by
  refine MetFree.of_bodySF (plainFor_of_name pn_1) hisR ?_
  intro p e s m args below meth c s₁ Bd hml0 hP hK
  obtain ⟨rfl, hZ, hh⟩ := hP
  have hx := Bd.exec
  have hby := Bd.bytes
  have hml : c.maxLocals = 3 := hml0
  have hown : s.vm.findClass "jdk/internal/util/Preconditions" = some m.cls := findClass_of_methodNamed Bd.named
  have hnm := (name_of_methodNamed Bd.named Bd.method).1
  have X0 : Stand p l e ({ frames := 0, cells := 0, slots := 0, locals := 0 } : Room) s m #[(.int (3 : Int32)), (.int (4 : Int32)), .null] below meth c s₁ [] 0 0 := Stand.of_body Bd
  have e0 : s₁.heap = h0 := by rw [← hh, Bd.state]; rfl
  have N0 := Fr.nil n0
  have pre0 : ∀ t, Steps p.tables e below (s₁.setTop (mkF m 0 #[.val (.int (3 : Int32)), .val (.int (4 : Int32)), .val .null] [])) t → Steps p.tables e below (s₁.setTop (entryFrame m #[(.int (3 : Int32)), (.int (4 : Int32)), .null] 3)) t := fun t k => castTop (ef_8i m ) k
  have pre1 : ∀ t, Steps p.tables e below (s₁.setTop (mkF m 17 #[.val (.int (3 : Int32)), .val (.int (4 : Int32)), .val .null] [(.int (3 : Int32))])) t → Steps p.tables e below (s₁.setTop (entryFrame m #[(.int (3 : Int32)), (.int (4 : Int32)), .null] 3)) t := by
    intro t k
    refine pre0 _ ?_
    show Steps p.tables e below (s₁.setTop (mkF m 0 #[.val (.int (3 : Int32)), .val (.int (4 : Int32)), .val .null] [])) _
    refine XS.iloadN X0.here hx rfl (hb hby d8_0) rfl ?_
    show Steps p.tables e below (s₁.setTop (mkF m 1 #[.val (.int (3 : Int32)), .val (.int (4 : Int32)), .val .null] [(.int (3 : Int32))])) _
    refine XS.ifNo X0.here hx rfl (hb hby d8_1) rfl ((if0 _ _).trans (flt (by decide : ¬ ((3 : Int32) < (0 : Int32)))).1) ?_
    show Steps p.tables e below (s₁.setTop (mkF m 4 #[.val (.int (3 : Int32)), .val (.int (4 : Int32)), .val .null] [])) _
    refine XS.iloadN X0.here hx rfl (hb hby d8_4) rfl ?_
    show Steps p.tables e below (s₁.setTop (mkF m 5 #[.val (.int (3 : Int32)), .val (.int (4 : Int32)), .val .null] [(.int (3 : Int32))])) _
    refine XS.iloadN X0.here hx rfl (hb hby d8_5) rfl ?_
    show Steps p.tables e below (s₁.setTop (mkF m 6 #[.val (.int (3 : Int32)), .val (.int (4 : Int32)), .val .null] [(.int (4 : Int32)), (.int (3 : Int32))])) _
    refine XS.icmpYes X0.here hx rfl (pc0 := 6) (pc' := 16) rfl (hb hby d8_6) rfl (tlt (by decide : (3 : Int32) < (4 : Int32))).1 (by decide) (by decide) ?_
    show Steps p.tables e below (s₁.setTop (mkF m 16 #[.val (.int (3 : Int32)), .val (.int (4 : Int32)), .val .null] [])) _
    refine XS.iloadN X0.here hx rfl (hb hby d8_16) rfl ?_
    exact k
  obtain ⟨fs, hr, hrun, hended, hW, hsame⟩ := X0.leave (v := some (.int (3 : Int32))) (fun h => by rw [Bd.returns] at h; cases h)
  refine ⟨_, _, pre1 _ ?_, hrun, hended, _, _, rfl, ?_, ⟨_, rfl⟩, hW, hsame.mono (by decide) (by decide)⟩
  · show Steps p.tables e below (s₁.setTop (mkF m 17 #[.val (.int (3 : Int32)), .val (.int (4 : Int32)), .val .null] [(.int (3 : Int32))])) _
    exact retI X0 hx Bd.returns (hb hby d8_17) hr
  · show Q8i Z  h0 n0 _ s₁.heap _
    rw [e0]
    exact ⟨rfl, N0, rfl⟩
def Q7i (Z : State)  (h0 : Heap) (n0 : Nat) (v : Option Value) (h : Heap) (L : List Loc) : Prop := v = some (.int (3 : Int32)) ∧ Fr n0 L ∧ h = h0
theorem ef_7i (m : MethodId)  : entryFrame m #[(.int (3 : Int32)), (.int (4 : Int32))] 2 = mkF m 0 #[.val (.int (3 : Int32)), .val (.int (4 : Int32))] [] := by first | (simp [entryFrame, mkF, argsToLocals, Value.category]; done) | rfl
set_option maxRecDepth 65536 in
set_option maxHeartbeats 40000000 in
theorem rm7i (l : Launch) (Z : State) (a0 : Array Value) (hw : ∀ d ∈ tables_1, d.before a0 Z = true) (ws : List Jvm.Cond)  (h0 : Heap) (n0 : Nat) (Z0 : n0 ≤ h0.size) :
    MetFree l (⟨"java/util/Objects", "checkIndex", "(II)I"⟩ : MethodName) (head1 (Jvm.Cond.code (⟨"java/util/Objects", "checkIndex", "(II)I"⟩ : MethodName) jdk_31_method_17_code 2 (some .int) :: ws) ({ frames := 1, cells := 0, slots := 0, locals := 14 } : Room)) (fun a U => a = #[(.int (3 : Int32)), (.int (4 : Int32))] ∧ Z.Warmed39 U.vm ∧ U.heap = h0) (fun _ _ _ _ _ => True) (fun _ U o U' => ∃ v L, o = .returned v ∧ Q7i Z  h0 n0 v U'.heap L ∧ FrameEnd U o U' L ({ frames := 1, cells := 0, slots := 0, locals := 14 } : Room).cells ({ frames := 1, cells := 0, slots := 0, locals := 14 } : Room).slots) := by
  refine MetFree.of_bodySF (plainFor_of_name pn_2) hisR ?_
  intro p e s m args below meth c s₁ Bd hml0 hP hK
  obtain ⟨rfl, hZ, hh⟩ := hP
  have hx := Bd.exec
  have hby := Bd.bytes
  have hml : c.maxLocals = 2 := hml0
  have hown : s.vm.findClass "java/util/Objects" = some m.cls := findClass_of_methodNamed Bd.named
  have hnm := (name_of_methodNamed Bd.named Bd.method).1
  have X0 : Stand p l e ({ frames := 1, cells := 0, slots := 0, locals := 14 } : Room) s m #[(.int (3 : Int32)), (.int (4 : Int32))] below meth c s₁ [] 0 0 := Stand.of_body Bd
  have e0 : s₁.heap = h0 := by rw [← hh, Bd.state]; rfl
  have N0 := Fr.nil n0
  have pre0 : ∀ t, Steps p.tables e below (s₁.setTop (mkF m 0 #[.val (.int (3 : Int32)), .val (.int (4 : Int32))] [])) t → Steps p.tables e below (s₁.setTop (entryFrame m #[(.int (3 : Int32)), (.int (4 : Int32))] 2)) t := fun t k => castTop (ef_7i m ) k
  obtain ⟨_, _, ⟨T1, L1, k1, n1⟩, -, X1, ⟨Lc1, hQ1, l1, y1, z1⟩, st1⟩ := Jvm.LawKit.callS X0 hx (y := (⟨"jdk/internal/util/Preconditions", "checkIndex", "(IILjava/util/function/BiFunction;)I"⟩ : MethodName)) hown (mvT hZ (hw _ (List.mem_of_getElem? (i := 39) rfl))) (mvT hZ (hw _ (List.mem_of_getElem? (i := 40) rfl))) (mvT hZ (hw _ (List.mem_of_getElem? (i := 41) rfl))) (mvT hZ (hw _ (List.mem_of_getElem? (i := 42) rfl))) (by decide) (backOf (W := 0) (rm8i l Z a0 hw []  h0 n0 (Nat.le_trans Z0 (Keep.refl h0 []).1) ) hZ (hw _ (List.mem_of_getElem? (i := 42) rfl)) (hw _ (List.mem_of_getElem? (i := 41) rfl)) (by decide) (by decide)) (g := (mkF m 3 #[.val (.int (3 : Int32)), .val (.int (4 : Int32))] [.null, (.int (4 : Int32)), (.int (3 : Int32))])) rfl (by rw [hml]; rfl) (argsL := [(.int (3 : Int32)), (.int (4 : Int32)), .null]) (rest := []) (lenOf pd_3 rfl) rfl (by show 2 * 0 + _ ≤ _; exact Nat.le_of_eq rfl) (hb hby d7_3) (fun _ _ => ⟨rfl, e0, (by decide : 0 + 0 ≤ _), (by decide : 0 + 0 ≤ _)⟩)
  dsimp only [Pt.U, Pt.locs, Pt.cells, Pt.slots] at X1 l1 y1 z1 st1 hQ1
  subst l1 y1 z1
  obtain ⟨rfl, Nq1, e1⟩ := hQ1
  have N1 := Fr.app N0 Nq1
  have pre2 : ∀ t, Steps p.tables e below (T1.setTop (mkF m 6 #[.val (.int (3 : Int32)), .val (.int (4 : Int32))] [(.int (3 : Int32))])) t → Steps p.tables e below (s₁.setTop (entryFrame m #[(.int (3 : Int32)), (.int (4 : Int32))] 2)) t := by
    intro t k
    refine pre0 _ ?_
    show Steps p.tables e below (s₁.setTop (mkF m 0 #[.val (.int (3 : Int32)), .val (.int (4 : Int32))] [])) _
    refine XS.iloadN X0.here hx rfl (hb hby d7_0) rfl ?_
    show Steps p.tables e below (s₁.setTop (mkF m 1 #[.val (.int (3 : Int32)), .val (.int (4 : Int32))] [(.int (3 : Int32))])) _
    refine XS.iloadN X0.here hx rfl (hb hby d7_1) rfl ?_
    show Steps p.tables e below (s₁.setTop (mkF m 2 #[.val (.int (3 : Int32)), .val (.int (4 : Int32))] [(.int (4 : Int32)), (.int (3 : Int32))])) _
    refine XS.aconstNull X0.here hx rfl (hb hby d7_2) ?_
    show Steps p.tables e below (s₁.setTop (mkF m 3 #[.val (.int (3 : Int32)), .val (.int (4 : Int32))] [.null, (.int (4 : Int32)), (.int (3 : Int32))])) _
    refine st1 _ ?_
    exact k
  obtain ⟨fs, hr, hrun, hended, hW, hsame⟩ := X1.leave (v := some (.int (3 : Int32))) (fun h => by rw [Bd.returns] at h; cases h)
  refine ⟨_, _, pre2 _ ?_, hrun, hended, _, _, rfl, ?_, ⟨_, rfl⟩, hW, hsame.mono (by decide) (by decide)⟩
  · show Steps p.tables e below (T1.setTop (mkF m 6 #[.val (.int (3 : Int32)), .val (.int (4 : Int32))] [(.int (3 : Int32))])) _
    exact retI X1 hx Bd.returns (hb hby d7_6) hr
  · show Q7i Z  h0 n0 _ T1.heap _
    rw [e1]
    exact ⟨rfl, N1, rfl⟩
def Q6i (Z : State) (r0 : Addr) (w_numbers_r0 : Addr) (e0_w_numbers_r0 : Int32) (e1_w_numbers_r0 : Int32) (e2_w_numbers_r0 : Int32) (e3_w_numbers_r0 : Int32) (k_w_numbers_r0 : ClassId) (h0 : Heap) (n0 : Nat) (v : Option Value) (h : Heap) (L : List Loc) : Prop := v = some (.int e3_w_numbers_r0) ∧ Fr n0 L ∧ h = h0
theorem ef_6i (m : MethodId) (x0 : Addr) : entryFrame m #[(.ref x0), (.int (3 : Int32))] 2 = mkF m 0 #[.val (.ref x0), .val (.int (3 : Int32))] [] := by first | (simp [entryFrame, mkF, argsToLocals, Value.category]; done) | rfl
set_option maxRecDepth 65536 in
set_option maxHeartbeats 40000000 in
theorem rm6i (l : Launch) (Z : State) (a0 : Array Value) (hw : ∀ d ∈ tables_1, d.before a0 Z = true) (ws : List Jvm.Cond) (r0 : Addr) (w_numbers_r0 : Addr) (e0_w_numbers_r0 : Int32) (e1_w_numbers_r0 : Int32) (e2_w_numbers_r0 : Int32) (e3_w_numbers_r0 : Int32) (k_w_numbers_r0 : ClassId) (h0 : Heap) (n0 : Nat) (Z0 : n0 ≤ h0.size) (F_numbers_r0 : Fld Z h0 r0 "com/example/baum/baum/query/NodeList$Builder" "numbers" "[I" (.ref w_numbers_r0)) (F_size_r0 : Fld Z h0 r0 "com/example/baum/baum/query/NodeList$Builder" "size" "I" (.int (4 : Int32))) (V_w_numbers_r0 : Arv Z h0 w_numbers_r0 k_w_numbers_r0 .int (16 : Int32) [(.int e0_w_numbers_r0), (.int e1_w_numbers_r0), (.int e2_w_numbers_r0), (.int e3_w_numbers_r0), (.int (0 : Int32)), (.int (0 : Int32)), (.int (0 : Int32)), (.int (0 : Int32)), (.int (0 : Int32)), (.int (0 : Int32)), (.int (0 : Int32)), (.int (0 : Int32)), (.int (0 : Int32)), (.int (0 : Int32)), (.int (0 : Int32)), (.int (0 : Int32))] (.int (0 : Int32))) :
    MetFree l (⟨"com/example/baum/baum/query/NodeList$Builder", "get", "(I)I"⟩ : MethodName) (head1 (Jvm.Cond.code (⟨"com/example/baum/baum/query/NodeList$Builder", "get", "(I)I"⟩ : MethodName) prog_99_method_6_code 2 (some .int) :: ws) ({ frames := 2, cells := 0, slots := 0, locals := 28 } : Room)) (fun a U => a = #[(.ref r0), (.int (3 : Int32))] ∧ Z.Warmed39 U.vm ∧ U.heap = h0) (fun _ _ _ _ _ => True) (fun _ U o U' => ∃ v L, o = .returned v ∧ Q6i Z r0 w_numbers_r0 e0_w_numbers_r0 e1_w_numbers_r0 e2_w_numbers_r0 e3_w_numbers_r0 k_w_numbers_r0 h0 n0 v U'.heap L ∧ FrameEnd U o U' L ({ frames := 2, cells := 0, slots := 0, locals := 28 } : Room).cells ({ frames := 2, cells := 0, slots := 0, locals := 28 } : Room).slots) := by
  refine MetFree.of_bodySF (plainFor_of_name pn_0) hisR ?_
  intro p e s m args below meth c s₁ Bd hml0 hP hK
  obtain ⟨rfl, hZ, hh⟩ := hP
  have hx := Bd.exec
  have hby := Bd.bytes
  have hml : c.maxLocals = 2 := hml0
  have hown : s.vm.findClass "com/example/baum/baum/query/NodeList$Builder" = some m.cls := findClass_of_methodNamed Bd.named
  have hnm := (name_of_methodNamed Bd.named Bd.method).1
  have X0 : Stand p l e ({ frames := 2, cells := 0, slots := 0, locals := 28 } : Room) s m #[(.ref r0), (.int (3 : Int32))] below meth c s₁ [] 0 0 := Stand.of_body Bd
  have e0 : s₁.heap = h0 := by rw [← hh, Bd.state]; rfl
  have N0 := Fr.nil n0
  have pre0 : ∀ t, Steps p.tables e below (s₁.setTop (mkF m 0 #[.val (.ref r0), .val (.int (3 : Int32))] [])) t → Steps p.tables e below (s₁.setTop (entryFrame m #[(.ref r0), (.int (3 : Int32))] 2)) t := fun t k => castTop (ef_6i m r0) k
  obtain ⟨T1, X1, e1, st1⟩ := getF X0 hx hZ hown (host := "") (Or.inl (hw _ (List.mem_of_getElem? (i := 11) rfl))) Via.refl e0 F_numbers_r0 (g := (mkF m 1 #[.val (.ref r0), .val (.int (3 : Int32))] [(.ref r0)])) rfl rfl (hb hby d6_1)
  obtain ⟨T2, X2, e2, st2⟩ := getF X1 hx hZ hown (host := "") (Or.inl (hw _ (List.mem_of_getElem? (i := 18) rfl))) Via.refl e1 F_size_r0 (g := (mkF m 6 #[.val (.ref r0), .val (.int (3 : Int32))] [(.ref r0), (.int (3 : Int32)), (.ref w_numbers_r0)])) rfl rfl (hb hby d6_6)
  obtain ⟨_, _, ⟨T3, L3, k3, n3⟩, -, X3, ⟨Lc3, hQ3, l3, y3, z3⟩, st3⟩ := Jvm.LawKit.callS X2 hx (y := (⟨"java/util/Objects", "checkIndex", "(II)I"⟩ : MethodName)) hown (mvT hZ (hw _ (List.mem_of_getElem? (i := 35) rfl))) (mvT hZ (hw _ (List.mem_of_getElem? (i := 36) rfl))) (mvT hZ (hw _ (List.mem_of_getElem? (i := 37) rfl))) (mvT hZ (hw _ (List.mem_of_getElem? (i := 38) rfl))) (by decide) (backOf (W := 1) (rm7i l Z a0 hw []  h0 n0 (Nat.le_trans Z0 (Keep.refl h0 []).1) ) hZ (hw _ (List.mem_of_getElem? (i := 38) rfl)) (hw _ (List.mem_of_getElem? (i := 37) rfl)) (by decide) (by decide)) (g := (mkF m 9 #[.val (.ref r0), .val (.int (3 : Int32))] [(.int (4 : Int32)), (.int (3 : Int32)), (.ref w_numbers_r0)])) rfl (by rw [hml]; rfl) (argsL := [(.int (3 : Int32)), (.int (4 : Int32))]) (rest := [(.ref w_numbers_r0)]) (lenOf pd_4 rfl) rfl (by show 2 * 0 + _ ≤ _; exact Nat.le_of_eq rfl) (hb hby d6_9) (fun _ _ => ⟨rfl, e2, (by decide : 0 + 0 ≤ _), (by decide : 0 + 0 ≤ _)⟩)
  dsimp only [Pt.U, Pt.locs, Pt.cells, Pt.slots] at X3 l3 y3 z3 st3 hQ3
  subst l3 y3 z3
  obtain ⟨rfl, Nq3, e3⟩ := hQ3
  have N3 := Fr.app N0 Nq3
  obtain ⟨cl4, Ar4, Cq4, Sz4, Nn4, Hh4, Gg4⟩ := id V_w_numbers_r0
  have hin4 : ¬ ((3 : Int32) < 0 ∨ cl4.slots.size ≤ ((3 : Int32)).toNatClampNeg) := inb_of Sz4 ⟨by decide, by decide⟩
  have hat4 : cl4.slots[((3 : Int32)).toNatClampNeg]? = some (.int e3_w_numbers_r0) := Hh4.at hin4 rfl
  have pre5 : ∀ t, Steps p.tables e below (T3.setTop (mkF m 13 #[.val (.ref r0), .val (.int (3 : Int32))] [(.int e3_w_numbers_r0)])) t → Steps p.tables e below (s₁.setTop (entryFrame m #[(.ref r0), (.int (3 : Int32))] 2)) t := by
    intro t k
    refine pre0 _ ?_
    show Steps p.tables e below (s₁.setTop (mkF m 0 #[.val (.ref r0), .val (.int (3 : Int32))] [])) _
    refine XS.aloadN X0.here hx rfl (hb hby d6_0) rfl rfl ?_
    show Steps p.tables e below (s₁.setTop (mkF m 1 #[.val (.ref r0), .val (.int (3 : Int32))] [(.ref r0)])) _
    refine st1 _ ?_
    show Steps p.tables e below (T1.setTop (mkF m 4 #[.val (.ref r0), .val (.int (3 : Int32))] [(.ref w_numbers_r0)])) _
    refine XS.iloadN X1.here hx rfl (hb hby d6_4) rfl ?_
    show Steps p.tables e below (T1.setTop (mkF m 5 #[.val (.ref r0), .val (.int (3 : Int32))] [(.int (3 : Int32)), (.ref w_numbers_r0)])) _
    refine XS.aloadN X1.here hx rfl (hb hby d6_5) rfl rfl ?_
    show Steps p.tables e below (T1.setTop (mkF m 6 #[.val (.ref r0), .val (.int (3 : Int32))] [(.ref r0), (.int (3 : Int32)), (.ref w_numbers_r0)])) _
    refine st2 _ ?_
    show Steps p.tables e below (T2.setTop (mkF m 9 #[.val (.ref r0), .val (.int (3 : Int32))] [(.int (4 : Int32)), (.int (3 : Int32)), (.ref w_numbers_r0)])) _
    refine st3 _ ?_
    show Steps p.tables e below (T3.setTop (mkF m 12 #[.val (.ref r0), .val (.int (3 : Int32))] [(.int (3 : Int32)), (.ref w_numbers_r0)])) _
    refine X3.iaload hx (j := (3 : Int32)) (v := (.int e3_w_numbers_r0)) (by rw [e3]; exact Ar4.1) (State.isArrayOf_alike hZ.alike Ar4.2.1) Ar4.2.2 hin4 hat4 (g := (mkF m 12 #[.val (.ref r0), .val (.int (3 : Int32))] [(.int (3 : Int32)), (.ref w_numbers_r0)])) rfl rfl (hb hby d6_12) _ ?_
    exact k
  obtain ⟨fs, hr, hrun, hended, hW, hsame⟩ := X3.leave (v := some (.int e3_w_numbers_r0)) (fun h => by rw [Bd.returns] at h; cases h)
  refine ⟨_, _, pre5 _ ?_, hrun, hended, _, _, rfl, ?_, ⟨_, rfl⟩, hW, hsame.mono (by decide) (by decide)⟩
  · show Steps p.tables e below (T3.setTop (mkF m 13 #[.val (.ref r0), .val (.int (3 : Int32))] [(.int e3_w_numbers_r0)])) _
    exact retI X3 hx Bd.returns (hb hby d6_13) hr
  · show Q6i Z r0 w_numbers_r0 e0_w_numbers_r0 e1_w_numbers_r0 e2_w_numbers_r0 e3_w_numbers_r0 k_w_numbers_r0 h0 n0 _ T3.heap _
    rw [e3]
    exact ⟨rfl, N3, rfl⟩
def own_j0_129_0 (i1 : Int32) (i2 : Int32) (i3 : Int32) (i4 : Int32) (i6 : Int32) : Int32 := (if i1 = (own_r10 (own_j9_2_0 (0 : Int32) ((i6 &&& (2147483647 : Int32)) % (2 : Int32)) (1 : Int32)) i1 i2 i3 i4) then (1 : Int32) else (0 : Int32))
def own_j0_129_0_v1 (i1 : Int32) (i2 : Int32) (i3 : Int32) (i4 : Int32) (i6 : Int32) : Int32 := (if (own_v3b_w_numbers_r0_0 ((i6 &&& (2147483647 : Int32)) % (3 : Int32)) i1 i2) = (own_r10 (own_j9_2_0 (0 : Int32) ((i6 &&& (2147483647 : Int32)) % (3 : Int32)) (2 : Int32)) i1 i2 i3 i4) then (1 : Int32) else (0 : Int32))
def own_j0_168_0 (i1 : Int32) (i2 : Int32) (i3 : Int32) (i4 : Int32) (i6 : Int32) : Int32 := (if (own_v3b_w_numbers_r0_1 ((i6 &&& (2147483647 : Int32)) % (3 : Int32)) i1 i2) = (own_r10 (own_j9_2_0 (1 : Int32) ((i6 &&& (2147483647 : Int32)) % (3 : Int32)) (2 : Int32)) i1 i2 i3 i4) then (1 : Int32) else (0 : Int32))
def own_j0_141_0 (i1 : Int32) (i2 : Int32) (i3 : Int32) (i4 : Int32) (i6 : Int32) : Int32 := (if (own_j0_129_0_v1 i1 i2 i3 i4 i6) = (0 : Int32) then (own_j0_129_0_v1 i1 i2 i3 i4 i6) else (own_j0_168_0 i1 i2 i3 i4 i6))
def own_j0_129_0_v2 (i1 : Int32) (i2 : Int32) (i3 : Int32) (i4 : Int32) (i6 : Int32) : Int32 := (if (own_v3c_w_numbers_r0_0 ((i6 &&& (2147483647 : Int32)) % (4 : Int32)) i1 i3) = (own_r10 (own_j9_2_0 (0 : Int32) ((i6 &&& (2147483647 : Int32)) % (4 : Int32)) (3 : Int32)) i1 i2 i3 i4) then (1 : Int32) else (0 : Int32))
def own_j0_168_0_v1 (i1 : Int32) (i2 : Int32) (i3 : Int32) (i4 : Int32) (i6 : Int32) : Int32 := (if (own_v3c_w_numbers_r0_1 ((i6 &&& (2147483647 : Int32)) % (4 : Int32)) i2 i3) = (own_r10 (own_j9_2_0 (1 : Int32) ((i6 &&& (2147483647 : Int32)) % (4 : Int32)) (3 : Int32)) i1 i2 i3 i4) then (1 : Int32) else (0 : Int32))
def own_j0_141_0_v1 (i1 : Int32) (i2 : Int32) (i3 : Int32) (i4 : Int32) (i6 : Int32) : Int32 := (if (own_j0_129_0_v2 i1 i2 i3 i4 i6) = (0 : Int32) then (own_j0_129_0_v2 i1 i2 i3 i4 i6) else (own_j0_168_0_v1 i1 i2 i3 i4 i6))
def own_j0_207_0 (i1 : Int32) (i2 : Int32) (i3 : Int32) (i4 : Int32) (i6 : Int32) : Int32 := (if (own_v3c_w_numbers_r0_2 ((i6 &&& (2147483647 : Int32)) % (4 : Int32)) i1 i2 i3) = (own_r10 (own_j9_2_0 (2 : Int32) ((i6 &&& (2147483647 : Int32)) % (4 : Int32)) (3 : Int32)) i1 i2 i3 i4) then (1 : Int32) else (0 : Int32))
def own_j0_180_0 (i1 : Int32) (i2 : Int32) (i3 : Int32) (i4 : Int32) (i6 : Int32) : Int32 := (if (own_j0_141_0_v1 i1 i2 i3 i4 i6) = (0 : Int32) then (own_j0_141_0_v1 i1 i2 i3 i4 i6) else (own_j0_207_0 i1 i2 i3 i4 i6))
def own_j0_129_0_v3 (i1 : Int32) (i2 : Int32) (i3 : Int32) (i4 : Int32) (i6 : Int32) : Int32 := (if (own_v3d_w_numbers_r0_0 ((i6 &&& (2147483647 : Int32)) % (5 : Int32)) i1 i4) = (own_r10 (own_j9_2_0 (0 : Int32) ((i6 &&& (2147483647 : Int32)) % (5 : Int32)) (4 : Int32)) i1 i2 i3 i4) then (1 : Int32) else (0 : Int32))
def own_j0_168_0_v2 (i1 : Int32) (i2 : Int32) (i3 : Int32) (i4 : Int32) (i6 : Int32) : Int32 := (if (own_v3d_w_numbers_r0_1 ((i6 &&& (2147483647 : Int32)) % (5 : Int32)) i2 i3 i4) = (own_r10 (own_j9_2_0 (1 : Int32) ((i6 &&& (2147483647 : Int32)) % (5 : Int32)) (4 : Int32)) i1 i2 i3 i4) then (1 : Int32) else (0 : Int32))
def own_j0_141_0_v2 (i1 : Int32) (i2 : Int32) (i3 : Int32) (i4 : Int32) (i6 : Int32) : Int32 := (if (own_j0_129_0_v3 i1 i2 i3 i4 i6) = (0 : Int32) then (own_j0_129_0_v3 i1 i2 i3 i4 i6) else (own_j0_168_0_v2 i1 i2 i3 i4 i6))
def own_j0_207_0_v1 (i1 : Int32) (i2 : Int32) (i3 : Int32) (i4 : Int32) (i6 : Int32) : Int32 := (if (own_v3d_w_numbers_r0_2 ((i6 &&& (2147483647 : Int32)) % (5 : Int32)) i2 i3 i4) = (own_r10 (own_j9_2_0 (2 : Int32) ((i6 &&& (2147483647 : Int32)) % (5 : Int32)) (4 : Int32)) i1 i2 i3 i4) then (1 : Int32) else (0 : Int32))
def own_j0_180_0_v1 (i1 : Int32) (i2 : Int32) (i3 : Int32) (i4 : Int32) (i6 : Int32) : Int32 := (if (own_j0_141_0_v2 i1 i2 i3 i4 i6) = (0 : Int32) then (own_j0_141_0_v2 i1 i2 i3 i4 i6) else (own_j0_207_0_v1 i1 i2 i3 i4 i6))
def own_j0_246_0 (i1 : Int32) (i2 : Int32) (i3 : Int32) (i4 : Int32) (i6 : Int32) : Int32 := (if (own_v3d_w_numbers_r0_3 ((i6 &&& (2147483647 : Int32)) % (5 : Int32)) i1 i2 i3 i4) = (own_r10 (own_j9_2_0 (3 : Int32) ((i6 &&& (2147483647 : Int32)) % (5 : Int32)) (4 : Int32)) i1 i2 i3 i4) then (1 : Int32) else (0 : Int32))
def own_j0_219_0 (i1 : Int32) (i2 : Int32) (i3 : Int32) (i4 : Int32) (i6 : Int32) : Int32 := (if (own_j0_180_0_v1 i1 i2 i3 i4 i6) = (0 : Int32) then (own_j0_180_0_v1 i1 i2 i3 i4 i6) else (own_j0_246_0 i1 i2 i3 i4 i6))
def own_r0 (i1 : Int32) (i2 : Int32) (i3 : Int32) (i4 : Int32) (i5 : Int32) (i6 : Int32) : Int32 := (if ((i5 &&& (2147483647 : Int32)) % (5 : Int32)) = (0 : Int32) then (1 : Int32) else (if ((i5 &&& (2147483647 : Int32)) % (5 : Int32)) = (1 : Int32) then (nar .boolean (own_j0_129_0 i1 i2 i3 i4 i6)) else (if ((i5 &&& (2147483647 : Int32)) % (5 : Int32)) = (2 : Int32) then (nar .boolean (own_j0_141_0 i1 i2 i3 i4 i6)) else (if ((i5 &&& (2147483647 : Int32)) % (5 : Int32)) = (3 : Int32) then (nar .boolean (own_j0_180_0 i1 i2 i3 i4 i6)) else (nar .boolean (own_j0_219_0 i1 i2 i3 i4 i6))))))
theorem own_ob0_n (i5 : Int32) : ((i5 &&& (2147483647 : Int32)) % (5 : Int32)) = (0 : Int32) ∨ ((i5 &&& (2147483647 : Int32)) % (5 : Int32)) = (1 : Int32) ∨ ((i5 &&& (2147483647 : Int32)) % (5 : Int32)) = (2 : Int32) ∨ ((i5 &&& (2147483647 : Int32)) % (5 : Int32)) = (3 : Int32) ∨ ((i5 &&& (2147483647 : Int32)) % (5 : Int32)) = (4 : Int32) := by
  obtain ⟨k, hk, e⟩ := own_modfin i5 5 5 (by decide) (by decide)
  rw [e]
  have all : ∀ k, k < 5 → (k.toInt32 = (0 : Int32) ∨ k.toInt32 = (1 : Int32) ∨ k.toInt32 = (2 : Int32) ∨ k.toInt32 = (3 : Int32) ∨ k.toInt32 = (4 : Int32)) := by decide +kernel
  exact all k hk
theorem own_ob0_g81_1 (i6 : Int32) : ((i6 &&& (2147483647 : Int32)) % (1 : Int32)) = (0 : Int32) := by
  obtain ⟨k, hk, e⟩ := own_modfin i6 1 1 (by decide) (by decide)
  rw [e]
  have all : ∀ k, k < 1 → (k.toInt32 = (0 : Int32)) := by decide +kernel
  exact all k hk
theorem own_ob0_g81_1x (i6 : Int32) : ((i6 &&& (2147483647 : Int32)) % (2 : Int32)) = (0 : Int32) ∨ ((i6 &&& (2147483647 : Int32)) % (2 : Int32)) = (1 : Int32) := by
  obtain ⟨k, hk, e⟩ := own_modfin i6 2 2 (by decide) (by decide)
  rw [e]
  have all : ∀ k, k < 2 → (k.toInt32 = (0 : Int32) ∨ k.toInt32 = (1 : Int32)) := by decide +kernel
  exact all k hk
theorem own_ob0_g81_1xx (i6 : Int32) : ((i6 &&& (2147483647 : Int32)) % (3 : Int32)) = (0 : Int32) ∨ ((i6 &&& (2147483647 : Int32)) % (3 : Int32)) = (1 : Int32) ∨ ((i6 &&& (2147483647 : Int32)) % (3 : Int32)) = (2 : Int32) := by
  obtain ⟨k, hk, e⟩ := own_modfin i6 3 3 (by decide) (by decide)
  rw [e]
  have all : ∀ k, k < 3 → (k.toInt32 = (0 : Int32) ∨ k.toInt32 = (1 : Int32) ∨ k.toInt32 = (2 : Int32)) := by decide +kernel
  exact all k hk
theorem own_ob0_g81_1xxx (i6 : Int32) : ((i6 &&& (2147483647 : Int32)) % (4 : Int32)) = (0 : Int32) ∨ ((i6 &&& (2147483647 : Int32)) % (4 : Int32)) = (1 : Int32) ∨ ((i6 &&& (2147483647 : Int32)) % (4 : Int32)) = (2 : Int32) ∨ ((i6 &&& (2147483647 : Int32)) % (4 : Int32)) = (3 : Int32) := by
  obtain ⟨k, hk, e⟩ := own_modfin i6 4 4 (by decide) (by decide)
  rw [e]
  have all : ∀ k, k < 4 → (k.toInt32 = (0 : Int32) ∨ k.toInt32 = (1 : Int32) ∨ k.toInt32 = (2 : Int32) ∨ k.toInt32 = (3 : Int32)) := by decide +kernel
  exact all k hk
theorem own_ob0_g81_1xxxx (i6 : Int32) : ((i6 &&& (2147483647 : Int32)) % (5 : Int32)) = (0 : Int32) ∨ ((i6 &&& (2147483647 : Int32)) % (5 : Int32)) = (1 : Int32) ∨ ((i6 &&& (2147483647 : Int32)) % (5 : Int32)) = (2 : Int32) ∨ ((i6 &&& (2147483647 : Int32)) % (5 : Int32)) = (3 : Int32) ∨ ((i6 &&& (2147483647 : Int32)) % (5 : Int32)) = (4 : Int32) := by
  obtain ⟨k, hk, e⟩ := own_modfin i6 5 5 (by decide) (by decide)
  rw [e]
  have all : ∀ k, k < 5 → (k.toInt32 = (0 : Int32) ∨ k.toInt32 = (1 : Int32) ∨ k.toInt32 = (2 : Int32) ∨ k.toInt32 = (3 : Int32) ∨ k.toInt32 = (4 : Int32)) := by decide +kernel
  exact all k hk
def Q0 (Z : State) (i1 : Int32) (i2 : Int32) (i3 : Int32) (i4 : Int32) (i5 : Int32) (i6 : Int32) (h0 : Heap) (n0 : Nat) (v : Option Value) (h : Heap) (L : List Loc) : Prop := v = some (.int (own_r0 i1 i2 i3 i4 i5 i6)) ∧ Fr n0 L
theorem ef_0 (m : MethodId) (x0 : Int32) (x1 : Int32) (x2 : Int32) (x3 : Int32) (x4 : Int32) (x5 : Int32) : entryFrame m #[(.int x0), (.int x1), (.int x2), (.int x3), (.int x4), (.int x5)] maxLocals = mkF m 0 #[.val (.int x0), .val (.int x1), .val (.int x2), .val (.int x3), .val (.int x4), .val (.int x5), .unset, .unset, .unset, .unset] [] := by first | (simp [entryFrame, mkF, argsToLocals, Value.category, maxLocals]; done) | rfl
set_option maxRecDepth 65536 in
set_option maxHeartbeats 40000000 in
theorem rm0 (l : Launch) (Z : State) (a0 : Array Value) (hw : ∀ d ∈ tables_1, d.before a0 Z = true) (ws : List Jvm.Cond) (i1 : Int32) (i2 : Int32) (i3 : Int32) (i4 : Int32) (i5 : Int32) (i6 : Int32) (h0 : Heap) (n0 : Nat) (Z0 : n0 ≤ h0.size) :
    MetFree l x (head1 (Jvm.Cond.code x code maxLocals ret :: ws) room_1) (fun a U => a = #[(.int i1), (.int i2), (.int i3), (.int i4), (.int i5), (.int i6)] ∧ Z.Warmed39 U.vm ∧ U.heap = h0) (fun _ _ _ _ _ => True) (fun _ U o U' => ∃ v L, o = .returned v ∧ Q0 Z i1 i2 i3 i4 i5 i6 h0 n0 v U'.heap L ∧ FrameEnd U o U' L room_1.cells room_1.slots) := by
  refine MetFree.of_bodySF (plainFor_of_name pn_3) hisR ?_
  intro p e s m args below meth c s₁ Bd hml0 hP hK
  obtain ⟨rfl, hZ, hh⟩ := hP
  have hx := Bd.exec
  have hby := Bd.bytes
  have hml : c.maxLocals = 10 := hml0
  have hown : s.vm.findClass "com/example/baum/baum/query/BuilderReverseFromPinLaw" = some m.cls := findClass_of_methodNamed Bd.named
  have hnm := (name_of_methodNamed Bd.named Bd.method).1
  have X0 : Stand p l e room_1 s m #[(.int i1), (.int i2), (.int i3), (.int i4), (.int i5), (.int i6)] below meth c s₁ [] 0 0 := Stand.of_body Bd
  have e0 : s₁.heap = h0 := by rw [← hh, Bd.state]; rfl
  have N0 := Fr.nil n0
  have pre0 : ∀ t, Steps p.tables e below (s₁.setTop (mkF m 0 #[.val (.int i1), .val (.int i2), .val (.int i3), .val (.int i4), .val (.int i5), .val (.int i6), .unset, .unset, .unset, .unset] [])) t → Steps p.tables e below (s₁.setTop (entryFrame m #[(.int i1), (.int i2), (.int i3), (.int i4), (.int i5), (.int i6)] maxLocals)) t := fun t k => castTop (ef_0 m i1 i2 i3 i4 i5 i6) k
  have pre1 : ∀ t, Steps p.tables e below (s₁.setTop (mkF m 9 #[.val (.int i1), .val (.int i2), .val (.int i3), .val (.int i4), .val (.int i5), .val (.int i6), .val (.int ((i5 &&& (2147483647 : Int32)) % (5 : Int32))), .unset, .unset, .unset] [])) t → Steps p.tables e below (s₁.setTop (entryFrame m #[(.int i1), (.int i2), (.int i3), (.int i4), (.int i5), (.int i6)] maxLocals)) t := by
    intro t k
    refine pre0 _ ?_
    show Steps p.tables e below (s₁.setTop (mkF m 0 #[.val (.int i1), .val (.int i2), .val (.int i3), .val (.int i4), .val (.int i5), .val (.int i6), .unset, .unset, .unset, .unset] [])) _
    refine XS.iload X0.here hx rfl (hb hby at_0) rfl ?_
    show Steps p.tables e below (s₁.setTop (mkF m 2 #[.val (.int i1), .val (.int i2), .val (.int i3), .val (.int i4), .val (.int i5), .val (.int i6), .unset, .unset, .unset, .unset] [(.int i5)])) _
    refine X0.ldcInt hx hown (mvT hZ (hw _ (List.mem_of_getElem? (i := 0) rfl))) (g := (mkF m 2 #[.val (.int i1), .val (.int i2), .val (.int i3), .val (.int i4), .val (.int i5), .val (.int i6), .unset, .unset, .unset, .unset] [(.int i5)])) rfl (hb hby at_2) _ ?_
    show Steps p.tables e below (s₁.setTop (mkF m 4 #[.val (.int i1), .val (.int i2), .val (.int i3), .val (.int i4), .val (.int i5), .val (.int i6), .unset, .unset, .unset, .unset] [(.int (2147483647 : Int32)), (.int i5)])) _
    refine XS.iand X0.here hx rfl (hb hby at_4) rfl ?_
    show Steps p.tables e below (s₁.setTop (mkF m 5 #[.val (.int i1), .val (.int i2), .val (.int i3), .val (.int i4), .val (.int i5), .val (.int i6), .unset, .unset, .unset, .unset] [(.int (i5 &&& (2147483647 : Int32)))])) _
    refine XS.iconst X0.here hx rfl (hb hby at_5) ?_
    show Steps p.tables e below (s₁.setTop (mkF m 6 #[.val (.int i1), .val (.int i2), .val (.int i3), .val (.int i4), .val (.int i5), .val (.int i6), .unset, .unset, .unset, .unset] [(.int (5 : Int32)), (.int (i5 &&& (2147483647 : Int32)))])) _
    refine iremM X0 hx rfl (hb hby at_6) rfl (by decide) ?_
    show Steps p.tables e below (s₁.setTop (mkF m 7 #[.val (.int i1), .val (.int i2), .val (.int i3), .val (.int i4), .val (.int i5), .val (.int i6), .unset, .unset, .unset, .unset] [(.int ((i5 &&& (2147483647 : Int32)) % (5 : Int32)))])) _
    refine XS.istore X0.here hx rfl (hb hby at_7) rfl (l' := #[.val (.int i1), .val (.int i2), .val (.int i3), .val (.int i4), .val (.int i5), .val (.int i6), .val (.int ((i5 &&& (2147483647 : Int32)) % (5 : Int32))), .unset, .unset, .unset]) rfl ?_
    exact k
  rcases ((own_ob0_n i5) : ((i5 &&& (2147483647 : Int32)) % (5 : Int32)) = (0 : Int32) ∨ ((i5 &&& (2147483647 : Int32)) % (5 : Int32)) = (1 : Int32) ∨ ((i5 &&& (2147483647 : Int32)) % (5 : Int32)) = (2 : Int32) ∨ ((i5 &&& (2147483647 : Int32)) % (5 : Int32)) = (3 : Int32) ∨ ((i5 &&& (2147483647 : Int32)) % (5 : Int32)) = (4 : Int32)) with hk2 | hk2 | hk2 | hk2 | hk2
  · have pre3 : ∀ t, Steps p.tables e below (s₁.setTop (mkF m 9 #[.val (.int i1), .val (.int i2), .val (.int i3), .val (.int i4), .val (.int i5), .val (.int i6), .val (.int (0 : Int32)), .unset, .unset, .unset] [])) t → Steps p.tables e below (s₁.setTop (entryFrame m #[(.int i1), (.int i2), (.int i3), (.int i4), (.int i5), (.int i6)] maxLocals)) t := fun t k => pre1 t (by rw [hk2]; exact k)
    obtain ⟨T4, h4, X4, e4, E4, A4, D4, -, st4⟩ := newO X0 hx hZ hown (hw _ (List.mem_of_getElem? (i := 1) rfl)) (hw _ (List.mem_of_getElem? (i := 2) rfl)) (hw _ (List.mem_of_getElem? (i := 3) rfl)) e0 (g := (mkF m 21 #[.val (.int i1), .val (.int i2), .val (.int i3), .val (.int i4), .val (.int i5), .val (.int i6), .val (.int (0 : Int32)), .val (.int ((i6 &&& (2147483647 : Int32)) % (1 : Int32))), .unset, .unset] [])) rfl (hb hby at_21) (by decide) (by decide)
    obtain ⟨b4, g4⟩ : ∃ z, z = h0.size := ⟨_, rfl⟩
    rw [← g4] at A4 D4 st4
    have sz_b4 : h0.size ≤ b4 := Nat.le_trans (Keep.refl h0 []).1 (Nat.le_of_eq g4.symm)
    have K5 : Keep h0 h4 [] := (Keep.refl h0 []).ext E4
    have Fnumbers_4 : Fld Z h4 b4 "com/example/baum/baum/query/NodeList$Builder" "numbers" "[I" .null := D4 (Or.inl (hw _ (List.mem_of_getElem? (i := 12) rfl))) (ty := (.array .int)) (by decide)
    have Fsize_4 : Fld Z h4 b4 "com/example/baum/baum/query/NodeList$Builder" "size" "I" (.int (0 : Int32)) := D4 (Or.inl (hw _ (List.mem_of_getElem? (i := 19) rfl))) (ty := .int) (by decide)
    obtain ⟨_, _, ⟨T6, L6, k6, n6⟩, -, X6, ⟨Lc6, hQ6, l6, y6, z6⟩, st6⟩ := X4.specialBack hx (y := (⟨"com/example/baum/baum/query/NodeList$Builder", "<init>", "()V"⟩ : MethodName)) rfl hown (mvT hZ (hw _ (List.mem_of_getElem? (i := 4) rfl))) (mvT hZ (hw _ (List.mem_of_getElem? (i := 5) rfl))) (mvT hZ (hw _ (List.mem_of_getElem? (i := 6) rfl))) (by decide) (backOf (W := 1) (rm1 l Z a0 hw [] b4 (.int (0 : Int32)) (.null) h4 n0 (Nat.le_trans Z0 K5.1) Fsize_4 A4 Fnumbers_4 (Nat.le_trans Z0 sz_b4)) hZ (hw _ (List.mem_of_getElem? (i := 6) rfl)) (hw _ (List.mem_of_getElem? (i := 3) rfl)) (by decide) (by decide)) (g := (mkF m 25 #[.val (.int i1), .val (.int i2), .val (.int i3), .val (.int i4), .val (.int i5), .val (.int i6), .val (.int (0 : Int32)), .val (.int ((i6 &&& (2147483647 : Int32)) % (1 : Int32))), .unset, .unset] [(.ref b4), (.ref b4)])) rfl (by rw [hml]; rfl) (Steps.refl _) (a := b4) (argsL := []) (rest := [(.ref b4)]) (lenOf pd_0 rfl) rfl (by show 2 * 0 + _ ≤ _; exact Nat.le_of_eq rfl) (hb hby at_25) (fun _ _ => ⟨rfl, e4, (by decide : 1 + 1 ≤ _), (by decide : 2 + 16 ≤ _)⟩)
    dsimp only [Pt.U, Pt.locs, Pt.cells, Pt.slots] at X6 l6 y6 z6 st6 hQ6
    subst l6 y6 z6
    obtain ⟨b6_0, k6_1, rfl, Nq6, Kq6, sq6_0, f6_0, f6_1, f6_2, f6_3⟩ := hQ6
    have sz_b6_0 : h0.size ≤ b6_0 := Nat.le_trans K5.1 sq6_0
    have K7 : Keep h0 T6.heap [] := K5.trans Kq6 (allS (Or.inr sz_b4) all0)
    have N6 := Fr.app N0 Nq6
    obtain ⟨cq8, kq8, q8a, q8b, q8c⟩ := isOf hZ rfl f6_1
    obtain ⟨_, _, ⟨T8, L8, k8, n8⟩, -, X8, ⟨Lc8, hQ8, l8, y8, z8⟩, st8⟩ := X6.virtualBack hx (y := (⟨"com/example/baum/baum/query/NodeList$Builder", "reverseFrom", "(I)V"⟩ : MethodName)) (z := (⟨"com/example/baum/baum/query/NodeList$Builder", "reverseFrom", "(I)V"⟩ : MethodName)) hown (mvT hZ (hw _ (List.mem_of_getElem? (i := 13) rfl))) (mvT hZ (hw _ (List.mem_of_getElem? (i := 14) rfl))) (notFace_of_selects (args := #[]) (mvT hZ (hw _ (List.mem_of_getElem? (i := 16) rfl)))) (mvT hZ (hw _ (List.mem_of_getElem? (i := 16) rfl))) (mvT hZ (hw _ (List.mem_of_getElem? (i := 15) rfl))) (by decide) (backOf (W := 0) (rm3 l Z a0 hw [] b4 ((i6 &&& (2147483647 : Int32)) % (1 : Int32)) T6.heap n0 (Nat.le_trans Z0 K7.1) f6_3 (own_ob0_g81_1 i6)) hZ (hw _ (List.mem_of_getElem? (i := 17) rfl)) (hw _ (List.mem_of_getElem? (i := 3) rfl)) (by decide) (by decide)) q8a q8c (g := (mkF m 81 #[.val (.int i1), .val (.int i2), .val (.int i3), .val (.int i4), .val (.int i5), .val (.int i6), .val (.int (0 : Int32)), .val (.int ((i6 &&& (2147483647 : Int32)) % (1 : Int32))), .val (.ref b4), .unset] [(.int ((i6 &&& (2147483647 : Int32)) % (1 : Int32))), (.ref b4)])) rfl (by rw [hml]; rfl) (Steps.refl _) (argsL := [(.int ((i6 &&& (2147483647 : Int32)) % (1 : Int32)))]) (rest := []) (lenOf pd_1 rfl) rfl (by show 2 * 0 + _ ≤ _; exact Nat.le_of_eq rfl) (hb hby at_81) (fun _ _ => ⟨rfl, rfl, (by decide : 2 + 0 ≤ _), (by decide : 18 + 0 ≤ _)⟩)
    dsimp only [Pt.U, Pt.locs, Pt.cells, Pt.slots] at X8 l8 y8 z8 st8 hQ8
    subst l8 y8 z8
    obtain ⟨rfl, Nq8, e8⟩ := hQ8
    have N8 := Fr.app N6 Nq8
    obtain ⟨cq9, kq9, q9a, q9b, q9c⟩ := isOf hZ e8 f6_1
    obtain ⟨_, _, ⟨T9, L9, k9, n9⟩, -, X9, ⟨Lc9, hQ9, l9, y9, z9⟩, st9⟩ := X8.virtualBack hx (y := (⟨"com/example/baum/baum/query/NodeList$Builder", "size", "()I"⟩ : MethodName)) (z := (⟨"com/example/baum/baum/query/NodeList$Builder", "size", "()I"⟩ : MethodName)) hown (mvT hZ (hw _ (List.mem_of_getElem? (i := 20) rfl))) (mvT hZ (hw _ (List.mem_of_getElem? (i := 21) rfl))) (notFace_of_selects (args := #[]) (mvT hZ (hw _ (List.mem_of_getElem? (i := 23) rfl)))) (mvT hZ (hw _ (List.mem_of_getElem? (i := 23) rfl))) (mvT hZ (hw _ (List.mem_of_getElem? (i := 22) rfl))) (by decide) (backOf (W := 0) (rm4 l Z a0 hw [] b4 T6.heap n0 (Nat.le_trans Z0 K7.1) f6_3) hZ (hw _ (List.mem_of_getElem? (i := 24) rfl)) (hw _ (List.mem_of_getElem? (i := 3) rfl)) (by decide) (by decide)) q9a q9c (g := (mkF m 86 #[.val (.int i1), .val (.int i2), .val (.int i3), .val (.int i4), .val (.int i5), .val (.int i6), .val (.int (0 : Int32)), .val (.int ((i6 &&& (2147483647 : Int32)) % (1 : Int32))), .val (.ref b4), .unset] [(.ref b4)])) rfl (by rw [hml]; rfl) (Steps.refl _) (argsL := []) (rest := []) (lenOf pd_2 rfl) rfl (by show 2 * 0 + _ ≤ _; exact Nat.le_of_eq rfl) (hb hby at_86) (fun _ _ => ⟨rfl, e8, (by decide : 2 + 0 ≤ _), (by decide : 18 + 0 ≤ _)⟩)
    dsimp only [Pt.U, Pt.locs, Pt.cells, Pt.slots] at X9 l9 y9 z9 st9 hQ9
    subst l9 y9 z9
    obtain ⟨rfl, Nq9, e9⟩ := hQ9
    have N9 := Fr.app N8 Nq9
    have pre10 : ∀ t, Steps p.tables e below (T9.setTop (mkF m 258 #[.val (.int i1), .val (.int i2), .val (.int i3), .val (.int i4), .val (.int i5), .val (.int i6), .val (.int (0 : Int32)), .val (.int ((i6 &&& (2147483647 : Int32)) % (1 : Int32))), .val (.ref b4), .val (.int (1 : Int32))] [(.int (1 : Int32))])) t → Steps p.tables e below (s₁.setTop (entryFrame m #[(.int i1), (.int i2), (.int i3), (.int i4), (.int i5), (.int i6)] maxLocals)) t := by
      intro t k
      refine pre3 _ ?_
      show Steps p.tables e below (s₁.setTop (mkF m 9 #[.val (.int i1), .val (.int i2), .val (.int i3), .val (.int i4), .val (.int i5), .val (.int i6), .val (.int (0 : Int32)), .unset, .unset, .unset] [])) _
      refine XS.iload X0.here hx rfl (hb hby at_9) rfl ?_
      show Steps p.tables e below (s₁.setTop (mkF m 11 #[.val (.int i1), .val (.int i2), .val (.int i3), .val (.int i4), .val (.int i5), .val (.int i6), .val (.int (0 : Int32)), .unset, .unset, .unset] [(.int i6)])) _
      refine X0.ldcInt hx hown (mvT hZ (hw _ (List.mem_of_getElem? (i := 0) rfl))) (g := (mkF m 11 #[.val (.int i1), .val (.int i2), .val (.int i3), .val (.int i4), .val (.int i5), .val (.int i6), .val (.int (0 : Int32)), .unset, .unset, .unset] [(.int i6)])) rfl (hb hby at_11) _ ?_
      show Steps p.tables e below (s₁.setTop (mkF m 13 #[.val (.int i1), .val (.int i2), .val (.int i3), .val (.int i4), .val (.int i5), .val (.int i6), .val (.int (0 : Int32)), .unset, .unset, .unset] [(.int (2147483647 : Int32)), (.int i6)])) _
      refine XS.iand X0.here hx rfl (hb hby at_13) rfl ?_
      show Steps p.tables e below (s₁.setTop (mkF m 14 #[.val (.int i1), .val (.int i2), .val (.int i3), .val (.int i4), .val (.int i5), .val (.int i6), .val (.int (0 : Int32)), .unset, .unset, .unset] [(.int (i6 &&& (2147483647 : Int32)))])) _
      refine XS.iload X0.here hx rfl (hb hby at_14) rfl ?_
      show Steps p.tables e below (s₁.setTop (mkF m 16 #[.val (.int i1), .val (.int i2), .val (.int i3), .val (.int i4), .val (.int i5), .val (.int i6), .val (.int (0 : Int32)), .unset, .unset, .unset] [(.int (0 : Int32)), (.int (i6 &&& (2147483647 : Int32)))])) _
      refine XS.iconst X0.here hx rfl (hb hby at_16) ?_
      show Steps p.tables e below (s₁.setTop (mkF m 17 #[.val (.int i1), .val (.int i2), .val (.int i3), .val (.int i4), .val (.int i5), .val (.int i6), .val (.int (0 : Int32)), .unset, .unset, .unset] [(.int (1 : Int32)), (.int (0 : Int32)), (.int (i6 &&& (2147483647 : Int32)))])) _
      refine XS.iadd X0.here hx rfl (hb hby at_17) rfl ?_
      show Steps p.tables e below (s₁.setTop (mkF m 18 #[.val (.int i1), .val (.int i2), .val (.int i3), .val (.int i4), .val (.int i5), .val (.int i6), .val (.int (0 : Int32)), .unset, .unset, .unset] [(.int (1 : Int32)), (.int (i6 &&& (2147483647 : Int32)))])) _
      refine iremM X0 hx rfl (hb hby at_18) rfl (by decide) ?_
      show Steps p.tables e below (s₁.setTop (mkF m 19 #[.val (.int i1), .val (.int i2), .val (.int i3), .val (.int i4), .val (.int i5), .val (.int i6), .val (.int (0 : Int32)), .unset, .unset, .unset] [(.int ((i6 &&& (2147483647 : Int32)) % (1 : Int32)))])) _
      refine XS.istore X0.here hx rfl (hb hby at_19) rfl (l' := #[.val (.int i1), .val (.int i2), .val (.int i3), .val (.int i4), .val (.int i5), .val (.int i6), .val (.int (0 : Int32)), .val (.int ((i6 &&& (2147483647 : Int32)) % (1 : Int32))), .unset, .unset]) rfl ?_
      show Steps p.tables e below (s₁.setTop (mkF m 21 #[.val (.int i1), .val (.int i2), .val (.int i3), .val (.int i4), .val (.int i5), .val (.int i6), .val (.int (0 : Int32)), .val (.int ((i6 &&& (2147483647 : Int32)) % (1 : Int32))), .unset, .unset] [])) _
      refine st4 _ ?_
      show Steps p.tables e below (T4.setTop (mkF m 24 #[.val (.int i1), .val (.int i2), .val (.int i3), .val (.int i4), .val (.int i5), .val (.int i6), .val (.int (0 : Int32)), .val (.int ((i6 &&& (2147483647 : Int32)) % (1 : Int32))), .unset, .unset] [(.ref b4)])) _
      refine XS.dup X4.here hx rfl (hb hby at_24) rfl rfl ?_
      show Steps p.tables e below (T4.setTop (mkF m 25 #[.val (.int i1), .val (.int i2), .val (.int i3), .val (.int i4), .val (.int i5), .val (.int i6), .val (.int (0 : Int32)), .val (.int ((i6 &&& (2147483647 : Int32)) % (1 : Int32))), .unset, .unset] [(.ref b4), (.ref b4)])) _
      refine st6.trans ?_
      show Steps p.tables e below (T6.setTop (mkF m 28 #[.val (.int i1), .val (.int i2), .val (.int i3), .val (.int i4), .val (.int i5), .val (.int i6), .val (.int (0 : Int32)), .val (.int ((i6 &&& (2147483647 : Int32)) % (1 : Int32))), .unset, .unset] [(.ref b4)])) _
      refine XS.astore X6.here hx rfl (hb hby at_28) rfl rfl (l' := #[.val (.int i1), .val (.int i2), .val (.int i3), .val (.int i4), .val (.int i5), .val (.int i6), .val (.int (0 : Int32)), .val (.int ((i6 &&& (2147483647 : Int32)) % (1 : Int32))), .val (.ref b4), .unset]) rfl ?_
      show Steps p.tables e below (T6.setTop (mkF m 30 #[.val (.int i1), .val (.int i2), .val (.int i3), .val (.int i4), .val (.int i5), .val (.int i6), .val (.int (0 : Int32)), .val (.int ((i6 &&& (2147483647 : Int32)) % (1 : Int32))), .val (.ref b4), .unset] [])) _
      refine XS.iload X6.here hx rfl (hb hby at_30) rfl ?_
      show Steps p.tables e below (T6.setTop (mkF m 32 #[.val (.int i1), .val (.int i2), .val (.int i3), .val (.int i4), .val (.int i5), .val (.int i6), .val (.int (0 : Int32)), .val (.int ((i6 &&& (2147483647 : Int32)) % (1 : Int32))), .val (.ref b4), .unset] [(.int (0 : Int32))])) _
      refine XS.ifYes X6.here hx rfl (pc0 := 32) (pc' := 41) rfl (hb hby at_32) rfl ((if0 _ _).trans (flt (by decide : ¬ ((0 : Int32) < (0 : Int32)))).2.2.2) (by decide) (by decide) ?_
      show Steps p.tables e below (T6.setTop (mkF m 41 #[.val (.int i1), .val (.int i2), .val (.int i3), .val (.int i4), .val (.int i5), .val (.int i6), .val (.int (0 : Int32)), .val (.int ((i6 &&& (2147483647 : Int32)) % (1 : Int32))), .val (.ref b4), .unset] [])) _
      refine XS.iload X6.here hx rfl (hb hby at_41) rfl ?_
      show Steps p.tables e below (T6.setTop (mkF m 43 #[.val (.int i1), .val (.int i2), .val (.int i3), .val (.int i4), .val (.int i5), .val (.int i6), .val (.int (0 : Int32)), .val (.int ((i6 &&& (2147483647 : Int32)) % (1 : Int32))), .val (.ref b4), .unset] [(.int (0 : Int32))])) _
      refine XS.iconst X6.here hx rfl (hb hby at_43) ?_
      show Steps p.tables e below (T6.setTop (mkF m 44 #[.val (.int i1), .val (.int i2), .val (.int i3), .val (.int i4), .val (.int i5), .val (.int i6), .val (.int (0 : Int32)), .val (.int ((i6 &&& (2147483647 : Int32)) % (1 : Int32))), .val (.ref b4), .unset] [(.int (1 : Int32)), (.int (0 : Int32))])) _
      refine XS.icmpYes X6.here hx rfl (pc0 := 44) (pc' := 53) rfl (hb hby at_44) rfl (flt (by decide : ¬ ((1 : Int32) < (0 : Int32)))).2.2.2 (by decide) (by decide) ?_
      show Steps p.tables e below (T6.setTop (mkF m 53 #[.val (.int i1), .val (.int i2), .val (.int i3), .val (.int i4), .val (.int i5), .val (.int i6), .val (.int (0 : Int32)), .val (.int ((i6 &&& (2147483647 : Int32)) % (1 : Int32))), .val (.ref b4), .unset] [])) _
      refine XS.iload X6.here hx rfl (hb hby at_53) rfl ?_
      show Steps p.tables e below (T6.setTop (mkF m 55 #[.val (.int i1), .val (.int i2), .val (.int i3), .val (.int i4), .val (.int i5), .val (.int i6), .val (.int (0 : Int32)), .val (.int ((i6 &&& (2147483647 : Int32)) % (1 : Int32))), .val (.ref b4), .unset] [(.int (0 : Int32))])) _
      refine XS.iconst X6.here hx rfl (hb hby at_55) ?_
      show Steps p.tables e below (T6.setTop (mkF m 56 #[.val (.int i1), .val (.int i2), .val (.int i3), .val (.int i4), .val (.int i5), .val (.int i6), .val (.int (0 : Int32)), .val (.int ((i6 &&& (2147483647 : Int32)) % (1 : Int32))), .val (.ref b4), .unset] [(.int (2 : Int32)), (.int (0 : Int32))])) _
      refine XS.icmpYes X6.here hx rfl (pc0 := 56) (pc' := 65) rfl (hb hby at_56) rfl (flt (by decide : ¬ ((2 : Int32) < (0 : Int32)))).2.2.2 (by decide) (by decide) ?_
      show Steps p.tables e below (T6.setTop (mkF m 65 #[.val (.int i1), .val (.int i2), .val (.int i3), .val (.int i4), .val (.int i5), .val (.int i6), .val (.int (0 : Int32)), .val (.int ((i6 &&& (2147483647 : Int32)) % (1 : Int32))), .val (.ref b4), .unset] [])) _
      refine XS.iload X6.here hx rfl (hb hby at_65) rfl ?_
      show Steps p.tables e below (T6.setTop (mkF m 67 #[.val (.int i1), .val (.int i2), .val (.int i3), .val (.int i4), .val (.int i5), .val (.int i6), .val (.int (0 : Int32)), .val (.int ((i6 &&& (2147483647 : Int32)) % (1 : Int32))), .val (.ref b4), .unset] [(.int (0 : Int32))])) _
      refine XS.iconst X6.here hx rfl (hb hby at_67) ?_
      show Steps p.tables e below (T6.setTop (mkF m 68 #[.val (.int i1), .val (.int i2), .val (.int i3), .val (.int i4), .val (.int i5), .val (.int i6), .val (.int (0 : Int32)), .val (.int ((i6 &&& (2147483647 : Int32)) % (1 : Int32))), .val (.ref b4), .unset] [(.int (3 : Int32)), (.int (0 : Int32))])) _
      refine XS.icmpYes X6.here hx rfl (pc0 := 68) (pc' := 77) rfl (hb hby at_68) rfl (flt (by decide : ¬ ((3 : Int32) < (0 : Int32)))).2.2.2 (by decide) (by decide) ?_
      show Steps p.tables e below (T6.setTop (mkF m 77 #[.val (.int i1), .val (.int i2), .val (.int i3), .val (.int i4), .val (.int i5), .val (.int i6), .val (.int (0 : Int32)), .val (.int ((i6 &&& (2147483647 : Int32)) % (1 : Int32))), .val (.ref b4), .unset] [])) _
      refine XS.aload X6.here hx rfl (hb hby at_77) rfl rfl ?_
      show Steps p.tables e below (T6.setTop (mkF m 79 #[.val (.int i1), .val (.int i2), .val (.int i3), .val (.int i4), .val (.int i5), .val (.int i6), .val (.int (0 : Int32)), .val (.int ((i6 &&& (2147483647 : Int32)) % (1 : Int32))), .val (.ref b4), .unset] [(.ref b4)])) _
      refine XS.iload X6.here hx rfl (hb hby at_79) rfl ?_
      show Steps p.tables e below (T6.setTop (mkF m 81 #[.val (.int i1), .val (.int i2), .val (.int i3), .val (.int i4), .val (.int i5), .val (.int i6), .val (.int (0 : Int32)), .val (.int ((i6 &&& (2147483647 : Int32)) % (1 : Int32))), .val (.ref b4), .unset] [(.int ((i6 &&& (2147483647 : Int32)) % (1 : Int32))), (.ref b4)])) _
      refine st8.trans ?_
      show Steps p.tables e below (T8.setTop (mkF m 84 #[.val (.int i1), .val (.int i2), .val (.int i3), .val (.int i4), .val (.int i5), .val (.int i6), .val (.int (0 : Int32)), .val (.int ((i6 &&& (2147483647 : Int32)) % (1 : Int32))), .val (.ref b4), .unset] [])) _
      refine XS.aload X8.here hx rfl (hb hby at_84) rfl rfl ?_
      show Steps p.tables e below (T8.setTop (mkF m 86 #[.val (.int i1), .val (.int i2), .val (.int i3), .val (.int i4), .val (.int i5), .val (.int i6), .val (.int (0 : Int32)), .val (.int ((i6 &&& (2147483647 : Int32)) % (1 : Int32))), .val (.ref b4), .unset] [(.ref b4)])) _
      refine st9.trans ?_
      show Steps p.tables e below (T9.setTop (mkF m 89 #[.val (.int i1), .val (.int i2), .val (.int i3), .val (.int i4), .val (.int i5), .val (.int i6), .val (.int (0 : Int32)), .val (.int ((i6 &&& (2147483647 : Int32)) % (1 : Int32))), .val (.ref b4), .unset] [(.int (0 : Int32))])) _
      refine XS.iload X9.here hx rfl (hb hby at_89) rfl ?_
      show Steps p.tables e below (T9.setTop (mkF m 91 #[.val (.int i1), .val (.int i2), .val (.int i3), .val (.int i4), .val (.int i5), .val (.int i6), .val (.int (0 : Int32)), .val (.int ((i6 &&& (2147483647 : Int32)) % (1 : Int32))), .val (.ref b4), .unset] [(.int (0 : Int32)), (.int (0 : Int32))])) _
      refine XS.icmpNo X9.here hx rfl (hb hby at_91) rfl (teq (by decide : (0 : Int32) = (0 : Int32))).2 ?_
      show Steps p.tables e below (T9.setTop (mkF m 94 #[.val (.int i1), .val (.int i2), .val (.int i3), .val (.int i4), .val (.int i5), .val (.int i6), .val (.int (0 : Int32)), .val (.int ((i6 &&& (2147483647 : Int32)) % (1 : Int32))), .val (.ref b4), .unset] [])) _
      refine XS.iconst X9.here hx rfl (hb hby at_94) ?_
      show Steps p.tables e below (T9.setTop (mkF m 95 #[.val (.int i1), .val (.int i2), .val (.int i3), .val (.int i4), .val (.int i5), .val (.int i6), .val (.int (0 : Int32)), .val (.int ((i6 &&& (2147483647 : Int32)) % (1 : Int32))), .val (.ref b4), .unset] [(.int (1 : Int32))])) _
      refine XS.goto X9.here hx rfl (pc0 := 95) (pc' := 99) rfl (hb hby at_95) (by decide) (by decide) ?_
      show Steps p.tables e below (T9.setTop (mkF m 99 #[.val (.int i1), .val (.int i2), .val (.int i3), .val (.int i4), .val (.int i5), .val (.int i6), .val (.int (0 : Int32)), .val (.int ((i6 &&& (2147483647 : Int32)) % (1 : Int32))), .val (.ref b4), .unset] [(.int (1 : Int32))])) _
      refine XS.istore X9.here hx rfl (hb hby at_99) rfl (l' := #[.val (.int i1), .val (.int i2), .val (.int i3), .val (.int i4), .val (.int i5), .val (.int i6), .val (.int (0 : Int32)), .val (.int ((i6 &&& (2147483647 : Int32)) % (1 : Int32))), .val (.ref b4), .val (.int (1 : Int32))]) rfl ?_
      show Steps p.tables e below (T9.setTop (mkF m 101 #[.val (.int i1), .val (.int i2), .val (.int i3), .val (.int i4), .val (.int i5), .val (.int i6), .val (.int (0 : Int32)), .val (.int ((i6 &&& (2147483647 : Int32)) % (1 : Int32))), .val (.ref b4), .val (.int (1 : Int32))] [])) _
      refine XS.iload X9.here hx rfl (hb hby at_101) rfl ?_
      show Steps p.tables e below (T9.setTop (mkF m 103 #[.val (.int i1), .val (.int i2), .val (.int i3), .val (.int i4), .val (.int i5), .val (.int i6), .val (.int (0 : Int32)), .val (.int ((i6 &&& (2147483647 : Int32)) % (1 : Int32))), .val (.ref b4), .val (.int (1 : Int32))] [(.int (1 : Int32))])) _
      refine XS.ifNo X9.here hx rfl (hb hby at_103) rfl ((if0 _ _).trans (feq (by decide : ¬ ((1 : Int32) = (0 : Int32)))).1) ?_
      show Steps p.tables e below (T9.setTop (mkF m 106 #[.val (.int i1), .val (.int i2), .val (.int i3), .val (.int i4), .val (.int i5), .val (.int i6), .val (.int (0 : Int32)), .val (.int ((i6 &&& (2147483647 : Int32)) % (1 : Int32))), .val (.ref b4), .val (.int (1 : Int32))] [])) _
      refine XS.iload X9.here hx rfl (hb hby at_106) rfl ?_
      show Steps p.tables e below (T9.setTop (mkF m 108 #[.val (.int i1), .val (.int i2), .val (.int i3), .val (.int i4), .val (.int i5), .val (.int i6), .val (.int (0 : Int32)), .val (.int ((i6 &&& (2147483647 : Int32)) % (1 : Int32))), .val (.ref b4), .val (.int (1 : Int32))] [(.int (0 : Int32))])) _
      refine XS.ifYes X9.here hx rfl (pc0 := 108) (pc' := 139) rfl (hb hby at_108) rfl ((if0 _ _).trans (flt (by decide : ¬ ((0 : Int32) < (0 : Int32)))).2.2.2) (by decide) (by decide) ?_
      show Steps p.tables e below (T9.setTop (mkF m 139 #[.val (.int i1), .val (.int i2), .val (.int i3), .val (.int i4), .val (.int i5), .val (.int i6), .val (.int (0 : Int32)), .val (.int ((i6 &&& (2147483647 : Int32)) % (1 : Int32))), .val (.ref b4), .val (.int (1 : Int32))] [])) _
      refine XS.iload X9.here hx rfl (hb hby at_139) rfl ?_
      show Steps p.tables e below (T9.setTop (mkF m 141 #[.val (.int i1), .val (.int i2), .val (.int i3), .val (.int i4), .val (.int i5), .val (.int i6), .val (.int (0 : Int32)), .val (.int ((i6 &&& (2147483647 : Int32)) % (1 : Int32))), .val (.ref b4), .val (.int (1 : Int32))] [(.int (1 : Int32))])) _
      refine XS.ifNo X9.here hx rfl (hb hby at_141) rfl ((if0 _ _).trans (feq (by decide : ¬ ((1 : Int32) = (0 : Int32)))).1) ?_
      show Steps p.tables e below (T9.setTop (mkF m 144 #[.val (.int i1), .val (.int i2), .val (.int i3), .val (.int i4), .val (.int i5), .val (.int i6), .val (.int (0 : Int32)), .val (.int ((i6 &&& (2147483647 : Int32)) % (1 : Int32))), .val (.ref b4), .val (.int (1 : Int32))] [])) _
      refine XS.iload X9.here hx rfl (hb hby at_144) rfl ?_
      show Steps p.tables e below (T9.setTop (mkF m 146 #[.val (.int i1), .val (.int i2), .val (.int i3), .val (.int i4), .val (.int i5), .val (.int i6), .val (.int (0 : Int32)), .val (.int ((i6 &&& (2147483647 : Int32)) % (1 : Int32))), .val (.ref b4), .val (.int (1 : Int32))] [(.int (0 : Int32))])) _
      refine XS.iconst X9.here hx rfl (hb hby at_146) ?_
      show Steps p.tables e below (T9.setTop (mkF m 147 #[.val (.int i1), .val (.int i2), .val (.int i3), .val (.int i4), .val (.int i5), .val (.int i6), .val (.int (0 : Int32)), .val (.int ((i6 &&& (2147483647 : Int32)) % (1 : Int32))), .val (.ref b4), .val (.int (1 : Int32))] [(.int (1 : Int32)), (.int (0 : Int32))])) _
      refine XS.icmpYes X9.here hx rfl (pc0 := 147) (pc' := 178) rfl (hb hby at_147) rfl (flt (by decide : ¬ ((1 : Int32) < (0 : Int32)))).2.2.2 (by decide) (by decide) ?_
      show Steps p.tables e below (T9.setTop (mkF m 178 #[.val (.int i1), .val (.int i2), .val (.int i3), .val (.int i4), .val (.int i5), .val (.int i6), .val (.int (0 : Int32)), .val (.int ((i6 &&& (2147483647 : Int32)) % (1 : Int32))), .val (.ref b4), .val (.int (1 : Int32))] [])) _
      refine XS.iload X9.here hx rfl (hb hby at_178) rfl ?_
      show Steps p.tables e below (T9.setTop (mkF m 180 #[.val (.int i1), .val (.int i2), .val (.int i3), .val (.int i4), .val (.int i5), .val (.int i6), .val (.int (0 : Int32)), .val (.int ((i6 &&& (2147483647 : Int32)) % (1 : Int32))), .val (.ref b4), .val (.int (1 : Int32))] [(.int (1 : Int32))])) _
      refine XS.ifNo X9.here hx rfl (hb hby at_180) rfl ((if0 _ _).trans (feq (by decide : ¬ ((1 : Int32) = (0 : Int32)))).1) ?_
      show Steps p.tables e below (T9.setTop (mkF m 183 #[.val (.int i1), .val (.int i2), .val (.int i3), .val (.int i4), .val (.int i5), .val (.int i6), .val (.int (0 : Int32)), .val (.int ((i6 &&& (2147483647 : Int32)) % (1 : Int32))), .val (.ref b4), .val (.int (1 : Int32))] [])) _
      refine XS.iload X9.here hx rfl (hb hby at_183) rfl ?_
      show Steps p.tables e below (T9.setTop (mkF m 185 #[.val (.int i1), .val (.int i2), .val (.int i3), .val (.int i4), .val (.int i5), .val (.int i6), .val (.int (0 : Int32)), .val (.int ((i6 &&& (2147483647 : Int32)) % (1 : Int32))), .val (.ref b4), .val (.int (1 : Int32))] [(.int (0 : Int32))])) _
      refine XS.iconst X9.here hx rfl (hb hby at_185) ?_
      show Steps p.tables e below (T9.setTop (mkF m 186 #[.val (.int i1), .val (.int i2), .val (.int i3), .val (.int i4), .val (.int i5), .val (.int i6), .val (.int (0 : Int32)), .val (.int ((i6 &&& (2147483647 : Int32)) % (1 : Int32))), .val (.ref b4), .val (.int (1 : Int32))] [(.int (2 : Int32)), (.int (0 : Int32))])) _
      refine XS.icmpYes X9.here hx rfl (pc0 := 186) (pc' := 217) rfl (hb hby at_186) rfl (flt (by decide : ¬ ((2 : Int32) < (0 : Int32)))).2.2.2 (by decide) (by decide) ?_
      show Steps p.tables e below (T9.setTop (mkF m 217 #[.val (.int i1), .val (.int i2), .val (.int i3), .val (.int i4), .val (.int i5), .val (.int i6), .val (.int (0 : Int32)), .val (.int ((i6 &&& (2147483647 : Int32)) % (1 : Int32))), .val (.ref b4), .val (.int (1 : Int32))] [])) _
      refine XS.iload X9.here hx rfl (hb hby at_217) rfl ?_
      show Steps p.tables e below (T9.setTop (mkF m 219 #[.val (.int i1), .val (.int i2), .val (.int i3), .val (.int i4), .val (.int i5), .val (.int i6), .val (.int (0 : Int32)), .val (.int ((i6 &&& (2147483647 : Int32)) % (1 : Int32))), .val (.ref b4), .val (.int (1 : Int32))] [(.int (1 : Int32))])) _
      refine XS.ifNo X9.here hx rfl (hb hby at_219) rfl ((if0 _ _).trans (feq (by decide : ¬ ((1 : Int32) = (0 : Int32)))).1) ?_
      show Steps p.tables e below (T9.setTop (mkF m 222 #[.val (.int i1), .val (.int i2), .val (.int i3), .val (.int i4), .val (.int i5), .val (.int i6), .val (.int (0 : Int32)), .val (.int ((i6 &&& (2147483647 : Int32)) % (1 : Int32))), .val (.ref b4), .val (.int (1 : Int32))] [])) _
      refine XS.iload X9.here hx rfl (hb hby at_222) rfl ?_
      show Steps p.tables e below (T9.setTop (mkF m 224 #[.val (.int i1), .val (.int i2), .val (.int i3), .val (.int i4), .val (.int i5), .val (.int i6), .val (.int (0 : Int32)), .val (.int ((i6 &&& (2147483647 : Int32)) % (1 : Int32))), .val (.ref b4), .val (.int (1 : Int32))] [(.int (0 : Int32))])) _
      refine XS.iconst X9.here hx rfl (hb hby at_224) ?_
      show Steps p.tables e below (T9.setTop (mkF m 225 #[.val (.int i1), .val (.int i2), .val (.int i3), .val (.int i4), .val (.int i5), .val (.int i6), .val (.int (0 : Int32)), .val (.int ((i6 &&& (2147483647 : Int32)) % (1 : Int32))), .val (.ref b4), .val (.int (1 : Int32))] [(.int (3 : Int32)), (.int (0 : Int32))])) _
      refine XS.icmpYes X9.here hx rfl (pc0 := 225) (pc' := 256) rfl (hb hby at_225) rfl (flt (by decide : ¬ ((3 : Int32) < (0 : Int32)))).2.2.2 (by decide) (by decide) ?_
      show Steps p.tables e below (T9.setTop (mkF m 256 #[.val (.int i1), .val (.int i2), .val (.int i3), .val (.int i4), .val (.int i5), .val (.int i6), .val (.int (0 : Int32)), .val (.int ((i6 &&& (2147483647 : Int32)) % (1 : Int32))), .val (.ref b4), .val (.int (1 : Int32))] [])) _
      refine XS.iload X9.here hx rfl (hb hby at_256) rfl ?_
      exact k
    obtain ⟨fs, hr, hrun, hended, hW, hsame⟩ := X9.leave (v := some (.int (1 : Int32))) (fun h => by rw [Bd.returns] at h; cases h)
    refine ⟨_, _, pre10 _ ?_, hrun, hended, _, _, rfl, ?_, ⟨_, rfl⟩, hW, hsame.mono (by decide) (by decide)⟩
    · show Steps p.tables e below (T9.setTop (mkF m 258 #[.val (.int i1), .val (.int i2), .val (.int i3), .val (.int i4), .val (.int i5), .val (.int i6), .val (.int (0 : Int32)), .val (.int ((i6 &&& (2147483647 : Int32)) % (1 : Int32))), .val (.ref b4), .val (.int (1 : Int32))] [(.int (1 : Int32))])) _
      exact retN X9 hx (t := .boolean) Bd.returns (by simp) (hb hby at_258) hr
    · show Q0 Z i1 i2 i3 i4 i5 i6 h0 n0 _ T9.heap _
      rw [e9]
      exact ⟨congrArg (fun z => some (Value.int z)) (show (own_r0 i1 i2 i3 i4 i5 i6) = (1 : Int32) from (if_pos hk2)).symm, N9⟩
  · have pre11 : ∀ t, Steps p.tables e below (s₁.setTop (mkF m 9 #[.val (.int i1), .val (.int i2), .val (.int i3), .val (.int i4), .val (.int i5), .val (.int i6), .val (.int (1 : Int32)), .unset, .unset, .unset] [])) t → Steps p.tables e below (s₁.setTop (entryFrame m #[(.int i1), (.int i2), (.int i3), (.int i4), (.int i5), (.int i6)] maxLocals)) t := fun t k => pre1 t (by rw [hk2]; exact k)
    obtain ⟨T12, h12, X12, e12, E12, A12, D12, -, st12⟩ := newO X0 hx hZ hown (hw _ (List.mem_of_getElem? (i := 1) rfl)) (hw _ (List.mem_of_getElem? (i := 2) rfl)) (hw _ (List.mem_of_getElem? (i := 3) rfl)) e0 (g := (mkF m 21 #[.val (.int i1), .val (.int i2), .val (.int i3), .val (.int i4), .val (.int i5), .val (.int i6), .val (.int (1 : Int32)), .val (.int ((i6 &&& (2147483647 : Int32)) % (2 : Int32))), .unset, .unset] [])) rfl (hb hby at_21) (by decide) (by decide)
    obtain ⟨b12, g12⟩ : ∃ z, z = h0.size := ⟨_, rfl⟩
    rw [← g12] at A12 D12 st12
    have sz_b12 : h0.size ≤ b12 := Nat.le_trans (Keep.refl h0 []).1 (Nat.le_of_eq g12.symm)
    have K13 : Keep h0 h12 [] := (Keep.refl h0 []).ext E12
    have Fnumbers_12 : Fld Z h12 b12 "com/example/baum/baum/query/NodeList$Builder" "numbers" "[I" .null := D12 (Or.inl (hw _ (List.mem_of_getElem? (i := 12) rfl))) (ty := (.array .int)) (by decide)
    have Fsize_12 : Fld Z h12 b12 "com/example/baum/baum/query/NodeList$Builder" "size" "I" (.int (0 : Int32)) := D12 (Or.inl (hw _ (List.mem_of_getElem? (i := 19) rfl))) (ty := .int) (by decide)
    obtain ⟨_, _, ⟨T14, L14, k14, n14⟩, -, X14, ⟨Lc14, hQ14, l14, y14, z14⟩, st14⟩ := X12.specialBack hx (y := (⟨"com/example/baum/baum/query/NodeList$Builder", "<init>", "()V"⟩ : MethodName)) rfl hown (mvT hZ (hw _ (List.mem_of_getElem? (i := 4) rfl))) (mvT hZ (hw _ (List.mem_of_getElem? (i := 5) rfl))) (mvT hZ (hw _ (List.mem_of_getElem? (i := 6) rfl))) (by decide) (backOf (W := 1) (rm1 l Z a0 hw [] b12 (.int (0 : Int32)) (.null) h12 n0 (Nat.le_trans Z0 K13.1) Fsize_12 A12 Fnumbers_12 (Nat.le_trans Z0 sz_b12)) hZ (hw _ (List.mem_of_getElem? (i := 6) rfl)) (hw _ (List.mem_of_getElem? (i := 3) rfl)) (by decide) (by decide)) (g := (mkF m 25 #[.val (.int i1), .val (.int i2), .val (.int i3), .val (.int i4), .val (.int i5), .val (.int i6), .val (.int (1 : Int32)), .val (.int ((i6 &&& (2147483647 : Int32)) % (2 : Int32))), .unset, .unset] [(.ref b12), (.ref b12)])) rfl (by rw [hml]; rfl) (Steps.refl _) (a := b12) (argsL := []) (rest := [(.ref b12)]) (lenOf pd_0 rfl) rfl (by show 2 * 0 + _ ≤ _; exact Nat.le_of_eq rfl) (hb hby at_25) (fun _ _ => ⟨rfl, e12, (by decide : 1 + 1 ≤ _), (by decide : 2 + 16 ≤ _)⟩)
    dsimp only [Pt.U, Pt.locs, Pt.cells, Pt.slots] at X14 l14 y14 z14 st14 hQ14
    subst l14 y14 z14
    obtain ⟨b14_0, k14_1, rfl, Nq14, Kq14, sq14_0, f14_0, f14_1, f14_2, f14_3⟩ := hQ14
    have sz_b14_0 : h0.size ≤ b14_0 := Nat.le_trans K13.1 sq14_0
    have K15 : Keep h0 T14.heap [] := K13.trans Kq14 (allS (Or.inr sz_b12) all0)
    have N14 := Fr.app N0 Nq14
    obtain ⟨cq16, kq16, q16a, q16b, q16c⟩ := isOf hZ rfl f14_1
    obtain ⟨_, _, ⟨T16, L16, k16, n16⟩, -, X16, ⟨Lc16, hQ16, l16, y16, z16⟩, st16⟩ := X14.virtualBack hx (y := (⟨"com/example/baum/baum/query/NodeList$Builder", "add", "(I)V"⟩ : MethodName)) (z := (⟨"com/example/baum/baum/query/NodeList$Builder", "add", "(I)V"⟩ : MethodName)) hown (mvT hZ (hw _ (List.mem_of_getElem? (i := 25) rfl))) (mvT hZ (hw _ (List.mem_of_getElem? (i := 26) rfl))) (notFace_of_selects (args := #[]) (mvT hZ (hw _ (List.mem_of_getElem? (i := 28) rfl)))) (mvT hZ (hw _ (List.mem_of_getElem? (i := 28) rfl))) (mvT hZ (hw _ (List.mem_of_getElem? (i := 27) rfl))) (by decide) (backOf (W := 0) (rm5 l Z a0 hw [] b12 i1 b14_0 k14_1 T14.heap n0 (Nat.le_trans Z0 K15.1) f14_3 f14_2 f14_0 f14_1 (Nat.le_trans Z0 sz_b12) (Ne.symm (Nat.ne_of_lt (Nat.lt_of_lt_of_le A12.lt (Nat.le_trans (Nat.le_refl _) sq14_0)))) (Nat.le_trans Z0 sz_b14_0)) hZ (hw _ (List.mem_of_getElem? (i := 29) rfl)) (hw _ (List.mem_of_getElem? (i := 3) rfl)) (by decide) (by decide)) q16a q16c (g := (mkF m 38 #[.val (.int i1), .val (.int i2), .val (.int i3), .val (.int i4), .val (.int i5), .val (.int i6), .val (.int (1 : Int32)), .val (.int ((i6 &&& (2147483647 : Int32)) % (2 : Int32))), .val (.ref b12), .unset] [(.int i1), (.ref b12)])) rfl (by rw [hml]; rfl) (Steps.refl _) (argsL := [(.int i1)]) (rest := []) (lenOf pd_1 rfl) rfl (by show 2 * 0 + _ ≤ _; exact Nat.le_of_eq rfl) (hb hby at_38) (fun _ _ => ⟨rfl, rfl, (by decide : 2 + 0 ≤ _), (by decide : 18 + 0 ≤ _)⟩)
    dsimp only [Pt.U, Pt.locs, Pt.cells, Pt.slots] at X16 l16 y16 z16 st16 hQ16
    subst l16 y16 z16
    obtain ⟨rfl, Nq16, Kq16, f16_0, f16_1, f16_2, f16_3⟩ := hQ16
    have K17 : Keep h0 T16.heap [] := K15.trans Kq16 (allS (Or.inr sz_b12) (allS (Or.inr sz_b14_0) all0))
    have N16 := Fr.app N14 Nq16
    obtain ⟨cq18, kq18, q18a, q18b, q18c⟩ := isOf hZ rfl f16_3
    obtain ⟨_, _, ⟨T18, L18, k18, n18⟩, -, X18, ⟨Lc18, hQ18, l18, y18, z18⟩, st18⟩ := X16.virtualBack hx (y := (⟨"com/example/baum/baum/query/NodeList$Builder", "reverseFrom", "(I)V"⟩ : MethodName)) (z := (⟨"com/example/baum/baum/query/NodeList$Builder", "reverseFrom", "(I)V"⟩ : MethodName)) hown (mvT hZ (hw _ (List.mem_of_getElem? (i := 13) rfl))) (mvT hZ (hw _ (List.mem_of_getElem? (i := 14) rfl))) (notFace_of_selects (args := #[]) (mvT hZ (hw _ (List.mem_of_getElem? (i := 16) rfl)))) (mvT hZ (hw _ (List.mem_of_getElem? (i := 16) rfl))) (mvT hZ (hw _ (List.mem_of_getElem? (i := 15) rfl))) (by decide) (backOf (W := 0) (rm3a l Z a0 hw [] b12 ((i6 &&& (2147483647 : Int32)) % (2 : Int32)) T16.heap n0 (Nat.le_trans Z0 K17.1) f16_0 (own_ob0_g81_1x i6)) hZ (hw _ (List.mem_of_getElem? (i := 17) rfl)) (hw _ (List.mem_of_getElem? (i := 3) rfl)) (by decide) (by decide)) q18a q18c (g := (mkF m 81 #[.val (.int i1), .val (.int i2), .val (.int i3), .val (.int i4), .val (.int i5), .val (.int i6), .val (.int (1 : Int32)), .val (.int ((i6 &&& (2147483647 : Int32)) % (2 : Int32))), .val (.ref b12), .unset] [(.int ((i6 &&& (2147483647 : Int32)) % (2 : Int32))), (.ref b12)])) rfl (by rw [hml]; rfl) (Steps.refl _) (argsL := [(.int ((i6 &&& (2147483647 : Int32)) % (2 : Int32)))]) (rest := []) (lenOf pd_1 rfl) rfl (by show 2 * 0 + _ ≤ _; exact Nat.le_of_eq rfl) (hb hby at_81) (fun _ _ => ⟨rfl, rfl, (by decide : 2 + 0 ≤ _), (by decide : 18 + 0 ≤ _)⟩)
    dsimp only [Pt.U, Pt.locs, Pt.cells, Pt.slots] at X18 l18 y18 z18 st18 hQ18
    subst l18 y18 z18
    obtain ⟨rfl, Nq18, e18⟩ := hQ18
    have N18 := Fr.app N16 Nq18
    obtain ⟨cq19, kq19, q19a, q19b, q19c⟩ := isOf hZ e18 f16_3
    obtain ⟨_, _, ⟨T19, L19, k19, n19⟩, -, X19, ⟨Lc19, hQ19, l19, y19, z19⟩, st19⟩ := X18.virtualBack hx (y := (⟨"com/example/baum/baum/query/NodeList$Builder", "size", "()I"⟩ : MethodName)) (z := (⟨"com/example/baum/baum/query/NodeList$Builder", "size", "()I"⟩ : MethodName)) hown (mvT hZ (hw _ (List.mem_of_getElem? (i := 20) rfl))) (mvT hZ (hw _ (List.mem_of_getElem? (i := 21) rfl))) (notFace_of_selects (args := #[]) (mvT hZ (hw _ (List.mem_of_getElem? (i := 23) rfl)))) (mvT hZ (hw _ (List.mem_of_getElem? (i := 23) rfl))) (mvT hZ (hw _ (List.mem_of_getElem? (i := 22) rfl))) (by decide) (backOf (W := 0) (rm4a l Z a0 hw [] b12 T16.heap n0 (Nat.le_trans Z0 K17.1) f16_0) hZ (hw _ (List.mem_of_getElem? (i := 24) rfl)) (hw _ (List.mem_of_getElem? (i := 3) rfl)) (by decide) (by decide)) q19a q19c (g := (mkF m 86 #[.val (.int i1), .val (.int i2), .val (.int i3), .val (.int i4), .val (.int i5), .val (.int i6), .val (.int (1 : Int32)), .val (.int ((i6 &&& (2147483647 : Int32)) % (2 : Int32))), .val (.ref b12), .unset] [(.ref b12)])) rfl (by rw [hml]; rfl) (Steps.refl _) (argsL := []) (rest := []) (lenOf pd_2 rfl) rfl (by show 2 * 0 + _ ≤ _; exact Nat.le_of_eq rfl) (hb hby at_86) (fun _ _ => ⟨rfl, e18, (by decide : 2 + 0 ≤ _), (by decide : 18 + 0 ≤ _)⟩)
    dsimp only [Pt.U, Pt.locs, Pt.cells, Pt.slots] at X19 l19 y19 z19 st19 hQ19
    subst l19 y19 z19
    obtain ⟨rfl, Nq19, e19⟩ := hQ19
    have N19 := Fr.app N18 Nq19
    obtain ⟨cq20, kq20, q20a, q20b, q20c⟩ := isOf hZ e19 f16_3
    obtain ⟨_, _, ⟨T20, L20, k20, n20⟩, -, X20, ⟨Lc20, hQ20, l20, y20, z20⟩, st20⟩ := X19.virtualBack hx (y := (⟨"com/example/baum/baum/query/NodeList$Builder", "get", "(I)I"⟩ : MethodName)) (z := (⟨"com/example/baum/baum/query/NodeList$Builder", "get", "(I)I"⟩ : MethodName)) hown (mvT hZ (hw _ (List.mem_of_getElem? (i := 30) rfl))) (mvT hZ (hw _ (List.mem_of_getElem? (i := 31) rfl))) (notFace_of_selects (args := #[]) (mvT hZ (hw _ (List.mem_of_getElem? (i := 33) rfl)))) (mvT hZ (hw _ (List.mem_of_getElem? (i := 33) rfl))) (mvT hZ (hw _ (List.mem_of_getElem? (i := 32) rfl))) (by decide) (backOf (W := 0) (rm6 l Z a0 hw [] b12 b14_0 i1 k14_1 T16.heap n0 (Nat.le_trans Z0 K17.1) f16_1 f16_0 f16_2) hZ (hw _ (List.mem_of_getElem? (i := 34) rfl)) (hw _ (List.mem_of_getElem? (i := 3) rfl)) (by decide) (by decide)) q20a q20c (g := (mkF m 114 #[.val (.int i1), .val (.int i2), .val (.int i3), .val (.int i4), .val (.int i5), .val (.int i6), .val (.int (1 : Int32)), .val (.int ((i6 &&& (2147483647 : Int32)) % (2 : Int32))), .val (.ref b12), .val (.int (1 : Int32))] [(.int (0 : Int32)), (.ref b12)])) rfl (by rw [hml]; rfl) (Steps.refl _) (argsL := [(.int (0 : Int32))]) (rest := []) (lenOf pd_5 rfl) rfl (by show 2 * 0 + _ ≤ _; exact Nat.le_of_eq rfl) (hb hby at_114) (fun _ _ => ⟨rfl, e19, (by decide : 2 + 0 ≤ _), (by decide : 18 + 0 ≤ _)⟩)
    dsimp only [Pt.U, Pt.locs, Pt.cells, Pt.slots] at X20 l20 y20 z20 st20 hQ20
    subst l20 y20 z20
    obtain ⟨rfl, Nq20, e20⟩ := hQ20
    have N20 := Fr.app N19 Nq20
    obtain ⟨_, _, ⟨T21, L21, k21, n21⟩, -, X21, ⟨Lc21, hQ21, l21, y21, z21⟩, st21⟩ := Jvm.LawKit.callS X20 hx (y := (⟨"com/example/baum/baum/query/BuilderReverseFromPinLaw", "expect", "(IIIIIII)I"⟩ : MethodName)) hown (mvT hZ (hw _ (List.mem_of_getElem? (i := 43) rfl))) (mvT hZ (hw _ (List.mem_of_getElem? (i := 44) rfl))) (mvT hZ (hw _ (List.mem_of_getElem? (i := 45) rfl))) (mvT hZ (hw _ (List.mem_of_getElem? (i := 46) rfl))) (by decide) (backOf (W := 1) (rm9 l Z a0 hw [] (0 : Int32) ((i6 &&& (2147483647 : Int32)) % (2 : Int32)) (1 : Int32) i1 i2 i3 i4 T16.heap n0 (Nat.le_trans Z0 K17.1) ) hZ (hw _ (List.mem_of_getElem? (i := 46) rfl)) (hw _ (List.mem_of_getElem? (i := 45) rfl)) (by decide) (by decide)) (g := (mkF m 126 #[.val (.int i1), .val (.int i2), .val (.int i3), .val (.int i4), .val (.int i5), .val (.int i6), .val (.int (1 : Int32)), .val (.int ((i6 &&& (2147483647 : Int32)) % (2 : Int32))), .val (.ref b12), .val (.int (1 : Int32))] [(.int i4), (.int i3), (.int i2), (.int i1), (.int (1 : Int32)), (.int ((i6 &&& (2147483647 : Int32)) % (2 : Int32))), (.int (0 : Int32)), (.int i1)])) rfl (by rw [hml]; rfl) (argsL := [(.int (0 : Int32)), (.int ((i6 &&& (2147483647 : Int32)) % (2 : Int32))), (.int (1 : Int32)), (.int i1), (.int i2), (.int i3), (.int i4)]) (rest := [(.int i1)]) (lenOf pd_7 rfl) rfl (by show 2 * 0 + _ ≤ _; exact Nat.le_of_eq rfl) (hb hby at_126) (fun _ _ => ⟨rfl, e20, (by decide : 2 + 0 ≤ _), (by decide : 18 + 0 ≤ _)⟩)
    dsimp only [Pt.U, Pt.locs, Pt.cells, Pt.slots] at X21 l21 y21 z21 st21 hQ21
    subst l21 y21 z21
    obtain ⟨rfl, Nq21, e21⟩ := hQ21
    have N21 := Fr.app N20 Nq21
    have pre22 : ∀ t, Steps p.tables e below (T21.setTop (mkF m 129 #[.val (.int i1), .val (.int i2), .val (.int i3), .val (.int i4), .val (.int i5), .val (.int i6), .val (.int (1 : Int32)), .val (.int ((i6 &&& (2147483647 : Int32)) % (2 : Int32))), .val (.ref b12), .val (.int (1 : Int32))] [(.int (own_r10 (own_j9_2_0 (0 : Int32) ((i6 &&& (2147483647 : Int32)) % (2 : Int32)) (1 : Int32)) i1 i2 i3 i4)), (.int i1)])) t → Steps p.tables e below (s₁.setTop (entryFrame m #[(.int i1), (.int i2), (.int i3), (.int i4), (.int i5), (.int i6)] maxLocals)) t := by
      intro t k
      refine pre11 _ ?_
      show Steps p.tables e below (s₁.setTop (mkF m 9 #[.val (.int i1), .val (.int i2), .val (.int i3), .val (.int i4), .val (.int i5), .val (.int i6), .val (.int (1 : Int32)), .unset, .unset, .unset] [])) _
      refine XS.iload X0.here hx rfl (hb hby at_9) rfl ?_
      show Steps p.tables e below (s₁.setTop (mkF m 11 #[.val (.int i1), .val (.int i2), .val (.int i3), .val (.int i4), .val (.int i5), .val (.int i6), .val (.int (1 : Int32)), .unset, .unset, .unset] [(.int i6)])) _
      refine X0.ldcInt hx hown (mvT hZ (hw _ (List.mem_of_getElem? (i := 0) rfl))) (g := (mkF m 11 #[.val (.int i1), .val (.int i2), .val (.int i3), .val (.int i4), .val (.int i5), .val (.int i6), .val (.int (1 : Int32)), .unset, .unset, .unset] [(.int i6)])) rfl (hb hby at_11) _ ?_
      show Steps p.tables e below (s₁.setTop (mkF m 13 #[.val (.int i1), .val (.int i2), .val (.int i3), .val (.int i4), .val (.int i5), .val (.int i6), .val (.int (1 : Int32)), .unset, .unset, .unset] [(.int (2147483647 : Int32)), (.int i6)])) _
      refine XS.iand X0.here hx rfl (hb hby at_13) rfl ?_
      show Steps p.tables e below (s₁.setTop (mkF m 14 #[.val (.int i1), .val (.int i2), .val (.int i3), .val (.int i4), .val (.int i5), .val (.int i6), .val (.int (1 : Int32)), .unset, .unset, .unset] [(.int (i6 &&& (2147483647 : Int32)))])) _
      refine XS.iload X0.here hx rfl (hb hby at_14) rfl ?_
      show Steps p.tables e below (s₁.setTop (mkF m 16 #[.val (.int i1), .val (.int i2), .val (.int i3), .val (.int i4), .val (.int i5), .val (.int i6), .val (.int (1 : Int32)), .unset, .unset, .unset] [(.int (1 : Int32)), (.int (i6 &&& (2147483647 : Int32)))])) _
      refine XS.iconst X0.here hx rfl (hb hby at_16) ?_
      show Steps p.tables e below (s₁.setTop (mkF m 17 #[.val (.int i1), .val (.int i2), .val (.int i3), .val (.int i4), .val (.int i5), .val (.int i6), .val (.int (1 : Int32)), .unset, .unset, .unset] [(.int (1 : Int32)), (.int (1 : Int32)), (.int (i6 &&& (2147483647 : Int32)))])) _
      refine XS.iadd X0.here hx rfl (hb hby at_17) rfl ?_
      show Steps p.tables e below (s₁.setTop (mkF m 18 #[.val (.int i1), .val (.int i2), .val (.int i3), .val (.int i4), .val (.int i5), .val (.int i6), .val (.int (1 : Int32)), .unset, .unset, .unset] [(.int (2 : Int32)), (.int (i6 &&& (2147483647 : Int32)))])) _
      refine iremM X0 hx rfl (hb hby at_18) rfl (by decide) ?_
      show Steps p.tables e below (s₁.setTop (mkF m 19 #[.val (.int i1), .val (.int i2), .val (.int i3), .val (.int i4), .val (.int i5), .val (.int i6), .val (.int (1 : Int32)), .unset, .unset, .unset] [(.int ((i6 &&& (2147483647 : Int32)) % (2 : Int32)))])) _
      refine XS.istore X0.here hx rfl (hb hby at_19) rfl (l' := #[.val (.int i1), .val (.int i2), .val (.int i3), .val (.int i4), .val (.int i5), .val (.int i6), .val (.int (1 : Int32)), .val (.int ((i6 &&& (2147483647 : Int32)) % (2 : Int32))), .unset, .unset]) rfl ?_
      show Steps p.tables e below (s₁.setTop (mkF m 21 #[.val (.int i1), .val (.int i2), .val (.int i3), .val (.int i4), .val (.int i5), .val (.int i6), .val (.int (1 : Int32)), .val (.int ((i6 &&& (2147483647 : Int32)) % (2 : Int32))), .unset, .unset] [])) _
      refine st12 _ ?_
      show Steps p.tables e below (T12.setTop (mkF m 24 #[.val (.int i1), .val (.int i2), .val (.int i3), .val (.int i4), .val (.int i5), .val (.int i6), .val (.int (1 : Int32)), .val (.int ((i6 &&& (2147483647 : Int32)) % (2 : Int32))), .unset, .unset] [(.ref b12)])) _
      refine XS.dup X12.here hx rfl (hb hby at_24) rfl rfl ?_
      show Steps p.tables e below (T12.setTop (mkF m 25 #[.val (.int i1), .val (.int i2), .val (.int i3), .val (.int i4), .val (.int i5), .val (.int i6), .val (.int (1 : Int32)), .val (.int ((i6 &&& (2147483647 : Int32)) % (2 : Int32))), .unset, .unset] [(.ref b12), (.ref b12)])) _
      refine st14.trans ?_
      show Steps p.tables e below (T14.setTop (mkF m 28 #[.val (.int i1), .val (.int i2), .val (.int i3), .val (.int i4), .val (.int i5), .val (.int i6), .val (.int (1 : Int32)), .val (.int ((i6 &&& (2147483647 : Int32)) % (2 : Int32))), .unset, .unset] [(.ref b12)])) _
      refine XS.astore X14.here hx rfl (hb hby at_28) rfl rfl (l' := #[.val (.int i1), .val (.int i2), .val (.int i3), .val (.int i4), .val (.int i5), .val (.int i6), .val (.int (1 : Int32)), .val (.int ((i6 &&& (2147483647 : Int32)) % (2 : Int32))), .val (.ref b12), .unset]) rfl ?_
      show Steps p.tables e below (T14.setTop (mkF m 30 #[.val (.int i1), .val (.int i2), .val (.int i3), .val (.int i4), .val (.int i5), .val (.int i6), .val (.int (1 : Int32)), .val (.int ((i6 &&& (2147483647 : Int32)) % (2 : Int32))), .val (.ref b12), .unset] [])) _
      refine XS.iload X14.here hx rfl (hb hby at_30) rfl ?_
      show Steps p.tables e below (T14.setTop (mkF m 32 #[.val (.int i1), .val (.int i2), .val (.int i3), .val (.int i4), .val (.int i5), .val (.int i6), .val (.int (1 : Int32)), .val (.int ((i6 &&& (2147483647 : Int32)) % (2 : Int32))), .val (.ref b12), .unset] [(.int (1 : Int32))])) _
      refine XS.ifNo X14.here hx rfl (hb hby at_32) rfl ((if0 _ _).trans (tlt (by decide : (0 : Int32) < (1 : Int32))).2.2.2) ?_
      show Steps p.tables e below (T14.setTop (mkF m 35 #[.val (.int i1), .val (.int i2), .val (.int i3), .val (.int i4), .val (.int i5), .val (.int i6), .val (.int (1 : Int32)), .val (.int ((i6 &&& (2147483647 : Int32)) % (2 : Int32))), .val (.ref b12), .unset] [])) _
      refine XS.aload X14.here hx rfl (hb hby at_35) rfl rfl ?_
      show Steps p.tables e below (T14.setTop (mkF m 37 #[.val (.int i1), .val (.int i2), .val (.int i3), .val (.int i4), .val (.int i5), .val (.int i6), .val (.int (1 : Int32)), .val (.int ((i6 &&& (2147483647 : Int32)) % (2 : Int32))), .val (.ref b12), .unset] [(.ref b12)])) _
      refine XS.iloadN X14.here hx rfl (hb hby at_37) rfl ?_
      show Steps p.tables e below (T14.setTop (mkF m 38 #[.val (.int i1), .val (.int i2), .val (.int i3), .val (.int i4), .val (.int i5), .val (.int i6), .val (.int (1 : Int32)), .val (.int ((i6 &&& (2147483647 : Int32)) % (2 : Int32))), .val (.ref b12), .unset] [(.int i1), (.ref b12)])) _
      refine st16.trans ?_
      show Steps p.tables e below (T16.setTop (mkF m 41 #[.val (.int i1), .val (.int i2), .val (.int i3), .val (.int i4), .val (.int i5), .val (.int i6), .val (.int (1 : Int32)), .val (.int ((i6 &&& (2147483647 : Int32)) % (2 : Int32))), .val (.ref b12), .unset] [])) _
      refine XS.iload X16.here hx rfl (hb hby at_41) rfl ?_
      show Steps p.tables e below (T16.setTop (mkF m 43 #[.val (.int i1), .val (.int i2), .val (.int i3), .val (.int i4), .val (.int i5), .val (.int i6), .val (.int (1 : Int32)), .val (.int ((i6 &&& (2147483647 : Int32)) % (2 : Int32))), .val (.ref b12), .unset] [(.int (1 : Int32))])) _
      refine XS.iconst X16.here hx rfl (hb hby at_43) ?_
      show Steps p.tables e below (T16.setTop (mkF m 44 #[.val (.int i1), .val (.int i2), .val (.int i3), .val (.int i4), .val (.int i5), .val (.int i6), .val (.int (1 : Int32)), .val (.int ((i6 &&& (2147483647 : Int32)) % (2 : Int32))), .val (.ref b12), .unset] [(.int (1 : Int32)), (.int (1 : Int32))])) _
      refine XS.icmpYes X16.here hx rfl (pc0 := 44) (pc' := 53) rfl (hb hby at_44) rfl (flt (by decide : ¬ ((1 : Int32) < (1 : Int32)))).2.2.2 (by decide) (by decide) ?_
      show Steps p.tables e below (T16.setTop (mkF m 53 #[.val (.int i1), .val (.int i2), .val (.int i3), .val (.int i4), .val (.int i5), .val (.int i6), .val (.int (1 : Int32)), .val (.int ((i6 &&& (2147483647 : Int32)) % (2 : Int32))), .val (.ref b12), .unset] [])) _
      refine XS.iload X16.here hx rfl (hb hby at_53) rfl ?_
      show Steps p.tables e below (T16.setTop (mkF m 55 #[.val (.int i1), .val (.int i2), .val (.int i3), .val (.int i4), .val (.int i5), .val (.int i6), .val (.int (1 : Int32)), .val (.int ((i6 &&& (2147483647 : Int32)) % (2 : Int32))), .val (.ref b12), .unset] [(.int (1 : Int32))])) _
      refine XS.iconst X16.here hx rfl (hb hby at_55) ?_
      show Steps p.tables e below (T16.setTop (mkF m 56 #[.val (.int i1), .val (.int i2), .val (.int i3), .val (.int i4), .val (.int i5), .val (.int i6), .val (.int (1 : Int32)), .val (.int ((i6 &&& (2147483647 : Int32)) % (2 : Int32))), .val (.ref b12), .unset] [(.int (2 : Int32)), (.int (1 : Int32))])) _
      refine XS.icmpYes X16.here hx rfl (pc0 := 56) (pc' := 65) rfl (hb hby at_56) rfl (flt (by decide : ¬ ((2 : Int32) < (1 : Int32)))).2.2.2 (by decide) (by decide) ?_
      show Steps p.tables e below (T16.setTop (mkF m 65 #[.val (.int i1), .val (.int i2), .val (.int i3), .val (.int i4), .val (.int i5), .val (.int i6), .val (.int (1 : Int32)), .val (.int ((i6 &&& (2147483647 : Int32)) % (2 : Int32))), .val (.ref b12), .unset] [])) _
      refine XS.iload X16.here hx rfl (hb hby at_65) rfl ?_
      show Steps p.tables e below (T16.setTop (mkF m 67 #[.val (.int i1), .val (.int i2), .val (.int i3), .val (.int i4), .val (.int i5), .val (.int i6), .val (.int (1 : Int32)), .val (.int ((i6 &&& (2147483647 : Int32)) % (2 : Int32))), .val (.ref b12), .unset] [(.int (1 : Int32))])) _
      refine XS.iconst X16.here hx rfl (hb hby at_67) ?_
      show Steps p.tables e below (T16.setTop (mkF m 68 #[.val (.int i1), .val (.int i2), .val (.int i3), .val (.int i4), .val (.int i5), .val (.int i6), .val (.int (1 : Int32)), .val (.int ((i6 &&& (2147483647 : Int32)) % (2 : Int32))), .val (.ref b12), .unset] [(.int (3 : Int32)), (.int (1 : Int32))])) _
      refine XS.icmpYes X16.here hx rfl (pc0 := 68) (pc' := 77) rfl (hb hby at_68) rfl (flt (by decide : ¬ ((3 : Int32) < (1 : Int32)))).2.2.2 (by decide) (by decide) ?_
      show Steps p.tables e below (T16.setTop (mkF m 77 #[.val (.int i1), .val (.int i2), .val (.int i3), .val (.int i4), .val (.int i5), .val (.int i6), .val (.int (1 : Int32)), .val (.int ((i6 &&& (2147483647 : Int32)) % (2 : Int32))), .val (.ref b12), .unset] [])) _
      refine XS.aload X16.here hx rfl (hb hby at_77) rfl rfl ?_
      show Steps p.tables e below (T16.setTop (mkF m 79 #[.val (.int i1), .val (.int i2), .val (.int i3), .val (.int i4), .val (.int i5), .val (.int i6), .val (.int (1 : Int32)), .val (.int ((i6 &&& (2147483647 : Int32)) % (2 : Int32))), .val (.ref b12), .unset] [(.ref b12)])) _
      refine XS.iload X16.here hx rfl (hb hby at_79) rfl ?_
      show Steps p.tables e below (T16.setTop (mkF m 81 #[.val (.int i1), .val (.int i2), .val (.int i3), .val (.int i4), .val (.int i5), .val (.int i6), .val (.int (1 : Int32)), .val (.int ((i6 &&& (2147483647 : Int32)) % (2 : Int32))), .val (.ref b12), .unset] [(.int ((i6 &&& (2147483647 : Int32)) % (2 : Int32))), (.ref b12)])) _
      refine st18.trans ?_
      show Steps p.tables e below (T18.setTop (mkF m 84 #[.val (.int i1), .val (.int i2), .val (.int i3), .val (.int i4), .val (.int i5), .val (.int i6), .val (.int (1 : Int32)), .val (.int ((i6 &&& (2147483647 : Int32)) % (2 : Int32))), .val (.ref b12), .unset] [])) _
      refine XS.aload X18.here hx rfl (hb hby at_84) rfl rfl ?_
      show Steps p.tables e below (T18.setTop (mkF m 86 #[.val (.int i1), .val (.int i2), .val (.int i3), .val (.int i4), .val (.int i5), .val (.int i6), .val (.int (1 : Int32)), .val (.int ((i6 &&& (2147483647 : Int32)) % (2 : Int32))), .val (.ref b12), .unset] [(.ref b12)])) _
      refine st19.trans ?_
      show Steps p.tables e below (T19.setTop (mkF m 89 #[.val (.int i1), .val (.int i2), .val (.int i3), .val (.int i4), .val (.int i5), .val (.int i6), .val (.int (1 : Int32)), .val (.int ((i6 &&& (2147483647 : Int32)) % (2 : Int32))), .val (.ref b12), .unset] [(.int (1 : Int32))])) _
      refine XS.iload X19.here hx rfl (hb hby at_89) rfl ?_
      show Steps p.tables e below (T19.setTop (mkF m 91 #[.val (.int i1), .val (.int i2), .val (.int i3), .val (.int i4), .val (.int i5), .val (.int i6), .val (.int (1 : Int32)), .val (.int ((i6 &&& (2147483647 : Int32)) % (2 : Int32))), .val (.ref b12), .unset] [(.int (1 : Int32)), (.int (1 : Int32))])) _
      refine XS.icmpNo X19.here hx rfl (hb hby at_91) rfl (teq (by decide : (1 : Int32) = (1 : Int32))).2 ?_
      show Steps p.tables e below (T19.setTop (mkF m 94 #[.val (.int i1), .val (.int i2), .val (.int i3), .val (.int i4), .val (.int i5), .val (.int i6), .val (.int (1 : Int32)), .val (.int ((i6 &&& (2147483647 : Int32)) % (2 : Int32))), .val (.ref b12), .unset] [])) _
      refine XS.iconst X19.here hx rfl (hb hby at_94) ?_
      show Steps p.tables e below (T19.setTop (mkF m 95 #[.val (.int i1), .val (.int i2), .val (.int i3), .val (.int i4), .val (.int i5), .val (.int i6), .val (.int (1 : Int32)), .val (.int ((i6 &&& (2147483647 : Int32)) % (2 : Int32))), .val (.ref b12), .unset] [(.int (1 : Int32))])) _
      refine XS.goto X19.here hx rfl (pc0 := 95) (pc' := 99) rfl (hb hby at_95) (by decide) (by decide) ?_
      show Steps p.tables e below (T19.setTop (mkF m 99 #[.val (.int i1), .val (.int i2), .val (.int i3), .val (.int i4), .val (.int i5), .val (.int i6), .val (.int (1 : Int32)), .val (.int ((i6 &&& (2147483647 : Int32)) % (2 : Int32))), .val (.ref b12), .unset] [(.int (1 : Int32))])) _
      refine XS.istore X19.here hx rfl (hb hby at_99) rfl (l' := #[.val (.int i1), .val (.int i2), .val (.int i3), .val (.int i4), .val (.int i5), .val (.int i6), .val (.int (1 : Int32)), .val (.int ((i6 &&& (2147483647 : Int32)) % (2 : Int32))), .val (.ref b12), .val (.int (1 : Int32))]) rfl ?_
      show Steps p.tables e below (T19.setTop (mkF m 101 #[.val (.int i1), .val (.int i2), .val (.int i3), .val (.int i4), .val (.int i5), .val (.int i6), .val (.int (1 : Int32)), .val (.int ((i6 &&& (2147483647 : Int32)) % (2 : Int32))), .val (.ref b12), .val (.int (1 : Int32))] [])) _
      refine XS.iload X19.here hx rfl (hb hby at_101) rfl ?_
      show Steps p.tables e below (T19.setTop (mkF m 103 #[.val (.int i1), .val (.int i2), .val (.int i3), .val (.int i4), .val (.int i5), .val (.int i6), .val (.int (1 : Int32)), .val (.int ((i6 &&& (2147483647 : Int32)) % (2 : Int32))), .val (.ref b12), .val (.int (1 : Int32))] [(.int (1 : Int32))])) _
      refine XS.ifNo X19.here hx rfl (hb hby at_103) rfl ((if0 _ _).trans (feq (by decide : ¬ ((1 : Int32) = (0 : Int32)))).1) ?_
      show Steps p.tables e below (T19.setTop (mkF m 106 #[.val (.int i1), .val (.int i2), .val (.int i3), .val (.int i4), .val (.int i5), .val (.int i6), .val (.int (1 : Int32)), .val (.int ((i6 &&& (2147483647 : Int32)) % (2 : Int32))), .val (.ref b12), .val (.int (1 : Int32))] [])) _
      refine XS.iload X19.here hx rfl (hb hby at_106) rfl ?_
      show Steps p.tables e below (T19.setTop (mkF m 108 #[.val (.int i1), .val (.int i2), .val (.int i3), .val (.int i4), .val (.int i5), .val (.int i6), .val (.int (1 : Int32)), .val (.int ((i6 &&& (2147483647 : Int32)) % (2 : Int32))), .val (.ref b12), .val (.int (1 : Int32))] [(.int (1 : Int32))])) _
      refine XS.ifNo X19.here hx rfl (hb hby at_108) rfl ((if0 _ _).trans (tlt (by decide : (0 : Int32) < (1 : Int32))).2.2.2) ?_
      show Steps p.tables e below (T19.setTop (mkF m 111 #[.val (.int i1), .val (.int i2), .val (.int i3), .val (.int i4), .val (.int i5), .val (.int i6), .val (.int (1 : Int32)), .val (.int ((i6 &&& (2147483647 : Int32)) % (2 : Int32))), .val (.ref b12), .val (.int (1 : Int32))] [])) _
      refine XS.aload X19.here hx rfl (hb hby at_111) rfl rfl ?_
      show Steps p.tables e below (T19.setTop (mkF m 113 #[.val (.int i1), .val (.int i2), .val (.int i3), .val (.int i4), .val (.int i5), .val (.int i6), .val (.int (1 : Int32)), .val (.int ((i6 &&& (2147483647 : Int32)) % (2 : Int32))), .val (.ref b12), .val (.int (1 : Int32))] [(.ref b12)])) _
      refine XS.iconst X19.here hx rfl (hb hby at_113) ?_
      show Steps p.tables e below (T19.setTop (mkF m 114 #[.val (.int i1), .val (.int i2), .val (.int i3), .val (.int i4), .val (.int i5), .val (.int i6), .val (.int (1 : Int32)), .val (.int ((i6 &&& (2147483647 : Int32)) % (2 : Int32))), .val (.ref b12), .val (.int (1 : Int32))] [(.int (0 : Int32)), (.ref b12)])) _
      refine st20.trans ?_
      show Steps p.tables e below (T20.setTop (mkF m 117 #[.val (.int i1), .val (.int i2), .val (.int i3), .val (.int i4), .val (.int i5), .val (.int i6), .val (.int (1 : Int32)), .val (.int ((i6 &&& (2147483647 : Int32)) % (2 : Int32))), .val (.ref b12), .val (.int (1 : Int32))] [(.int i1)])) _
      refine XS.iconst X20.here hx rfl (hb hby at_117) ?_
      show Steps p.tables e below (T20.setTop (mkF m 118 #[.val (.int i1), .val (.int i2), .val (.int i3), .val (.int i4), .val (.int i5), .val (.int i6), .val (.int (1 : Int32)), .val (.int ((i6 &&& (2147483647 : Int32)) % (2 : Int32))), .val (.ref b12), .val (.int (1 : Int32))] [(.int (0 : Int32)), (.int i1)])) _
      refine XS.iload X20.here hx rfl (hb hby at_118) rfl ?_
      show Steps p.tables e below (T20.setTop (mkF m 120 #[.val (.int i1), .val (.int i2), .val (.int i3), .val (.int i4), .val (.int i5), .val (.int i6), .val (.int (1 : Int32)), .val (.int ((i6 &&& (2147483647 : Int32)) % (2 : Int32))), .val (.ref b12), .val (.int (1 : Int32))] [(.int ((i6 &&& (2147483647 : Int32)) % (2 : Int32))), (.int (0 : Int32)), (.int i1)])) _
      refine XS.iload X20.here hx rfl (hb hby at_120) rfl ?_
      show Steps p.tables e below (T20.setTop (mkF m 122 #[.val (.int i1), .val (.int i2), .val (.int i3), .val (.int i4), .val (.int i5), .val (.int i6), .val (.int (1 : Int32)), .val (.int ((i6 &&& (2147483647 : Int32)) % (2 : Int32))), .val (.ref b12), .val (.int (1 : Int32))] [(.int (1 : Int32)), (.int ((i6 &&& (2147483647 : Int32)) % (2 : Int32))), (.int (0 : Int32)), (.int i1)])) _
      refine XS.iloadN X20.here hx rfl (hb hby at_122) rfl ?_
      show Steps p.tables e below (T20.setTop (mkF m 123 #[.val (.int i1), .val (.int i2), .val (.int i3), .val (.int i4), .val (.int i5), .val (.int i6), .val (.int (1 : Int32)), .val (.int ((i6 &&& (2147483647 : Int32)) % (2 : Int32))), .val (.ref b12), .val (.int (1 : Int32))] [(.int i1), (.int (1 : Int32)), (.int ((i6 &&& (2147483647 : Int32)) % (2 : Int32))), (.int (0 : Int32)), (.int i1)])) _
      refine XS.iloadN X20.here hx rfl (hb hby at_123) rfl ?_
      show Steps p.tables e below (T20.setTop (mkF m 124 #[.val (.int i1), .val (.int i2), .val (.int i3), .val (.int i4), .val (.int i5), .val (.int i6), .val (.int (1 : Int32)), .val (.int ((i6 &&& (2147483647 : Int32)) % (2 : Int32))), .val (.ref b12), .val (.int (1 : Int32))] [(.int i2), (.int i1), (.int (1 : Int32)), (.int ((i6 &&& (2147483647 : Int32)) % (2 : Int32))), (.int (0 : Int32)), (.int i1)])) _
      refine XS.iloadN X20.here hx rfl (hb hby at_124) rfl ?_
      show Steps p.tables e below (T20.setTop (mkF m 125 #[.val (.int i1), .val (.int i2), .val (.int i3), .val (.int i4), .val (.int i5), .val (.int i6), .val (.int (1 : Int32)), .val (.int ((i6 &&& (2147483647 : Int32)) % (2 : Int32))), .val (.ref b12), .val (.int (1 : Int32))] [(.int i3), (.int i2), (.int i1), (.int (1 : Int32)), (.int ((i6 &&& (2147483647 : Int32)) % (2 : Int32))), (.int (0 : Int32)), (.int i1)])) _
      refine XS.iloadN X20.here hx rfl (hb hby at_125) rfl ?_
      show Steps p.tables e below (T20.setTop (mkF m 126 #[.val (.int i1), .val (.int i2), .val (.int i3), .val (.int i4), .val (.int i5), .val (.int i6), .val (.int (1 : Int32)), .val (.int ((i6 &&& (2147483647 : Int32)) % (2 : Int32))), .val (.ref b12), .val (.int (1 : Int32))] [(.int i4), (.int i3), (.int i2), (.int i1), (.int (1 : Int32)), (.int ((i6 &&& (2147483647 : Int32)) % (2 : Int32))), (.int (0 : Int32)), (.int i1)])) _
      refine st21 _ ?_
      exact k
    have pre26 : ∀ t, Steps p.tables e below (T21.setTop (mkF m 137 #[.val (.int i1), .val (.int i2), .val (.int i3), .val (.int i4), .val (.int i5), .val (.int i6), .val (.int (1 : Int32)), .val (.int ((i6 &&& (2147483647 : Int32)) % (2 : Int32))), .val (.ref b12), .val (.int (1 : Int32))] [(.int (own_j0_129_0 i1 i2 i3 i4 i6))])) t → Steps p.tables e below (s₁.setTop (entryFrame m #[(.int i1), (.int i2), (.int i3), (.int i4), (.int i5), (.int i6)] maxLocals)) t := by
      by_cases hc129_23 : i1 = (own_r10 (own_j9_2_0 (0 : Int32) ((i6 &&& (2147483647 : Int32)) % (2 : Int32)) (1 : Int32)) i1 i2 i3 i4)
      · have pre24 : ∀ t, Steps p.tables e below (T21.setTop (mkF m 137 #[.val (.int i1), .val (.int i2), .val (.int i3), .val (.int i4), .val (.int i5), .val (.int i6), .val (.int (1 : Int32)), .val (.int ((i6 &&& (2147483647 : Int32)) % (2 : Int32))), .val (.ref b12), .val (.int (1 : Int32))] [(.int (1 : Int32))])) t → Steps p.tables e below (s₁.setTop (entryFrame m #[(.int i1), (.int i2), (.int i3), (.int i4), (.int i5), (.int i6)] maxLocals)) t := by
          intro t k
          refine pre22 _ ?_
          show Steps p.tables e below (T21.setTop (mkF m 129 #[.val (.int i1), .val (.int i2), .val (.int i3), .val (.int i4), .val (.int i5), .val (.int i6), .val (.int (1 : Int32)), .val (.int ((i6 &&& (2147483647 : Int32)) % (2 : Int32))), .val (.ref b12), .val (.int (1 : Int32))] [(.int (own_r10 (own_j9_2_0 (0 : Int32) ((i6 &&& (2147483647 : Int32)) % (2 : Int32)) (1 : Int32)) i1 i2 i3 i4)), (.int i1)])) _
          refine XS.icmpNo X21.here hx rfl (hb hby at_129) rfl (teq hc129_23).2 ?_
          show Steps p.tables e below (T21.setTop (mkF m 132 #[.val (.int i1), .val (.int i2), .val (.int i3), .val (.int i4), .val (.int i5), .val (.int i6), .val (.int (1 : Int32)), .val (.int ((i6 &&& (2147483647 : Int32)) % (2 : Int32))), .val (.ref b12), .val (.int (1 : Int32))] [])) _
          refine XS.iconst X21.here hx rfl (hb hby at_132) ?_
          show Steps p.tables e below (T21.setTop (mkF m 133 #[.val (.int i1), .val (.int i2), .val (.int i3), .val (.int i4), .val (.int i5), .val (.int i6), .val (.int (1 : Int32)), .val (.int ((i6 &&& (2147483647 : Int32)) % (2 : Int32))), .val (.ref b12), .val (.int (1 : Int32))] [(.int (1 : Int32))])) _
          refine XS.goto X21.here hx rfl (pc0 := 133) (pc' := 137) rfl (hb hby at_133) (by decide) (by decide) ?_
          exact k
        exact fun t k => pre24 t (by rw [show (own_j0_129_0 i1 i2 i3 i4 i6) = (1 : Int32) from (if_pos hc129_23)] at k; exact k)
      · have pre25 : ∀ t, Steps p.tables e below (T21.setTop (mkF m 137 #[.val (.int i1), .val (.int i2), .val (.int i3), .val (.int i4), .val (.int i5), .val (.int i6), .val (.int (1 : Int32)), .val (.int ((i6 &&& (2147483647 : Int32)) % (2 : Int32))), .val (.ref b12), .val (.int (1 : Int32))] [(.int (0 : Int32))])) t → Steps p.tables e below (s₁.setTop (entryFrame m #[(.int i1), (.int i2), (.int i3), (.int i4), (.int i5), (.int i6)] maxLocals)) t := by
          intro t k
          refine pre22 _ ?_
          show Steps p.tables e below (T21.setTop (mkF m 129 #[.val (.int i1), .val (.int i2), .val (.int i3), .val (.int i4), .val (.int i5), .val (.int i6), .val (.int (1 : Int32)), .val (.int ((i6 &&& (2147483647 : Int32)) % (2 : Int32))), .val (.ref b12), .val (.int (1 : Int32))] [(.int (own_r10 (own_j9_2_0 (0 : Int32) ((i6 &&& (2147483647 : Int32)) % (2 : Int32)) (1 : Int32)) i1 i2 i3 i4)), (.int i1)])) _
          refine XS.icmpYes X21.here hx rfl (pc0 := 129) (pc' := 136) rfl (hb hby at_129) rfl (feq hc129_23).2 (by decide) (by decide) ?_
          show Steps p.tables e below (T21.setTop (mkF m 136 #[.val (.int i1), .val (.int i2), .val (.int i3), .val (.int i4), .val (.int i5), .val (.int i6), .val (.int (1 : Int32)), .val (.int ((i6 &&& (2147483647 : Int32)) % (2 : Int32))), .val (.ref b12), .val (.int (1 : Int32))] [])) _
          refine XS.iconst X21.here hx rfl (hb hby at_136) ?_
          exact k
        exact fun t k => pre25 t (by rw [show (own_j0_129_0 i1 i2 i3 i4 i6) = (0 : Int32) from (if_neg hc129_23)] at k; exact k)
    have pre27 : ∀ t, Steps p.tables e below (T21.setTop (mkF m 141 #[.val (.int i1), .val (.int i2), .val (.int i3), .val (.int i4), .val (.int i5), .val (.int i6), .val (.int (1 : Int32)), .val (.int ((i6 &&& (2147483647 : Int32)) % (2 : Int32))), .val (.ref b12), .val (.int (own_j0_129_0 i1 i2 i3 i4 i6))] [(.int (own_j0_129_0 i1 i2 i3 i4 i6))])) t → Steps p.tables e below (s₁.setTop (entryFrame m #[(.int i1), (.int i2), (.int i3), (.int i4), (.int i5), (.int i6)] maxLocals)) t := by
      intro t k
      refine pre26 _ ?_
      show Steps p.tables e below (T21.setTop (mkF m 137 #[.val (.int i1), .val (.int i2), .val (.int i3), .val (.int i4), .val (.int i5), .val (.int i6), .val (.int (1 : Int32)), .val (.int ((i6 &&& (2147483647 : Int32)) % (2 : Int32))), .val (.ref b12), .val (.int (1 : Int32))] [(.int (own_j0_129_0 i1 i2 i3 i4 i6))])) _
      refine XS.istore X21.here hx rfl (hb hby at_137) rfl (l' := #[.val (.int i1), .val (.int i2), .val (.int i3), .val (.int i4), .val (.int i5), .val (.int i6), .val (.int (1 : Int32)), .val (.int ((i6 &&& (2147483647 : Int32)) % (2 : Int32))), .val (.ref b12), .val (.int (own_j0_129_0 i1 i2 i3 i4 i6))]) rfl ?_
      show Steps p.tables e below (T21.setTop (mkF m 139 #[.val (.int i1), .val (.int i2), .val (.int i3), .val (.int i4), .val (.int i5), .val (.int i6), .val (.int (1 : Int32)), .val (.int ((i6 &&& (2147483647 : Int32)) % (2 : Int32))), .val (.ref b12), .val (.int (own_j0_129_0 i1 i2 i3 i4 i6))] [])) _
      refine XS.iload X21.here hx rfl (hb hby at_139) rfl ?_
      exact k
    have pre31 : ∀ t, Steps p.tables e below (T21.setTop (mkF m 178 #[.val (.int i1), .val (.int i2), .val (.int i3), .val (.int i4), .val (.int i5), .val (.int i6), .val (.int (1 : Int32)), .val (.int ((i6 &&& (2147483647 : Int32)) % (2 : Int32))), .val (.ref b12), .val (.int (own_j0_129_0 i1 i2 i3 i4 i6))] [])) t → Steps p.tables e below (s₁.setTop (entryFrame m #[(.int i1), (.int i2), (.int i3), (.int i4), (.int i5), (.int i6)] maxLocals)) t := by
      by_cases hc141_28 : (own_j0_129_0 i1 i2 i3 i4 i6) = (0 : Int32)
      · have pre29 : ∀ t, Steps p.tables e below (T21.setTop (mkF m 178 #[.val (.int i1), .val (.int i2), .val (.int i3), .val (.int i4), .val (.int i5), .val (.int i6), .val (.int (1 : Int32)), .val (.int ((i6 &&& (2147483647 : Int32)) % (2 : Int32))), .val (.ref b12), .val (.int (own_j0_129_0 i1 i2 i3 i4 i6))] [])) t → Steps p.tables e below (s₁.setTop (entryFrame m #[(.int i1), (.int i2), (.int i3), (.int i4), (.int i5), (.int i6)] maxLocals)) t := by
          intro t k
          refine pre27 _ ?_
          show Steps p.tables e below (T21.setTop (mkF m 141 #[.val (.int i1), .val (.int i2), .val (.int i3), .val (.int i4), .val (.int i5), .val (.int i6), .val (.int (1 : Int32)), .val (.int ((i6 &&& (2147483647 : Int32)) % (2 : Int32))), .val (.ref b12), .val (.int (own_j0_129_0 i1 i2 i3 i4 i6))] [(.int (own_j0_129_0 i1 i2 i3 i4 i6))])) _
          refine XS.ifYes X21.here hx rfl (pc0 := 141) (pc' := 178) rfl (hb hby at_141) rfl ((if0 _ _).trans (teq hc141_28).1) (by decide) (by decide) ?_
          exact k
        exact pre29
      · have pre30 : ∀ t, Steps p.tables e below (T21.setTop (mkF m 178 #[.val (.int i1), .val (.int i2), .val (.int i3), .val (.int i4), .val (.int i5), .val (.int i6), .val (.int (1 : Int32)), .val (.int ((i6 &&& (2147483647 : Int32)) % (2 : Int32))), .val (.ref b12), .val (.int (own_j0_129_0 i1 i2 i3 i4 i6))] [])) t → Steps p.tables e below (s₁.setTop (entryFrame m #[(.int i1), (.int i2), (.int i3), (.int i4), (.int i5), (.int i6)] maxLocals)) t := by
          intro t k
          refine pre27 _ ?_
          show Steps p.tables e below (T21.setTop (mkF m 141 #[.val (.int i1), .val (.int i2), .val (.int i3), .val (.int i4), .val (.int i5), .val (.int i6), .val (.int (1 : Int32)), .val (.int ((i6 &&& (2147483647 : Int32)) % (2 : Int32))), .val (.ref b12), .val (.int (own_j0_129_0 i1 i2 i3 i4 i6))] [(.int (own_j0_129_0 i1 i2 i3 i4 i6))])) _
          refine XS.ifNo X21.here hx rfl (hb hby at_141) rfl ((if0 _ _).trans (feq hc141_28).1) ?_
          show Steps p.tables e below (T21.setTop (mkF m 144 #[.val (.int i1), .val (.int i2), .val (.int i3), .val (.int i4), .val (.int i5), .val (.int i6), .val (.int (1 : Int32)), .val (.int ((i6 &&& (2147483647 : Int32)) % (2 : Int32))), .val (.ref b12), .val (.int (own_j0_129_0 i1 i2 i3 i4 i6))] [])) _
          refine XS.iload X21.here hx rfl (hb hby at_144) rfl ?_
          show Steps p.tables e below (T21.setTop (mkF m 146 #[.val (.int i1), .val (.int i2), .val (.int i3), .val (.int i4), .val (.int i5), .val (.int i6), .val (.int (1 : Int32)), .val (.int ((i6 &&& (2147483647 : Int32)) % (2 : Int32))), .val (.ref b12), .val (.int (own_j0_129_0 i1 i2 i3 i4 i6))] [(.int (1 : Int32))])) _
          refine XS.iconst X21.here hx rfl (hb hby at_146) ?_
          show Steps p.tables e below (T21.setTop (mkF m 147 #[.val (.int i1), .val (.int i2), .val (.int i3), .val (.int i4), .val (.int i5), .val (.int i6), .val (.int (1 : Int32)), .val (.int ((i6 &&& (2147483647 : Int32)) % (2 : Int32))), .val (.ref b12), .val (.int (own_j0_129_0 i1 i2 i3 i4 i6))] [(.int (1 : Int32)), (.int (1 : Int32))])) _
          refine XS.icmpYes X21.here hx rfl (pc0 := 147) (pc' := 178) rfl (hb hby at_147) rfl (flt (by decide : ¬ ((1 : Int32) < (1 : Int32)))).2.2.2 (by decide) (by decide) ?_
          exact k
        exact pre30
    have pre32 : ∀ t, Steps p.tables e below (T21.setTop (mkF m 180 #[.val (.int i1), .val (.int i2), .val (.int i3), .val (.int i4), .val (.int i5), .val (.int i6), .val (.int (1 : Int32)), .val (.int ((i6 &&& (2147483647 : Int32)) % (2 : Int32))), .val (.ref b12), .val (.int (own_j0_129_0 i1 i2 i3 i4 i6))] [(.int (own_j0_129_0 i1 i2 i3 i4 i6))])) t → Steps p.tables e below (s₁.setTop (entryFrame m #[(.int i1), (.int i2), (.int i3), (.int i4), (.int i5), (.int i6)] maxLocals)) t := by
      intro t k
      refine pre31 _ ?_
      show Steps p.tables e below (T21.setTop (mkF m 178 #[.val (.int i1), .val (.int i2), .val (.int i3), .val (.int i4), .val (.int i5), .val (.int i6), .val (.int (1 : Int32)), .val (.int ((i6 &&& (2147483647 : Int32)) % (2 : Int32))), .val (.ref b12), .val (.int (own_j0_129_0 i1 i2 i3 i4 i6))] [])) _
      refine XS.iload X21.here hx rfl (hb hby at_178) rfl ?_
      exact k
    have pre36 : ∀ t, Steps p.tables e below (T21.setTop (mkF m 217 #[.val (.int i1), .val (.int i2), .val (.int i3), .val (.int i4), .val (.int i5), .val (.int i6), .val (.int (1 : Int32)), .val (.int ((i6 &&& (2147483647 : Int32)) % (2 : Int32))), .val (.ref b12), .val (.int (own_j0_129_0 i1 i2 i3 i4 i6))] [])) t → Steps p.tables e below (s₁.setTop (entryFrame m #[(.int i1), (.int i2), (.int i3), (.int i4), (.int i5), (.int i6)] maxLocals)) t := by
      by_cases hc180_33 : (own_j0_129_0 i1 i2 i3 i4 i6) = (0 : Int32)
      · have pre34 : ∀ t, Steps p.tables e below (T21.setTop (mkF m 217 #[.val (.int i1), .val (.int i2), .val (.int i3), .val (.int i4), .val (.int i5), .val (.int i6), .val (.int (1 : Int32)), .val (.int ((i6 &&& (2147483647 : Int32)) % (2 : Int32))), .val (.ref b12), .val (.int (own_j0_129_0 i1 i2 i3 i4 i6))] [])) t → Steps p.tables e below (s₁.setTop (entryFrame m #[(.int i1), (.int i2), (.int i3), (.int i4), (.int i5), (.int i6)] maxLocals)) t := by
          intro t k
          refine pre32 _ ?_
          show Steps p.tables e below (T21.setTop (mkF m 180 #[.val (.int i1), .val (.int i2), .val (.int i3), .val (.int i4), .val (.int i5), .val (.int i6), .val (.int (1 : Int32)), .val (.int ((i6 &&& (2147483647 : Int32)) % (2 : Int32))), .val (.ref b12), .val (.int (own_j0_129_0 i1 i2 i3 i4 i6))] [(.int (own_j0_129_0 i1 i2 i3 i4 i6))])) _
          refine XS.ifYes X21.here hx rfl (pc0 := 180) (pc' := 217) rfl (hb hby at_180) rfl ((if0 _ _).trans (teq hc180_33).1) (by decide) (by decide) ?_
          exact k
        exact pre34
      · have pre35 : ∀ t, Steps p.tables e below (T21.setTop (mkF m 217 #[.val (.int i1), .val (.int i2), .val (.int i3), .val (.int i4), .val (.int i5), .val (.int i6), .val (.int (1 : Int32)), .val (.int ((i6 &&& (2147483647 : Int32)) % (2 : Int32))), .val (.ref b12), .val (.int (own_j0_129_0 i1 i2 i3 i4 i6))] [])) t → Steps p.tables e below (s₁.setTop (entryFrame m #[(.int i1), (.int i2), (.int i3), (.int i4), (.int i5), (.int i6)] maxLocals)) t := by
          intro t k
          refine pre32 _ ?_
          show Steps p.tables e below (T21.setTop (mkF m 180 #[.val (.int i1), .val (.int i2), .val (.int i3), .val (.int i4), .val (.int i5), .val (.int i6), .val (.int (1 : Int32)), .val (.int ((i6 &&& (2147483647 : Int32)) % (2 : Int32))), .val (.ref b12), .val (.int (own_j0_129_0 i1 i2 i3 i4 i6))] [(.int (own_j0_129_0 i1 i2 i3 i4 i6))])) _
          refine XS.ifNo X21.here hx rfl (hb hby at_180) rfl ((if0 _ _).trans (feq hc180_33).1) ?_
          show Steps p.tables e below (T21.setTop (mkF m 183 #[.val (.int i1), .val (.int i2), .val (.int i3), .val (.int i4), .val (.int i5), .val (.int i6), .val (.int (1 : Int32)), .val (.int ((i6 &&& (2147483647 : Int32)) % (2 : Int32))), .val (.ref b12), .val (.int (own_j0_129_0 i1 i2 i3 i4 i6))] [])) _
          refine XS.iload X21.here hx rfl (hb hby at_183) rfl ?_
          show Steps p.tables e below (T21.setTop (mkF m 185 #[.val (.int i1), .val (.int i2), .val (.int i3), .val (.int i4), .val (.int i5), .val (.int i6), .val (.int (1 : Int32)), .val (.int ((i6 &&& (2147483647 : Int32)) % (2 : Int32))), .val (.ref b12), .val (.int (own_j0_129_0 i1 i2 i3 i4 i6))] [(.int (1 : Int32))])) _
          refine XS.iconst X21.here hx rfl (hb hby at_185) ?_
          show Steps p.tables e below (T21.setTop (mkF m 186 #[.val (.int i1), .val (.int i2), .val (.int i3), .val (.int i4), .val (.int i5), .val (.int i6), .val (.int (1 : Int32)), .val (.int ((i6 &&& (2147483647 : Int32)) % (2 : Int32))), .val (.ref b12), .val (.int (own_j0_129_0 i1 i2 i3 i4 i6))] [(.int (2 : Int32)), (.int (1 : Int32))])) _
          refine XS.icmpYes X21.here hx rfl (pc0 := 186) (pc' := 217) rfl (hb hby at_186) rfl (flt (by decide : ¬ ((2 : Int32) < (1 : Int32)))).2.2.2 (by decide) (by decide) ?_
          exact k
        exact pre35
    have pre37 : ∀ t, Steps p.tables e below (T21.setTop (mkF m 219 #[.val (.int i1), .val (.int i2), .val (.int i3), .val (.int i4), .val (.int i5), .val (.int i6), .val (.int (1 : Int32)), .val (.int ((i6 &&& (2147483647 : Int32)) % (2 : Int32))), .val (.ref b12), .val (.int (own_j0_129_0 i1 i2 i3 i4 i6))] [(.int (own_j0_129_0 i1 i2 i3 i4 i6))])) t → Steps p.tables e below (s₁.setTop (entryFrame m #[(.int i1), (.int i2), (.int i3), (.int i4), (.int i5), (.int i6)] maxLocals)) t := by
      intro t k
      refine pre36 _ ?_
      show Steps p.tables e below (T21.setTop (mkF m 217 #[.val (.int i1), .val (.int i2), .val (.int i3), .val (.int i4), .val (.int i5), .val (.int i6), .val (.int (1 : Int32)), .val (.int ((i6 &&& (2147483647 : Int32)) % (2 : Int32))), .val (.ref b12), .val (.int (own_j0_129_0 i1 i2 i3 i4 i6))] [])) _
      refine XS.iload X21.here hx rfl (hb hby at_217) rfl ?_
      exact k
    have pre41 : ∀ t, Steps p.tables e below (T21.setTop (mkF m 256 #[.val (.int i1), .val (.int i2), .val (.int i3), .val (.int i4), .val (.int i5), .val (.int i6), .val (.int (1 : Int32)), .val (.int ((i6 &&& (2147483647 : Int32)) % (2 : Int32))), .val (.ref b12), .val (.int (own_j0_129_0 i1 i2 i3 i4 i6))] [])) t → Steps p.tables e below (s₁.setTop (entryFrame m #[(.int i1), (.int i2), (.int i3), (.int i4), (.int i5), (.int i6)] maxLocals)) t := by
      by_cases hc219_38 : (own_j0_129_0 i1 i2 i3 i4 i6) = (0 : Int32)
      · have pre39 : ∀ t, Steps p.tables e below (T21.setTop (mkF m 256 #[.val (.int i1), .val (.int i2), .val (.int i3), .val (.int i4), .val (.int i5), .val (.int i6), .val (.int (1 : Int32)), .val (.int ((i6 &&& (2147483647 : Int32)) % (2 : Int32))), .val (.ref b12), .val (.int (own_j0_129_0 i1 i2 i3 i4 i6))] [])) t → Steps p.tables e below (s₁.setTop (entryFrame m #[(.int i1), (.int i2), (.int i3), (.int i4), (.int i5), (.int i6)] maxLocals)) t := by
          intro t k
          refine pre37 _ ?_
          show Steps p.tables e below (T21.setTop (mkF m 219 #[.val (.int i1), .val (.int i2), .val (.int i3), .val (.int i4), .val (.int i5), .val (.int i6), .val (.int (1 : Int32)), .val (.int ((i6 &&& (2147483647 : Int32)) % (2 : Int32))), .val (.ref b12), .val (.int (own_j0_129_0 i1 i2 i3 i4 i6))] [(.int (own_j0_129_0 i1 i2 i3 i4 i6))])) _
          refine XS.ifYes X21.here hx rfl (pc0 := 219) (pc' := 256) rfl (hb hby at_219) rfl ((if0 _ _).trans (teq hc219_38).1) (by decide) (by decide) ?_
          exact k
        exact pre39
      · have pre40 : ∀ t, Steps p.tables e below (T21.setTop (mkF m 256 #[.val (.int i1), .val (.int i2), .val (.int i3), .val (.int i4), .val (.int i5), .val (.int i6), .val (.int (1 : Int32)), .val (.int ((i6 &&& (2147483647 : Int32)) % (2 : Int32))), .val (.ref b12), .val (.int (own_j0_129_0 i1 i2 i3 i4 i6))] [])) t → Steps p.tables e below (s₁.setTop (entryFrame m #[(.int i1), (.int i2), (.int i3), (.int i4), (.int i5), (.int i6)] maxLocals)) t := by
          intro t k
          refine pre37 _ ?_
          show Steps p.tables e below (T21.setTop (mkF m 219 #[.val (.int i1), .val (.int i2), .val (.int i3), .val (.int i4), .val (.int i5), .val (.int i6), .val (.int (1 : Int32)), .val (.int ((i6 &&& (2147483647 : Int32)) % (2 : Int32))), .val (.ref b12), .val (.int (own_j0_129_0 i1 i2 i3 i4 i6))] [(.int (own_j0_129_0 i1 i2 i3 i4 i6))])) _
          refine XS.ifNo X21.here hx rfl (hb hby at_219) rfl ((if0 _ _).trans (feq hc219_38).1) ?_
          show Steps p.tables e below (T21.setTop (mkF m 222 #[.val (.int i1), .val (.int i2), .val (.int i3), .val (.int i4), .val (.int i5), .val (.int i6), .val (.int (1 : Int32)), .val (.int ((i6 &&& (2147483647 : Int32)) % (2 : Int32))), .val (.ref b12), .val (.int (own_j0_129_0 i1 i2 i3 i4 i6))] [])) _
          refine XS.iload X21.here hx rfl (hb hby at_222) rfl ?_
          show Steps p.tables e below (T21.setTop (mkF m 224 #[.val (.int i1), .val (.int i2), .val (.int i3), .val (.int i4), .val (.int i5), .val (.int i6), .val (.int (1 : Int32)), .val (.int ((i6 &&& (2147483647 : Int32)) % (2 : Int32))), .val (.ref b12), .val (.int (own_j0_129_0 i1 i2 i3 i4 i6))] [(.int (1 : Int32))])) _
          refine XS.iconst X21.here hx rfl (hb hby at_224) ?_
          show Steps p.tables e below (T21.setTop (mkF m 225 #[.val (.int i1), .val (.int i2), .val (.int i3), .val (.int i4), .val (.int i5), .val (.int i6), .val (.int (1 : Int32)), .val (.int ((i6 &&& (2147483647 : Int32)) % (2 : Int32))), .val (.ref b12), .val (.int (own_j0_129_0 i1 i2 i3 i4 i6))] [(.int (3 : Int32)), (.int (1 : Int32))])) _
          refine XS.icmpYes X21.here hx rfl (pc0 := 225) (pc' := 256) rfl (hb hby at_225) rfl (flt (by decide : ¬ ((3 : Int32) < (1 : Int32)))).2.2.2 (by decide) (by decide) ?_
          exact k
        exact pre40
    have pre42 : ∀ t, Steps p.tables e below (T21.setTop (mkF m 258 #[.val (.int i1), .val (.int i2), .val (.int i3), .val (.int i4), .val (.int i5), .val (.int i6), .val (.int (1 : Int32)), .val (.int ((i6 &&& (2147483647 : Int32)) % (2 : Int32))), .val (.ref b12), .val (.int (own_j0_129_0 i1 i2 i3 i4 i6))] [(.int (own_j0_129_0 i1 i2 i3 i4 i6))])) t → Steps p.tables e below (s₁.setTop (entryFrame m #[(.int i1), (.int i2), (.int i3), (.int i4), (.int i5), (.int i6)] maxLocals)) t := by
      intro t k
      refine pre41 _ ?_
      show Steps p.tables e below (T21.setTop (mkF m 256 #[.val (.int i1), .val (.int i2), .val (.int i3), .val (.int i4), .val (.int i5), .val (.int i6), .val (.int (1 : Int32)), .val (.int ((i6 &&& (2147483647 : Int32)) % (2 : Int32))), .val (.ref b12), .val (.int (own_j0_129_0 i1 i2 i3 i4 i6))] [])) _
      refine XS.iload X21.here hx rfl (hb hby at_256) rfl ?_
      exact k
    obtain ⟨fs, hr, hrun, hended, hW, hsame⟩ := X21.leave (v := some (.int (nar .boolean (own_j0_129_0 i1 i2 i3 i4 i6)))) (fun h => by rw [Bd.returns] at h; cases h)
    refine ⟨_, _, pre42 _ ?_, hrun, hended, _, _, rfl, ?_, ⟨_, rfl⟩, hW, hsame.mono (by decide) (by decide)⟩
    · show Steps p.tables e below (T21.setTop (mkF m 258 #[.val (.int i1), .val (.int i2), .val (.int i3), .val (.int i4), .val (.int i5), .val (.int i6), .val (.int (1 : Int32)), .val (.int ((i6 &&& (2147483647 : Int32)) % (2 : Int32))), .val (.ref b12), .val (.int (own_j0_129_0 i1 i2 i3 i4 i6))] [(.int (own_j0_129_0 i1 i2 i3 i4 i6))])) _
      exact retN X21 hx (t := .boolean) Bd.returns (by simp) (hb hby at_258) hr
    · show Q0 Z i1 i2 i3 i4 i5 i6 h0 n0 _ T21.heap _
      rw [e21]
      exact ⟨congrArg (fun z => some (Value.int z)) (show (own_r0 i1 i2 i3 i4 i5 i6) = (nar .boolean (own_j0_129_0 i1 i2 i3 i4 i6)) from ((if_neg (by rw [hk2]; decide)).trans (if_pos hk2))).symm, N21⟩
  · have pre43 : ∀ t, Steps p.tables e below (s₁.setTop (mkF m 9 #[.val (.int i1), .val (.int i2), .val (.int i3), .val (.int i4), .val (.int i5), .val (.int i6), .val (.int (2 : Int32)), .unset, .unset, .unset] [])) t → Steps p.tables e below (s₁.setTop (entryFrame m #[(.int i1), (.int i2), (.int i3), (.int i4), (.int i5), (.int i6)] maxLocals)) t := fun t k => pre1 t (by rw [hk2]; exact k)
    obtain ⟨T44, h44, X44, e44, E44, A44, D44, -, st44⟩ := newO X0 hx hZ hown (hw _ (List.mem_of_getElem? (i := 1) rfl)) (hw _ (List.mem_of_getElem? (i := 2) rfl)) (hw _ (List.mem_of_getElem? (i := 3) rfl)) e0 (g := (mkF m 21 #[.val (.int i1), .val (.int i2), .val (.int i3), .val (.int i4), .val (.int i5), .val (.int i6), .val (.int (2 : Int32)), .val (.int ((i6 &&& (2147483647 : Int32)) % (3 : Int32))), .unset, .unset] [])) rfl (hb hby at_21) (by decide) (by decide)
    obtain ⟨b44, g44⟩ : ∃ z, z = h0.size := ⟨_, rfl⟩
    rw [← g44] at A44 D44 st44
    have sz_b44 : h0.size ≤ b44 := Nat.le_trans (Keep.refl h0 []).1 (Nat.le_of_eq g44.symm)
    have K45 : Keep h0 h44 [] := (Keep.refl h0 []).ext E44
    have Fnumbers_44 : Fld Z h44 b44 "com/example/baum/baum/query/NodeList$Builder" "numbers" "[I" .null := D44 (Or.inl (hw _ (List.mem_of_getElem? (i := 12) rfl))) (ty := (.array .int)) (by decide)
    have Fsize_44 : Fld Z h44 b44 "com/example/baum/baum/query/NodeList$Builder" "size" "I" (.int (0 : Int32)) := D44 (Or.inl (hw _ (List.mem_of_getElem? (i := 19) rfl))) (ty := .int) (by decide)
    obtain ⟨_, _, ⟨T46, L46, k46, n46⟩, -, X46, ⟨Lc46, hQ46, l46, y46, z46⟩, st46⟩ := X44.specialBack hx (y := (⟨"com/example/baum/baum/query/NodeList$Builder", "<init>", "()V"⟩ : MethodName)) rfl hown (mvT hZ (hw _ (List.mem_of_getElem? (i := 4) rfl))) (mvT hZ (hw _ (List.mem_of_getElem? (i := 5) rfl))) (mvT hZ (hw _ (List.mem_of_getElem? (i := 6) rfl))) (by decide) (backOf (W := 1) (rm1 l Z a0 hw [] b44 (.int (0 : Int32)) (.null) h44 n0 (Nat.le_trans Z0 K45.1) Fsize_44 A44 Fnumbers_44 (Nat.le_trans Z0 sz_b44)) hZ (hw _ (List.mem_of_getElem? (i := 6) rfl)) (hw _ (List.mem_of_getElem? (i := 3) rfl)) (by decide) (by decide)) (g := (mkF m 25 #[.val (.int i1), .val (.int i2), .val (.int i3), .val (.int i4), .val (.int i5), .val (.int i6), .val (.int (2 : Int32)), .val (.int ((i6 &&& (2147483647 : Int32)) % (3 : Int32))), .unset, .unset] [(.ref b44), (.ref b44)])) rfl (by rw [hml]; rfl) (Steps.refl _) (a := b44) (argsL := []) (rest := [(.ref b44)]) (lenOf pd_0 rfl) rfl (by show 2 * 0 + _ ≤ _; exact Nat.le_of_eq rfl) (hb hby at_25) (fun _ _ => ⟨rfl, e44, (by decide : 1 + 1 ≤ _), (by decide : 2 + 16 ≤ _)⟩)
    dsimp only [Pt.U, Pt.locs, Pt.cells, Pt.slots] at X46 l46 y46 z46 st46 hQ46
    subst l46 y46 z46
    obtain ⟨b46_0, k46_1, rfl, Nq46, Kq46, sq46_0, f46_0, f46_1, f46_2, f46_3⟩ := hQ46
    have sz_b46_0 : h0.size ≤ b46_0 := Nat.le_trans K45.1 sq46_0
    have K47 : Keep h0 T46.heap [] := K45.trans Kq46 (allS (Or.inr sz_b44) all0)
    have N46 := Fr.app N0 Nq46
    obtain ⟨cq48, kq48, q48a, q48b, q48c⟩ := isOf hZ rfl f46_1
    obtain ⟨_, _, ⟨T48, L48, k48, n48⟩, -, X48, ⟨Lc48, hQ48, l48, y48, z48⟩, st48⟩ := X46.virtualBack hx (y := (⟨"com/example/baum/baum/query/NodeList$Builder", "add", "(I)V"⟩ : MethodName)) (z := (⟨"com/example/baum/baum/query/NodeList$Builder", "add", "(I)V"⟩ : MethodName)) hown (mvT hZ (hw _ (List.mem_of_getElem? (i := 25) rfl))) (mvT hZ (hw _ (List.mem_of_getElem? (i := 26) rfl))) (notFace_of_selects (args := #[]) (mvT hZ (hw _ (List.mem_of_getElem? (i := 28) rfl)))) (mvT hZ (hw _ (List.mem_of_getElem? (i := 28) rfl))) (mvT hZ (hw _ (List.mem_of_getElem? (i := 27) rfl))) (by decide) (backOf (W := 0) (rm5 l Z a0 hw [] b44 i1 b46_0 k46_1 T46.heap n0 (Nat.le_trans Z0 K47.1) f46_3 f46_2 f46_0 f46_1 (Nat.le_trans Z0 sz_b44) (Ne.symm (Nat.ne_of_lt (Nat.lt_of_lt_of_le A44.lt (Nat.le_trans (Nat.le_refl _) sq46_0)))) (Nat.le_trans Z0 sz_b46_0)) hZ (hw _ (List.mem_of_getElem? (i := 29) rfl)) (hw _ (List.mem_of_getElem? (i := 3) rfl)) (by decide) (by decide)) q48a q48c (g := (mkF m 38 #[.val (.int i1), .val (.int i2), .val (.int i3), .val (.int i4), .val (.int i5), .val (.int i6), .val (.int (2 : Int32)), .val (.int ((i6 &&& (2147483647 : Int32)) % (3 : Int32))), .val (.ref b44), .unset] [(.int i1), (.ref b44)])) rfl (by rw [hml]; rfl) (Steps.refl _) (argsL := [(.int i1)]) (rest := []) (lenOf pd_1 rfl) rfl (by show 2 * 0 + _ ≤ _; exact Nat.le_of_eq rfl) (hb hby at_38) (fun _ _ => ⟨rfl, rfl, (by decide : 2 + 0 ≤ _), (by decide : 18 + 0 ≤ _)⟩)
    dsimp only [Pt.U, Pt.locs, Pt.cells, Pt.slots] at X48 l48 y48 z48 st48 hQ48
    subst l48 y48 z48
    obtain ⟨rfl, Nq48, Kq48, f48_0, f48_1, f48_2, f48_3⟩ := hQ48
    have K49 : Keep h0 T48.heap [] := K47.trans Kq48 (allS (Or.inr sz_b44) (allS (Or.inr sz_b46_0) all0))
    have N48 := Fr.app N46 Nq48
    obtain ⟨cq50, kq50, q50a, q50b, q50c⟩ := isOf hZ rfl f48_3
    obtain ⟨_, _, ⟨T50, L50, k50, n50⟩, -, X50, ⟨Lc50, hQ50, l50, y50, z50⟩, st50⟩ := X48.virtualBack hx (y := (⟨"com/example/baum/baum/query/NodeList$Builder", "add", "(I)V"⟩ : MethodName)) (z := (⟨"com/example/baum/baum/query/NodeList$Builder", "add", "(I)V"⟩ : MethodName)) hown (mvT hZ (hw _ (List.mem_of_getElem? (i := 25) rfl))) (mvT hZ (hw _ (List.mem_of_getElem? (i := 26) rfl))) (notFace_of_selects (args := #[]) (mvT hZ (hw _ (List.mem_of_getElem? (i := 28) rfl)))) (mvT hZ (hw _ (List.mem_of_getElem? (i := 28) rfl))) (mvT hZ (hw _ (List.mem_of_getElem? (i := 27) rfl))) (by decide) (backOf (W := 0) (rm5a l Z a0 hw [] b44 i2 b46_0 i1 k46_1 T48.heap n0 (Nat.le_trans Z0 K49.1) f48_0 f48_1 f48_2 f48_3 (Nat.le_trans Z0 sz_b44) (Ne.symm (Nat.ne_of_lt (Nat.lt_of_lt_of_le A44.lt (Nat.le_trans (Nat.le_refl _) sq46_0)))) (Nat.le_trans Z0 sz_b46_0)) hZ (hw _ (List.mem_of_getElem? (i := 29) rfl)) (hw _ (List.mem_of_getElem? (i := 3) rfl)) (by decide) (by decide)) q50a q50c (g := (mkF m 50 #[.val (.int i1), .val (.int i2), .val (.int i3), .val (.int i4), .val (.int i5), .val (.int i6), .val (.int (2 : Int32)), .val (.int ((i6 &&& (2147483647 : Int32)) % (3 : Int32))), .val (.ref b44), .unset] [(.int i2), (.ref b44)])) rfl (by rw [hml]; rfl) (Steps.refl _) (argsL := [(.int i2)]) (rest := []) (lenOf pd_1 rfl) rfl (by show 2 * 0 + _ ≤ _; exact Nat.le_of_eq rfl) (hb hby at_50) (fun _ _ => ⟨rfl, rfl, (by decide : 2 + 0 ≤ _), (by decide : 18 + 0 ≤ _)⟩)
    dsimp only [Pt.U, Pt.locs, Pt.cells, Pt.slots] at X50 l50 y50 z50 st50 hQ50
    subst l50 y50 z50
    obtain ⟨rfl, Nq50, Kq50, f50_0, f50_1, f50_2, f50_3⟩ := hQ50
    have K51 : Keep h0 T50.heap [] := K49.trans Kq50 (allS (Or.inr sz_b44) (allS (Or.inr sz_b46_0) all0))
    have N50 := Fr.app N48 Nq50
    obtain ⟨cq52, kq52, q52a, q52b, q52c⟩ := isOf hZ rfl f50_3
    obtain ⟨_, _, ⟨T52, L52, k52, n52⟩, -, X52, ⟨Lc52, hQ52, l52, y52, z52⟩, st52⟩ := X50.virtualBack hx (y := (⟨"com/example/baum/baum/query/NodeList$Builder", "reverseFrom", "(I)V"⟩ : MethodName)) (z := (⟨"com/example/baum/baum/query/NodeList$Builder", "reverseFrom", "(I)V"⟩ : MethodName)) hown (mvT hZ (hw _ (List.mem_of_getElem? (i := 13) rfl))) (mvT hZ (hw _ (List.mem_of_getElem? (i := 14) rfl))) (notFace_of_selects (args := #[]) (mvT hZ (hw _ (List.mem_of_getElem? (i := 16) rfl)))) (mvT hZ (hw _ (List.mem_of_getElem? (i := 16) rfl))) (mvT hZ (hw _ (List.mem_of_getElem? (i := 15) rfl))) (by decide) (backOf (W := 0) (rm3b l Z a0 hw [] b44 ((i6 &&& (2147483647 : Int32)) % (3 : Int32)) b46_0 i1 i2 k46_1 T50.heap n0 (Nat.le_trans Z0 K51.1) f50_0 (own_ob0_g81_1xx i6) f50_1 f50_2 (Nat.le_trans Z0 sz_b46_0) (Nat.ne_of_lt (Nat.lt_of_lt_of_le A44.lt (Nat.le_trans (Nat.le_refl _) sq46_0)))) hZ (hw _ (List.mem_of_getElem? (i := 17) rfl)) (hw _ (List.mem_of_getElem? (i := 3) rfl)) (by decide) (by decide)) q52a q52c (g := (mkF m 81 #[.val (.int i1), .val (.int i2), .val (.int i3), .val (.int i4), .val (.int i5), .val (.int i6), .val (.int (2 : Int32)), .val (.int ((i6 &&& (2147483647 : Int32)) % (3 : Int32))), .val (.ref b44), .unset] [(.int ((i6 &&& (2147483647 : Int32)) % (3 : Int32))), (.ref b44)])) rfl (by rw [hml]; rfl) (Steps.refl _) (argsL := [(.int ((i6 &&& (2147483647 : Int32)) % (3 : Int32)))]) (rest := []) (lenOf pd_1 rfl) rfl (by show 2 * 0 + _ ≤ _; exact Nat.le_of_eq rfl) (hb hby at_81) (fun _ _ => ⟨rfl, rfl, (by decide : 2 + 0 ≤ _), (by decide : 18 + 0 ≤ _)⟩)
    dsimp only [Pt.U, Pt.locs, Pt.cells, Pt.slots] at X52 l52 y52 z52 st52 hQ52
    subst l52 y52 z52
    obtain ⟨rfl, Nq52, Kq52, f52_0⟩ := hQ52
    have K53 : Keep h0 T52.heap [] := K51.trans Kq52 (allS (Or.inr sz_b46_0) all0)
    have N52 := Fr.app N50 Nq52
    have f54 := (f50_0.keep Kq52 (ninS (Nat.ne_of_lt (Nat.lt_of_lt_of_le A44.lt (Nat.le_trans (Nat.le_refl _) sq46_0))) nin0))
    have f56 := (f50_3.keep Kq52)
    obtain ⟨cq55, kq55, q55a, q55b, q55c⟩ := isOf hZ rfl f56
    obtain ⟨_, _, ⟨T55, L55, k55, n55⟩, -, X55, ⟨Lc55, hQ55, l55, y55, z55⟩, st55⟩ := X52.virtualBack hx (y := (⟨"com/example/baum/baum/query/NodeList$Builder", "size", "()I"⟩ : MethodName)) (z := (⟨"com/example/baum/baum/query/NodeList$Builder", "size", "()I"⟩ : MethodName)) hown (mvT hZ (hw _ (List.mem_of_getElem? (i := 20) rfl))) (mvT hZ (hw _ (List.mem_of_getElem? (i := 21) rfl))) (notFace_of_selects (args := #[]) (mvT hZ (hw _ (List.mem_of_getElem? (i := 23) rfl)))) (mvT hZ (hw _ (List.mem_of_getElem? (i := 23) rfl))) (mvT hZ (hw _ (List.mem_of_getElem? (i := 22) rfl))) (by decide) (backOf (W := 0) (rm4b l Z a0 hw [] b44 T52.heap n0 (Nat.le_trans Z0 K53.1) f54) hZ (hw _ (List.mem_of_getElem? (i := 24) rfl)) (hw _ (List.mem_of_getElem? (i := 3) rfl)) (by decide) (by decide)) q55a q55c (g := (mkF m 86 #[.val (.int i1), .val (.int i2), .val (.int i3), .val (.int i4), .val (.int i5), .val (.int i6), .val (.int (2 : Int32)), .val (.int ((i6 &&& (2147483647 : Int32)) % (3 : Int32))), .val (.ref b44), .unset] [(.ref b44)])) rfl (by rw [hml]; rfl) (Steps.refl _) (argsL := []) (rest := []) (lenOf pd_2 rfl) rfl (by show 2 * 0 + _ ≤ _; exact Nat.le_of_eq rfl) (hb hby at_86) (fun _ _ => ⟨rfl, rfl, (by decide : 2 + 0 ≤ _), (by decide : 18 + 0 ≤ _)⟩)
    dsimp only [Pt.U, Pt.locs, Pt.cells, Pt.slots] at X55 l55 y55 z55 st55 hQ55
    subst l55 y55 z55
    obtain ⟨rfl, Nq55, e55⟩ := hQ55
    have N55 := Fr.app N52 Nq55
    have f57 := (f50_1.keep Kq52 (ninS (Nat.ne_of_lt (Nat.lt_of_lt_of_le A44.lt (Nat.le_trans (Nat.le_refl _) sq46_0))) nin0))
    obtain ⟨cq58, kq58, q58a, q58b, q58c⟩ := isOf hZ e55 f56
    obtain ⟨_, _, ⟨T58, L58, k58, n58⟩, -, X58, ⟨Lc58, hQ58, l58, y58, z58⟩, st58⟩ := X55.virtualBack hx (y := (⟨"com/example/baum/baum/query/NodeList$Builder", "get", "(I)I"⟩ : MethodName)) (z := (⟨"com/example/baum/baum/query/NodeList$Builder", "get", "(I)I"⟩ : MethodName)) hown (mvT hZ (hw _ (List.mem_of_getElem? (i := 30) rfl))) (mvT hZ (hw _ (List.mem_of_getElem? (i := 31) rfl))) (notFace_of_selects (args := #[]) (mvT hZ (hw _ (List.mem_of_getElem? (i := 33) rfl)))) (mvT hZ (hw _ (List.mem_of_getElem? (i := 33) rfl))) (mvT hZ (hw _ (List.mem_of_getElem? (i := 32) rfl))) (by decide) (backOf (W := 0) (rm6a l Z a0 hw [] b44 b46_0 (own_v3b_w_numbers_r0_0 ((i6 &&& (2147483647 : Int32)) % (3 : Int32)) i1 i2) (own_v3b_w_numbers_r0_1 ((i6 &&& (2147483647 : Int32)) % (3 : Int32)) i1 i2) k46_1 T52.heap n0 (Nat.le_trans Z0 K53.1) f57 f54 f52_0) hZ (hw _ (List.mem_of_getElem? (i := 34) rfl)) (hw _ (List.mem_of_getElem? (i := 3) rfl)) (by decide) (by decide)) q58a q58c (g := (mkF m 114 #[.val (.int i1), .val (.int i2), .val (.int i3), .val (.int i4), .val (.int i5), .val (.int i6), .val (.int (2 : Int32)), .val (.int ((i6 &&& (2147483647 : Int32)) % (3 : Int32))), .val (.ref b44), .val (.int (1 : Int32))] [(.int (0 : Int32)), (.ref b44)])) rfl (by rw [hml]; rfl) (Steps.refl _) (argsL := [(.int (0 : Int32))]) (rest := []) (lenOf pd_5 rfl) rfl (by show 2 * 0 + _ ≤ _; exact Nat.le_of_eq rfl) (hb hby at_114) (fun _ _ => ⟨rfl, e55, (by decide : 2 + 0 ≤ _), (by decide : 18 + 0 ≤ _)⟩)
    dsimp only [Pt.U, Pt.locs, Pt.cells, Pt.slots] at X58 l58 y58 z58 st58 hQ58
    subst l58 y58 z58
    obtain ⟨rfl, Nq58, e58⟩ := hQ58
    have N58 := Fr.app N55 Nq58
    obtain ⟨_, _, ⟨T59, L59, k59, n59⟩, -, X59, ⟨Lc59, hQ59, l59, y59, z59⟩, st59⟩ := Jvm.LawKit.callS X58 hx (y := (⟨"com/example/baum/baum/query/BuilderReverseFromPinLaw", "expect", "(IIIIIII)I"⟩ : MethodName)) hown (mvT hZ (hw _ (List.mem_of_getElem? (i := 43) rfl))) (mvT hZ (hw _ (List.mem_of_getElem? (i := 44) rfl))) (mvT hZ (hw _ (List.mem_of_getElem? (i := 45) rfl))) (mvT hZ (hw _ (List.mem_of_getElem? (i := 46) rfl))) (by decide) (backOf (W := 1) (rm9 l Z a0 hw [] (0 : Int32) ((i6 &&& (2147483647 : Int32)) % (3 : Int32)) (2 : Int32) i1 i2 i3 i4 T52.heap n0 (Nat.le_trans Z0 K53.1) ) hZ (hw _ (List.mem_of_getElem? (i := 46) rfl)) (hw _ (List.mem_of_getElem? (i := 45) rfl)) (by decide) (by decide)) (g := (mkF m 126 #[.val (.int i1), .val (.int i2), .val (.int i3), .val (.int i4), .val (.int i5), .val (.int i6), .val (.int (2 : Int32)), .val (.int ((i6 &&& (2147483647 : Int32)) % (3 : Int32))), .val (.ref b44), .val (.int (1 : Int32))] [(.int i4), (.int i3), (.int i2), (.int i1), (.int (2 : Int32)), (.int ((i6 &&& (2147483647 : Int32)) % (3 : Int32))), (.int (0 : Int32)), (.int (own_v3b_w_numbers_r0_0 ((i6 &&& (2147483647 : Int32)) % (3 : Int32)) i1 i2))])) rfl (by rw [hml]; rfl) (argsL := [(.int (0 : Int32)), (.int ((i6 &&& (2147483647 : Int32)) % (3 : Int32))), (.int (2 : Int32)), (.int i1), (.int i2), (.int i3), (.int i4)]) (rest := [(.int (own_v3b_w_numbers_r0_0 ((i6 &&& (2147483647 : Int32)) % (3 : Int32)) i1 i2))]) (lenOf pd_7 rfl) rfl (by show 2 * 0 + _ ≤ _; exact Nat.le_of_eq rfl) (hb hby at_126) (fun _ _ => ⟨rfl, e58, (by decide : 2 + 0 ≤ _), (by decide : 18 + 0 ≤ _)⟩)
    dsimp only [Pt.U, Pt.locs, Pt.cells, Pt.slots] at X59 l59 y59 z59 st59 hQ59
    subst l59 y59 z59
    obtain ⟨rfl, Nq59, e59⟩ := hQ59
    have N59 := Fr.app N58 Nq59
    have pre60 : ∀ t, Steps p.tables e below (T59.setTop (mkF m 129 #[.val (.int i1), .val (.int i2), .val (.int i3), .val (.int i4), .val (.int i5), .val (.int i6), .val (.int (2 : Int32)), .val (.int ((i6 &&& (2147483647 : Int32)) % (3 : Int32))), .val (.ref b44), .val (.int (1 : Int32))] [(.int (own_r10 (own_j9_2_0 (0 : Int32) ((i6 &&& (2147483647 : Int32)) % (3 : Int32)) (2 : Int32)) i1 i2 i3 i4)), (.int (own_v3b_w_numbers_r0_0 ((i6 &&& (2147483647 : Int32)) % (3 : Int32)) i1 i2))])) t → Steps p.tables e below (s₁.setTop (entryFrame m #[(.int i1), (.int i2), (.int i3), (.int i4), (.int i5), (.int i6)] maxLocals)) t := by
      intro t k
      refine pre43 _ ?_
      show Steps p.tables e below (s₁.setTop (mkF m 9 #[.val (.int i1), .val (.int i2), .val (.int i3), .val (.int i4), .val (.int i5), .val (.int i6), .val (.int (2 : Int32)), .unset, .unset, .unset] [])) _
      refine XS.iload X0.here hx rfl (hb hby at_9) rfl ?_
      show Steps p.tables e below (s₁.setTop (mkF m 11 #[.val (.int i1), .val (.int i2), .val (.int i3), .val (.int i4), .val (.int i5), .val (.int i6), .val (.int (2 : Int32)), .unset, .unset, .unset] [(.int i6)])) _
      refine X0.ldcInt hx hown (mvT hZ (hw _ (List.mem_of_getElem? (i := 0) rfl))) (g := (mkF m 11 #[.val (.int i1), .val (.int i2), .val (.int i3), .val (.int i4), .val (.int i5), .val (.int i6), .val (.int (2 : Int32)), .unset, .unset, .unset] [(.int i6)])) rfl (hb hby at_11) _ ?_
      show Steps p.tables e below (s₁.setTop (mkF m 13 #[.val (.int i1), .val (.int i2), .val (.int i3), .val (.int i4), .val (.int i5), .val (.int i6), .val (.int (2 : Int32)), .unset, .unset, .unset] [(.int (2147483647 : Int32)), (.int i6)])) _
      refine XS.iand X0.here hx rfl (hb hby at_13) rfl ?_
      show Steps p.tables e below (s₁.setTop (mkF m 14 #[.val (.int i1), .val (.int i2), .val (.int i3), .val (.int i4), .val (.int i5), .val (.int i6), .val (.int (2 : Int32)), .unset, .unset, .unset] [(.int (i6 &&& (2147483647 : Int32)))])) _
      refine XS.iload X0.here hx rfl (hb hby at_14) rfl ?_
      show Steps p.tables e below (s₁.setTop (mkF m 16 #[.val (.int i1), .val (.int i2), .val (.int i3), .val (.int i4), .val (.int i5), .val (.int i6), .val (.int (2 : Int32)), .unset, .unset, .unset] [(.int (2 : Int32)), (.int (i6 &&& (2147483647 : Int32)))])) _
      refine XS.iconst X0.here hx rfl (hb hby at_16) ?_
      show Steps p.tables e below (s₁.setTop (mkF m 17 #[.val (.int i1), .val (.int i2), .val (.int i3), .val (.int i4), .val (.int i5), .val (.int i6), .val (.int (2 : Int32)), .unset, .unset, .unset] [(.int (1 : Int32)), (.int (2 : Int32)), (.int (i6 &&& (2147483647 : Int32)))])) _
      refine XS.iadd X0.here hx rfl (hb hby at_17) rfl ?_
      show Steps p.tables e below (s₁.setTop (mkF m 18 #[.val (.int i1), .val (.int i2), .val (.int i3), .val (.int i4), .val (.int i5), .val (.int i6), .val (.int (2 : Int32)), .unset, .unset, .unset] [(.int (3 : Int32)), (.int (i6 &&& (2147483647 : Int32)))])) _
      refine iremM X0 hx rfl (hb hby at_18) rfl (by decide) ?_
      show Steps p.tables e below (s₁.setTop (mkF m 19 #[.val (.int i1), .val (.int i2), .val (.int i3), .val (.int i4), .val (.int i5), .val (.int i6), .val (.int (2 : Int32)), .unset, .unset, .unset] [(.int ((i6 &&& (2147483647 : Int32)) % (3 : Int32)))])) _
      refine XS.istore X0.here hx rfl (hb hby at_19) rfl (l' := #[.val (.int i1), .val (.int i2), .val (.int i3), .val (.int i4), .val (.int i5), .val (.int i6), .val (.int (2 : Int32)), .val (.int ((i6 &&& (2147483647 : Int32)) % (3 : Int32))), .unset, .unset]) rfl ?_
      show Steps p.tables e below (s₁.setTop (mkF m 21 #[.val (.int i1), .val (.int i2), .val (.int i3), .val (.int i4), .val (.int i5), .val (.int i6), .val (.int (2 : Int32)), .val (.int ((i6 &&& (2147483647 : Int32)) % (3 : Int32))), .unset, .unset] [])) _
      refine st44 _ ?_
      show Steps p.tables e below (T44.setTop (mkF m 24 #[.val (.int i1), .val (.int i2), .val (.int i3), .val (.int i4), .val (.int i5), .val (.int i6), .val (.int (2 : Int32)), .val (.int ((i6 &&& (2147483647 : Int32)) % (3 : Int32))), .unset, .unset] [(.ref b44)])) _
      refine XS.dup X44.here hx rfl (hb hby at_24) rfl rfl ?_
      show Steps p.tables e below (T44.setTop (mkF m 25 #[.val (.int i1), .val (.int i2), .val (.int i3), .val (.int i4), .val (.int i5), .val (.int i6), .val (.int (2 : Int32)), .val (.int ((i6 &&& (2147483647 : Int32)) % (3 : Int32))), .unset, .unset] [(.ref b44), (.ref b44)])) _
      refine st46.trans ?_
      show Steps p.tables e below (T46.setTop (mkF m 28 #[.val (.int i1), .val (.int i2), .val (.int i3), .val (.int i4), .val (.int i5), .val (.int i6), .val (.int (2 : Int32)), .val (.int ((i6 &&& (2147483647 : Int32)) % (3 : Int32))), .unset, .unset] [(.ref b44)])) _
      refine XS.astore X46.here hx rfl (hb hby at_28) rfl rfl (l' := #[.val (.int i1), .val (.int i2), .val (.int i3), .val (.int i4), .val (.int i5), .val (.int i6), .val (.int (2 : Int32)), .val (.int ((i6 &&& (2147483647 : Int32)) % (3 : Int32))), .val (.ref b44), .unset]) rfl ?_
      show Steps p.tables e below (T46.setTop (mkF m 30 #[.val (.int i1), .val (.int i2), .val (.int i3), .val (.int i4), .val (.int i5), .val (.int i6), .val (.int (2 : Int32)), .val (.int ((i6 &&& (2147483647 : Int32)) % (3 : Int32))), .val (.ref b44), .unset] [])) _
      refine XS.iload X46.here hx rfl (hb hby at_30) rfl ?_
      show Steps p.tables e below (T46.setTop (mkF m 32 #[.val (.int i1), .val (.int i2), .val (.int i3), .val (.int i4), .val (.int i5), .val (.int i6), .val (.int (2 : Int32)), .val (.int ((i6 &&& (2147483647 : Int32)) % (3 : Int32))), .val (.ref b44), .unset] [(.int (2 : Int32))])) _
      refine XS.ifNo X46.here hx rfl (hb hby at_32) rfl ((if0 _ _).trans (tlt (by decide : (0 : Int32) < (2 : Int32))).2.2.2) ?_
      show Steps p.tables e below (T46.setTop (mkF m 35 #[.val (.int i1), .val (.int i2), .val (.int i3), .val (.int i4), .val (.int i5), .val (.int i6), .val (.int (2 : Int32)), .val (.int ((i6 &&& (2147483647 : Int32)) % (3 : Int32))), .val (.ref b44), .unset] [])) _
      refine XS.aload X46.here hx rfl (hb hby at_35) rfl rfl ?_
      show Steps p.tables e below (T46.setTop (mkF m 37 #[.val (.int i1), .val (.int i2), .val (.int i3), .val (.int i4), .val (.int i5), .val (.int i6), .val (.int (2 : Int32)), .val (.int ((i6 &&& (2147483647 : Int32)) % (3 : Int32))), .val (.ref b44), .unset] [(.ref b44)])) _
      refine XS.iloadN X46.here hx rfl (hb hby at_37) rfl ?_
      show Steps p.tables e below (T46.setTop (mkF m 38 #[.val (.int i1), .val (.int i2), .val (.int i3), .val (.int i4), .val (.int i5), .val (.int i6), .val (.int (2 : Int32)), .val (.int ((i6 &&& (2147483647 : Int32)) % (3 : Int32))), .val (.ref b44), .unset] [(.int i1), (.ref b44)])) _
      refine st48.trans ?_
      show Steps p.tables e below (T48.setTop (mkF m 41 #[.val (.int i1), .val (.int i2), .val (.int i3), .val (.int i4), .val (.int i5), .val (.int i6), .val (.int (2 : Int32)), .val (.int ((i6 &&& (2147483647 : Int32)) % (3 : Int32))), .val (.ref b44), .unset] [])) _
      refine XS.iload X48.here hx rfl (hb hby at_41) rfl ?_
      show Steps p.tables e below (T48.setTop (mkF m 43 #[.val (.int i1), .val (.int i2), .val (.int i3), .val (.int i4), .val (.int i5), .val (.int i6), .val (.int (2 : Int32)), .val (.int ((i6 &&& (2147483647 : Int32)) % (3 : Int32))), .val (.ref b44), .unset] [(.int (2 : Int32))])) _
      refine XS.iconst X48.here hx rfl (hb hby at_43) ?_
      show Steps p.tables e below (T48.setTop (mkF m 44 #[.val (.int i1), .val (.int i2), .val (.int i3), .val (.int i4), .val (.int i5), .val (.int i6), .val (.int (2 : Int32)), .val (.int ((i6 &&& (2147483647 : Int32)) % (3 : Int32))), .val (.ref b44), .unset] [(.int (1 : Int32)), (.int (2 : Int32))])) _
      refine XS.icmpNo X48.here hx rfl (hb hby at_44) rfl (tlt (by decide : (1 : Int32) < (2 : Int32))).2.2.2 ?_
      show Steps p.tables e below (T48.setTop (mkF m 47 #[.val (.int i1), .val (.int i2), .val (.int i3), .val (.int i4), .val (.int i5), .val (.int i6), .val (.int (2 : Int32)), .val (.int ((i6 &&& (2147483647 : Int32)) % (3 : Int32))), .val (.ref b44), .unset] [])) _
      refine XS.aload X48.here hx rfl (hb hby at_47) rfl rfl ?_
      show Steps p.tables e below (T48.setTop (mkF m 49 #[.val (.int i1), .val (.int i2), .val (.int i3), .val (.int i4), .val (.int i5), .val (.int i6), .val (.int (2 : Int32)), .val (.int ((i6 &&& (2147483647 : Int32)) % (3 : Int32))), .val (.ref b44), .unset] [(.ref b44)])) _
      refine XS.iloadN X48.here hx rfl (hb hby at_49) rfl ?_
      show Steps p.tables e below (T48.setTop (mkF m 50 #[.val (.int i1), .val (.int i2), .val (.int i3), .val (.int i4), .val (.int i5), .val (.int i6), .val (.int (2 : Int32)), .val (.int ((i6 &&& (2147483647 : Int32)) % (3 : Int32))), .val (.ref b44), .unset] [(.int i2), (.ref b44)])) _
      refine st50.trans ?_
      show Steps p.tables e below (T50.setTop (mkF m 53 #[.val (.int i1), .val (.int i2), .val (.int i3), .val (.int i4), .val (.int i5), .val (.int i6), .val (.int (2 : Int32)), .val (.int ((i6 &&& (2147483647 : Int32)) % (3 : Int32))), .val (.ref b44), .unset] [])) _
      refine XS.iload X50.here hx rfl (hb hby at_53) rfl ?_
      show Steps p.tables e below (T50.setTop (mkF m 55 #[.val (.int i1), .val (.int i2), .val (.int i3), .val (.int i4), .val (.int i5), .val (.int i6), .val (.int (2 : Int32)), .val (.int ((i6 &&& (2147483647 : Int32)) % (3 : Int32))), .val (.ref b44), .unset] [(.int (2 : Int32))])) _
      refine XS.iconst X50.here hx rfl (hb hby at_55) ?_
      show Steps p.tables e below (T50.setTop (mkF m 56 #[.val (.int i1), .val (.int i2), .val (.int i3), .val (.int i4), .val (.int i5), .val (.int i6), .val (.int (2 : Int32)), .val (.int ((i6 &&& (2147483647 : Int32)) % (3 : Int32))), .val (.ref b44), .unset] [(.int (2 : Int32)), (.int (2 : Int32))])) _
      refine XS.icmpYes X50.here hx rfl (pc0 := 56) (pc' := 65) rfl (hb hby at_56) rfl (flt (by decide : ¬ ((2 : Int32) < (2 : Int32)))).2.2.2 (by decide) (by decide) ?_
      show Steps p.tables e below (T50.setTop (mkF m 65 #[.val (.int i1), .val (.int i2), .val (.int i3), .val (.int i4), .val (.int i5), .val (.int i6), .val (.int (2 : Int32)), .val (.int ((i6 &&& (2147483647 : Int32)) % (3 : Int32))), .val (.ref b44), .unset] [])) _
      refine XS.iload X50.here hx rfl (hb hby at_65) rfl ?_
      show Steps p.tables e below (T50.setTop (mkF m 67 #[.val (.int i1), .val (.int i2), .val (.int i3), .val (.int i4), .val (.int i5), .val (.int i6), .val (.int (2 : Int32)), .val (.int ((i6 &&& (2147483647 : Int32)) % (3 : Int32))), .val (.ref b44), .unset] [(.int (2 : Int32))])) _
      refine XS.iconst X50.here hx rfl (hb hby at_67) ?_
      show Steps p.tables e below (T50.setTop (mkF m 68 #[.val (.int i1), .val (.int i2), .val (.int i3), .val (.int i4), .val (.int i5), .val (.int i6), .val (.int (2 : Int32)), .val (.int ((i6 &&& (2147483647 : Int32)) % (3 : Int32))), .val (.ref b44), .unset] [(.int (3 : Int32)), (.int (2 : Int32))])) _
      refine XS.icmpYes X50.here hx rfl (pc0 := 68) (pc' := 77) rfl (hb hby at_68) rfl (flt (by decide : ¬ ((3 : Int32) < (2 : Int32)))).2.2.2 (by decide) (by decide) ?_
      show Steps p.tables e below (T50.setTop (mkF m 77 #[.val (.int i1), .val (.int i2), .val (.int i3), .val (.int i4), .val (.int i5), .val (.int i6), .val (.int (2 : Int32)), .val (.int ((i6 &&& (2147483647 : Int32)) % (3 : Int32))), .val (.ref b44), .unset] [])) _
      refine XS.aload X50.here hx rfl (hb hby at_77) rfl rfl ?_
      show Steps p.tables e below (T50.setTop (mkF m 79 #[.val (.int i1), .val (.int i2), .val (.int i3), .val (.int i4), .val (.int i5), .val (.int i6), .val (.int (2 : Int32)), .val (.int ((i6 &&& (2147483647 : Int32)) % (3 : Int32))), .val (.ref b44), .unset] [(.ref b44)])) _
      refine XS.iload X50.here hx rfl (hb hby at_79) rfl ?_
      show Steps p.tables e below (T50.setTop (mkF m 81 #[.val (.int i1), .val (.int i2), .val (.int i3), .val (.int i4), .val (.int i5), .val (.int i6), .val (.int (2 : Int32)), .val (.int ((i6 &&& (2147483647 : Int32)) % (3 : Int32))), .val (.ref b44), .unset] [(.int ((i6 &&& (2147483647 : Int32)) % (3 : Int32))), (.ref b44)])) _
      refine st52.trans ?_
      show Steps p.tables e below (T52.setTop (mkF m 84 #[.val (.int i1), .val (.int i2), .val (.int i3), .val (.int i4), .val (.int i5), .val (.int i6), .val (.int (2 : Int32)), .val (.int ((i6 &&& (2147483647 : Int32)) % (3 : Int32))), .val (.ref b44), .unset] [])) _
      refine XS.aload X52.here hx rfl (hb hby at_84) rfl rfl ?_
      show Steps p.tables e below (T52.setTop (mkF m 86 #[.val (.int i1), .val (.int i2), .val (.int i3), .val (.int i4), .val (.int i5), .val (.int i6), .val (.int (2 : Int32)), .val (.int ((i6 &&& (2147483647 : Int32)) % (3 : Int32))), .val (.ref b44), .unset] [(.ref b44)])) _
      refine st55.trans ?_
      show Steps p.tables e below (T55.setTop (mkF m 89 #[.val (.int i1), .val (.int i2), .val (.int i3), .val (.int i4), .val (.int i5), .val (.int i6), .val (.int (2 : Int32)), .val (.int ((i6 &&& (2147483647 : Int32)) % (3 : Int32))), .val (.ref b44), .unset] [(.int (2 : Int32))])) _
      refine XS.iload X55.here hx rfl (hb hby at_89) rfl ?_
      show Steps p.tables e below (T55.setTop (mkF m 91 #[.val (.int i1), .val (.int i2), .val (.int i3), .val (.int i4), .val (.int i5), .val (.int i6), .val (.int (2 : Int32)), .val (.int ((i6 &&& (2147483647 : Int32)) % (3 : Int32))), .val (.ref b44), .unset] [(.int (2 : Int32)), (.int (2 : Int32))])) _
      refine XS.icmpNo X55.here hx rfl (hb hby at_91) rfl (teq (by decide : (2 : Int32) = (2 : Int32))).2 ?_
      show Steps p.tables e below (T55.setTop (mkF m 94 #[.val (.int i1), .val (.int i2), .val (.int i3), .val (.int i4), .val (.int i5), .val (.int i6), .val (.int (2 : Int32)), .val (.int ((i6 &&& (2147483647 : Int32)) % (3 : Int32))), .val (.ref b44), .unset] [])) _
      refine XS.iconst X55.here hx rfl (hb hby at_94) ?_
      show Steps p.tables e below (T55.setTop (mkF m 95 #[.val (.int i1), .val (.int i2), .val (.int i3), .val (.int i4), .val (.int i5), .val (.int i6), .val (.int (2 : Int32)), .val (.int ((i6 &&& (2147483647 : Int32)) % (3 : Int32))), .val (.ref b44), .unset] [(.int (1 : Int32))])) _
      refine XS.goto X55.here hx rfl (pc0 := 95) (pc' := 99) rfl (hb hby at_95) (by decide) (by decide) ?_
      show Steps p.tables e below (T55.setTop (mkF m 99 #[.val (.int i1), .val (.int i2), .val (.int i3), .val (.int i4), .val (.int i5), .val (.int i6), .val (.int (2 : Int32)), .val (.int ((i6 &&& (2147483647 : Int32)) % (3 : Int32))), .val (.ref b44), .unset] [(.int (1 : Int32))])) _
      refine XS.istore X55.here hx rfl (hb hby at_99) rfl (l' := #[.val (.int i1), .val (.int i2), .val (.int i3), .val (.int i4), .val (.int i5), .val (.int i6), .val (.int (2 : Int32)), .val (.int ((i6 &&& (2147483647 : Int32)) % (3 : Int32))), .val (.ref b44), .val (.int (1 : Int32))]) rfl ?_
      show Steps p.tables e below (T55.setTop (mkF m 101 #[.val (.int i1), .val (.int i2), .val (.int i3), .val (.int i4), .val (.int i5), .val (.int i6), .val (.int (2 : Int32)), .val (.int ((i6 &&& (2147483647 : Int32)) % (3 : Int32))), .val (.ref b44), .val (.int (1 : Int32))] [])) _
      refine XS.iload X55.here hx rfl (hb hby at_101) rfl ?_
      show Steps p.tables e below (T55.setTop (mkF m 103 #[.val (.int i1), .val (.int i2), .val (.int i3), .val (.int i4), .val (.int i5), .val (.int i6), .val (.int (2 : Int32)), .val (.int ((i6 &&& (2147483647 : Int32)) % (3 : Int32))), .val (.ref b44), .val (.int (1 : Int32))] [(.int (1 : Int32))])) _
      refine XS.ifNo X55.here hx rfl (hb hby at_103) rfl ((if0 _ _).trans (feq (by decide : ¬ ((1 : Int32) = (0 : Int32)))).1) ?_
      show Steps p.tables e below (T55.setTop (mkF m 106 #[.val (.int i1), .val (.int i2), .val (.int i3), .val (.int i4), .val (.int i5), .val (.int i6), .val (.int (2 : Int32)), .val (.int ((i6 &&& (2147483647 : Int32)) % (3 : Int32))), .val (.ref b44), .val (.int (1 : Int32))] [])) _
      refine XS.iload X55.here hx rfl (hb hby at_106) rfl ?_
      show Steps p.tables e below (T55.setTop (mkF m 108 #[.val (.int i1), .val (.int i2), .val (.int i3), .val (.int i4), .val (.int i5), .val (.int i6), .val (.int (2 : Int32)), .val (.int ((i6 &&& (2147483647 : Int32)) % (3 : Int32))), .val (.ref b44), .val (.int (1 : Int32))] [(.int (2 : Int32))])) _
      refine XS.ifNo X55.here hx rfl (hb hby at_108) rfl ((if0 _ _).trans (tlt (by decide : (0 : Int32) < (2 : Int32))).2.2.2) ?_
      show Steps p.tables e below (T55.setTop (mkF m 111 #[.val (.int i1), .val (.int i2), .val (.int i3), .val (.int i4), .val (.int i5), .val (.int i6), .val (.int (2 : Int32)), .val (.int ((i6 &&& (2147483647 : Int32)) % (3 : Int32))), .val (.ref b44), .val (.int (1 : Int32))] [])) _
      refine XS.aload X55.here hx rfl (hb hby at_111) rfl rfl ?_
      show Steps p.tables e below (T55.setTop (mkF m 113 #[.val (.int i1), .val (.int i2), .val (.int i3), .val (.int i4), .val (.int i5), .val (.int i6), .val (.int (2 : Int32)), .val (.int ((i6 &&& (2147483647 : Int32)) % (3 : Int32))), .val (.ref b44), .val (.int (1 : Int32))] [(.ref b44)])) _
      refine XS.iconst X55.here hx rfl (hb hby at_113) ?_
      show Steps p.tables e below (T55.setTop (mkF m 114 #[.val (.int i1), .val (.int i2), .val (.int i3), .val (.int i4), .val (.int i5), .val (.int i6), .val (.int (2 : Int32)), .val (.int ((i6 &&& (2147483647 : Int32)) % (3 : Int32))), .val (.ref b44), .val (.int (1 : Int32))] [(.int (0 : Int32)), (.ref b44)])) _
      refine st58.trans ?_
      show Steps p.tables e below (T58.setTop (mkF m 117 #[.val (.int i1), .val (.int i2), .val (.int i3), .val (.int i4), .val (.int i5), .val (.int i6), .val (.int (2 : Int32)), .val (.int ((i6 &&& (2147483647 : Int32)) % (3 : Int32))), .val (.ref b44), .val (.int (1 : Int32))] [(.int (own_v3b_w_numbers_r0_0 ((i6 &&& (2147483647 : Int32)) % (3 : Int32)) i1 i2))])) _
      refine XS.iconst X58.here hx rfl (hb hby at_117) ?_
      show Steps p.tables e below (T58.setTop (mkF m 118 #[.val (.int i1), .val (.int i2), .val (.int i3), .val (.int i4), .val (.int i5), .val (.int i6), .val (.int (2 : Int32)), .val (.int ((i6 &&& (2147483647 : Int32)) % (3 : Int32))), .val (.ref b44), .val (.int (1 : Int32))] [(.int (0 : Int32)), (.int (own_v3b_w_numbers_r0_0 ((i6 &&& (2147483647 : Int32)) % (3 : Int32)) i1 i2))])) _
      refine XS.iload X58.here hx rfl (hb hby at_118) rfl ?_
      show Steps p.tables e below (T58.setTop (mkF m 120 #[.val (.int i1), .val (.int i2), .val (.int i3), .val (.int i4), .val (.int i5), .val (.int i6), .val (.int (2 : Int32)), .val (.int ((i6 &&& (2147483647 : Int32)) % (3 : Int32))), .val (.ref b44), .val (.int (1 : Int32))] [(.int ((i6 &&& (2147483647 : Int32)) % (3 : Int32))), (.int (0 : Int32)), (.int (own_v3b_w_numbers_r0_0 ((i6 &&& (2147483647 : Int32)) % (3 : Int32)) i1 i2))])) _
      refine XS.iload X58.here hx rfl (hb hby at_120) rfl ?_
      show Steps p.tables e below (T58.setTop (mkF m 122 #[.val (.int i1), .val (.int i2), .val (.int i3), .val (.int i4), .val (.int i5), .val (.int i6), .val (.int (2 : Int32)), .val (.int ((i6 &&& (2147483647 : Int32)) % (3 : Int32))), .val (.ref b44), .val (.int (1 : Int32))] [(.int (2 : Int32)), (.int ((i6 &&& (2147483647 : Int32)) % (3 : Int32))), (.int (0 : Int32)), (.int (own_v3b_w_numbers_r0_0 ((i6 &&& (2147483647 : Int32)) % (3 : Int32)) i1 i2))])) _
      refine XS.iloadN X58.here hx rfl (hb hby at_122) rfl ?_
      show Steps p.tables e below (T58.setTop (mkF m 123 #[.val (.int i1), .val (.int i2), .val (.int i3), .val (.int i4), .val (.int i5), .val (.int i6), .val (.int (2 : Int32)), .val (.int ((i6 &&& (2147483647 : Int32)) % (3 : Int32))), .val (.ref b44), .val (.int (1 : Int32))] [(.int i1), (.int (2 : Int32)), (.int ((i6 &&& (2147483647 : Int32)) % (3 : Int32))), (.int (0 : Int32)), (.int (own_v3b_w_numbers_r0_0 ((i6 &&& (2147483647 : Int32)) % (3 : Int32)) i1 i2))])) _
      refine XS.iloadN X58.here hx rfl (hb hby at_123) rfl ?_
      show Steps p.tables e below (T58.setTop (mkF m 124 #[.val (.int i1), .val (.int i2), .val (.int i3), .val (.int i4), .val (.int i5), .val (.int i6), .val (.int (2 : Int32)), .val (.int ((i6 &&& (2147483647 : Int32)) % (3 : Int32))), .val (.ref b44), .val (.int (1 : Int32))] [(.int i2), (.int i1), (.int (2 : Int32)), (.int ((i6 &&& (2147483647 : Int32)) % (3 : Int32))), (.int (0 : Int32)), (.int (own_v3b_w_numbers_r0_0 ((i6 &&& (2147483647 : Int32)) % (3 : Int32)) i1 i2))])) _
      refine XS.iloadN X58.here hx rfl (hb hby at_124) rfl ?_
      show Steps p.tables e below (T58.setTop (mkF m 125 #[.val (.int i1), .val (.int i2), .val (.int i3), .val (.int i4), .val (.int i5), .val (.int i6), .val (.int (2 : Int32)), .val (.int ((i6 &&& (2147483647 : Int32)) % (3 : Int32))), .val (.ref b44), .val (.int (1 : Int32))] [(.int i3), (.int i2), (.int i1), (.int (2 : Int32)), (.int ((i6 &&& (2147483647 : Int32)) % (3 : Int32))), (.int (0 : Int32)), (.int (own_v3b_w_numbers_r0_0 ((i6 &&& (2147483647 : Int32)) % (3 : Int32)) i1 i2))])) _
      refine XS.iloadN X58.here hx rfl (hb hby at_125) rfl ?_
      show Steps p.tables e below (T58.setTop (mkF m 126 #[.val (.int i1), .val (.int i2), .val (.int i3), .val (.int i4), .val (.int i5), .val (.int i6), .val (.int (2 : Int32)), .val (.int ((i6 &&& (2147483647 : Int32)) % (3 : Int32))), .val (.ref b44), .val (.int (1 : Int32))] [(.int i4), (.int i3), (.int i2), (.int i1), (.int (2 : Int32)), (.int ((i6 &&& (2147483647 : Int32)) % (3 : Int32))), (.int (0 : Int32)), (.int (own_v3b_w_numbers_r0_0 ((i6 &&& (2147483647 : Int32)) % (3 : Int32)) i1 i2))])) _
      refine st59 _ ?_
      exact k
    have pre64 : ∀ t, Steps p.tables e below (T59.setTop (mkF m 137 #[.val (.int i1), .val (.int i2), .val (.int i3), .val (.int i4), .val (.int i5), .val (.int i6), .val (.int (2 : Int32)), .val (.int ((i6 &&& (2147483647 : Int32)) % (3 : Int32))), .val (.ref b44), .val (.int (1 : Int32))] [(.int (own_j0_129_0_v1 i1 i2 i3 i4 i6))])) t → Steps p.tables e below (s₁.setTop (entryFrame m #[(.int i1), (.int i2), (.int i3), (.int i4), (.int i5), (.int i6)] maxLocals)) t := by
      by_cases hc129_61 : (own_v3b_w_numbers_r0_0 ((i6 &&& (2147483647 : Int32)) % (3 : Int32)) i1 i2) = (own_r10 (own_j9_2_0 (0 : Int32) ((i6 &&& (2147483647 : Int32)) % (3 : Int32)) (2 : Int32)) i1 i2 i3 i4)
      · have pre62 : ∀ t, Steps p.tables e below (T59.setTop (mkF m 137 #[.val (.int i1), .val (.int i2), .val (.int i3), .val (.int i4), .val (.int i5), .val (.int i6), .val (.int (2 : Int32)), .val (.int ((i6 &&& (2147483647 : Int32)) % (3 : Int32))), .val (.ref b44), .val (.int (1 : Int32))] [(.int (1 : Int32))])) t → Steps p.tables e below (s₁.setTop (entryFrame m #[(.int i1), (.int i2), (.int i3), (.int i4), (.int i5), (.int i6)] maxLocals)) t := by
          intro t k
          refine pre60 _ ?_
          show Steps p.tables e below (T59.setTop (mkF m 129 #[.val (.int i1), .val (.int i2), .val (.int i3), .val (.int i4), .val (.int i5), .val (.int i6), .val (.int (2 : Int32)), .val (.int ((i6 &&& (2147483647 : Int32)) % (3 : Int32))), .val (.ref b44), .val (.int (1 : Int32))] [(.int (own_r10 (own_j9_2_0 (0 : Int32) ((i6 &&& (2147483647 : Int32)) % (3 : Int32)) (2 : Int32)) i1 i2 i3 i4)), (.int (own_v3b_w_numbers_r0_0 ((i6 &&& (2147483647 : Int32)) % (3 : Int32)) i1 i2))])) _
          refine XS.icmpNo X59.here hx rfl (hb hby at_129) rfl (teq hc129_61).2 ?_
          show Steps p.tables e below (T59.setTop (mkF m 132 #[.val (.int i1), .val (.int i2), .val (.int i3), .val (.int i4), .val (.int i5), .val (.int i6), .val (.int (2 : Int32)), .val (.int ((i6 &&& (2147483647 : Int32)) % (3 : Int32))), .val (.ref b44), .val (.int (1 : Int32))] [])) _
          refine XS.iconst X59.here hx rfl (hb hby at_132) ?_
          show Steps p.tables e below (T59.setTop (mkF m 133 #[.val (.int i1), .val (.int i2), .val (.int i3), .val (.int i4), .val (.int i5), .val (.int i6), .val (.int (2 : Int32)), .val (.int ((i6 &&& (2147483647 : Int32)) % (3 : Int32))), .val (.ref b44), .val (.int (1 : Int32))] [(.int (1 : Int32))])) _
          refine XS.goto X59.here hx rfl (pc0 := 133) (pc' := 137) rfl (hb hby at_133) (by decide) (by decide) ?_
          exact k
        exact fun t k => pre62 t (by rw [show (own_j0_129_0_v1 i1 i2 i3 i4 i6) = (1 : Int32) from (if_pos hc129_61)] at k; exact k)
      · have pre63 : ∀ t, Steps p.tables e below (T59.setTop (mkF m 137 #[.val (.int i1), .val (.int i2), .val (.int i3), .val (.int i4), .val (.int i5), .val (.int i6), .val (.int (2 : Int32)), .val (.int ((i6 &&& (2147483647 : Int32)) % (3 : Int32))), .val (.ref b44), .val (.int (1 : Int32))] [(.int (0 : Int32))])) t → Steps p.tables e below (s₁.setTop (entryFrame m #[(.int i1), (.int i2), (.int i3), (.int i4), (.int i5), (.int i6)] maxLocals)) t := by
          intro t k
          refine pre60 _ ?_
          show Steps p.tables e below (T59.setTop (mkF m 129 #[.val (.int i1), .val (.int i2), .val (.int i3), .val (.int i4), .val (.int i5), .val (.int i6), .val (.int (2 : Int32)), .val (.int ((i6 &&& (2147483647 : Int32)) % (3 : Int32))), .val (.ref b44), .val (.int (1 : Int32))] [(.int (own_r10 (own_j9_2_0 (0 : Int32) ((i6 &&& (2147483647 : Int32)) % (3 : Int32)) (2 : Int32)) i1 i2 i3 i4)), (.int (own_v3b_w_numbers_r0_0 ((i6 &&& (2147483647 : Int32)) % (3 : Int32)) i1 i2))])) _
          refine XS.icmpYes X59.here hx rfl (pc0 := 129) (pc' := 136) rfl (hb hby at_129) rfl (feq hc129_61).2 (by decide) (by decide) ?_
          show Steps p.tables e below (T59.setTop (mkF m 136 #[.val (.int i1), .val (.int i2), .val (.int i3), .val (.int i4), .val (.int i5), .val (.int i6), .val (.int (2 : Int32)), .val (.int ((i6 &&& (2147483647 : Int32)) % (3 : Int32))), .val (.ref b44), .val (.int (1 : Int32))] [])) _
          refine XS.iconst X59.here hx rfl (hb hby at_136) ?_
          exact k
        exact fun t k => pre63 t (by rw [show (own_j0_129_0_v1 i1 i2 i3 i4 i6) = (0 : Int32) from (if_neg hc129_61)] at k; exact k)
    have pre65 : ∀ t, Steps p.tables e below (T59.setTop (mkF m 141 #[.val (.int i1), .val (.int i2), .val (.int i3), .val (.int i4), .val (.int i5), .val (.int i6), .val (.int (2 : Int32)), .val (.int ((i6 &&& (2147483647 : Int32)) % (3 : Int32))), .val (.ref b44), .val (.int (own_j0_129_0_v1 i1 i2 i3 i4 i6))] [(.int (own_j0_129_0_v1 i1 i2 i3 i4 i6))])) t → Steps p.tables e below (s₁.setTop (entryFrame m #[(.int i1), (.int i2), (.int i3), (.int i4), (.int i5), (.int i6)] maxLocals)) t := by
      intro t k
      refine pre64 _ ?_
      show Steps p.tables e below (T59.setTop (mkF m 137 #[.val (.int i1), .val (.int i2), .val (.int i3), .val (.int i4), .val (.int i5), .val (.int i6), .val (.int (2 : Int32)), .val (.int ((i6 &&& (2147483647 : Int32)) % (3 : Int32))), .val (.ref b44), .val (.int (1 : Int32))] [(.int (own_j0_129_0_v1 i1 i2 i3 i4 i6))])) _
      refine XS.istore X59.here hx rfl (hb hby at_137) rfl (l' := #[.val (.int i1), .val (.int i2), .val (.int i3), .val (.int i4), .val (.int i5), .val (.int i6), .val (.int (2 : Int32)), .val (.int ((i6 &&& (2147483647 : Int32)) % (3 : Int32))), .val (.ref b44), .val (.int (own_j0_129_0_v1 i1 i2 i3 i4 i6))]) rfl ?_
      show Steps p.tables e below (T59.setTop (mkF m 139 #[.val (.int i1), .val (.int i2), .val (.int i3), .val (.int i4), .val (.int i5), .val (.int i6), .val (.int (2 : Int32)), .val (.int ((i6 &&& (2147483647 : Int32)) % (3 : Int32))), .val (.ref b44), .val (.int (own_j0_129_0_v1 i1 i2 i3 i4 i6))] [])) _
      refine XS.iload X59.here hx rfl (hb hby at_139) rfl ?_
      exact k
    obtain ⟨T76, Lq76, X76, N76, e76, pre76⟩ : ∃ (T' : State) (locs' : List Loc), Stand p l e room_1 s m #[(.int i1), (.int i2), (.int i3), (.int i4), (.int i5), (.int i6)] below meth c T' locs' 2 18 ∧ Fr n0 locs' ∧ T'.heap = T52.heap ∧ ∀ t, Steps p.tables e below (T'.setTop (mkF m 178 #[.val (.int i1), .val (.int i2), .val (.int i3), .val (.int i4), .val (.int i5), .val (.int i6), .val (.int (2 : Int32)), .val (.int ((i6 &&& (2147483647 : Int32)) % (3 : Int32))), .val (.ref b44), .val (.int (own_j0_141_0 i1 i2 i3 i4 i6))] [])) t → Steps p.tables e below (s₁.setTop (entryFrame m #[(.int i1), (.int i2), (.int i3), (.int i4), (.int i5), (.int i6)] maxLocals)) t := by
      by_cases hc141_66 : (own_j0_129_0_v1 i1 i2 i3 i4 i6) = (0 : Int32)
      · have pre67 : ∀ t, Steps p.tables e below (T59.setTop (mkF m 178 #[.val (.int i1), .val (.int i2), .val (.int i3), .val (.int i4), .val (.int i5), .val (.int i6), .val (.int (2 : Int32)), .val (.int ((i6 &&& (2147483647 : Int32)) % (3 : Int32))), .val (.ref b44), .val (.int (own_j0_129_0_v1 i1 i2 i3 i4 i6))] [])) t → Steps p.tables e below (s₁.setTop (entryFrame m #[(.int i1), (.int i2), (.int i3), (.int i4), (.int i5), (.int i6)] maxLocals)) t := by
          intro t k
          refine pre65 _ ?_
          show Steps p.tables e below (T59.setTop (mkF m 141 #[.val (.int i1), .val (.int i2), .val (.int i3), .val (.int i4), .val (.int i5), .val (.int i6), .val (.int (2 : Int32)), .val (.int ((i6 &&& (2147483647 : Int32)) % (3 : Int32))), .val (.ref b44), .val (.int (own_j0_129_0_v1 i1 i2 i3 i4 i6))] [(.int (own_j0_129_0_v1 i1 i2 i3 i4 i6))])) _
          refine XS.ifYes X59.here hx rfl (pc0 := 141) (pc' := 178) rfl (hb hby at_141) rfl ((if0 _ _).trans (teq hc141_66).1) (by decide) (by decide) ?_
          exact k
        exact ⟨T59, _, X59, N59, e59, fun t k => pre67 t (by rw [show (own_j0_141_0 i1 i2 i3 i4 i6) = (own_j0_129_0_v1 i1 i2 i3 i4 i6) from (if_pos hc141_66)] at k; exact k)⟩
      · obtain ⟨cq68, kq68, q68a, q68b, q68c⟩ := isOf hZ e59 f56
        obtain ⟨_, _, ⟨T68, L68, k68, n68⟩, -, X68, ⟨Lc68, hQ68, l68, y68, z68⟩, st68⟩ := X59.virtualBack hx (y := (⟨"com/example/baum/baum/query/NodeList$Builder", "get", "(I)I"⟩ : MethodName)) (z := (⟨"com/example/baum/baum/query/NodeList$Builder", "get", "(I)I"⟩ : MethodName)) hown (mvT hZ (hw _ (List.mem_of_getElem? (i := 30) rfl))) (mvT hZ (hw _ (List.mem_of_getElem? (i := 31) rfl))) (notFace_of_selects (args := #[]) (mvT hZ (hw _ (List.mem_of_getElem? (i := 33) rfl)))) (mvT hZ (hw _ (List.mem_of_getElem? (i := 33) rfl))) (mvT hZ (hw _ (List.mem_of_getElem? (i := 32) rfl))) (by decide) (backOf (W := 0) (rm6b l Z a0 hw [] b44 b46_0 (own_v3b_w_numbers_r0_0 ((i6 &&& (2147483647 : Int32)) % (3 : Int32)) i1 i2) (own_v3b_w_numbers_r0_1 ((i6 &&& (2147483647 : Int32)) % (3 : Int32)) i1 i2) k46_1 T52.heap n0 (Nat.le_trans Z0 K53.1) f57 f54 f52_0) hZ (hw _ (List.mem_of_getElem? (i := 34) rfl)) (hw _ (List.mem_of_getElem? (i := 3) rfl)) (by decide) (by decide)) q68a q68c (g := (mkF m 153 #[.val (.int i1), .val (.int i2), .val (.int i3), .val (.int i4), .val (.int i5), .val (.int i6), .val (.int (2 : Int32)), .val (.int ((i6 &&& (2147483647 : Int32)) % (3 : Int32))), .val (.ref b44), .val (.int (own_j0_129_0_v1 i1 i2 i3 i4 i6))] [(.int (1 : Int32)), (.ref b44)])) rfl (by rw [hml]; rfl) (Steps.refl _) (argsL := [(.int (1 : Int32))]) (rest := []) (lenOf pd_5 rfl) rfl (by show 2 * 0 + _ ≤ _; exact Nat.le_of_eq rfl) (hb hby at_153) (fun _ _ => ⟨rfl, e59, (by decide : 2 + 0 ≤ _), (by decide : 18 + 0 ≤ _)⟩)
        dsimp only [Pt.U, Pt.locs, Pt.cells, Pt.slots] at X68 l68 y68 z68 st68 hQ68
        subst l68 y68 z68
        obtain ⟨rfl, Nq68, e68⟩ := hQ68
        have N68 := Fr.app N59 Nq68
        obtain ⟨_, _, ⟨T69, L69, k69, n69⟩, -, X69, ⟨Lc69, hQ69, l69, y69, z69⟩, st69⟩ := Jvm.LawKit.callS X68 hx (y := (⟨"com/example/baum/baum/query/BuilderReverseFromPinLaw", "expect", "(IIIIIII)I"⟩ : MethodName)) hown (mvT hZ (hw _ (List.mem_of_getElem? (i := 43) rfl))) (mvT hZ (hw _ (List.mem_of_getElem? (i := 44) rfl))) (mvT hZ (hw _ (List.mem_of_getElem? (i := 45) rfl))) (mvT hZ (hw _ (List.mem_of_getElem? (i := 46) rfl))) (by decide) (backOf (W := 1) (rm9 l Z a0 hw [] (1 : Int32) ((i6 &&& (2147483647 : Int32)) % (3 : Int32)) (2 : Int32) i1 i2 i3 i4 T52.heap n0 (Nat.le_trans Z0 K53.1) ) hZ (hw _ (List.mem_of_getElem? (i := 46) rfl)) (hw _ (List.mem_of_getElem? (i := 45) rfl)) (by decide) (by decide)) (g := (mkF m 165 #[.val (.int i1), .val (.int i2), .val (.int i3), .val (.int i4), .val (.int i5), .val (.int i6), .val (.int (2 : Int32)), .val (.int ((i6 &&& (2147483647 : Int32)) % (3 : Int32))), .val (.ref b44), .val (.int (own_j0_129_0_v1 i1 i2 i3 i4 i6))] [(.int i4), (.int i3), (.int i2), (.int i1), (.int (2 : Int32)), (.int ((i6 &&& (2147483647 : Int32)) % (3 : Int32))), (.int (1 : Int32)), (.int (own_v3b_w_numbers_r0_1 ((i6 &&& (2147483647 : Int32)) % (3 : Int32)) i1 i2))])) rfl (by rw [hml]; rfl) (argsL := [(.int (1 : Int32)), (.int ((i6 &&& (2147483647 : Int32)) % (3 : Int32))), (.int (2 : Int32)), (.int i1), (.int i2), (.int i3), (.int i4)]) (rest := [(.int (own_v3b_w_numbers_r0_1 ((i6 &&& (2147483647 : Int32)) % (3 : Int32)) i1 i2))]) (lenOf pd_7 rfl) rfl (by show 2 * 0 + _ ≤ _; exact Nat.le_of_eq rfl) (hb hby at_165) (fun _ _ => ⟨rfl, e68, (by decide : 2 + 0 ≤ _), (by decide : 18 + 0 ≤ _)⟩)
        dsimp only [Pt.U, Pt.locs, Pt.cells, Pt.slots] at X69 l69 y69 z69 st69 hQ69
        subst l69 y69 z69
        obtain ⟨rfl, Nq69, e69⟩ := hQ69
        have N69 := Fr.app N68 Nq69
        have pre70 : ∀ t, Steps p.tables e below (T69.setTop (mkF m 168 #[.val (.int i1), .val (.int i2), .val (.int i3), .val (.int i4), .val (.int i5), .val (.int i6), .val (.int (2 : Int32)), .val (.int ((i6 &&& (2147483647 : Int32)) % (3 : Int32))), .val (.ref b44), .val (.int (own_j0_129_0_v1 i1 i2 i3 i4 i6))] [(.int (own_r10 (own_j9_2_0 (1 : Int32) ((i6 &&& (2147483647 : Int32)) % (3 : Int32)) (2 : Int32)) i1 i2 i3 i4)), (.int (own_v3b_w_numbers_r0_1 ((i6 &&& (2147483647 : Int32)) % (3 : Int32)) i1 i2))])) t → Steps p.tables e below (s₁.setTop (entryFrame m #[(.int i1), (.int i2), (.int i3), (.int i4), (.int i5), (.int i6)] maxLocals)) t := by
          intro t k
          refine pre65 _ ?_
          show Steps p.tables e below (T59.setTop (mkF m 141 #[.val (.int i1), .val (.int i2), .val (.int i3), .val (.int i4), .val (.int i5), .val (.int i6), .val (.int (2 : Int32)), .val (.int ((i6 &&& (2147483647 : Int32)) % (3 : Int32))), .val (.ref b44), .val (.int (own_j0_129_0_v1 i1 i2 i3 i4 i6))] [(.int (own_j0_129_0_v1 i1 i2 i3 i4 i6))])) _
          refine XS.ifNo X59.here hx rfl (hb hby at_141) rfl ((if0 _ _).trans (feq hc141_66).1) ?_
          show Steps p.tables e below (T59.setTop (mkF m 144 #[.val (.int i1), .val (.int i2), .val (.int i3), .val (.int i4), .val (.int i5), .val (.int i6), .val (.int (2 : Int32)), .val (.int ((i6 &&& (2147483647 : Int32)) % (3 : Int32))), .val (.ref b44), .val (.int (own_j0_129_0_v1 i1 i2 i3 i4 i6))] [])) _
          refine XS.iload X59.here hx rfl (hb hby at_144) rfl ?_
          show Steps p.tables e below (T59.setTop (mkF m 146 #[.val (.int i1), .val (.int i2), .val (.int i3), .val (.int i4), .val (.int i5), .val (.int i6), .val (.int (2 : Int32)), .val (.int ((i6 &&& (2147483647 : Int32)) % (3 : Int32))), .val (.ref b44), .val (.int (own_j0_129_0_v1 i1 i2 i3 i4 i6))] [(.int (2 : Int32))])) _
          refine XS.iconst X59.here hx rfl (hb hby at_146) ?_
          show Steps p.tables e below (T59.setTop (mkF m 147 #[.val (.int i1), .val (.int i2), .val (.int i3), .val (.int i4), .val (.int i5), .val (.int i6), .val (.int (2 : Int32)), .val (.int ((i6 &&& (2147483647 : Int32)) % (3 : Int32))), .val (.ref b44), .val (.int (own_j0_129_0_v1 i1 i2 i3 i4 i6))] [(.int (1 : Int32)), (.int (2 : Int32))])) _
          refine XS.icmpNo X59.here hx rfl (hb hby at_147) rfl (tlt (by decide : (1 : Int32) < (2 : Int32))).2.2.2 ?_
          show Steps p.tables e below (T59.setTop (mkF m 150 #[.val (.int i1), .val (.int i2), .val (.int i3), .val (.int i4), .val (.int i5), .val (.int i6), .val (.int (2 : Int32)), .val (.int ((i6 &&& (2147483647 : Int32)) % (3 : Int32))), .val (.ref b44), .val (.int (own_j0_129_0_v1 i1 i2 i3 i4 i6))] [])) _
          refine XS.aload X59.here hx rfl (hb hby at_150) rfl rfl ?_
          show Steps p.tables e below (T59.setTop (mkF m 152 #[.val (.int i1), .val (.int i2), .val (.int i3), .val (.int i4), .val (.int i5), .val (.int i6), .val (.int (2 : Int32)), .val (.int ((i6 &&& (2147483647 : Int32)) % (3 : Int32))), .val (.ref b44), .val (.int (own_j0_129_0_v1 i1 i2 i3 i4 i6))] [(.ref b44)])) _
          refine XS.iconst X59.here hx rfl (hb hby at_152) ?_
          show Steps p.tables e below (T59.setTop (mkF m 153 #[.val (.int i1), .val (.int i2), .val (.int i3), .val (.int i4), .val (.int i5), .val (.int i6), .val (.int (2 : Int32)), .val (.int ((i6 &&& (2147483647 : Int32)) % (3 : Int32))), .val (.ref b44), .val (.int (own_j0_129_0_v1 i1 i2 i3 i4 i6))] [(.int (1 : Int32)), (.ref b44)])) _
          refine st68.trans ?_
          show Steps p.tables e below (T68.setTop (mkF m 156 #[.val (.int i1), .val (.int i2), .val (.int i3), .val (.int i4), .val (.int i5), .val (.int i6), .val (.int (2 : Int32)), .val (.int ((i6 &&& (2147483647 : Int32)) % (3 : Int32))), .val (.ref b44), .val (.int (own_j0_129_0_v1 i1 i2 i3 i4 i6))] [(.int (own_v3b_w_numbers_r0_1 ((i6 &&& (2147483647 : Int32)) % (3 : Int32)) i1 i2))])) _
          refine XS.iconst X68.here hx rfl (hb hby at_156) ?_
          show Steps p.tables e below (T68.setTop (mkF m 157 #[.val (.int i1), .val (.int i2), .val (.int i3), .val (.int i4), .val (.int i5), .val (.int i6), .val (.int (2 : Int32)), .val (.int ((i6 &&& (2147483647 : Int32)) % (3 : Int32))), .val (.ref b44), .val (.int (own_j0_129_0_v1 i1 i2 i3 i4 i6))] [(.int (1 : Int32)), (.int (own_v3b_w_numbers_r0_1 ((i6 &&& (2147483647 : Int32)) % (3 : Int32)) i1 i2))])) _
          refine XS.iload X68.here hx rfl (hb hby at_157) rfl ?_
          show Steps p.tables e below (T68.setTop (mkF m 159 #[.val (.int i1), .val (.int i2), .val (.int i3), .val (.int i4), .val (.int i5), .val (.int i6), .val (.int (2 : Int32)), .val (.int ((i6 &&& (2147483647 : Int32)) % (3 : Int32))), .val (.ref b44), .val (.int (own_j0_129_0_v1 i1 i2 i3 i4 i6))] [(.int ((i6 &&& (2147483647 : Int32)) % (3 : Int32))), (.int (1 : Int32)), (.int (own_v3b_w_numbers_r0_1 ((i6 &&& (2147483647 : Int32)) % (3 : Int32)) i1 i2))])) _
          refine XS.iload X68.here hx rfl (hb hby at_159) rfl ?_
          show Steps p.tables e below (T68.setTop (mkF m 161 #[.val (.int i1), .val (.int i2), .val (.int i3), .val (.int i4), .val (.int i5), .val (.int i6), .val (.int (2 : Int32)), .val (.int ((i6 &&& (2147483647 : Int32)) % (3 : Int32))), .val (.ref b44), .val (.int (own_j0_129_0_v1 i1 i2 i3 i4 i6))] [(.int (2 : Int32)), (.int ((i6 &&& (2147483647 : Int32)) % (3 : Int32))), (.int (1 : Int32)), (.int (own_v3b_w_numbers_r0_1 ((i6 &&& (2147483647 : Int32)) % (3 : Int32)) i1 i2))])) _
          refine XS.iloadN X68.here hx rfl (hb hby at_161) rfl ?_
          show Steps p.tables e below (T68.setTop (mkF m 162 #[.val (.int i1), .val (.int i2), .val (.int i3), .val (.int i4), .val (.int i5), .val (.int i6), .val (.int (2 : Int32)), .val (.int ((i6 &&& (2147483647 : Int32)) % (3 : Int32))), .val (.ref b44), .val (.int (own_j0_129_0_v1 i1 i2 i3 i4 i6))] [(.int i1), (.int (2 : Int32)), (.int ((i6 &&& (2147483647 : Int32)) % (3 : Int32))), (.int (1 : Int32)), (.int (own_v3b_w_numbers_r0_1 ((i6 &&& (2147483647 : Int32)) % (3 : Int32)) i1 i2))])) _
          refine XS.iloadN X68.here hx rfl (hb hby at_162) rfl ?_
          show Steps p.tables e below (T68.setTop (mkF m 163 #[.val (.int i1), .val (.int i2), .val (.int i3), .val (.int i4), .val (.int i5), .val (.int i6), .val (.int (2 : Int32)), .val (.int ((i6 &&& (2147483647 : Int32)) % (3 : Int32))), .val (.ref b44), .val (.int (own_j0_129_0_v1 i1 i2 i3 i4 i6))] [(.int i2), (.int i1), (.int (2 : Int32)), (.int ((i6 &&& (2147483647 : Int32)) % (3 : Int32))), (.int (1 : Int32)), (.int (own_v3b_w_numbers_r0_1 ((i6 &&& (2147483647 : Int32)) % (3 : Int32)) i1 i2))])) _
          refine XS.iloadN X68.here hx rfl (hb hby at_163) rfl ?_
          show Steps p.tables e below (T68.setTop (mkF m 164 #[.val (.int i1), .val (.int i2), .val (.int i3), .val (.int i4), .val (.int i5), .val (.int i6), .val (.int (2 : Int32)), .val (.int ((i6 &&& (2147483647 : Int32)) % (3 : Int32))), .val (.ref b44), .val (.int (own_j0_129_0_v1 i1 i2 i3 i4 i6))] [(.int i3), (.int i2), (.int i1), (.int (2 : Int32)), (.int ((i6 &&& (2147483647 : Int32)) % (3 : Int32))), (.int (1 : Int32)), (.int (own_v3b_w_numbers_r0_1 ((i6 &&& (2147483647 : Int32)) % (3 : Int32)) i1 i2))])) _
          refine XS.iloadN X68.here hx rfl (hb hby at_164) rfl ?_
          show Steps p.tables e below (T68.setTop (mkF m 165 #[.val (.int i1), .val (.int i2), .val (.int i3), .val (.int i4), .val (.int i5), .val (.int i6), .val (.int (2 : Int32)), .val (.int ((i6 &&& (2147483647 : Int32)) % (3 : Int32))), .val (.ref b44), .val (.int (own_j0_129_0_v1 i1 i2 i3 i4 i6))] [(.int i4), (.int i3), (.int i2), (.int i1), (.int (2 : Int32)), (.int ((i6 &&& (2147483647 : Int32)) % (3 : Int32))), (.int (1 : Int32)), (.int (own_v3b_w_numbers_r0_1 ((i6 &&& (2147483647 : Int32)) % (3 : Int32)) i1 i2))])) _
          refine st69 _ ?_
          exact k
        have pre74 : ∀ t, Steps p.tables e below (T69.setTop (mkF m 176 #[.val (.int i1), .val (.int i2), .val (.int i3), .val (.int i4), .val (.int i5), .val (.int i6), .val (.int (2 : Int32)), .val (.int ((i6 &&& (2147483647 : Int32)) % (3 : Int32))), .val (.ref b44), .val (.int (own_j0_129_0_v1 i1 i2 i3 i4 i6))] [(.int (own_j0_168_0 i1 i2 i3 i4 i6))])) t → Steps p.tables e below (s₁.setTop (entryFrame m #[(.int i1), (.int i2), (.int i3), (.int i4), (.int i5), (.int i6)] maxLocals)) t := by
          by_cases hc168_71 : (own_v3b_w_numbers_r0_1 ((i6 &&& (2147483647 : Int32)) % (3 : Int32)) i1 i2) = (own_r10 (own_j9_2_0 (1 : Int32) ((i6 &&& (2147483647 : Int32)) % (3 : Int32)) (2 : Int32)) i1 i2 i3 i4)
          · have pre72 : ∀ t, Steps p.tables e below (T69.setTop (mkF m 176 #[.val (.int i1), .val (.int i2), .val (.int i3), .val (.int i4), .val (.int i5), .val (.int i6), .val (.int (2 : Int32)), .val (.int ((i6 &&& (2147483647 : Int32)) % (3 : Int32))), .val (.ref b44), .val (.int (own_j0_129_0_v1 i1 i2 i3 i4 i6))] [(.int (1 : Int32))])) t → Steps p.tables e below (s₁.setTop (entryFrame m #[(.int i1), (.int i2), (.int i3), (.int i4), (.int i5), (.int i6)] maxLocals)) t := by
              intro t k
              refine pre70 _ ?_
              show Steps p.tables e below (T69.setTop (mkF m 168 #[.val (.int i1), .val (.int i2), .val (.int i3), .val (.int i4), .val (.int i5), .val (.int i6), .val (.int (2 : Int32)), .val (.int ((i6 &&& (2147483647 : Int32)) % (3 : Int32))), .val (.ref b44), .val (.int (own_j0_129_0_v1 i1 i2 i3 i4 i6))] [(.int (own_r10 (own_j9_2_0 (1 : Int32) ((i6 &&& (2147483647 : Int32)) % (3 : Int32)) (2 : Int32)) i1 i2 i3 i4)), (.int (own_v3b_w_numbers_r0_1 ((i6 &&& (2147483647 : Int32)) % (3 : Int32)) i1 i2))])) _
              refine XS.icmpNo X69.here hx rfl (hb hby at_168) rfl (teq hc168_71).2 ?_
              show Steps p.tables e below (T69.setTop (mkF m 171 #[.val (.int i1), .val (.int i2), .val (.int i3), .val (.int i4), .val (.int i5), .val (.int i6), .val (.int (2 : Int32)), .val (.int ((i6 &&& (2147483647 : Int32)) % (3 : Int32))), .val (.ref b44), .val (.int (own_j0_129_0_v1 i1 i2 i3 i4 i6))] [])) _
              refine XS.iconst X69.here hx rfl (hb hby at_171) ?_
              show Steps p.tables e below (T69.setTop (mkF m 172 #[.val (.int i1), .val (.int i2), .val (.int i3), .val (.int i4), .val (.int i5), .val (.int i6), .val (.int (2 : Int32)), .val (.int ((i6 &&& (2147483647 : Int32)) % (3 : Int32))), .val (.ref b44), .val (.int (own_j0_129_0_v1 i1 i2 i3 i4 i6))] [(.int (1 : Int32))])) _
              refine XS.goto X69.here hx rfl (pc0 := 172) (pc' := 176) rfl (hb hby at_172) (by decide) (by decide) ?_
              exact k
            exact fun t k => pre72 t (by rw [show (own_j0_168_0 i1 i2 i3 i4 i6) = (1 : Int32) from (if_pos hc168_71)] at k; exact k)
          · have pre73 : ∀ t, Steps p.tables e below (T69.setTop (mkF m 176 #[.val (.int i1), .val (.int i2), .val (.int i3), .val (.int i4), .val (.int i5), .val (.int i6), .val (.int (2 : Int32)), .val (.int ((i6 &&& (2147483647 : Int32)) % (3 : Int32))), .val (.ref b44), .val (.int (own_j0_129_0_v1 i1 i2 i3 i4 i6))] [(.int (0 : Int32))])) t → Steps p.tables e below (s₁.setTop (entryFrame m #[(.int i1), (.int i2), (.int i3), (.int i4), (.int i5), (.int i6)] maxLocals)) t := by
              intro t k
              refine pre70 _ ?_
              show Steps p.tables e below (T69.setTop (mkF m 168 #[.val (.int i1), .val (.int i2), .val (.int i3), .val (.int i4), .val (.int i5), .val (.int i6), .val (.int (2 : Int32)), .val (.int ((i6 &&& (2147483647 : Int32)) % (3 : Int32))), .val (.ref b44), .val (.int (own_j0_129_0_v1 i1 i2 i3 i4 i6))] [(.int (own_r10 (own_j9_2_0 (1 : Int32) ((i6 &&& (2147483647 : Int32)) % (3 : Int32)) (2 : Int32)) i1 i2 i3 i4)), (.int (own_v3b_w_numbers_r0_1 ((i6 &&& (2147483647 : Int32)) % (3 : Int32)) i1 i2))])) _
              refine XS.icmpYes X69.here hx rfl (pc0 := 168) (pc' := 175) rfl (hb hby at_168) rfl (feq hc168_71).2 (by decide) (by decide) ?_
              show Steps p.tables e below (T69.setTop (mkF m 175 #[.val (.int i1), .val (.int i2), .val (.int i3), .val (.int i4), .val (.int i5), .val (.int i6), .val (.int (2 : Int32)), .val (.int ((i6 &&& (2147483647 : Int32)) % (3 : Int32))), .val (.ref b44), .val (.int (own_j0_129_0_v1 i1 i2 i3 i4 i6))] [])) _
              refine XS.iconst X69.here hx rfl (hb hby at_175) ?_
              exact k
            exact fun t k => pre73 t (by rw [show (own_j0_168_0 i1 i2 i3 i4 i6) = (0 : Int32) from (if_neg hc168_71)] at k; exact k)
        have pre75 : ∀ t, Steps p.tables e below (T69.setTop (mkF m 178 #[.val (.int i1), .val (.int i2), .val (.int i3), .val (.int i4), .val (.int i5), .val (.int i6), .val (.int (2 : Int32)), .val (.int ((i6 &&& (2147483647 : Int32)) % (3 : Int32))), .val (.ref b44), .val (.int (own_j0_168_0 i1 i2 i3 i4 i6))] [])) t → Steps p.tables e below (s₁.setTop (entryFrame m #[(.int i1), (.int i2), (.int i3), (.int i4), (.int i5), (.int i6)] maxLocals)) t := by
          intro t k
          refine pre74 _ ?_
          show Steps p.tables e below (T69.setTop (mkF m 176 #[.val (.int i1), .val (.int i2), .val (.int i3), .val (.int i4), .val (.int i5), .val (.int i6), .val (.int (2 : Int32)), .val (.int ((i6 &&& (2147483647 : Int32)) % (3 : Int32))), .val (.ref b44), .val (.int (own_j0_129_0_v1 i1 i2 i3 i4 i6))] [(.int (own_j0_168_0 i1 i2 i3 i4 i6))])) _
          refine XS.istore X69.here hx rfl (hb hby at_176) rfl (l' := #[.val (.int i1), .val (.int i2), .val (.int i3), .val (.int i4), .val (.int i5), .val (.int i6), .val (.int (2 : Int32)), .val (.int ((i6 &&& (2147483647 : Int32)) % (3 : Int32))), .val (.ref b44), .val (.int (own_j0_168_0 i1 i2 i3 i4 i6))]) rfl ?_
          exact k
        exact ⟨T69, _, X69, N69, e69, fun t k => pre75 t (by rw [show (own_j0_141_0 i1 i2 i3 i4 i6) = (own_j0_168_0 i1 i2 i3 i4 i6) from (if_neg hc141_66)] at k; exact k)⟩
    have pre77 : ∀ t, Steps p.tables e below (T76.setTop (mkF m 180 #[.val (.int i1), .val (.int i2), .val (.int i3), .val (.int i4), .val (.int i5), .val (.int i6), .val (.int (2 : Int32)), .val (.int ((i6 &&& (2147483647 : Int32)) % (3 : Int32))), .val (.ref b44), .val (.int (own_j0_141_0 i1 i2 i3 i4 i6))] [(.int (own_j0_141_0 i1 i2 i3 i4 i6))])) t → Steps p.tables e below (s₁.setTop (entryFrame m #[(.int i1), (.int i2), (.int i3), (.int i4), (.int i5), (.int i6)] maxLocals)) t := by
      intro t k
      refine pre76 _ ?_
      show Steps p.tables e below (T76.setTop (mkF m 178 #[.val (.int i1), .val (.int i2), .val (.int i3), .val (.int i4), .val (.int i5), .val (.int i6), .val (.int (2 : Int32)), .val (.int ((i6 &&& (2147483647 : Int32)) % (3 : Int32))), .val (.ref b44), .val (.int (own_j0_141_0 i1 i2 i3 i4 i6))] [])) _
      refine XS.iload X76.here hx rfl (hb hby at_178) rfl ?_
      exact k
    have pre81 : ∀ t, Steps p.tables e below (T76.setTop (mkF m 217 #[.val (.int i1), .val (.int i2), .val (.int i3), .val (.int i4), .val (.int i5), .val (.int i6), .val (.int (2 : Int32)), .val (.int ((i6 &&& (2147483647 : Int32)) % (3 : Int32))), .val (.ref b44), .val (.int (own_j0_141_0 i1 i2 i3 i4 i6))] [])) t → Steps p.tables e below (s₁.setTop (entryFrame m #[(.int i1), (.int i2), (.int i3), (.int i4), (.int i5), (.int i6)] maxLocals)) t := by
      by_cases hc180_78 : (own_j0_141_0 i1 i2 i3 i4 i6) = (0 : Int32)
      · have pre79 : ∀ t, Steps p.tables e below (T76.setTop (mkF m 217 #[.val (.int i1), .val (.int i2), .val (.int i3), .val (.int i4), .val (.int i5), .val (.int i6), .val (.int (2 : Int32)), .val (.int ((i6 &&& (2147483647 : Int32)) % (3 : Int32))), .val (.ref b44), .val (.int (own_j0_141_0 i1 i2 i3 i4 i6))] [])) t → Steps p.tables e below (s₁.setTop (entryFrame m #[(.int i1), (.int i2), (.int i3), (.int i4), (.int i5), (.int i6)] maxLocals)) t := by
          intro t k
          refine pre77 _ ?_
          show Steps p.tables e below (T76.setTop (mkF m 180 #[.val (.int i1), .val (.int i2), .val (.int i3), .val (.int i4), .val (.int i5), .val (.int i6), .val (.int (2 : Int32)), .val (.int ((i6 &&& (2147483647 : Int32)) % (3 : Int32))), .val (.ref b44), .val (.int (own_j0_141_0 i1 i2 i3 i4 i6))] [(.int (own_j0_141_0 i1 i2 i3 i4 i6))])) _
          refine XS.ifYes X76.here hx rfl (pc0 := 180) (pc' := 217) rfl (hb hby at_180) rfl ((if0 _ _).trans (teq hc180_78).1) (by decide) (by decide) ?_
          exact k
        exact pre79
      · have pre80 : ∀ t, Steps p.tables e below (T76.setTop (mkF m 217 #[.val (.int i1), .val (.int i2), .val (.int i3), .val (.int i4), .val (.int i5), .val (.int i6), .val (.int (2 : Int32)), .val (.int ((i6 &&& (2147483647 : Int32)) % (3 : Int32))), .val (.ref b44), .val (.int (own_j0_141_0 i1 i2 i3 i4 i6))] [])) t → Steps p.tables e below (s₁.setTop (entryFrame m #[(.int i1), (.int i2), (.int i3), (.int i4), (.int i5), (.int i6)] maxLocals)) t := by
          intro t k
          refine pre77 _ ?_
          show Steps p.tables e below (T76.setTop (mkF m 180 #[.val (.int i1), .val (.int i2), .val (.int i3), .val (.int i4), .val (.int i5), .val (.int i6), .val (.int (2 : Int32)), .val (.int ((i6 &&& (2147483647 : Int32)) % (3 : Int32))), .val (.ref b44), .val (.int (own_j0_141_0 i1 i2 i3 i4 i6))] [(.int (own_j0_141_0 i1 i2 i3 i4 i6))])) _
          refine XS.ifNo X76.here hx rfl (hb hby at_180) rfl ((if0 _ _).trans (feq hc180_78).1) ?_
          show Steps p.tables e below (T76.setTop (mkF m 183 #[.val (.int i1), .val (.int i2), .val (.int i3), .val (.int i4), .val (.int i5), .val (.int i6), .val (.int (2 : Int32)), .val (.int ((i6 &&& (2147483647 : Int32)) % (3 : Int32))), .val (.ref b44), .val (.int (own_j0_141_0 i1 i2 i3 i4 i6))] [])) _
          refine XS.iload X76.here hx rfl (hb hby at_183) rfl ?_
          show Steps p.tables e below (T76.setTop (mkF m 185 #[.val (.int i1), .val (.int i2), .val (.int i3), .val (.int i4), .val (.int i5), .val (.int i6), .val (.int (2 : Int32)), .val (.int ((i6 &&& (2147483647 : Int32)) % (3 : Int32))), .val (.ref b44), .val (.int (own_j0_141_0 i1 i2 i3 i4 i6))] [(.int (2 : Int32))])) _
          refine XS.iconst X76.here hx rfl (hb hby at_185) ?_
          show Steps p.tables e below (T76.setTop (mkF m 186 #[.val (.int i1), .val (.int i2), .val (.int i3), .val (.int i4), .val (.int i5), .val (.int i6), .val (.int (2 : Int32)), .val (.int ((i6 &&& (2147483647 : Int32)) % (3 : Int32))), .val (.ref b44), .val (.int (own_j0_141_0 i1 i2 i3 i4 i6))] [(.int (2 : Int32)), (.int (2 : Int32))])) _
          refine XS.icmpYes X76.here hx rfl (pc0 := 186) (pc' := 217) rfl (hb hby at_186) rfl (flt (by decide : ¬ ((2 : Int32) < (2 : Int32)))).2.2.2 (by decide) (by decide) ?_
          exact k
        exact pre80
    have pre82 : ∀ t, Steps p.tables e below (T76.setTop (mkF m 219 #[.val (.int i1), .val (.int i2), .val (.int i3), .val (.int i4), .val (.int i5), .val (.int i6), .val (.int (2 : Int32)), .val (.int ((i6 &&& (2147483647 : Int32)) % (3 : Int32))), .val (.ref b44), .val (.int (own_j0_141_0 i1 i2 i3 i4 i6))] [(.int (own_j0_141_0 i1 i2 i3 i4 i6))])) t → Steps p.tables e below (s₁.setTop (entryFrame m #[(.int i1), (.int i2), (.int i3), (.int i4), (.int i5), (.int i6)] maxLocals)) t := by
      intro t k
      refine pre81 _ ?_
      show Steps p.tables e below (T76.setTop (mkF m 217 #[.val (.int i1), .val (.int i2), .val (.int i3), .val (.int i4), .val (.int i5), .val (.int i6), .val (.int (2 : Int32)), .val (.int ((i6 &&& (2147483647 : Int32)) % (3 : Int32))), .val (.ref b44), .val (.int (own_j0_141_0 i1 i2 i3 i4 i6))] [])) _
      refine XS.iload X76.here hx rfl (hb hby at_217) rfl ?_
      exact k
    have pre86 : ∀ t, Steps p.tables e below (T76.setTop (mkF m 256 #[.val (.int i1), .val (.int i2), .val (.int i3), .val (.int i4), .val (.int i5), .val (.int i6), .val (.int (2 : Int32)), .val (.int ((i6 &&& (2147483647 : Int32)) % (3 : Int32))), .val (.ref b44), .val (.int (own_j0_141_0 i1 i2 i3 i4 i6))] [])) t → Steps p.tables e below (s₁.setTop (entryFrame m #[(.int i1), (.int i2), (.int i3), (.int i4), (.int i5), (.int i6)] maxLocals)) t := by
      by_cases hc219_83 : (own_j0_141_0 i1 i2 i3 i4 i6) = (0 : Int32)
      · have pre84 : ∀ t, Steps p.tables e below (T76.setTop (mkF m 256 #[.val (.int i1), .val (.int i2), .val (.int i3), .val (.int i4), .val (.int i5), .val (.int i6), .val (.int (2 : Int32)), .val (.int ((i6 &&& (2147483647 : Int32)) % (3 : Int32))), .val (.ref b44), .val (.int (own_j0_141_0 i1 i2 i3 i4 i6))] [])) t → Steps p.tables e below (s₁.setTop (entryFrame m #[(.int i1), (.int i2), (.int i3), (.int i4), (.int i5), (.int i6)] maxLocals)) t := by
          intro t k
          refine pre82 _ ?_
          show Steps p.tables e below (T76.setTop (mkF m 219 #[.val (.int i1), .val (.int i2), .val (.int i3), .val (.int i4), .val (.int i5), .val (.int i6), .val (.int (2 : Int32)), .val (.int ((i6 &&& (2147483647 : Int32)) % (3 : Int32))), .val (.ref b44), .val (.int (own_j0_141_0 i1 i2 i3 i4 i6))] [(.int (own_j0_141_0 i1 i2 i3 i4 i6))])) _
          refine XS.ifYes X76.here hx rfl (pc0 := 219) (pc' := 256) rfl (hb hby at_219) rfl ((if0 _ _).trans (teq hc219_83).1) (by decide) (by decide) ?_
          exact k
        exact pre84
      · have pre85 : ∀ t, Steps p.tables e below (T76.setTop (mkF m 256 #[.val (.int i1), .val (.int i2), .val (.int i3), .val (.int i4), .val (.int i5), .val (.int i6), .val (.int (2 : Int32)), .val (.int ((i6 &&& (2147483647 : Int32)) % (3 : Int32))), .val (.ref b44), .val (.int (own_j0_141_0 i1 i2 i3 i4 i6))] [])) t → Steps p.tables e below (s₁.setTop (entryFrame m #[(.int i1), (.int i2), (.int i3), (.int i4), (.int i5), (.int i6)] maxLocals)) t := by
          intro t k
          refine pre82 _ ?_
          show Steps p.tables e below (T76.setTop (mkF m 219 #[.val (.int i1), .val (.int i2), .val (.int i3), .val (.int i4), .val (.int i5), .val (.int i6), .val (.int (2 : Int32)), .val (.int ((i6 &&& (2147483647 : Int32)) % (3 : Int32))), .val (.ref b44), .val (.int (own_j0_141_0 i1 i2 i3 i4 i6))] [(.int (own_j0_141_0 i1 i2 i3 i4 i6))])) _
          refine XS.ifNo X76.here hx rfl (hb hby at_219) rfl ((if0 _ _).trans (feq hc219_83).1) ?_
          show Steps p.tables e below (T76.setTop (mkF m 222 #[.val (.int i1), .val (.int i2), .val (.int i3), .val (.int i4), .val (.int i5), .val (.int i6), .val (.int (2 : Int32)), .val (.int ((i6 &&& (2147483647 : Int32)) % (3 : Int32))), .val (.ref b44), .val (.int (own_j0_141_0 i1 i2 i3 i4 i6))] [])) _
          refine XS.iload X76.here hx rfl (hb hby at_222) rfl ?_
          show Steps p.tables e below (T76.setTop (mkF m 224 #[.val (.int i1), .val (.int i2), .val (.int i3), .val (.int i4), .val (.int i5), .val (.int i6), .val (.int (2 : Int32)), .val (.int ((i6 &&& (2147483647 : Int32)) % (3 : Int32))), .val (.ref b44), .val (.int (own_j0_141_0 i1 i2 i3 i4 i6))] [(.int (2 : Int32))])) _
          refine XS.iconst X76.here hx rfl (hb hby at_224) ?_
          show Steps p.tables e below (T76.setTop (mkF m 225 #[.val (.int i1), .val (.int i2), .val (.int i3), .val (.int i4), .val (.int i5), .val (.int i6), .val (.int (2 : Int32)), .val (.int ((i6 &&& (2147483647 : Int32)) % (3 : Int32))), .val (.ref b44), .val (.int (own_j0_141_0 i1 i2 i3 i4 i6))] [(.int (3 : Int32)), (.int (2 : Int32))])) _
          refine XS.icmpYes X76.here hx rfl (pc0 := 225) (pc' := 256) rfl (hb hby at_225) rfl (flt (by decide : ¬ ((3 : Int32) < (2 : Int32)))).2.2.2 (by decide) (by decide) ?_
          exact k
        exact pre85
    have pre87 : ∀ t, Steps p.tables e below (T76.setTop (mkF m 258 #[.val (.int i1), .val (.int i2), .val (.int i3), .val (.int i4), .val (.int i5), .val (.int i6), .val (.int (2 : Int32)), .val (.int ((i6 &&& (2147483647 : Int32)) % (3 : Int32))), .val (.ref b44), .val (.int (own_j0_141_0 i1 i2 i3 i4 i6))] [(.int (own_j0_141_0 i1 i2 i3 i4 i6))])) t → Steps p.tables e below (s₁.setTop (entryFrame m #[(.int i1), (.int i2), (.int i3), (.int i4), (.int i5), (.int i6)] maxLocals)) t := by
      intro t k
      refine pre86 _ ?_
      show Steps p.tables e below (T76.setTop (mkF m 256 #[.val (.int i1), .val (.int i2), .val (.int i3), .val (.int i4), .val (.int i5), .val (.int i6), .val (.int (2 : Int32)), .val (.int ((i6 &&& (2147483647 : Int32)) % (3 : Int32))), .val (.ref b44), .val (.int (own_j0_141_0 i1 i2 i3 i4 i6))] [])) _
      refine XS.iload X76.here hx rfl (hb hby at_256) rfl ?_
      exact k
    obtain ⟨fs, hr, hrun, hended, hW, hsame⟩ := X76.leave (v := some (.int (nar .boolean (own_j0_141_0 i1 i2 i3 i4 i6)))) (fun h => by rw [Bd.returns] at h; cases h)
    refine ⟨_, _, pre87 _ ?_, hrun, hended, _, _, rfl, ?_, ⟨_, rfl⟩, hW, hsame.mono (by decide) (by decide)⟩
    · show Steps p.tables e below (T76.setTop (mkF m 258 #[.val (.int i1), .val (.int i2), .val (.int i3), .val (.int i4), .val (.int i5), .val (.int i6), .val (.int (2 : Int32)), .val (.int ((i6 &&& (2147483647 : Int32)) % (3 : Int32))), .val (.ref b44), .val (.int (own_j0_141_0 i1 i2 i3 i4 i6))] [(.int (own_j0_141_0 i1 i2 i3 i4 i6))])) _
      exact retN X76 hx (t := .boolean) Bd.returns (by simp) (hb hby at_258) hr
    · show Q0 Z i1 i2 i3 i4 i5 i6 h0 n0 _ T76.heap _
      rw [e76]
      exact ⟨congrArg (fun z => some (Value.int z)) (show (own_r0 i1 i2 i3 i4 i5 i6) = (nar .boolean (own_j0_141_0 i1 i2 i3 i4 i6)) from ((if_neg (by rw [hk2]; decide)).trans ((if_neg (by rw [hk2]; decide)).trans (if_pos hk2)))).symm, N76⟩
  · have pre88 : ∀ t, Steps p.tables e below (s₁.setTop (mkF m 9 #[.val (.int i1), .val (.int i2), .val (.int i3), .val (.int i4), .val (.int i5), .val (.int i6), .val (.int (3 : Int32)), .unset, .unset, .unset] [])) t → Steps p.tables e below (s₁.setTop (entryFrame m #[(.int i1), (.int i2), (.int i3), (.int i4), (.int i5), (.int i6)] maxLocals)) t := fun t k => pre1 t (by rw [hk2]; exact k)
    obtain ⟨T89, h89, X89, e89, E89, A89, D89, -, st89⟩ := newO X0 hx hZ hown (hw _ (List.mem_of_getElem? (i := 1) rfl)) (hw _ (List.mem_of_getElem? (i := 2) rfl)) (hw _ (List.mem_of_getElem? (i := 3) rfl)) e0 (g := (mkF m 21 #[.val (.int i1), .val (.int i2), .val (.int i3), .val (.int i4), .val (.int i5), .val (.int i6), .val (.int (3 : Int32)), .val (.int ((i6 &&& (2147483647 : Int32)) % (4 : Int32))), .unset, .unset] [])) rfl (hb hby at_21) (by decide) (by decide)
    obtain ⟨b89, g89⟩ : ∃ z, z = h0.size := ⟨_, rfl⟩
    rw [← g89] at A89 D89 st89
    have sz_b89 : h0.size ≤ b89 := Nat.le_trans (Keep.refl h0 []).1 (Nat.le_of_eq g89.symm)
    have K90 : Keep h0 h89 [] := (Keep.refl h0 []).ext E89
    have Fnumbers_89 : Fld Z h89 b89 "com/example/baum/baum/query/NodeList$Builder" "numbers" "[I" .null := D89 (Or.inl (hw _ (List.mem_of_getElem? (i := 12) rfl))) (ty := (.array .int)) (by decide)
    have Fsize_89 : Fld Z h89 b89 "com/example/baum/baum/query/NodeList$Builder" "size" "I" (.int (0 : Int32)) := D89 (Or.inl (hw _ (List.mem_of_getElem? (i := 19) rfl))) (ty := .int) (by decide)
    obtain ⟨_, _, ⟨T91, L91, k91, n91⟩, -, X91, ⟨Lc91, hQ91, l91, y91, z91⟩, st91⟩ := X89.specialBack hx (y := (⟨"com/example/baum/baum/query/NodeList$Builder", "<init>", "()V"⟩ : MethodName)) rfl hown (mvT hZ (hw _ (List.mem_of_getElem? (i := 4) rfl))) (mvT hZ (hw _ (List.mem_of_getElem? (i := 5) rfl))) (mvT hZ (hw _ (List.mem_of_getElem? (i := 6) rfl))) (by decide) (backOf (W := 1) (rm1 l Z a0 hw [] b89 (.int (0 : Int32)) (.null) h89 n0 (Nat.le_trans Z0 K90.1) Fsize_89 A89 Fnumbers_89 (Nat.le_trans Z0 sz_b89)) hZ (hw _ (List.mem_of_getElem? (i := 6) rfl)) (hw _ (List.mem_of_getElem? (i := 3) rfl)) (by decide) (by decide)) (g := (mkF m 25 #[.val (.int i1), .val (.int i2), .val (.int i3), .val (.int i4), .val (.int i5), .val (.int i6), .val (.int (3 : Int32)), .val (.int ((i6 &&& (2147483647 : Int32)) % (4 : Int32))), .unset, .unset] [(.ref b89), (.ref b89)])) rfl (by rw [hml]; rfl) (Steps.refl _) (a := b89) (argsL := []) (rest := [(.ref b89)]) (lenOf pd_0 rfl) rfl (by show 2 * 0 + _ ≤ _; exact Nat.le_of_eq rfl) (hb hby at_25) (fun _ _ => ⟨rfl, e89, (by decide : 1 + 1 ≤ _), (by decide : 2 + 16 ≤ _)⟩)
    dsimp only [Pt.U, Pt.locs, Pt.cells, Pt.slots] at X91 l91 y91 z91 st91 hQ91
    subst l91 y91 z91
    obtain ⟨b91_0, k91_1, rfl, Nq91, Kq91, sq91_0, f91_0, f91_1, f91_2, f91_3⟩ := hQ91
    have sz_b91_0 : h0.size ≤ b91_0 := Nat.le_trans K90.1 sq91_0
    have K92 : Keep h0 T91.heap [] := K90.trans Kq91 (allS (Or.inr sz_b89) all0)
    have N91 := Fr.app N0 Nq91
    obtain ⟨cq93, kq93, q93a, q93b, q93c⟩ := isOf hZ rfl f91_1
    obtain ⟨_, _, ⟨T93, L93, k93, n93⟩, -, X93, ⟨Lc93, hQ93, l93, y93, z93⟩, st93⟩ := X91.virtualBack hx (y := (⟨"com/example/baum/baum/query/NodeList$Builder", "add", "(I)V"⟩ : MethodName)) (z := (⟨"com/example/baum/baum/query/NodeList$Builder", "add", "(I)V"⟩ : MethodName)) hown (mvT hZ (hw _ (List.mem_of_getElem? (i := 25) rfl))) (mvT hZ (hw _ (List.mem_of_getElem? (i := 26) rfl))) (notFace_of_selects (args := #[]) (mvT hZ (hw _ (List.mem_of_getElem? (i := 28) rfl)))) (mvT hZ (hw _ (List.mem_of_getElem? (i := 28) rfl))) (mvT hZ (hw _ (List.mem_of_getElem? (i := 27) rfl))) (by decide) (backOf (W := 0) (rm5 l Z a0 hw [] b89 i1 b91_0 k91_1 T91.heap n0 (Nat.le_trans Z0 K92.1) f91_3 f91_2 f91_0 f91_1 (Nat.le_trans Z0 sz_b89) (Ne.symm (Nat.ne_of_lt (Nat.lt_of_lt_of_le A89.lt (Nat.le_trans (Nat.le_refl _) sq91_0)))) (Nat.le_trans Z0 sz_b91_0)) hZ (hw _ (List.mem_of_getElem? (i := 29) rfl)) (hw _ (List.mem_of_getElem? (i := 3) rfl)) (by decide) (by decide)) q93a q93c (g := (mkF m 38 #[.val (.int i1), .val (.int i2), .val (.int i3), .val (.int i4), .val (.int i5), .val (.int i6), .val (.int (3 : Int32)), .val (.int ((i6 &&& (2147483647 : Int32)) % (4 : Int32))), .val (.ref b89), .unset] [(.int i1), (.ref b89)])) rfl (by rw [hml]; rfl) (Steps.refl _) (argsL := [(.int i1)]) (rest := []) (lenOf pd_1 rfl) rfl (by show 2 * 0 + _ ≤ _; exact Nat.le_of_eq rfl) (hb hby at_38) (fun _ _ => ⟨rfl, rfl, (by decide : 2 + 0 ≤ _), (by decide : 18 + 0 ≤ _)⟩)
    dsimp only [Pt.U, Pt.locs, Pt.cells, Pt.slots] at X93 l93 y93 z93 st93 hQ93
    subst l93 y93 z93
    obtain ⟨rfl, Nq93, Kq93, f93_0, f93_1, f93_2, f93_3⟩ := hQ93
    have K94 : Keep h0 T93.heap [] := K92.trans Kq93 (allS (Or.inr sz_b89) (allS (Or.inr sz_b91_0) all0))
    have N93 := Fr.app N91 Nq93
    obtain ⟨cq95, kq95, q95a, q95b, q95c⟩ := isOf hZ rfl f93_3
    obtain ⟨_, _, ⟨T95, L95, k95, n95⟩, -, X95, ⟨Lc95, hQ95, l95, y95, z95⟩, st95⟩ := X93.virtualBack hx (y := (⟨"com/example/baum/baum/query/NodeList$Builder", "add", "(I)V"⟩ : MethodName)) (z := (⟨"com/example/baum/baum/query/NodeList$Builder", "add", "(I)V"⟩ : MethodName)) hown (mvT hZ (hw _ (List.mem_of_getElem? (i := 25) rfl))) (mvT hZ (hw _ (List.mem_of_getElem? (i := 26) rfl))) (notFace_of_selects (args := #[]) (mvT hZ (hw _ (List.mem_of_getElem? (i := 28) rfl)))) (mvT hZ (hw _ (List.mem_of_getElem? (i := 28) rfl))) (mvT hZ (hw _ (List.mem_of_getElem? (i := 27) rfl))) (by decide) (backOf (W := 0) (rm5a l Z a0 hw [] b89 i2 b91_0 i1 k91_1 T93.heap n0 (Nat.le_trans Z0 K94.1) f93_0 f93_1 f93_2 f93_3 (Nat.le_trans Z0 sz_b89) (Ne.symm (Nat.ne_of_lt (Nat.lt_of_lt_of_le A89.lt (Nat.le_trans (Nat.le_refl _) sq91_0)))) (Nat.le_trans Z0 sz_b91_0)) hZ (hw _ (List.mem_of_getElem? (i := 29) rfl)) (hw _ (List.mem_of_getElem? (i := 3) rfl)) (by decide) (by decide)) q95a q95c (g := (mkF m 50 #[.val (.int i1), .val (.int i2), .val (.int i3), .val (.int i4), .val (.int i5), .val (.int i6), .val (.int (3 : Int32)), .val (.int ((i6 &&& (2147483647 : Int32)) % (4 : Int32))), .val (.ref b89), .unset] [(.int i2), (.ref b89)])) rfl (by rw [hml]; rfl) (Steps.refl _) (argsL := [(.int i2)]) (rest := []) (lenOf pd_1 rfl) rfl (by show 2 * 0 + _ ≤ _; exact Nat.le_of_eq rfl) (hb hby at_50) (fun _ _ => ⟨rfl, rfl, (by decide : 2 + 0 ≤ _), (by decide : 18 + 0 ≤ _)⟩)
    dsimp only [Pt.U, Pt.locs, Pt.cells, Pt.slots] at X95 l95 y95 z95 st95 hQ95
    subst l95 y95 z95
    obtain ⟨rfl, Nq95, Kq95, f95_0, f95_1, f95_2, f95_3⟩ := hQ95
    have K96 : Keep h0 T95.heap [] := K94.trans Kq95 (allS (Or.inr sz_b89) (allS (Or.inr sz_b91_0) all0))
    have N95 := Fr.app N93 Nq95
    obtain ⟨cq97, kq97, q97a, q97b, q97c⟩ := isOf hZ rfl f95_3
    obtain ⟨_, _, ⟨T97, L97, k97, n97⟩, -, X97, ⟨Lc97, hQ97, l97, y97, z97⟩, st97⟩ := X95.virtualBack hx (y := (⟨"com/example/baum/baum/query/NodeList$Builder", "add", "(I)V"⟩ : MethodName)) (z := (⟨"com/example/baum/baum/query/NodeList$Builder", "add", "(I)V"⟩ : MethodName)) hown (mvT hZ (hw _ (List.mem_of_getElem? (i := 25) rfl))) (mvT hZ (hw _ (List.mem_of_getElem? (i := 26) rfl))) (notFace_of_selects (args := #[]) (mvT hZ (hw _ (List.mem_of_getElem? (i := 28) rfl)))) (mvT hZ (hw _ (List.mem_of_getElem? (i := 28) rfl))) (mvT hZ (hw _ (List.mem_of_getElem? (i := 27) rfl))) (by decide) (backOf (W := 0) (rm5b l Z a0 hw [] b89 i3 b91_0 i1 i2 k91_1 T95.heap n0 (Nat.le_trans Z0 K96.1) f95_0 f95_1 f95_2 f95_3 (Nat.le_trans Z0 sz_b89) (Ne.symm (Nat.ne_of_lt (Nat.lt_of_lt_of_le A89.lt (Nat.le_trans (Nat.le_refl _) sq91_0)))) (Nat.le_trans Z0 sz_b91_0)) hZ (hw _ (List.mem_of_getElem? (i := 29) rfl)) (hw _ (List.mem_of_getElem? (i := 3) rfl)) (by decide) (by decide)) q97a q97c (g := (mkF m 62 #[.val (.int i1), .val (.int i2), .val (.int i3), .val (.int i4), .val (.int i5), .val (.int i6), .val (.int (3 : Int32)), .val (.int ((i6 &&& (2147483647 : Int32)) % (4 : Int32))), .val (.ref b89), .unset] [(.int i3), (.ref b89)])) rfl (by rw [hml]; rfl) (Steps.refl _) (argsL := [(.int i3)]) (rest := []) (lenOf pd_1 rfl) rfl (by show 2 * 0 + _ ≤ _; exact Nat.le_of_eq rfl) (hb hby at_62) (fun _ _ => ⟨rfl, rfl, (by decide : 2 + 0 ≤ _), (by decide : 18 + 0 ≤ _)⟩)
    dsimp only [Pt.U, Pt.locs, Pt.cells, Pt.slots] at X97 l97 y97 z97 st97 hQ97
    subst l97 y97 z97
    obtain ⟨rfl, Nq97, Kq97, f97_0, f97_1, f97_2, f97_3⟩ := hQ97
    have K98 : Keep h0 T97.heap [] := K96.trans Kq97 (allS (Or.inr sz_b89) (allS (Or.inr sz_b91_0) all0))
    have N97 := Fr.app N95 Nq97
    obtain ⟨cq99, kq99, q99a, q99b, q99c⟩ := isOf hZ rfl f97_3
    obtain ⟨_, _, ⟨T99, L99, k99, n99⟩, -, X99, ⟨Lc99, hQ99, l99, y99, z99⟩, st99⟩ := X97.virtualBack hx (y := (⟨"com/example/baum/baum/query/NodeList$Builder", "reverseFrom", "(I)V"⟩ : MethodName)) (z := (⟨"com/example/baum/baum/query/NodeList$Builder", "reverseFrom", "(I)V"⟩ : MethodName)) hown (mvT hZ (hw _ (List.mem_of_getElem? (i := 13) rfl))) (mvT hZ (hw _ (List.mem_of_getElem? (i := 14) rfl))) (notFace_of_selects (args := #[]) (mvT hZ (hw _ (List.mem_of_getElem? (i := 16) rfl)))) (mvT hZ (hw _ (List.mem_of_getElem? (i := 16) rfl))) (mvT hZ (hw _ (List.mem_of_getElem? (i := 15) rfl))) (by decide) (backOf (W := 0) (rm3c l Z a0 hw [] b89 ((i6 &&& (2147483647 : Int32)) % (4 : Int32)) b91_0 i1 i2 i3 k91_1 T97.heap n0 (Nat.le_trans Z0 K98.1) f97_0 (own_ob0_g81_1xxx i6) f97_1 f97_2 (Nat.le_trans Z0 sz_b91_0) (Nat.ne_of_lt (Nat.lt_of_lt_of_le A89.lt (Nat.le_trans (Nat.le_refl _) sq91_0)))) hZ (hw _ (List.mem_of_getElem? (i := 17) rfl)) (hw _ (List.mem_of_getElem? (i := 3) rfl)) (by decide) (by decide)) q99a q99c (g := (mkF m 81 #[.val (.int i1), .val (.int i2), .val (.int i3), .val (.int i4), .val (.int i5), .val (.int i6), .val (.int (3 : Int32)), .val (.int ((i6 &&& (2147483647 : Int32)) % (4 : Int32))), .val (.ref b89), .unset] [(.int ((i6 &&& (2147483647 : Int32)) % (4 : Int32))), (.ref b89)])) rfl (by rw [hml]; rfl) (Steps.refl _) (argsL := [(.int ((i6 &&& (2147483647 : Int32)) % (4 : Int32)))]) (rest := []) (lenOf pd_1 rfl) rfl (by show 2 * 0 + _ ≤ _; exact Nat.le_of_eq rfl) (hb hby at_81) (fun _ _ => ⟨rfl, rfl, (by decide : 2 + 0 ≤ _), (by decide : 18 + 0 ≤ _)⟩)
    dsimp only [Pt.U, Pt.locs, Pt.cells, Pt.slots] at X99 l99 y99 z99 st99 hQ99
    subst l99 y99 z99
    obtain ⟨rfl, Nq99, Kq99, f99_0⟩ := hQ99
    have K100 : Keep h0 T99.heap [] := K98.trans Kq99 (allS (Or.inr sz_b91_0) all0)
    have N99 := Fr.app N97 Nq99
    have f101 := (f97_0.keep Kq99 (ninS (Nat.ne_of_lt (Nat.lt_of_lt_of_le A89.lt (Nat.le_trans (Nat.le_refl _) sq91_0))) nin0))
    have f103 := (f97_3.keep Kq99)
    obtain ⟨cq102, kq102, q102a, q102b, q102c⟩ := isOf hZ rfl f103
    obtain ⟨_, _, ⟨T102, L102, k102, n102⟩, -, X102, ⟨Lc102, hQ102, l102, y102, z102⟩, st102⟩ := X99.virtualBack hx (y := (⟨"com/example/baum/baum/query/NodeList$Builder", "size", "()I"⟩ : MethodName)) (z := (⟨"com/example/baum/baum/query/NodeList$Builder", "size", "()I"⟩ : MethodName)) hown (mvT hZ (hw _ (List.mem_of_getElem? (i := 20) rfl))) (mvT hZ (hw _ (List.mem_of_getElem? (i := 21) rfl))) (notFace_of_selects (args := #[]) (mvT hZ (hw _ (List.mem_of_getElem? (i := 23) rfl)))) (mvT hZ (hw _ (List.mem_of_getElem? (i := 23) rfl))) (mvT hZ (hw _ (List.mem_of_getElem? (i := 22) rfl))) (by decide) (backOf (W := 0) (rm4c l Z a0 hw [] b89 T99.heap n0 (Nat.le_trans Z0 K100.1) f101) hZ (hw _ (List.mem_of_getElem? (i := 24) rfl)) (hw _ (List.mem_of_getElem? (i := 3) rfl)) (by decide) (by decide)) q102a q102c (g := (mkF m 86 #[.val (.int i1), .val (.int i2), .val (.int i3), .val (.int i4), .val (.int i5), .val (.int i6), .val (.int (3 : Int32)), .val (.int ((i6 &&& (2147483647 : Int32)) % (4 : Int32))), .val (.ref b89), .unset] [(.ref b89)])) rfl (by rw [hml]; rfl) (Steps.refl _) (argsL := []) (rest := []) (lenOf pd_2 rfl) rfl (by show 2 * 0 + _ ≤ _; exact Nat.le_of_eq rfl) (hb hby at_86) (fun _ _ => ⟨rfl, rfl, (by decide : 2 + 0 ≤ _), (by decide : 18 + 0 ≤ _)⟩)
    dsimp only [Pt.U, Pt.locs, Pt.cells, Pt.slots] at X102 l102 y102 z102 st102 hQ102
    subst l102 y102 z102
    obtain ⟨rfl, Nq102, e102⟩ := hQ102
    have N102 := Fr.app N99 Nq102
    have f104 := (f97_1.keep Kq99 (ninS (Nat.ne_of_lt (Nat.lt_of_lt_of_le A89.lt (Nat.le_trans (Nat.le_refl _) sq91_0))) nin0))
    obtain ⟨cq105, kq105, q105a, q105b, q105c⟩ := isOf hZ e102 f103
    obtain ⟨_, _, ⟨T105, L105, k105, n105⟩, -, X105, ⟨Lc105, hQ105, l105, y105, z105⟩, st105⟩ := X102.virtualBack hx (y := (⟨"com/example/baum/baum/query/NodeList$Builder", "get", "(I)I"⟩ : MethodName)) (z := (⟨"com/example/baum/baum/query/NodeList$Builder", "get", "(I)I"⟩ : MethodName)) hown (mvT hZ (hw _ (List.mem_of_getElem? (i := 30) rfl))) (mvT hZ (hw _ (List.mem_of_getElem? (i := 31) rfl))) (notFace_of_selects (args := #[]) (mvT hZ (hw _ (List.mem_of_getElem? (i := 33) rfl)))) (mvT hZ (hw _ (List.mem_of_getElem? (i := 33) rfl))) (mvT hZ (hw _ (List.mem_of_getElem? (i := 32) rfl))) (by decide) (backOf (W := 0) (rm6c l Z a0 hw [] b89 b91_0 (own_v3c_w_numbers_r0_0 ((i6 &&& (2147483647 : Int32)) % (4 : Int32)) i1 i3) (own_v3c_w_numbers_r0_1 ((i6 &&& (2147483647 : Int32)) % (4 : Int32)) i2 i3) (own_v3c_w_numbers_r0_2 ((i6 &&& (2147483647 : Int32)) % (4 : Int32)) i1 i2 i3) k91_1 T99.heap n0 (Nat.le_trans Z0 K100.1) f104 f101 f99_0) hZ (hw _ (List.mem_of_getElem? (i := 34) rfl)) (hw _ (List.mem_of_getElem? (i := 3) rfl)) (by decide) (by decide)) q105a q105c (g := (mkF m 114 #[.val (.int i1), .val (.int i2), .val (.int i3), .val (.int i4), .val (.int i5), .val (.int i6), .val (.int (3 : Int32)), .val (.int ((i6 &&& (2147483647 : Int32)) % (4 : Int32))), .val (.ref b89), .val (.int (1 : Int32))] [(.int (0 : Int32)), (.ref b89)])) rfl (by rw [hml]; rfl) (Steps.refl _) (argsL := [(.int (0 : Int32))]) (rest := []) (lenOf pd_5 rfl) rfl (by show 2 * 0 + _ ≤ _; exact Nat.le_of_eq rfl) (hb hby at_114) (fun _ _ => ⟨rfl, e102, (by decide : 2 + 0 ≤ _), (by decide : 18 + 0 ≤ _)⟩)
    dsimp only [Pt.U, Pt.locs, Pt.cells, Pt.slots] at X105 l105 y105 z105 st105 hQ105
    subst l105 y105 z105
    obtain ⟨rfl, Nq105, e105⟩ := hQ105
    have N105 := Fr.app N102 Nq105
    obtain ⟨_, _, ⟨T106, L106, k106, n106⟩, -, X106, ⟨Lc106, hQ106, l106, y106, z106⟩, st106⟩ := Jvm.LawKit.callS X105 hx (y := (⟨"com/example/baum/baum/query/BuilderReverseFromPinLaw", "expect", "(IIIIIII)I"⟩ : MethodName)) hown (mvT hZ (hw _ (List.mem_of_getElem? (i := 43) rfl))) (mvT hZ (hw _ (List.mem_of_getElem? (i := 44) rfl))) (mvT hZ (hw _ (List.mem_of_getElem? (i := 45) rfl))) (mvT hZ (hw _ (List.mem_of_getElem? (i := 46) rfl))) (by decide) (backOf (W := 1) (rm9 l Z a0 hw [] (0 : Int32) ((i6 &&& (2147483647 : Int32)) % (4 : Int32)) (3 : Int32) i1 i2 i3 i4 T99.heap n0 (Nat.le_trans Z0 K100.1) ) hZ (hw _ (List.mem_of_getElem? (i := 46) rfl)) (hw _ (List.mem_of_getElem? (i := 45) rfl)) (by decide) (by decide)) (g := (mkF m 126 #[.val (.int i1), .val (.int i2), .val (.int i3), .val (.int i4), .val (.int i5), .val (.int i6), .val (.int (3 : Int32)), .val (.int ((i6 &&& (2147483647 : Int32)) % (4 : Int32))), .val (.ref b89), .val (.int (1 : Int32))] [(.int i4), (.int i3), (.int i2), (.int i1), (.int (3 : Int32)), (.int ((i6 &&& (2147483647 : Int32)) % (4 : Int32))), (.int (0 : Int32)), (.int (own_v3c_w_numbers_r0_0 ((i6 &&& (2147483647 : Int32)) % (4 : Int32)) i1 i3))])) rfl (by rw [hml]; rfl) (argsL := [(.int (0 : Int32)), (.int ((i6 &&& (2147483647 : Int32)) % (4 : Int32))), (.int (3 : Int32)), (.int i1), (.int i2), (.int i3), (.int i4)]) (rest := [(.int (own_v3c_w_numbers_r0_0 ((i6 &&& (2147483647 : Int32)) % (4 : Int32)) i1 i3))]) (lenOf pd_7 rfl) rfl (by show 2 * 0 + _ ≤ _; exact Nat.le_of_eq rfl) (hb hby at_126) (fun _ _ => ⟨rfl, e105, (by decide : 2 + 0 ≤ _), (by decide : 18 + 0 ≤ _)⟩)
    dsimp only [Pt.U, Pt.locs, Pt.cells, Pt.slots] at X106 l106 y106 z106 st106 hQ106
    subst l106 y106 z106
    obtain ⟨rfl, Nq106, e106⟩ := hQ106
    have N106 := Fr.app N105 Nq106
    have pre107 : ∀ t, Steps p.tables e below (T106.setTop (mkF m 129 #[.val (.int i1), .val (.int i2), .val (.int i3), .val (.int i4), .val (.int i5), .val (.int i6), .val (.int (3 : Int32)), .val (.int ((i6 &&& (2147483647 : Int32)) % (4 : Int32))), .val (.ref b89), .val (.int (1 : Int32))] [(.int (own_r10 (own_j9_2_0 (0 : Int32) ((i6 &&& (2147483647 : Int32)) % (4 : Int32)) (3 : Int32)) i1 i2 i3 i4)), (.int (own_v3c_w_numbers_r0_0 ((i6 &&& (2147483647 : Int32)) % (4 : Int32)) i1 i3))])) t → Steps p.tables e below (s₁.setTop (entryFrame m #[(.int i1), (.int i2), (.int i3), (.int i4), (.int i5), (.int i6)] maxLocals)) t := by
      intro t k
      refine pre88 _ ?_
      show Steps p.tables e below (s₁.setTop (mkF m 9 #[.val (.int i1), .val (.int i2), .val (.int i3), .val (.int i4), .val (.int i5), .val (.int i6), .val (.int (3 : Int32)), .unset, .unset, .unset] [])) _
      refine XS.iload X0.here hx rfl (hb hby at_9) rfl ?_
      show Steps p.tables e below (s₁.setTop (mkF m 11 #[.val (.int i1), .val (.int i2), .val (.int i3), .val (.int i4), .val (.int i5), .val (.int i6), .val (.int (3 : Int32)), .unset, .unset, .unset] [(.int i6)])) _
      refine X0.ldcInt hx hown (mvT hZ (hw _ (List.mem_of_getElem? (i := 0) rfl))) (g := (mkF m 11 #[.val (.int i1), .val (.int i2), .val (.int i3), .val (.int i4), .val (.int i5), .val (.int i6), .val (.int (3 : Int32)), .unset, .unset, .unset] [(.int i6)])) rfl (hb hby at_11) _ ?_
      show Steps p.tables e below (s₁.setTop (mkF m 13 #[.val (.int i1), .val (.int i2), .val (.int i3), .val (.int i4), .val (.int i5), .val (.int i6), .val (.int (3 : Int32)), .unset, .unset, .unset] [(.int (2147483647 : Int32)), (.int i6)])) _
      refine XS.iand X0.here hx rfl (hb hby at_13) rfl ?_
      show Steps p.tables e below (s₁.setTop (mkF m 14 #[.val (.int i1), .val (.int i2), .val (.int i3), .val (.int i4), .val (.int i5), .val (.int i6), .val (.int (3 : Int32)), .unset, .unset, .unset] [(.int (i6 &&& (2147483647 : Int32)))])) _
      refine XS.iload X0.here hx rfl (hb hby at_14) rfl ?_
      show Steps p.tables e below (s₁.setTop (mkF m 16 #[.val (.int i1), .val (.int i2), .val (.int i3), .val (.int i4), .val (.int i5), .val (.int i6), .val (.int (3 : Int32)), .unset, .unset, .unset] [(.int (3 : Int32)), (.int (i6 &&& (2147483647 : Int32)))])) _
      refine XS.iconst X0.here hx rfl (hb hby at_16) ?_
      show Steps p.tables e below (s₁.setTop (mkF m 17 #[.val (.int i1), .val (.int i2), .val (.int i3), .val (.int i4), .val (.int i5), .val (.int i6), .val (.int (3 : Int32)), .unset, .unset, .unset] [(.int (1 : Int32)), (.int (3 : Int32)), (.int (i6 &&& (2147483647 : Int32)))])) _
      refine XS.iadd X0.here hx rfl (hb hby at_17) rfl ?_
      show Steps p.tables e below (s₁.setTop (mkF m 18 #[.val (.int i1), .val (.int i2), .val (.int i3), .val (.int i4), .val (.int i5), .val (.int i6), .val (.int (3 : Int32)), .unset, .unset, .unset] [(.int (4 : Int32)), (.int (i6 &&& (2147483647 : Int32)))])) _
      refine iremM X0 hx rfl (hb hby at_18) rfl (by decide) ?_
      show Steps p.tables e below (s₁.setTop (mkF m 19 #[.val (.int i1), .val (.int i2), .val (.int i3), .val (.int i4), .val (.int i5), .val (.int i6), .val (.int (3 : Int32)), .unset, .unset, .unset] [(.int ((i6 &&& (2147483647 : Int32)) % (4 : Int32)))])) _
      refine XS.istore X0.here hx rfl (hb hby at_19) rfl (l' := #[.val (.int i1), .val (.int i2), .val (.int i3), .val (.int i4), .val (.int i5), .val (.int i6), .val (.int (3 : Int32)), .val (.int ((i6 &&& (2147483647 : Int32)) % (4 : Int32))), .unset, .unset]) rfl ?_
      show Steps p.tables e below (s₁.setTop (mkF m 21 #[.val (.int i1), .val (.int i2), .val (.int i3), .val (.int i4), .val (.int i5), .val (.int i6), .val (.int (3 : Int32)), .val (.int ((i6 &&& (2147483647 : Int32)) % (4 : Int32))), .unset, .unset] [])) _
      refine st89 _ ?_
      show Steps p.tables e below (T89.setTop (mkF m 24 #[.val (.int i1), .val (.int i2), .val (.int i3), .val (.int i4), .val (.int i5), .val (.int i6), .val (.int (3 : Int32)), .val (.int ((i6 &&& (2147483647 : Int32)) % (4 : Int32))), .unset, .unset] [(.ref b89)])) _
      refine XS.dup X89.here hx rfl (hb hby at_24) rfl rfl ?_
      show Steps p.tables e below (T89.setTop (mkF m 25 #[.val (.int i1), .val (.int i2), .val (.int i3), .val (.int i4), .val (.int i5), .val (.int i6), .val (.int (3 : Int32)), .val (.int ((i6 &&& (2147483647 : Int32)) % (4 : Int32))), .unset, .unset] [(.ref b89), (.ref b89)])) _
      refine st91.trans ?_
      show Steps p.tables e below (T91.setTop (mkF m 28 #[.val (.int i1), .val (.int i2), .val (.int i3), .val (.int i4), .val (.int i5), .val (.int i6), .val (.int (3 : Int32)), .val (.int ((i6 &&& (2147483647 : Int32)) % (4 : Int32))), .unset, .unset] [(.ref b89)])) _
      refine XS.astore X91.here hx rfl (hb hby at_28) rfl rfl (l' := #[.val (.int i1), .val (.int i2), .val (.int i3), .val (.int i4), .val (.int i5), .val (.int i6), .val (.int (3 : Int32)), .val (.int ((i6 &&& (2147483647 : Int32)) % (4 : Int32))), .val (.ref b89), .unset]) rfl ?_
      show Steps p.tables e below (T91.setTop (mkF m 30 #[.val (.int i1), .val (.int i2), .val (.int i3), .val (.int i4), .val (.int i5), .val (.int i6), .val (.int (3 : Int32)), .val (.int ((i6 &&& (2147483647 : Int32)) % (4 : Int32))), .val (.ref b89), .unset] [])) _
      refine XS.iload X91.here hx rfl (hb hby at_30) rfl ?_
      show Steps p.tables e below (T91.setTop (mkF m 32 #[.val (.int i1), .val (.int i2), .val (.int i3), .val (.int i4), .val (.int i5), .val (.int i6), .val (.int (3 : Int32)), .val (.int ((i6 &&& (2147483647 : Int32)) % (4 : Int32))), .val (.ref b89), .unset] [(.int (3 : Int32))])) _
      refine XS.ifNo X91.here hx rfl (hb hby at_32) rfl ((if0 _ _).trans (tlt (by decide : (0 : Int32) < (3 : Int32))).2.2.2) ?_
      show Steps p.tables e below (T91.setTop (mkF m 35 #[.val (.int i1), .val (.int i2), .val (.int i3), .val (.int i4), .val (.int i5), .val (.int i6), .val (.int (3 : Int32)), .val (.int ((i6 &&& (2147483647 : Int32)) % (4 : Int32))), .val (.ref b89), .unset] [])) _
      refine XS.aload X91.here hx rfl (hb hby at_35) rfl rfl ?_
      show Steps p.tables e below (T91.setTop (mkF m 37 #[.val (.int i1), .val (.int i2), .val (.int i3), .val (.int i4), .val (.int i5), .val (.int i6), .val (.int (3 : Int32)), .val (.int ((i6 &&& (2147483647 : Int32)) % (4 : Int32))), .val (.ref b89), .unset] [(.ref b89)])) _
      refine XS.iloadN X91.here hx rfl (hb hby at_37) rfl ?_
      show Steps p.tables e below (T91.setTop (mkF m 38 #[.val (.int i1), .val (.int i2), .val (.int i3), .val (.int i4), .val (.int i5), .val (.int i6), .val (.int (3 : Int32)), .val (.int ((i6 &&& (2147483647 : Int32)) % (4 : Int32))), .val (.ref b89), .unset] [(.int i1), (.ref b89)])) _
      refine st93.trans ?_
      show Steps p.tables e below (T93.setTop (mkF m 41 #[.val (.int i1), .val (.int i2), .val (.int i3), .val (.int i4), .val (.int i5), .val (.int i6), .val (.int (3 : Int32)), .val (.int ((i6 &&& (2147483647 : Int32)) % (4 : Int32))), .val (.ref b89), .unset] [])) _
      refine XS.iload X93.here hx rfl (hb hby at_41) rfl ?_
      show Steps p.tables e below (T93.setTop (mkF m 43 #[.val (.int i1), .val (.int i2), .val (.int i3), .val (.int i4), .val (.int i5), .val (.int i6), .val (.int (3 : Int32)), .val (.int ((i6 &&& (2147483647 : Int32)) % (4 : Int32))), .val (.ref b89), .unset] [(.int (3 : Int32))])) _
      refine XS.iconst X93.here hx rfl (hb hby at_43) ?_
      show Steps p.tables e below (T93.setTop (mkF m 44 #[.val (.int i1), .val (.int i2), .val (.int i3), .val (.int i4), .val (.int i5), .val (.int i6), .val (.int (3 : Int32)), .val (.int ((i6 &&& (2147483647 : Int32)) % (4 : Int32))), .val (.ref b89), .unset] [(.int (1 : Int32)), (.int (3 : Int32))])) _
      refine XS.icmpNo X93.here hx rfl (hb hby at_44) rfl (tlt (by decide : (1 : Int32) < (3 : Int32))).2.2.2 ?_
      show Steps p.tables e below (T93.setTop (mkF m 47 #[.val (.int i1), .val (.int i2), .val (.int i3), .val (.int i4), .val (.int i5), .val (.int i6), .val (.int (3 : Int32)), .val (.int ((i6 &&& (2147483647 : Int32)) % (4 : Int32))), .val (.ref b89), .unset] [])) _
      refine XS.aload X93.here hx rfl (hb hby at_47) rfl rfl ?_
      show Steps p.tables e below (T93.setTop (mkF m 49 #[.val (.int i1), .val (.int i2), .val (.int i3), .val (.int i4), .val (.int i5), .val (.int i6), .val (.int (3 : Int32)), .val (.int ((i6 &&& (2147483647 : Int32)) % (4 : Int32))), .val (.ref b89), .unset] [(.ref b89)])) _
      refine XS.iloadN X93.here hx rfl (hb hby at_49) rfl ?_
      show Steps p.tables e below (T93.setTop (mkF m 50 #[.val (.int i1), .val (.int i2), .val (.int i3), .val (.int i4), .val (.int i5), .val (.int i6), .val (.int (3 : Int32)), .val (.int ((i6 &&& (2147483647 : Int32)) % (4 : Int32))), .val (.ref b89), .unset] [(.int i2), (.ref b89)])) _
      refine st95.trans ?_
      show Steps p.tables e below (T95.setTop (mkF m 53 #[.val (.int i1), .val (.int i2), .val (.int i3), .val (.int i4), .val (.int i5), .val (.int i6), .val (.int (3 : Int32)), .val (.int ((i6 &&& (2147483647 : Int32)) % (4 : Int32))), .val (.ref b89), .unset] [])) _
      refine XS.iload X95.here hx rfl (hb hby at_53) rfl ?_
      show Steps p.tables e below (T95.setTop (mkF m 55 #[.val (.int i1), .val (.int i2), .val (.int i3), .val (.int i4), .val (.int i5), .val (.int i6), .val (.int (3 : Int32)), .val (.int ((i6 &&& (2147483647 : Int32)) % (4 : Int32))), .val (.ref b89), .unset] [(.int (3 : Int32))])) _
      refine XS.iconst X95.here hx rfl (hb hby at_55) ?_
      show Steps p.tables e below (T95.setTop (mkF m 56 #[.val (.int i1), .val (.int i2), .val (.int i3), .val (.int i4), .val (.int i5), .val (.int i6), .val (.int (3 : Int32)), .val (.int ((i6 &&& (2147483647 : Int32)) % (4 : Int32))), .val (.ref b89), .unset] [(.int (2 : Int32)), (.int (3 : Int32))])) _
      refine XS.icmpNo X95.here hx rfl (hb hby at_56) rfl (tlt (by decide : (2 : Int32) < (3 : Int32))).2.2.2 ?_
      show Steps p.tables e below (T95.setTop (mkF m 59 #[.val (.int i1), .val (.int i2), .val (.int i3), .val (.int i4), .val (.int i5), .val (.int i6), .val (.int (3 : Int32)), .val (.int ((i6 &&& (2147483647 : Int32)) % (4 : Int32))), .val (.ref b89), .unset] [])) _
      refine XS.aload X95.here hx rfl (hb hby at_59) rfl rfl ?_
      show Steps p.tables e below (T95.setTop (mkF m 61 #[.val (.int i1), .val (.int i2), .val (.int i3), .val (.int i4), .val (.int i5), .val (.int i6), .val (.int (3 : Int32)), .val (.int ((i6 &&& (2147483647 : Int32)) % (4 : Int32))), .val (.ref b89), .unset] [(.ref b89)])) _
      refine XS.iloadN X95.here hx rfl (hb hby at_61) rfl ?_
      show Steps p.tables e below (T95.setTop (mkF m 62 #[.val (.int i1), .val (.int i2), .val (.int i3), .val (.int i4), .val (.int i5), .val (.int i6), .val (.int (3 : Int32)), .val (.int ((i6 &&& (2147483647 : Int32)) % (4 : Int32))), .val (.ref b89), .unset] [(.int i3), (.ref b89)])) _
      refine st97.trans ?_
      show Steps p.tables e below (T97.setTop (mkF m 65 #[.val (.int i1), .val (.int i2), .val (.int i3), .val (.int i4), .val (.int i5), .val (.int i6), .val (.int (3 : Int32)), .val (.int ((i6 &&& (2147483647 : Int32)) % (4 : Int32))), .val (.ref b89), .unset] [])) _
      refine XS.iload X97.here hx rfl (hb hby at_65) rfl ?_
      show Steps p.tables e below (T97.setTop (mkF m 67 #[.val (.int i1), .val (.int i2), .val (.int i3), .val (.int i4), .val (.int i5), .val (.int i6), .val (.int (3 : Int32)), .val (.int ((i6 &&& (2147483647 : Int32)) % (4 : Int32))), .val (.ref b89), .unset] [(.int (3 : Int32))])) _
      refine XS.iconst X97.here hx rfl (hb hby at_67) ?_
      show Steps p.tables e below (T97.setTop (mkF m 68 #[.val (.int i1), .val (.int i2), .val (.int i3), .val (.int i4), .val (.int i5), .val (.int i6), .val (.int (3 : Int32)), .val (.int ((i6 &&& (2147483647 : Int32)) % (4 : Int32))), .val (.ref b89), .unset] [(.int (3 : Int32)), (.int (3 : Int32))])) _
      refine XS.icmpYes X97.here hx rfl (pc0 := 68) (pc' := 77) rfl (hb hby at_68) rfl (flt (by decide : ¬ ((3 : Int32) < (3 : Int32)))).2.2.2 (by decide) (by decide) ?_
      show Steps p.tables e below (T97.setTop (mkF m 77 #[.val (.int i1), .val (.int i2), .val (.int i3), .val (.int i4), .val (.int i5), .val (.int i6), .val (.int (3 : Int32)), .val (.int ((i6 &&& (2147483647 : Int32)) % (4 : Int32))), .val (.ref b89), .unset] [])) _
      refine XS.aload X97.here hx rfl (hb hby at_77) rfl rfl ?_
      show Steps p.tables e below (T97.setTop (mkF m 79 #[.val (.int i1), .val (.int i2), .val (.int i3), .val (.int i4), .val (.int i5), .val (.int i6), .val (.int (3 : Int32)), .val (.int ((i6 &&& (2147483647 : Int32)) % (4 : Int32))), .val (.ref b89), .unset] [(.ref b89)])) _
      refine XS.iload X97.here hx rfl (hb hby at_79) rfl ?_
      show Steps p.tables e below (T97.setTop (mkF m 81 #[.val (.int i1), .val (.int i2), .val (.int i3), .val (.int i4), .val (.int i5), .val (.int i6), .val (.int (3 : Int32)), .val (.int ((i6 &&& (2147483647 : Int32)) % (4 : Int32))), .val (.ref b89), .unset] [(.int ((i6 &&& (2147483647 : Int32)) % (4 : Int32))), (.ref b89)])) _
      refine st99.trans ?_
      show Steps p.tables e below (T99.setTop (mkF m 84 #[.val (.int i1), .val (.int i2), .val (.int i3), .val (.int i4), .val (.int i5), .val (.int i6), .val (.int (3 : Int32)), .val (.int ((i6 &&& (2147483647 : Int32)) % (4 : Int32))), .val (.ref b89), .unset] [])) _
      refine XS.aload X99.here hx rfl (hb hby at_84) rfl rfl ?_
      show Steps p.tables e below (T99.setTop (mkF m 86 #[.val (.int i1), .val (.int i2), .val (.int i3), .val (.int i4), .val (.int i5), .val (.int i6), .val (.int (3 : Int32)), .val (.int ((i6 &&& (2147483647 : Int32)) % (4 : Int32))), .val (.ref b89), .unset] [(.ref b89)])) _
      refine st102.trans ?_
      show Steps p.tables e below (T102.setTop (mkF m 89 #[.val (.int i1), .val (.int i2), .val (.int i3), .val (.int i4), .val (.int i5), .val (.int i6), .val (.int (3 : Int32)), .val (.int ((i6 &&& (2147483647 : Int32)) % (4 : Int32))), .val (.ref b89), .unset] [(.int (3 : Int32))])) _
      refine XS.iload X102.here hx rfl (hb hby at_89) rfl ?_
      show Steps p.tables e below (T102.setTop (mkF m 91 #[.val (.int i1), .val (.int i2), .val (.int i3), .val (.int i4), .val (.int i5), .val (.int i6), .val (.int (3 : Int32)), .val (.int ((i6 &&& (2147483647 : Int32)) % (4 : Int32))), .val (.ref b89), .unset] [(.int (3 : Int32)), (.int (3 : Int32))])) _
      refine XS.icmpNo X102.here hx rfl (hb hby at_91) rfl (teq (by decide : (3 : Int32) = (3 : Int32))).2 ?_
      show Steps p.tables e below (T102.setTop (mkF m 94 #[.val (.int i1), .val (.int i2), .val (.int i3), .val (.int i4), .val (.int i5), .val (.int i6), .val (.int (3 : Int32)), .val (.int ((i6 &&& (2147483647 : Int32)) % (4 : Int32))), .val (.ref b89), .unset] [])) _
      refine XS.iconst X102.here hx rfl (hb hby at_94) ?_
      show Steps p.tables e below (T102.setTop (mkF m 95 #[.val (.int i1), .val (.int i2), .val (.int i3), .val (.int i4), .val (.int i5), .val (.int i6), .val (.int (3 : Int32)), .val (.int ((i6 &&& (2147483647 : Int32)) % (4 : Int32))), .val (.ref b89), .unset] [(.int (1 : Int32))])) _
      refine XS.goto X102.here hx rfl (pc0 := 95) (pc' := 99) rfl (hb hby at_95) (by decide) (by decide) ?_
      show Steps p.tables e below (T102.setTop (mkF m 99 #[.val (.int i1), .val (.int i2), .val (.int i3), .val (.int i4), .val (.int i5), .val (.int i6), .val (.int (3 : Int32)), .val (.int ((i6 &&& (2147483647 : Int32)) % (4 : Int32))), .val (.ref b89), .unset] [(.int (1 : Int32))])) _
      refine XS.istore X102.here hx rfl (hb hby at_99) rfl (l' := #[.val (.int i1), .val (.int i2), .val (.int i3), .val (.int i4), .val (.int i5), .val (.int i6), .val (.int (3 : Int32)), .val (.int ((i6 &&& (2147483647 : Int32)) % (4 : Int32))), .val (.ref b89), .val (.int (1 : Int32))]) rfl ?_
      show Steps p.tables e below (T102.setTop (mkF m 101 #[.val (.int i1), .val (.int i2), .val (.int i3), .val (.int i4), .val (.int i5), .val (.int i6), .val (.int (3 : Int32)), .val (.int ((i6 &&& (2147483647 : Int32)) % (4 : Int32))), .val (.ref b89), .val (.int (1 : Int32))] [])) _
      refine XS.iload X102.here hx rfl (hb hby at_101) rfl ?_
      show Steps p.tables e below (T102.setTop (mkF m 103 #[.val (.int i1), .val (.int i2), .val (.int i3), .val (.int i4), .val (.int i5), .val (.int i6), .val (.int (3 : Int32)), .val (.int ((i6 &&& (2147483647 : Int32)) % (4 : Int32))), .val (.ref b89), .val (.int (1 : Int32))] [(.int (1 : Int32))])) _
      refine XS.ifNo X102.here hx rfl (hb hby at_103) rfl ((if0 _ _).trans (feq (by decide : ¬ ((1 : Int32) = (0 : Int32)))).1) ?_
      show Steps p.tables e below (T102.setTop (mkF m 106 #[.val (.int i1), .val (.int i2), .val (.int i3), .val (.int i4), .val (.int i5), .val (.int i6), .val (.int (3 : Int32)), .val (.int ((i6 &&& (2147483647 : Int32)) % (4 : Int32))), .val (.ref b89), .val (.int (1 : Int32))] [])) _
      refine XS.iload X102.here hx rfl (hb hby at_106) rfl ?_
      show Steps p.tables e below (T102.setTop (mkF m 108 #[.val (.int i1), .val (.int i2), .val (.int i3), .val (.int i4), .val (.int i5), .val (.int i6), .val (.int (3 : Int32)), .val (.int ((i6 &&& (2147483647 : Int32)) % (4 : Int32))), .val (.ref b89), .val (.int (1 : Int32))] [(.int (3 : Int32))])) _
      refine XS.ifNo X102.here hx rfl (hb hby at_108) rfl ((if0 _ _).trans (tlt (by decide : (0 : Int32) < (3 : Int32))).2.2.2) ?_
      show Steps p.tables e below (T102.setTop (mkF m 111 #[.val (.int i1), .val (.int i2), .val (.int i3), .val (.int i4), .val (.int i5), .val (.int i6), .val (.int (3 : Int32)), .val (.int ((i6 &&& (2147483647 : Int32)) % (4 : Int32))), .val (.ref b89), .val (.int (1 : Int32))] [])) _
      refine XS.aload X102.here hx rfl (hb hby at_111) rfl rfl ?_
      show Steps p.tables e below (T102.setTop (mkF m 113 #[.val (.int i1), .val (.int i2), .val (.int i3), .val (.int i4), .val (.int i5), .val (.int i6), .val (.int (3 : Int32)), .val (.int ((i6 &&& (2147483647 : Int32)) % (4 : Int32))), .val (.ref b89), .val (.int (1 : Int32))] [(.ref b89)])) _
      refine XS.iconst X102.here hx rfl (hb hby at_113) ?_
      show Steps p.tables e below (T102.setTop (mkF m 114 #[.val (.int i1), .val (.int i2), .val (.int i3), .val (.int i4), .val (.int i5), .val (.int i6), .val (.int (3 : Int32)), .val (.int ((i6 &&& (2147483647 : Int32)) % (4 : Int32))), .val (.ref b89), .val (.int (1 : Int32))] [(.int (0 : Int32)), (.ref b89)])) _
      refine st105.trans ?_
      show Steps p.tables e below (T105.setTop (mkF m 117 #[.val (.int i1), .val (.int i2), .val (.int i3), .val (.int i4), .val (.int i5), .val (.int i6), .val (.int (3 : Int32)), .val (.int ((i6 &&& (2147483647 : Int32)) % (4 : Int32))), .val (.ref b89), .val (.int (1 : Int32))] [(.int (own_v3c_w_numbers_r0_0 ((i6 &&& (2147483647 : Int32)) % (4 : Int32)) i1 i3))])) _
      refine XS.iconst X105.here hx rfl (hb hby at_117) ?_
      show Steps p.tables e below (T105.setTop (mkF m 118 #[.val (.int i1), .val (.int i2), .val (.int i3), .val (.int i4), .val (.int i5), .val (.int i6), .val (.int (3 : Int32)), .val (.int ((i6 &&& (2147483647 : Int32)) % (4 : Int32))), .val (.ref b89), .val (.int (1 : Int32))] [(.int (0 : Int32)), (.int (own_v3c_w_numbers_r0_0 ((i6 &&& (2147483647 : Int32)) % (4 : Int32)) i1 i3))])) _
      refine XS.iload X105.here hx rfl (hb hby at_118) rfl ?_
      show Steps p.tables e below (T105.setTop (mkF m 120 #[.val (.int i1), .val (.int i2), .val (.int i3), .val (.int i4), .val (.int i5), .val (.int i6), .val (.int (3 : Int32)), .val (.int ((i6 &&& (2147483647 : Int32)) % (4 : Int32))), .val (.ref b89), .val (.int (1 : Int32))] [(.int ((i6 &&& (2147483647 : Int32)) % (4 : Int32))), (.int (0 : Int32)), (.int (own_v3c_w_numbers_r0_0 ((i6 &&& (2147483647 : Int32)) % (4 : Int32)) i1 i3))])) _
      refine XS.iload X105.here hx rfl (hb hby at_120) rfl ?_
      show Steps p.tables e below (T105.setTop (mkF m 122 #[.val (.int i1), .val (.int i2), .val (.int i3), .val (.int i4), .val (.int i5), .val (.int i6), .val (.int (3 : Int32)), .val (.int ((i6 &&& (2147483647 : Int32)) % (4 : Int32))), .val (.ref b89), .val (.int (1 : Int32))] [(.int (3 : Int32)), (.int ((i6 &&& (2147483647 : Int32)) % (4 : Int32))), (.int (0 : Int32)), (.int (own_v3c_w_numbers_r0_0 ((i6 &&& (2147483647 : Int32)) % (4 : Int32)) i1 i3))])) _
      refine XS.iloadN X105.here hx rfl (hb hby at_122) rfl ?_
      show Steps p.tables e below (T105.setTop (mkF m 123 #[.val (.int i1), .val (.int i2), .val (.int i3), .val (.int i4), .val (.int i5), .val (.int i6), .val (.int (3 : Int32)), .val (.int ((i6 &&& (2147483647 : Int32)) % (4 : Int32))), .val (.ref b89), .val (.int (1 : Int32))] [(.int i1), (.int (3 : Int32)), (.int ((i6 &&& (2147483647 : Int32)) % (4 : Int32))), (.int (0 : Int32)), (.int (own_v3c_w_numbers_r0_0 ((i6 &&& (2147483647 : Int32)) % (4 : Int32)) i1 i3))])) _
      refine XS.iloadN X105.here hx rfl (hb hby at_123) rfl ?_
      show Steps p.tables e below (T105.setTop (mkF m 124 #[.val (.int i1), .val (.int i2), .val (.int i3), .val (.int i4), .val (.int i5), .val (.int i6), .val (.int (3 : Int32)), .val (.int ((i6 &&& (2147483647 : Int32)) % (4 : Int32))), .val (.ref b89), .val (.int (1 : Int32))] [(.int i2), (.int i1), (.int (3 : Int32)), (.int ((i6 &&& (2147483647 : Int32)) % (4 : Int32))), (.int (0 : Int32)), (.int (own_v3c_w_numbers_r0_0 ((i6 &&& (2147483647 : Int32)) % (4 : Int32)) i1 i3))])) _
      refine XS.iloadN X105.here hx rfl (hb hby at_124) rfl ?_
      show Steps p.tables e below (T105.setTop (mkF m 125 #[.val (.int i1), .val (.int i2), .val (.int i3), .val (.int i4), .val (.int i5), .val (.int i6), .val (.int (3 : Int32)), .val (.int ((i6 &&& (2147483647 : Int32)) % (4 : Int32))), .val (.ref b89), .val (.int (1 : Int32))] [(.int i3), (.int i2), (.int i1), (.int (3 : Int32)), (.int ((i6 &&& (2147483647 : Int32)) % (4 : Int32))), (.int (0 : Int32)), (.int (own_v3c_w_numbers_r0_0 ((i6 &&& (2147483647 : Int32)) % (4 : Int32)) i1 i3))])) _
      refine XS.iloadN X105.here hx rfl (hb hby at_125) rfl ?_
      show Steps p.tables e below (T105.setTop (mkF m 126 #[.val (.int i1), .val (.int i2), .val (.int i3), .val (.int i4), .val (.int i5), .val (.int i6), .val (.int (3 : Int32)), .val (.int ((i6 &&& (2147483647 : Int32)) % (4 : Int32))), .val (.ref b89), .val (.int (1 : Int32))] [(.int i4), (.int i3), (.int i2), (.int i1), (.int (3 : Int32)), (.int ((i6 &&& (2147483647 : Int32)) % (4 : Int32))), (.int (0 : Int32)), (.int (own_v3c_w_numbers_r0_0 ((i6 &&& (2147483647 : Int32)) % (4 : Int32)) i1 i3))])) _
      refine st106 _ ?_
      exact k
    have pre111 : ∀ t, Steps p.tables e below (T106.setTop (mkF m 137 #[.val (.int i1), .val (.int i2), .val (.int i3), .val (.int i4), .val (.int i5), .val (.int i6), .val (.int (3 : Int32)), .val (.int ((i6 &&& (2147483647 : Int32)) % (4 : Int32))), .val (.ref b89), .val (.int (1 : Int32))] [(.int (own_j0_129_0_v2 i1 i2 i3 i4 i6))])) t → Steps p.tables e below (s₁.setTop (entryFrame m #[(.int i1), (.int i2), (.int i3), (.int i4), (.int i5), (.int i6)] maxLocals)) t := by
      by_cases hc129_108 : (own_v3c_w_numbers_r0_0 ((i6 &&& (2147483647 : Int32)) % (4 : Int32)) i1 i3) = (own_r10 (own_j9_2_0 (0 : Int32) ((i6 &&& (2147483647 : Int32)) % (4 : Int32)) (3 : Int32)) i1 i2 i3 i4)
      · have pre109 : ∀ t, Steps p.tables e below (T106.setTop (mkF m 137 #[.val (.int i1), .val (.int i2), .val (.int i3), .val (.int i4), .val (.int i5), .val (.int i6), .val (.int (3 : Int32)), .val (.int ((i6 &&& (2147483647 : Int32)) % (4 : Int32))), .val (.ref b89), .val (.int (1 : Int32))] [(.int (1 : Int32))])) t → Steps p.tables e below (s₁.setTop (entryFrame m #[(.int i1), (.int i2), (.int i3), (.int i4), (.int i5), (.int i6)] maxLocals)) t := by
          intro t k
          refine pre107 _ ?_
          show Steps p.tables e below (T106.setTop (mkF m 129 #[.val (.int i1), .val (.int i2), .val (.int i3), .val (.int i4), .val (.int i5), .val (.int i6), .val (.int (3 : Int32)), .val (.int ((i6 &&& (2147483647 : Int32)) % (4 : Int32))), .val (.ref b89), .val (.int (1 : Int32))] [(.int (own_r10 (own_j9_2_0 (0 : Int32) ((i6 &&& (2147483647 : Int32)) % (4 : Int32)) (3 : Int32)) i1 i2 i3 i4)), (.int (own_v3c_w_numbers_r0_0 ((i6 &&& (2147483647 : Int32)) % (4 : Int32)) i1 i3))])) _
          refine XS.icmpNo X106.here hx rfl (hb hby at_129) rfl (teq hc129_108).2 ?_
          show Steps p.tables e below (T106.setTop (mkF m 132 #[.val (.int i1), .val (.int i2), .val (.int i3), .val (.int i4), .val (.int i5), .val (.int i6), .val (.int (3 : Int32)), .val (.int ((i6 &&& (2147483647 : Int32)) % (4 : Int32))), .val (.ref b89), .val (.int (1 : Int32))] [])) _
          refine XS.iconst X106.here hx rfl (hb hby at_132) ?_
          show Steps p.tables e below (T106.setTop (mkF m 133 #[.val (.int i1), .val (.int i2), .val (.int i3), .val (.int i4), .val (.int i5), .val (.int i6), .val (.int (3 : Int32)), .val (.int ((i6 &&& (2147483647 : Int32)) % (4 : Int32))), .val (.ref b89), .val (.int (1 : Int32))] [(.int (1 : Int32))])) _
          refine XS.goto X106.here hx rfl (pc0 := 133) (pc' := 137) rfl (hb hby at_133) (by decide) (by decide) ?_
          exact k
        exact fun t k => pre109 t (by rw [show (own_j0_129_0_v2 i1 i2 i3 i4 i6) = (1 : Int32) from (if_pos hc129_108)] at k; exact k)
      · have pre110 : ∀ t, Steps p.tables e below (T106.setTop (mkF m 137 #[.val (.int i1), .val (.int i2), .val (.int i3), .val (.int i4), .val (.int i5), .val (.int i6), .val (.int (3 : Int32)), .val (.int ((i6 &&& (2147483647 : Int32)) % (4 : Int32))), .val (.ref b89), .val (.int (1 : Int32))] [(.int (0 : Int32))])) t → Steps p.tables e below (s₁.setTop (entryFrame m #[(.int i1), (.int i2), (.int i3), (.int i4), (.int i5), (.int i6)] maxLocals)) t := by
          intro t k
          refine pre107 _ ?_
          show Steps p.tables e below (T106.setTop (mkF m 129 #[.val (.int i1), .val (.int i2), .val (.int i3), .val (.int i4), .val (.int i5), .val (.int i6), .val (.int (3 : Int32)), .val (.int ((i6 &&& (2147483647 : Int32)) % (4 : Int32))), .val (.ref b89), .val (.int (1 : Int32))] [(.int (own_r10 (own_j9_2_0 (0 : Int32) ((i6 &&& (2147483647 : Int32)) % (4 : Int32)) (3 : Int32)) i1 i2 i3 i4)), (.int (own_v3c_w_numbers_r0_0 ((i6 &&& (2147483647 : Int32)) % (4 : Int32)) i1 i3))])) _
          refine XS.icmpYes X106.here hx rfl (pc0 := 129) (pc' := 136) rfl (hb hby at_129) rfl (feq hc129_108).2 (by decide) (by decide) ?_
          show Steps p.tables e below (T106.setTop (mkF m 136 #[.val (.int i1), .val (.int i2), .val (.int i3), .val (.int i4), .val (.int i5), .val (.int i6), .val (.int (3 : Int32)), .val (.int ((i6 &&& (2147483647 : Int32)) % (4 : Int32))), .val (.ref b89), .val (.int (1 : Int32))] [])) _
          refine XS.iconst X106.here hx rfl (hb hby at_136) ?_
          exact k
        exact fun t k => pre110 t (by rw [show (own_j0_129_0_v2 i1 i2 i3 i4 i6) = (0 : Int32) from (if_neg hc129_108)] at k; exact k)
    have pre112 : ∀ t, Steps p.tables e below (T106.setTop (mkF m 141 #[.val (.int i1), .val (.int i2), .val (.int i3), .val (.int i4), .val (.int i5), .val (.int i6), .val (.int (3 : Int32)), .val (.int ((i6 &&& (2147483647 : Int32)) % (4 : Int32))), .val (.ref b89), .val (.int (own_j0_129_0_v2 i1 i2 i3 i4 i6))] [(.int (own_j0_129_0_v2 i1 i2 i3 i4 i6))])) t → Steps p.tables e below (s₁.setTop (entryFrame m #[(.int i1), (.int i2), (.int i3), (.int i4), (.int i5), (.int i6)] maxLocals)) t := by
      intro t k
      refine pre111 _ ?_
      show Steps p.tables e below (T106.setTop (mkF m 137 #[.val (.int i1), .val (.int i2), .val (.int i3), .val (.int i4), .val (.int i5), .val (.int i6), .val (.int (3 : Int32)), .val (.int ((i6 &&& (2147483647 : Int32)) % (4 : Int32))), .val (.ref b89), .val (.int (1 : Int32))] [(.int (own_j0_129_0_v2 i1 i2 i3 i4 i6))])) _
      refine XS.istore X106.here hx rfl (hb hby at_137) rfl (l' := #[.val (.int i1), .val (.int i2), .val (.int i3), .val (.int i4), .val (.int i5), .val (.int i6), .val (.int (3 : Int32)), .val (.int ((i6 &&& (2147483647 : Int32)) % (4 : Int32))), .val (.ref b89), .val (.int (own_j0_129_0_v2 i1 i2 i3 i4 i6))]) rfl ?_
      show Steps p.tables e below (T106.setTop (mkF m 139 #[.val (.int i1), .val (.int i2), .val (.int i3), .val (.int i4), .val (.int i5), .val (.int i6), .val (.int (3 : Int32)), .val (.int ((i6 &&& (2147483647 : Int32)) % (4 : Int32))), .val (.ref b89), .val (.int (own_j0_129_0_v2 i1 i2 i3 i4 i6))] [])) _
      refine XS.iload X106.here hx rfl (hb hby at_139) rfl ?_
      exact k
    obtain ⟨T123, Lq123, X123, N123, e123, pre123⟩ : ∃ (T' : State) (locs' : List Loc), Stand p l e room_1 s m #[(.int i1), (.int i2), (.int i3), (.int i4), (.int i5), (.int i6)] below meth c T' locs' 2 18 ∧ Fr n0 locs' ∧ T'.heap = T99.heap ∧ ∀ t, Steps p.tables e below (T'.setTop (mkF m 178 #[.val (.int i1), .val (.int i2), .val (.int i3), .val (.int i4), .val (.int i5), .val (.int i6), .val (.int (3 : Int32)), .val (.int ((i6 &&& (2147483647 : Int32)) % (4 : Int32))), .val (.ref b89), .val (.int (own_j0_141_0_v1 i1 i2 i3 i4 i6))] [])) t → Steps p.tables e below (s₁.setTop (entryFrame m #[(.int i1), (.int i2), (.int i3), (.int i4), (.int i5), (.int i6)] maxLocals)) t := by
      by_cases hc141_113 : (own_j0_129_0_v2 i1 i2 i3 i4 i6) = (0 : Int32)
      · have pre114 : ∀ t, Steps p.tables e below (T106.setTop (mkF m 178 #[.val (.int i1), .val (.int i2), .val (.int i3), .val (.int i4), .val (.int i5), .val (.int i6), .val (.int (3 : Int32)), .val (.int ((i6 &&& (2147483647 : Int32)) % (4 : Int32))), .val (.ref b89), .val (.int (own_j0_129_0_v2 i1 i2 i3 i4 i6))] [])) t → Steps p.tables e below (s₁.setTop (entryFrame m #[(.int i1), (.int i2), (.int i3), (.int i4), (.int i5), (.int i6)] maxLocals)) t := by
          intro t k
          refine pre112 _ ?_
          show Steps p.tables e below (T106.setTop (mkF m 141 #[.val (.int i1), .val (.int i2), .val (.int i3), .val (.int i4), .val (.int i5), .val (.int i6), .val (.int (3 : Int32)), .val (.int ((i6 &&& (2147483647 : Int32)) % (4 : Int32))), .val (.ref b89), .val (.int (own_j0_129_0_v2 i1 i2 i3 i4 i6))] [(.int (own_j0_129_0_v2 i1 i2 i3 i4 i6))])) _
          refine XS.ifYes X106.here hx rfl (pc0 := 141) (pc' := 178) rfl (hb hby at_141) rfl ((if0 _ _).trans (teq hc141_113).1) (by decide) (by decide) ?_
          exact k
        exact ⟨T106, _, X106, N106, e106, fun t k => pre114 t (by rw [show (own_j0_141_0_v1 i1 i2 i3 i4 i6) = (own_j0_129_0_v2 i1 i2 i3 i4 i6) from (if_pos hc141_113)] at k; exact k)⟩
      · obtain ⟨cq115, kq115, q115a, q115b, q115c⟩ := isOf hZ e106 f103
        obtain ⟨_, _, ⟨T115, L115, k115, n115⟩, -, X115, ⟨Lc115, hQ115, l115, y115, z115⟩, st115⟩ := X106.virtualBack hx (y := (⟨"com/example/baum/baum/query/NodeList$Builder", "get", "(I)I"⟩ : MethodName)) (z := (⟨"com/example/baum/baum/query/NodeList$Builder", "get", "(I)I"⟩ : MethodName)) hown (mvT hZ (hw _ (List.mem_of_getElem? (i := 30) rfl))) (mvT hZ (hw _ (List.mem_of_getElem? (i := 31) rfl))) (notFace_of_selects (args := #[]) (mvT hZ (hw _ (List.mem_of_getElem? (i := 33) rfl)))) (mvT hZ (hw _ (List.mem_of_getElem? (i := 33) rfl))) (mvT hZ (hw _ (List.mem_of_getElem? (i := 32) rfl))) (by decide) (backOf (W := 0) (rm6d l Z a0 hw [] b89 b91_0 (own_v3c_w_numbers_r0_0 ((i6 &&& (2147483647 : Int32)) % (4 : Int32)) i1 i3) (own_v3c_w_numbers_r0_1 ((i6 &&& (2147483647 : Int32)) % (4 : Int32)) i2 i3) (own_v3c_w_numbers_r0_2 ((i6 &&& (2147483647 : Int32)) % (4 : Int32)) i1 i2 i3) k91_1 T99.heap n0 (Nat.le_trans Z0 K100.1) f104 f101 f99_0) hZ (hw _ (List.mem_of_getElem? (i := 34) rfl)) (hw _ (List.mem_of_getElem? (i := 3) rfl)) (by decide) (by decide)) q115a q115c (g := (mkF m 153 #[.val (.int i1), .val (.int i2), .val (.int i3), .val (.int i4), .val (.int i5), .val (.int i6), .val (.int (3 : Int32)), .val (.int ((i6 &&& (2147483647 : Int32)) % (4 : Int32))), .val (.ref b89), .val (.int (own_j0_129_0_v2 i1 i2 i3 i4 i6))] [(.int (1 : Int32)), (.ref b89)])) rfl (by rw [hml]; rfl) (Steps.refl _) (argsL := [(.int (1 : Int32))]) (rest := []) (lenOf pd_5 rfl) rfl (by show 2 * 0 + _ ≤ _; exact Nat.le_of_eq rfl) (hb hby at_153) (fun _ _ => ⟨rfl, e106, (by decide : 2 + 0 ≤ _), (by decide : 18 + 0 ≤ _)⟩)
        dsimp only [Pt.U, Pt.locs, Pt.cells, Pt.slots] at X115 l115 y115 z115 st115 hQ115
        subst l115 y115 z115
        obtain ⟨rfl, Nq115, e115⟩ := hQ115
        have N115 := Fr.app N106 Nq115
        obtain ⟨_, _, ⟨T116, L116, k116, n116⟩, -, X116, ⟨Lc116, hQ116, l116, y116, z116⟩, st116⟩ := Jvm.LawKit.callS X115 hx (y := (⟨"com/example/baum/baum/query/BuilderReverseFromPinLaw", "expect", "(IIIIIII)I"⟩ : MethodName)) hown (mvT hZ (hw _ (List.mem_of_getElem? (i := 43) rfl))) (mvT hZ (hw _ (List.mem_of_getElem? (i := 44) rfl))) (mvT hZ (hw _ (List.mem_of_getElem? (i := 45) rfl))) (mvT hZ (hw _ (List.mem_of_getElem? (i := 46) rfl))) (by decide) (backOf (W := 1) (rm9 l Z a0 hw [] (1 : Int32) ((i6 &&& (2147483647 : Int32)) % (4 : Int32)) (3 : Int32) i1 i2 i3 i4 T99.heap n0 (Nat.le_trans Z0 K100.1) ) hZ (hw _ (List.mem_of_getElem? (i := 46) rfl)) (hw _ (List.mem_of_getElem? (i := 45) rfl)) (by decide) (by decide)) (g := (mkF m 165 #[.val (.int i1), .val (.int i2), .val (.int i3), .val (.int i4), .val (.int i5), .val (.int i6), .val (.int (3 : Int32)), .val (.int ((i6 &&& (2147483647 : Int32)) % (4 : Int32))), .val (.ref b89), .val (.int (own_j0_129_0_v2 i1 i2 i3 i4 i6))] [(.int i4), (.int i3), (.int i2), (.int i1), (.int (3 : Int32)), (.int ((i6 &&& (2147483647 : Int32)) % (4 : Int32))), (.int (1 : Int32)), (.int (own_v3c_w_numbers_r0_1 ((i6 &&& (2147483647 : Int32)) % (4 : Int32)) i2 i3))])) rfl (by rw [hml]; rfl) (argsL := [(.int (1 : Int32)), (.int ((i6 &&& (2147483647 : Int32)) % (4 : Int32))), (.int (3 : Int32)), (.int i1), (.int i2), (.int i3), (.int i4)]) (rest := [(.int (own_v3c_w_numbers_r0_1 ((i6 &&& (2147483647 : Int32)) % (4 : Int32)) i2 i3))]) (lenOf pd_7 rfl) rfl (by show 2 * 0 + _ ≤ _; exact Nat.le_of_eq rfl) (hb hby at_165) (fun _ _ => ⟨rfl, e115, (by decide : 2 + 0 ≤ _), (by decide : 18 + 0 ≤ _)⟩)
        dsimp only [Pt.U, Pt.locs, Pt.cells, Pt.slots] at X116 l116 y116 z116 st116 hQ116
        subst l116 y116 z116
        obtain ⟨rfl, Nq116, e116⟩ := hQ116
        have N116 := Fr.app N115 Nq116
        have pre117 : ∀ t, Steps p.tables e below (T116.setTop (mkF m 168 #[.val (.int i1), .val (.int i2), .val (.int i3), .val (.int i4), .val (.int i5), .val (.int i6), .val (.int (3 : Int32)), .val (.int ((i6 &&& (2147483647 : Int32)) % (4 : Int32))), .val (.ref b89), .val (.int (own_j0_129_0_v2 i1 i2 i3 i4 i6))] [(.int (own_r10 (own_j9_2_0 (1 : Int32) ((i6 &&& (2147483647 : Int32)) % (4 : Int32)) (3 : Int32)) i1 i2 i3 i4)), (.int (own_v3c_w_numbers_r0_1 ((i6 &&& (2147483647 : Int32)) % (4 : Int32)) i2 i3))])) t → Steps p.tables e below (s₁.setTop (entryFrame m #[(.int i1), (.int i2), (.int i3), (.int i4), (.int i5), (.int i6)] maxLocals)) t := by
          intro t k
          refine pre112 _ ?_
          show Steps p.tables e below (T106.setTop (mkF m 141 #[.val (.int i1), .val (.int i2), .val (.int i3), .val (.int i4), .val (.int i5), .val (.int i6), .val (.int (3 : Int32)), .val (.int ((i6 &&& (2147483647 : Int32)) % (4 : Int32))), .val (.ref b89), .val (.int (own_j0_129_0_v2 i1 i2 i3 i4 i6))] [(.int (own_j0_129_0_v2 i1 i2 i3 i4 i6))])) _
          refine XS.ifNo X106.here hx rfl (hb hby at_141) rfl ((if0 _ _).trans (feq hc141_113).1) ?_
          show Steps p.tables e below (T106.setTop (mkF m 144 #[.val (.int i1), .val (.int i2), .val (.int i3), .val (.int i4), .val (.int i5), .val (.int i6), .val (.int (3 : Int32)), .val (.int ((i6 &&& (2147483647 : Int32)) % (4 : Int32))), .val (.ref b89), .val (.int (own_j0_129_0_v2 i1 i2 i3 i4 i6))] [])) _
          refine XS.iload X106.here hx rfl (hb hby at_144) rfl ?_
          show Steps p.tables e below (T106.setTop (mkF m 146 #[.val (.int i1), .val (.int i2), .val (.int i3), .val (.int i4), .val (.int i5), .val (.int i6), .val (.int (3 : Int32)), .val (.int ((i6 &&& (2147483647 : Int32)) % (4 : Int32))), .val (.ref b89), .val (.int (own_j0_129_0_v2 i1 i2 i3 i4 i6))] [(.int (3 : Int32))])) _
          refine XS.iconst X106.here hx rfl (hb hby at_146) ?_
          show Steps p.tables e below (T106.setTop (mkF m 147 #[.val (.int i1), .val (.int i2), .val (.int i3), .val (.int i4), .val (.int i5), .val (.int i6), .val (.int (3 : Int32)), .val (.int ((i6 &&& (2147483647 : Int32)) % (4 : Int32))), .val (.ref b89), .val (.int (own_j0_129_0_v2 i1 i2 i3 i4 i6))] [(.int (1 : Int32)), (.int (3 : Int32))])) _
          refine XS.icmpNo X106.here hx rfl (hb hby at_147) rfl (tlt (by decide : (1 : Int32) < (3 : Int32))).2.2.2 ?_
          show Steps p.tables e below (T106.setTop (mkF m 150 #[.val (.int i1), .val (.int i2), .val (.int i3), .val (.int i4), .val (.int i5), .val (.int i6), .val (.int (3 : Int32)), .val (.int ((i6 &&& (2147483647 : Int32)) % (4 : Int32))), .val (.ref b89), .val (.int (own_j0_129_0_v2 i1 i2 i3 i4 i6))] [])) _
          refine XS.aload X106.here hx rfl (hb hby at_150) rfl rfl ?_
          show Steps p.tables e below (T106.setTop (mkF m 152 #[.val (.int i1), .val (.int i2), .val (.int i3), .val (.int i4), .val (.int i5), .val (.int i6), .val (.int (3 : Int32)), .val (.int ((i6 &&& (2147483647 : Int32)) % (4 : Int32))), .val (.ref b89), .val (.int (own_j0_129_0_v2 i1 i2 i3 i4 i6))] [(.ref b89)])) _
          refine XS.iconst X106.here hx rfl (hb hby at_152) ?_
          show Steps p.tables e below (T106.setTop (mkF m 153 #[.val (.int i1), .val (.int i2), .val (.int i3), .val (.int i4), .val (.int i5), .val (.int i6), .val (.int (3 : Int32)), .val (.int ((i6 &&& (2147483647 : Int32)) % (4 : Int32))), .val (.ref b89), .val (.int (own_j0_129_0_v2 i1 i2 i3 i4 i6))] [(.int (1 : Int32)), (.ref b89)])) _
          refine st115.trans ?_
          show Steps p.tables e below (T115.setTop (mkF m 156 #[.val (.int i1), .val (.int i2), .val (.int i3), .val (.int i4), .val (.int i5), .val (.int i6), .val (.int (3 : Int32)), .val (.int ((i6 &&& (2147483647 : Int32)) % (4 : Int32))), .val (.ref b89), .val (.int (own_j0_129_0_v2 i1 i2 i3 i4 i6))] [(.int (own_v3c_w_numbers_r0_1 ((i6 &&& (2147483647 : Int32)) % (4 : Int32)) i2 i3))])) _
          refine XS.iconst X115.here hx rfl (hb hby at_156) ?_
          show Steps p.tables e below (T115.setTop (mkF m 157 #[.val (.int i1), .val (.int i2), .val (.int i3), .val (.int i4), .val (.int i5), .val (.int i6), .val (.int (3 : Int32)), .val (.int ((i6 &&& (2147483647 : Int32)) % (4 : Int32))), .val (.ref b89), .val (.int (own_j0_129_0_v2 i1 i2 i3 i4 i6))] [(.int (1 : Int32)), (.int (own_v3c_w_numbers_r0_1 ((i6 &&& (2147483647 : Int32)) % (4 : Int32)) i2 i3))])) _
          refine XS.iload X115.here hx rfl (hb hby at_157) rfl ?_
          show Steps p.tables e below (T115.setTop (mkF m 159 #[.val (.int i1), .val (.int i2), .val (.int i3), .val (.int i4), .val (.int i5), .val (.int i6), .val (.int (3 : Int32)), .val (.int ((i6 &&& (2147483647 : Int32)) % (4 : Int32))), .val (.ref b89), .val (.int (own_j0_129_0_v2 i1 i2 i3 i4 i6))] [(.int ((i6 &&& (2147483647 : Int32)) % (4 : Int32))), (.int (1 : Int32)), (.int (own_v3c_w_numbers_r0_1 ((i6 &&& (2147483647 : Int32)) % (4 : Int32)) i2 i3))])) _
          refine XS.iload X115.here hx rfl (hb hby at_159) rfl ?_
          show Steps p.tables e below (T115.setTop (mkF m 161 #[.val (.int i1), .val (.int i2), .val (.int i3), .val (.int i4), .val (.int i5), .val (.int i6), .val (.int (3 : Int32)), .val (.int ((i6 &&& (2147483647 : Int32)) % (4 : Int32))), .val (.ref b89), .val (.int (own_j0_129_0_v2 i1 i2 i3 i4 i6))] [(.int (3 : Int32)), (.int ((i6 &&& (2147483647 : Int32)) % (4 : Int32))), (.int (1 : Int32)), (.int (own_v3c_w_numbers_r0_1 ((i6 &&& (2147483647 : Int32)) % (4 : Int32)) i2 i3))])) _
          refine XS.iloadN X115.here hx rfl (hb hby at_161) rfl ?_
          show Steps p.tables e below (T115.setTop (mkF m 162 #[.val (.int i1), .val (.int i2), .val (.int i3), .val (.int i4), .val (.int i5), .val (.int i6), .val (.int (3 : Int32)), .val (.int ((i6 &&& (2147483647 : Int32)) % (4 : Int32))), .val (.ref b89), .val (.int (own_j0_129_0_v2 i1 i2 i3 i4 i6))] [(.int i1), (.int (3 : Int32)), (.int ((i6 &&& (2147483647 : Int32)) % (4 : Int32))), (.int (1 : Int32)), (.int (own_v3c_w_numbers_r0_1 ((i6 &&& (2147483647 : Int32)) % (4 : Int32)) i2 i3))])) _
          refine XS.iloadN X115.here hx rfl (hb hby at_162) rfl ?_
          show Steps p.tables e below (T115.setTop (mkF m 163 #[.val (.int i1), .val (.int i2), .val (.int i3), .val (.int i4), .val (.int i5), .val (.int i6), .val (.int (3 : Int32)), .val (.int ((i6 &&& (2147483647 : Int32)) % (4 : Int32))), .val (.ref b89), .val (.int (own_j0_129_0_v2 i1 i2 i3 i4 i6))] [(.int i2), (.int i1), (.int (3 : Int32)), (.int ((i6 &&& (2147483647 : Int32)) % (4 : Int32))), (.int (1 : Int32)), (.int (own_v3c_w_numbers_r0_1 ((i6 &&& (2147483647 : Int32)) % (4 : Int32)) i2 i3))])) _
          refine XS.iloadN X115.here hx rfl (hb hby at_163) rfl ?_
          show Steps p.tables e below (T115.setTop (mkF m 164 #[.val (.int i1), .val (.int i2), .val (.int i3), .val (.int i4), .val (.int i5), .val (.int i6), .val (.int (3 : Int32)), .val (.int ((i6 &&& (2147483647 : Int32)) % (4 : Int32))), .val (.ref b89), .val (.int (own_j0_129_0_v2 i1 i2 i3 i4 i6))] [(.int i3), (.int i2), (.int i1), (.int (3 : Int32)), (.int ((i6 &&& (2147483647 : Int32)) % (4 : Int32))), (.int (1 : Int32)), (.int (own_v3c_w_numbers_r0_1 ((i6 &&& (2147483647 : Int32)) % (4 : Int32)) i2 i3))])) _
          refine XS.iloadN X115.here hx rfl (hb hby at_164) rfl ?_
          show Steps p.tables e below (T115.setTop (mkF m 165 #[.val (.int i1), .val (.int i2), .val (.int i3), .val (.int i4), .val (.int i5), .val (.int i6), .val (.int (3 : Int32)), .val (.int ((i6 &&& (2147483647 : Int32)) % (4 : Int32))), .val (.ref b89), .val (.int (own_j0_129_0_v2 i1 i2 i3 i4 i6))] [(.int i4), (.int i3), (.int i2), (.int i1), (.int (3 : Int32)), (.int ((i6 &&& (2147483647 : Int32)) % (4 : Int32))), (.int (1 : Int32)), (.int (own_v3c_w_numbers_r0_1 ((i6 &&& (2147483647 : Int32)) % (4 : Int32)) i2 i3))])) _
          refine st116 _ ?_
          exact k
        have pre121 : ∀ t, Steps p.tables e below (T116.setTop (mkF m 176 #[.val (.int i1), .val (.int i2), .val (.int i3), .val (.int i4), .val (.int i5), .val (.int i6), .val (.int (3 : Int32)), .val (.int ((i6 &&& (2147483647 : Int32)) % (4 : Int32))), .val (.ref b89), .val (.int (own_j0_129_0_v2 i1 i2 i3 i4 i6))] [(.int (own_j0_168_0_v1 i1 i2 i3 i4 i6))])) t → Steps p.tables e below (s₁.setTop (entryFrame m #[(.int i1), (.int i2), (.int i3), (.int i4), (.int i5), (.int i6)] maxLocals)) t := by
          by_cases hc168_118 : (own_v3c_w_numbers_r0_1 ((i6 &&& (2147483647 : Int32)) % (4 : Int32)) i2 i3) = (own_r10 (own_j9_2_0 (1 : Int32) ((i6 &&& (2147483647 : Int32)) % (4 : Int32)) (3 : Int32)) i1 i2 i3 i4)
          · have pre119 : ∀ t, Steps p.tables e below (T116.setTop (mkF m 176 #[.val (.int i1), .val (.int i2), .val (.int i3), .val (.int i4), .val (.int i5), .val (.int i6), .val (.int (3 : Int32)), .val (.int ((i6 &&& (2147483647 : Int32)) % (4 : Int32))), .val (.ref b89), .val (.int (own_j0_129_0_v2 i1 i2 i3 i4 i6))] [(.int (1 : Int32))])) t → Steps p.tables e below (s₁.setTop (entryFrame m #[(.int i1), (.int i2), (.int i3), (.int i4), (.int i5), (.int i6)] maxLocals)) t := by
              intro t k
              refine pre117 _ ?_
              show Steps p.tables e below (T116.setTop (mkF m 168 #[.val (.int i1), .val (.int i2), .val (.int i3), .val (.int i4), .val (.int i5), .val (.int i6), .val (.int (3 : Int32)), .val (.int ((i6 &&& (2147483647 : Int32)) % (4 : Int32))), .val (.ref b89), .val (.int (own_j0_129_0_v2 i1 i2 i3 i4 i6))] [(.int (own_r10 (own_j9_2_0 (1 : Int32) ((i6 &&& (2147483647 : Int32)) % (4 : Int32)) (3 : Int32)) i1 i2 i3 i4)), (.int (own_v3c_w_numbers_r0_1 ((i6 &&& (2147483647 : Int32)) % (4 : Int32)) i2 i3))])) _
              refine XS.icmpNo X116.here hx rfl (hb hby at_168) rfl (teq hc168_118).2 ?_
              show Steps p.tables e below (T116.setTop (mkF m 171 #[.val (.int i1), .val (.int i2), .val (.int i3), .val (.int i4), .val (.int i5), .val (.int i6), .val (.int (3 : Int32)), .val (.int ((i6 &&& (2147483647 : Int32)) % (4 : Int32))), .val (.ref b89), .val (.int (own_j0_129_0_v2 i1 i2 i3 i4 i6))] [])) _
              refine XS.iconst X116.here hx rfl (hb hby at_171) ?_
              show Steps p.tables e below (T116.setTop (mkF m 172 #[.val (.int i1), .val (.int i2), .val (.int i3), .val (.int i4), .val (.int i5), .val (.int i6), .val (.int (3 : Int32)), .val (.int ((i6 &&& (2147483647 : Int32)) % (4 : Int32))), .val (.ref b89), .val (.int (own_j0_129_0_v2 i1 i2 i3 i4 i6))] [(.int (1 : Int32))])) _
              refine XS.goto X116.here hx rfl (pc0 := 172) (pc' := 176) rfl (hb hby at_172) (by decide) (by decide) ?_
              exact k
            exact fun t k => pre119 t (by rw [show (own_j0_168_0_v1 i1 i2 i3 i4 i6) = (1 : Int32) from (if_pos hc168_118)] at k; exact k)
          · have pre120 : ∀ t, Steps p.tables e below (T116.setTop (mkF m 176 #[.val (.int i1), .val (.int i2), .val (.int i3), .val (.int i4), .val (.int i5), .val (.int i6), .val (.int (3 : Int32)), .val (.int ((i6 &&& (2147483647 : Int32)) % (4 : Int32))), .val (.ref b89), .val (.int (own_j0_129_0_v2 i1 i2 i3 i4 i6))] [(.int (0 : Int32))])) t → Steps p.tables e below (s₁.setTop (entryFrame m #[(.int i1), (.int i2), (.int i3), (.int i4), (.int i5), (.int i6)] maxLocals)) t := by
              intro t k
              refine pre117 _ ?_
              show Steps p.tables e below (T116.setTop (mkF m 168 #[.val (.int i1), .val (.int i2), .val (.int i3), .val (.int i4), .val (.int i5), .val (.int i6), .val (.int (3 : Int32)), .val (.int ((i6 &&& (2147483647 : Int32)) % (4 : Int32))), .val (.ref b89), .val (.int (own_j0_129_0_v2 i1 i2 i3 i4 i6))] [(.int (own_r10 (own_j9_2_0 (1 : Int32) ((i6 &&& (2147483647 : Int32)) % (4 : Int32)) (3 : Int32)) i1 i2 i3 i4)), (.int (own_v3c_w_numbers_r0_1 ((i6 &&& (2147483647 : Int32)) % (4 : Int32)) i2 i3))])) _
              refine XS.icmpYes X116.here hx rfl (pc0 := 168) (pc' := 175) rfl (hb hby at_168) rfl (feq hc168_118).2 (by decide) (by decide) ?_
              show Steps p.tables e below (T116.setTop (mkF m 175 #[.val (.int i1), .val (.int i2), .val (.int i3), .val (.int i4), .val (.int i5), .val (.int i6), .val (.int (3 : Int32)), .val (.int ((i6 &&& (2147483647 : Int32)) % (4 : Int32))), .val (.ref b89), .val (.int (own_j0_129_0_v2 i1 i2 i3 i4 i6))] [])) _
              refine XS.iconst X116.here hx rfl (hb hby at_175) ?_
              exact k
            exact fun t k => pre120 t (by rw [show (own_j0_168_0_v1 i1 i2 i3 i4 i6) = (0 : Int32) from (if_neg hc168_118)] at k; exact k)
        have pre122 : ∀ t, Steps p.tables e below (T116.setTop (mkF m 178 #[.val (.int i1), .val (.int i2), .val (.int i3), .val (.int i4), .val (.int i5), .val (.int i6), .val (.int (3 : Int32)), .val (.int ((i6 &&& (2147483647 : Int32)) % (4 : Int32))), .val (.ref b89), .val (.int (own_j0_168_0_v1 i1 i2 i3 i4 i6))] [])) t → Steps p.tables e below (s₁.setTop (entryFrame m #[(.int i1), (.int i2), (.int i3), (.int i4), (.int i5), (.int i6)] maxLocals)) t := by
          intro t k
          refine pre121 _ ?_
          show Steps p.tables e below (T116.setTop (mkF m 176 #[.val (.int i1), .val (.int i2), .val (.int i3), .val (.int i4), .val (.int i5), .val (.int i6), .val (.int (3 : Int32)), .val (.int ((i6 &&& (2147483647 : Int32)) % (4 : Int32))), .val (.ref b89), .val (.int (own_j0_129_0_v2 i1 i2 i3 i4 i6))] [(.int (own_j0_168_0_v1 i1 i2 i3 i4 i6))])) _
          refine XS.istore X116.here hx rfl (hb hby at_176) rfl (l' := #[.val (.int i1), .val (.int i2), .val (.int i3), .val (.int i4), .val (.int i5), .val (.int i6), .val (.int (3 : Int32)), .val (.int ((i6 &&& (2147483647 : Int32)) % (4 : Int32))), .val (.ref b89), .val (.int (own_j0_168_0_v1 i1 i2 i3 i4 i6))]) rfl ?_
          exact k
        exact ⟨T116, _, X116, N116, e116, fun t k => pre122 t (by rw [show (own_j0_141_0_v1 i1 i2 i3 i4 i6) = (own_j0_168_0_v1 i1 i2 i3 i4 i6) from (if_neg hc141_113)] at k; exact k)⟩
    have pre124 : ∀ t, Steps p.tables e below (T123.setTop (mkF m 180 #[.val (.int i1), .val (.int i2), .val (.int i3), .val (.int i4), .val (.int i5), .val (.int i6), .val (.int (3 : Int32)), .val (.int ((i6 &&& (2147483647 : Int32)) % (4 : Int32))), .val (.ref b89), .val (.int (own_j0_141_0_v1 i1 i2 i3 i4 i6))] [(.int (own_j0_141_0_v1 i1 i2 i3 i4 i6))])) t → Steps p.tables e below (s₁.setTop (entryFrame m #[(.int i1), (.int i2), (.int i3), (.int i4), (.int i5), (.int i6)] maxLocals)) t := by
      intro t k
      refine pre123 _ ?_
      show Steps p.tables e below (T123.setTop (mkF m 178 #[.val (.int i1), .val (.int i2), .val (.int i3), .val (.int i4), .val (.int i5), .val (.int i6), .val (.int (3 : Int32)), .val (.int ((i6 &&& (2147483647 : Int32)) % (4 : Int32))), .val (.ref b89), .val (.int (own_j0_141_0_v1 i1 i2 i3 i4 i6))] [])) _
      refine XS.iload X123.here hx rfl (hb hby at_178) rfl ?_
      exact k
    obtain ⟨T135, Lq135, X135, N135, e135, pre135⟩ : ∃ (T' : State) (locs' : List Loc), Stand p l e room_1 s m #[(.int i1), (.int i2), (.int i3), (.int i4), (.int i5), (.int i6)] below meth c T' locs' 2 18 ∧ Fr n0 locs' ∧ T'.heap = T99.heap ∧ ∀ t, Steps p.tables e below (T'.setTop (mkF m 217 #[.val (.int i1), .val (.int i2), .val (.int i3), .val (.int i4), .val (.int i5), .val (.int i6), .val (.int (3 : Int32)), .val (.int ((i6 &&& (2147483647 : Int32)) % (4 : Int32))), .val (.ref b89), .val (.int (own_j0_180_0 i1 i2 i3 i4 i6))] [])) t → Steps p.tables e below (s₁.setTop (entryFrame m #[(.int i1), (.int i2), (.int i3), (.int i4), (.int i5), (.int i6)] maxLocals)) t := by
      by_cases hc180_125 : (own_j0_141_0_v1 i1 i2 i3 i4 i6) = (0 : Int32)
      · have pre126 : ∀ t, Steps p.tables e below (T123.setTop (mkF m 217 #[.val (.int i1), .val (.int i2), .val (.int i3), .val (.int i4), .val (.int i5), .val (.int i6), .val (.int (3 : Int32)), .val (.int ((i6 &&& (2147483647 : Int32)) % (4 : Int32))), .val (.ref b89), .val (.int (own_j0_141_0_v1 i1 i2 i3 i4 i6))] [])) t → Steps p.tables e below (s₁.setTop (entryFrame m #[(.int i1), (.int i2), (.int i3), (.int i4), (.int i5), (.int i6)] maxLocals)) t := by
          intro t k
          refine pre124 _ ?_
          show Steps p.tables e below (T123.setTop (mkF m 180 #[.val (.int i1), .val (.int i2), .val (.int i3), .val (.int i4), .val (.int i5), .val (.int i6), .val (.int (3 : Int32)), .val (.int ((i6 &&& (2147483647 : Int32)) % (4 : Int32))), .val (.ref b89), .val (.int (own_j0_141_0_v1 i1 i2 i3 i4 i6))] [(.int (own_j0_141_0_v1 i1 i2 i3 i4 i6))])) _
          refine XS.ifYes X123.here hx rfl (pc0 := 180) (pc' := 217) rfl (hb hby at_180) rfl ((if0 _ _).trans (teq hc180_125).1) (by decide) (by decide) ?_
          exact k
        exact ⟨T123, _, X123, N123, e123, fun t k => pre126 t (by rw [show (own_j0_180_0 i1 i2 i3 i4 i6) = (own_j0_141_0_v1 i1 i2 i3 i4 i6) from (if_pos hc180_125)] at k; exact k)⟩
      · obtain ⟨cq127, kq127, q127a, q127b, q127c⟩ := isOf hZ e123 f103
        obtain ⟨_, _, ⟨T127, L127, k127, n127⟩, -, X127, ⟨Lc127, hQ127, l127, y127, z127⟩, st127⟩ := X123.virtualBack hx (y := (⟨"com/example/baum/baum/query/NodeList$Builder", "get", "(I)I"⟩ : MethodName)) (z := (⟨"com/example/baum/baum/query/NodeList$Builder", "get", "(I)I"⟩ : MethodName)) hown (mvT hZ (hw _ (List.mem_of_getElem? (i := 30) rfl))) (mvT hZ (hw _ (List.mem_of_getElem? (i := 31) rfl))) (notFace_of_selects (args := #[]) (mvT hZ (hw _ (List.mem_of_getElem? (i := 33) rfl)))) (mvT hZ (hw _ (List.mem_of_getElem? (i := 33) rfl))) (mvT hZ (hw _ (List.mem_of_getElem? (i := 32) rfl))) (by decide) (backOf (W := 0) (rm6e l Z a0 hw [] b89 b91_0 (own_v3c_w_numbers_r0_0 ((i6 &&& (2147483647 : Int32)) % (4 : Int32)) i1 i3) (own_v3c_w_numbers_r0_1 ((i6 &&& (2147483647 : Int32)) % (4 : Int32)) i2 i3) (own_v3c_w_numbers_r0_2 ((i6 &&& (2147483647 : Int32)) % (4 : Int32)) i1 i2 i3) k91_1 T99.heap n0 (Nat.le_trans Z0 K100.1) f104 f101 f99_0) hZ (hw _ (List.mem_of_getElem? (i := 34) rfl)) (hw _ (List.mem_of_getElem? (i := 3) rfl)) (by decide) (by decide)) q127a q127c (g := (mkF m 192 #[.val (.int i1), .val (.int i2), .val (.int i3), .val (.int i4), .val (.int i5), .val (.int i6), .val (.int (3 : Int32)), .val (.int ((i6 &&& (2147483647 : Int32)) % (4 : Int32))), .val (.ref b89), .val (.int (own_j0_141_0_v1 i1 i2 i3 i4 i6))] [(.int (2 : Int32)), (.ref b89)])) rfl (by rw [hml]; rfl) (Steps.refl _) (argsL := [(.int (2 : Int32))]) (rest := []) (lenOf pd_5 rfl) rfl (by show 2 * 0 + _ ≤ _; exact Nat.le_of_eq rfl) (hb hby at_192) (fun _ _ => ⟨rfl, e123, (by decide : 2 + 0 ≤ _), (by decide : 18 + 0 ≤ _)⟩)
        dsimp only [Pt.U, Pt.locs, Pt.cells, Pt.slots] at X127 l127 y127 z127 st127 hQ127
        subst l127 y127 z127
        obtain ⟨rfl, Nq127, e127⟩ := hQ127
        have N127 := Fr.app N123 Nq127
        obtain ⟨_, _, ⟨T128, L128, k128, n128⟩, -, X128, ⟨Lc128, hQ128, l128, y128, z128⟩, st128⟩ := Jvm.LawKit.callS X127 hx (y := (⟨"com/example/baum/baum/query/BuilderReverseFromPinLaw", "expect", "(IIIIIII)I"⟩ : MethodName)) hown (mvT hZ (hw _ (List.mem_of_getElem? (i := 43) rfl))) (mvT hZ (hw _ (List.mem_of_getElem? (i := 44) rfl))) (mvT hZ (hw _ (List.mem_of_getElem? (i := 45) rfl))) (mvT hZ (hw _ (List.mem_of_getElem? (i := 46) rfl))) (by decide) (backOf (W := 1) (rm9 l Z a0 hw [] (2 : Int32) ((i6 &&& (2147483647 : Int32)) % (4 : Int32)) (3 : Int32) i1 i2 i3 i4 T99.heap n0 (Nat.le_trans Z0 K100.1) ) hZ (hw _ (List.mem_of_getElem? (i := 46) rfl)) (hw _ (List.mem_of_getElem? (i := 45) rfl)) (by decide) (by decide)) (g := (mkF m 204 #[.val (.int i1), .val (.int i2), .val (.int i3), .val (.int i4), .val (.int i5), .val (.int i6), .val (.int (3 : Int32)), .val (.int ((i6 &&& (2147483647 : Int32)) % (4 : Int32))), .val (.ref b89), .val (.int (own_j0_141_0_v1 i1 i2 i3 i4 i6))] [(.int i4), (.int i3), (.int i2), (.int i1), (.int (3 : Int32)), (.int ((i6 &&& (2147483647 : Int32)) % (4 : Int32))), (.int (2 : Int32)), (.int (own_v3c_w_numbers_r0_2 ((i6 &&& (2147483647 : Int32)) % (4 : Int32)) i1 i2 i3))])) rfl (by rw [hml]; rfl) (argsL := [(.int (2 : Int32)), (.int ((i6 &&& (2147483647 : Int32)) % (4 : Int32))), (.int (3 : Int32)), (.int i1), (.int i2), (.int i3), (.int i4)]) (rest := [(.int (own_v3c_w_numbers_r0_2 ((i6 &&& (2147483647 : Int32)) % (4 : Int32)) i1 i2 i3))]) (lenOf pd_7 rfl) rfl (by show 2 * 0 + _ ≤ _; exact Nat.le_of_eq rfl) (hb hby at_204) (fun _ _ => ⟨rfl, e127, (by decide : 2 + 0 ≤ _), (by decide : 18 + 0 ≤ _)⟩)
        dsimp only [Pt.U, Pt.locs, Pt.cells, Pt.slots] at X128 l128 y128 z128 st128 hQ128
        subst l128 y128 z128
        obtain ⟨rfl, Nq128, e128⟩ := hQ128
        have N128 := Fr.app N127 Nq128
        have pre129 : ∀ t, Steps p.tables e below (T128.setTop (mkF m 207 #[.val (.int i1), .val (.int i2), .val (.int i3), .val (.int i4), .val (.int i5), .val (.int i6), .val (.int (3 : Int32)), .val (.int ((i6 &&& (2147483647 : Int32)) % (4 : Int32))), .val (.ref b89), .val (.int (own_j0_141_0_v1 i1 i2 i3 i4 i6))] [(.int (own_r10 (own_j9_2_0 (2 : Int32) ((i6 &&& (2147483647 : Int32)) % (4 : Int32)) (3 : Int32)) i1 i2 i3 i4)), (.int (own_v3c_w_numbers_r0_2 ((i6 &&& (2147483647 : Int32)) % (4 : Int32)) i1 i2 i3))])) t → Steps p.tables e below (s₁.setTop (entryFrame m #[(.int i1), (.int i2), (.int i3), (.int i4), (.int i5), (.int i6)] maxLocals)) t := by
          intro t k
          refine pre124 _ ?_
          show Steps p.tables e below (T123.setTop (mkF m 180 #[.val (.int i1), .val (.int i2), .val (.int i3), .val (.int i4), .val (.int i5), .val (.int i6), .val (.int (3 : Int32)), .val (.int ((i6 &&& (2147483647 : Int32)) % (4 : Int32))), .val (.ref b89), .val (.int (own_j0_141_0_v1 i1 i2 i3 i4 i6))] [(.int (own_j0_141_0_v1 i1 i2 i3 i4 i6))])) _
          refine XS.ifNo X123.here hx rfl (hb hby at_180) rfl ((if0 _ _).trans (feq hc180_125).1) ?_
          show Steps p.tables e below (T123.setTop (mkF m 183 #[.val (.int i1), .val (.int i2), .val (.int i3), .val (.int i4), .val (.int i5), .val (.int i6), .val (.int (3 : Int32)), .val (.int ((i6 &&& (2147483647 : Int32)) % (4 : Int32))), .val (.ref b89), .val (.int (own_j0_141_0_v1 i1 i2 i3 i4 i6))] [])) _
          refine XS.iload X123.here hx rfl (hb hby at_183) rfl ?_
          show Steps p.tables e below (T123.setTop (mkF m 185 #[.val (.int i1), .val (.int i2), .val (.int i3), .val (.int i4), .val (.int i5), .val (.int i6), .val (.int (3 : Int32)), .val (.int ((i6 &&& (2147483647 : Int32)) % (4 : Int32))), .val (.ref b89), .val (.int (own_j0_141_0_v1 i1 i2 i3 i4 i6))] [(.int (3 : Int32))])) _
          refine XS.iconst X123.here hx rfl (hb hby at_185) ?_
          show Steps p.tables e below (T123.setTop (mkF m 186 #[.val (.int i1), .val (.int i2), .val (.int i3), .val (.int i4), .val (.int i5), .val (.int i6), .val (.int (3 : Int32)), .val (.int ((i6 &&& (2147483647 : Int32)) % (4 : Int32))), .val (.ref b89), .val (.int (own_j0_141_0_v1 i1 i2 i3 i4 i6))] [(.int (2 : Int32)), (.int (3 : Int32))])) _
          refine XS.icmpNo X123.here hx rfl (hb hby at_186) rfl (tlt (by decide : (2 : Int32) < (3 : Int32))).2.2.2 ?_
          show Steps p.tables e below (T123.setTop (mkF m 189 #[.val (.int i1), .val (.int i2), .val (.int i3), .val (.int i4), .val (.int i5), .val (.int i6), .val (.int (3 : Int32)), .val (.int ((i6 &&& (2147483647 : Int32)) % (4 : Int32))), .val (.ref b89), .val (.int (own_j0_141_0_v1 i1 i2 i3 i4 i6))] [])) _
          refine XS.aload X123.here hx rfl (hb hby at_189) rfl rfl ?_
          show Steps p.tables e below (T123.setTop (mkF m 191 #[.val (.int i1), .val (.int i2), .val (.int i3), .val (.int i4), .val (.int i5), .val (.int i6), .val (.int (3 : Int32)), .val (.int ((i6 &&& (2147483647 : Int32)) % (4 : Int32))), .val (.ref b89), .val (.int (own_j0_141_0_v1 i1 i2 i3 i4 i6))] [(.ref b89)])) _
          refine XS.iconst X123.here hx rfl (hb hby at_191) ?_
          show Steps p.tables e below (T123.setTop (mkF m 192 #[.val (.int i1), .val (.int i2), .val (.int i3), .val (.int i4), .val (.int i5), .val (.int i6), .val (.int (3 : Int32)), .val (.int ((i6 &&& (2147483647 : Int32)) % (4 : Int32))), .val (.ref b89), .val (.int (own_j0_141_0_v1 i1 i2 i3 i4 i6))] [(.int (2 : Int32)), (.ref b89)])) _
          refine st127.trans ?_
          show Steps p.tables e below (T127.setTop (mkF m 195 #[.val (.int i1), .val (.int i2), .val (.int i3), .val (.int i4), .val (.int i5), .val (.int i6), .val (.int (3 : Int32)), .val (.int ((i6 &&& (2147483647 : Int32)) % (4 : Int32))), .val (.ref b89), .val (.int (own_j0_141_0_v1 i1 i2 i3 i4 i6))] [(.int (own_v3c_w_numbers_r0_2 ((i6 &&& (2147483647 : Int32)) % (4 : Int32)) i1 i2 i3))])) _
          refine XS.iconst X127.here hx rfl (hb hby at_195) ?_
          show Steps p.tables e below (T127.setTop (mkF m 196 #[.val (.int i1), .val (.int i2), .val (.int i3), .val (.int i4), .val (.int i5), .val (.int i6), .val (.int (3 : Int32)), .val (.int ((i6 &&& (2147483647 : Int32)) % (4 : Int32))), .val (.ref b89), .val (.int (own_j0_141_0_v1 i1 i2 i3 i4 i6))] [(.int (2 : Int32)), (.int (own_v3c_w_numbers_r0_2 ((i6 &&& (2147483647 : Int32)) % (4 : Int32)) i1 i2 i3))])) _
          refine XS.iload X127.here hx rfl (hb hby at_196) rfl ?_
          show Steps p.tables e below (T127.setTop (mkF m 198 #[.val (.int i1), .val (.int i2), .val (.int i3), .val (.int i4), .val (.int i5), .val (.int i6), .val (.int (3 : Int32)), .val (.int ((i6 &&& (2147483647 : Int32)) % (4 : Int32))), .val (.ref b89), .val (.int (own_j0_141_0_v1 i1 i2 i3 i4 i6))] [(.int ((i6 &&& (2147483647 : Int32)) % (4 : Int32))), (.int (2 : Int32)), (.int (own_v3c_w_numbers_r0_2 ((i6 &&& (2147483647 : Int32)) % (4 : Int32)) i1 i2 i3))])) _
          refine XS.iload X127.here hx rfl (hb hby at_198) rfl ?_
          show Steps p.tables e below (T127.setTop (mkF m 200 #[.val (.int i1), .val (.int i2), .val (.int i3), .val (.int i4), .val (.int i5), .val (.int i6), .val (.int (3 : Int32)), .val (.int ((i6 &&& (2147483647 : Int32)) % (4 : Int32))), .val (.ref b89), .val (.int (own_j0_141_0_v1 i1 i2 i3 i4 i6))] [(.int (3 : Int32)), (.int ((i6 &&& (2147483647 : Int32)) % (4 : Int32))), (.int (2 : Int32)), (.int (own_v3c_w_numbers_r0_2 ((i6 &&& (2147483647 : Int32)) % (4 : Int32)) i1 i2 i3))])) _
          refine XS.iloadN X127.here hx rfl (hb hby at_200) rfl ?_
          show Steps p.tables e below (T127.setTop (mkF m 201 #[.val (.int i1), .val (.int i2), .val (.int i3), .val (.int i4), .val (.int i5), .val (.int i6), .val (.int (3 : Int32)), .val (.int ((i6 &&& (2147483647 : Int32)) % (4 : Int32))), .val (.ref b89), .val (.int (own_j0_141_0_v1 i1 i2 i3 i4 i6))] [(.int i1), (.int (3 : Int32)), (.int ((i6 &&& (2147483647 : Int32)) % (4 : Int32))), (.int (2 : Int32)), (.int (own_v3c_w_numbers_r0_2 ((i6 &&& (2147483647 : Int32)) % (4 : Int32)) i1 i2 i3))])) _
          refine XS.iloadN X127.here hx rfl (hb hby at_201) rfl ?_
          show Steps p.tables e below (T127.setTop (mkF m 202 #[.val (.int i1), .val (.int i2), .val (.int i3), .val (.int i4), .val (.int i5), .val (.int i6), .val (.int (3 : Int32)), .val (.int ((i6 &&& (2147483647 : Int32)) % (4 : Int32))), .val (.ref b89), .val (.int (own_j0_141_0_v1 i1 i2 i3 i4 i6))] [(.int i2), (.int i1), (.int (3 : Int32)), (.int ((i6 &&& (2147483647 : Int32)) % (4 : Int32))), (.int (2 : Int32)), (.int (own_v3c_w_numbers_r0_2 ((i6 &&& (2147483647 : Int32)) % (4 : Int32)) i1 i2 i3))])) _
          refine XS.iloadN X127.here hx rfl (hb hby at_202) rfl ?_
          show Steps p.tables e below (T127.setTop (mkF m 203 #[.val (.int i1), .val (.int i2), .val (.int i3), .val (.int i4), .val (.int i5), .val (.int i6), .val (.int (3 : Int32)), .val (.int ((i6 &&& (2147483647 : Int32)) % (4 : Int32))), .val (.ref b89), .val (.int (own_j0_141_0_v1 i1 i2 i3 i4 i6))] [(.int i3), (.int i2), (.int i1), (.int (3 : Int32)), (.int ((i6 &&& (2147483647 : Int32)) % (4 : Int32))), (.int (2 : Int32)), (.int (own_v3c_w_numbers_r0_2 ((i6 &&& (2147483647 : Int32)) % (4 : Int32)) i1 i2 i3))])) _
          refine XS.iloadN X127.here hx rfl (hb hby at_203) rfl ?_
          show Steps p.tables e below (T127.setTop (mkF m 204 #[.val (.int i1), .val (.int i2), .val (.int i3), .val (.int i4), .val (.int i5), .val (.int i6), .val (.int (3 : Int32)), .val (.int ((i6 &&& (2147483647 : Int32)) % (4 : Int32))), .val (.ref b89), .val (.int (own_j0_141_0_v1 i1 i2 i3 i4 i6))] [(.int i4), (.int i3), (.int i2), (.int i1), (.int (3 : Int32)), (.int ((i6 &&& (2147483647 : Int32)) % (4 : Int32))), (.int (2 : Int32)), (.int (own_v3c_w_numbers_r0_2 ((i6 &&& (2147483647 : Int32)) % (4 : Int32)) i1 i2 i3))])) _
          refine st128 _ ?_
          exact k
        have pre133 : ∀ t, Steps p.tables e below (T128.setTop (mkF m 215 #[.val (.int i1), .val (.int i2), .val (.int i3), .val (.int i4), .val (.int i5), .val (.int i6), .val (.int (3 : Int32)), .val (.int ((i6 &&& (2147483647 : Int32)) % (4 : Int32))), .val (.ref b89), .val (.int (own_j0_141_0_v1 i1 i2 i3 i4 i6))] [(.int (own_j0_207_0 i1 i2 i3 i4 i6))])) t → Steps p.tables e below (s₁.setTop (entryFrame m #[(.int i1), (.int i2), (.int i3), (.int i4), (.int i5), (.int i6)] maxLocals)) t := by
          by_cases hc207_130 : (own_v3c_w_numbers_r0_2 ((i6 &&& (2147483647 : Int32)) % (4 : Int32)) i1 i2 i3) = (own_r10 (own_j9_2_0 (2 : Int32) ((i6 &&& (2147483647 : Int32)) % (4 : Int32)) (3 : Int32)) i1 i2 i3 i4)
          · have pre131 : ∀ t, Steps p.tables e below (T128.setTop (mkF m 215 #[.val (.int i1), .val (.int i2), .val (.int i3), .val (.int i4), .val (.int i5), .val (.int i6), .val (.int (3 : Int32)), .val (.int ((i6 &&& (2147483647 : Int32)) % (4 : Int32))), .val (.ref b89), .val (.int (own_j0_141_0_v1 i1 i2 i3 i4 i6))] [(.int (1 : Int32))])) t → Steps p.tables e below (s₁.setTop (entryFrame m #[(.int i1), (.int i2), (.int i3), (.int i4), (.int i5), (.int i6)] maxLocals)) t := by
              intro t k
              refine pre129 _ ?_
              show Steps p.tables e below (T128.setTop (mkF m 207 #[.val (.int i1), .val (.int i2), .val (.int i3), .val (.int i4), .val (.int i5), .val (.int i6), .val (.int (3 : Int32)), .val (.int ((i6 &&& (2147483647 : Int32)) % (4 : Int32))), .val (.ref b89), .val (.int (own_j0_141_0_v1 i1 i2 i3 i4 i6))] [(.int (own_r10 (own_j9_2_0 (2 : Int32) ((i6 &&& (2147483647 : Int32)) % (4 : Int32)) (3 : Int32)) i1 i2 i3 i4)), (.int (own_v3c_w_numbers_r0_2 ((i6 &&& (2147483647 : Int32)) % (4 : Int32)) i1 i2 i3))])) _
              refine XS.icmpNo X128.here hx rfl (hb hby at_207) rfl (teq hc207_130).2 ?_
              show Steps p.tables e below (T128.setTop (mkF m 210 #[.val (.int i1), .val (.int i2), .val (.int i3), .val (.int i4), .val (.int i5), .val (.int i6), .val (.int (3 : Int32)), .val (.int ((i6 &&& (2147483647 : Int32)) % (4 : Int32))), .val (.ref b89), .val (.int (own_j0_141_0_v1 i1 i2 i3 i4 i6))] [])) _
              refine XS.iconst X128.here hx rfl (hb hby at_210) ?_
              show Steps p.tables e below (T128.setTop (mkF m 211 #[.val (.int i1), .val (.int i2), .val (.int i3), .val (.int i4), .val (.int i5), .val (.int i6), .val (.int (3 : Int32)), .val (.int ((i6 &&& (2147483647 : Int32)) % (4 : Int32))), .val (.ref b89), .val (.int (own_j0_141_0_v1 i1 i2 i3 i4 i6))] [(.int (1 : Int32))])) _
              refine XS.goto X128.here hx rfl (pc0 := 211) (pc' := 215) rfl (hb hby at_211) (by decide) (by decide) ?_
              exact k
            exact fun t k => pre131 t (by rw [show (own_j0_207_0 i1 i2 i3 i4 i6) = (1 : Int32) from (if_pos hc207_130)] at k; exact k)
          · have pre132 : ∀ t, Steps p.tables e below (T128.setTop (mkF m 215 #[.val (.int i1), .val (.int i2), .val (.int i3), .val (.int i4), .val (.int i5), .val (.int i6), .val (.int (3 : Int32)), .val (.int ((i6 &&& (2147483647 : Int32)) % (4 : Int32))), .val (.ref b89), .val (.int (own_j0_141_0_v1 i1 i2 i3 i4 i6))] [(.int (0 : Int32))])) t → Steps p.tables e below (s₁.setTop (entryFrame m #[(.int i1), (.int i2), (.int i3), (.int i4), (.int i5), (.int i6)] maxLocals)) t := by
              intro t k
              refine pre129 _ ?_
              show Steps p.tables e below (T128.setTop (mkF m 207 #[.val (.int i1), .val (.int i2), .val (.int i3), .val (.int i4), .val (.int i5), .val (.int i6), .val (.int (3 : Int32)), .val (.int ((i6 &&& (2147483647 : Int32)) % (4 : Int32))), .val (.ref b89), .val (.int (own_j0_141_0_v1 i1 i2 i3 i4 i6))] [(.int (own_r10 (own_j9_2_0 (2 : Int32) ((i6 &&& (2147483647 : Int32)) % (4 : Int32)) (3 : Int32)) i1 i2 i3 i4)), (.int (own_v3c_w_numbers_r0_2 ((i6 &&& (2147483647 : Int32)) % (4 : Int32)) i1 i2 i3))])) _
              refine XS.icmpYes X128.here hx rfl (pc0 := 207) (pc' := 214) rfl (hb hby at_207) rfl (feq hc207_130).2 (by decide) (by decide) ?_
              show Steps p.tables e below (T128.setTop (mkF m 214 #[.val (.int i1), .val (.int i2), .val (.int i3), .val (.int i4), .val (.int i5), .val (.int i6), .val (.int (3 : Int32)), .val (.int ((i6 &&& (2147483647 : Int32)) % (4 : Int32))), .val (.ref b89), .val (.int (own_j0_141_0_v1 i1 i2 i3 i4 i6))] [])) _
              refine XS.iconst X128.here hx rfl (hb hby at_214) ?_
              exact k
            exact fun t k => pre132 t (by rw [show (own_j0_207_0 i1 i2 i3 i4 i6) = (0 : Int32) from (if_neg hc207_130)] at k; exact k)
        have pre134 : ∀ t, Steps p.tables e below (T128.setTop (mkF m 217 #[.val (.int i1), .val (.int i2), .val (.int i3), .val (.int i4), .val (.int i5), .val (.int i6), .val (.int (3 : Int32)), .val (.int ((i6 &&& (2147483647 : Int32)) % (4 : Int32))), .val (.ref b89), .val (.int (own_j0_207_0 i1 i2 i3 i4 i6))] [])) t → Steps p.tables e below (s₁.setTop (entryFrame m #[(.int i1), (.int i2), (.int i3), (.int i4), (.int i5), (.int i6)] maxLocals)) t := by
          intro t k
          refine pre133 _ ?_
          show Steps p.tables e below (T128.setTop (mkF m 215 #[.val (.int i1), .val (.int i2), .val (.int i3), .val (.int i4), .val (.int i5), .val (.int i6), .val (.int (3 : Int32)), .val (.int ((i6 &&& (2147483647 : Int32)) % (4 : Int32))), .val (.ref b89), .val (.int (own_j0_141_0_v1 i1 i2 i3 i4 i6))] [(.int (own_j0_207_0 i1 i2 i3 i4 i6))])) _
          refine XS.istore X128.here hx rfl (hb hby at_215) rfl (l' := #[.val (.int i1), .val (.int i2), .val (.int i3), .val (.int i4), .val (.int i5), .val (.int i6), .val (.int (3 : Int32)), .val (.int ((i6 &&& (2147483647 : Int32)) % (4 : Int32))), .val (.ref b89), .val (.int (own_j0_207_0 i1 i2 i3 i4 i6))]) rfl ?_
          exact k
        exact ⟨T128, _, X128, N128, e128, fun t k => pre134 t (by rw [show (own_j0_180_0 i1 i2 i3 i4 i6) = (own_j0_207_0 i1 i2 i3 i4 i6) from (if_neg hc180_125)] at k; exact k)⟩
    have pre136 : ∀ t, Steps p.tables e below (T135.setTop (mkF m 219 #[.val (.int i1), .val (.int i2), .val (.int i3), .val (.int i4), .val (.int i5), .val (.int i6), .val (.int (3 : Int32)), .val (.int ((i6 &&& (2147483647 : Int32)) % (4 : Int32))), .val (.ref b89), .val (.int (own_j0_180_0 i1 i2 i3 i4 i6))] [(.int (own_j0_180_0 i1 i2 i3 i4 i6))])) t → Steps p.tables e below (s₁.setTop (entryFrame m #[(.int i1), (.int i2), (.int i3), (.int i4), (.int i5), (.int i6)] maxLocals)) t := by
      intro t k
      refine pre135 _ ?_
      show Steps p.tables e below (T135.setTop (mkF m 217 #[.val (.int i1), .val (.int i2), .val (.int i3), .val (.int i4), .val (.int i5), .val (.int i6), .val (.int (3 : Int32)), .val (.int ((i6 &&& (2147483647 : Int32)) % (4 : Int32))), .val (.ref b89), .val (.int (own_j0_180_0 i1 i2 i3 i4 i6))] [])) _
      refine XS.iload X135.here hx rfl (hb hby at_217) rfl ?_
      exact k
    have pre140 : ∀ t, Steps p.tables e below (T135.setTop (mkF m 256 #[.val (.int i1), .val (.int i2), .val (.int i3), .val (.int i4), .val (.int i5), .val (.int i6), .val (.int (3 : Int32)), .val (.int ((i6 &&& (2147483647 : Int32)) % (4 : Int32))), .val (.ref b89), .val (.int (own_j0_180_0 i1 i2 i3 i4 i6))] [])) t → Steps p.tables e below (s₁.setTop (entryFrame m #[(.int i1), (.int i2), (.int i3), (.int i4), (.int i5), (.int i6)] maxLocals)) t := by
      by_cases hc219_137 : (own_j0_180_0 i1 i2 i3 i4 i6) = (0 : Int32)
      · have pre138 : ∀ t, Steps p.tables e below (T135.setTop (mkF m 256 #[.val (.int i1), .val (.int i2), .val (.int i3), .val (.int i4), .val (.int i5), .val (.int i6), .val (.int (3 : Int32)), .val (.int ((i6 &&& (2147483647 : Int32)) % (4 : Int32))), .val (.ref b89), .val (.int (own_j0_180_0 i1 i2 i3 i4 i6))] [])) t → Steps p.tables e below (s₁.setTop (entryFrame m #[(.int i1), (.int i2), (.int i3), (.int i4), (.int i5), (.int i6)] maxLocals)) t := by
          intro t k
          refine pre136 _ ?_
          show Steps p.tables e below (T135.setTop (mkF m 219 #[.val (.int i1), .val (.int i2), .val (.int i3), .val (.int i4), .val (.int i5), .val (.int i6), .val (.int (3 : Int32)), .val (.int ((i6 &&& (2147483647 : Int32)) % (4 : Int32))), .val (.ref b89), .val (.int (own_j0_180_0 i1 i2 i3 i4 i6))] [(.int (own_j0_180_0 i1 i2 i3 i4 i6))])) _
          refine XS.ifYes X135.here hx rfl (pc0 := 219) (pc' := 256) rfl (hb hby at_219) rfl ((if0 _ _).trans (teq hc219_137).1) (by decide) (by decide) ?_
          exact k
        exact pre138
      · have pre139 : ∀ t, Steps p.tables e below (T135.setTop (mkF m 256 #[.val (.int i1), .val (.int i2), .val (.int i3), .val (.int i4), .val (.int i5), .val (.int i6), .val (.int (3 : Int32)), .val (.int ((i6 &&& (2147483647 : Int32)) % (4 : Int32))), .val (.ref b89), .val (.int (own_j0_180_0 i1 i2 i3 i4 i6))] [])) t → Steps p.tables e below (s₁.setTop (entryFrame m #[(.int i1), (.int i2), (.int i3), (.int i4), (.int i5), (.int i6)] maxLocals)) t := by
          intro t k
          refine pre136 _ ?_
          show Steps p.tables e below (T135.setTop (mkF m 219 #[.val (.int i1), .val (.int i2), .val (.int i3), .val (.int i4), .val (.int i5), .val (.int i6), .val (.int (3 : Int32)), .val (.int ((i6 &&& (2147483647 : Int32)) % (4 : Int32))), .val (.ref b89), .val (.int (own_j0_180_0 i1 i2 i3 i4 i6))] [(.int (own_j0_180_0 i1 i2 i3 i4 i6))])) _
          refine XS.ifNo X135.here hx rfl (hb hby at_219) rfl ((if0 _ _).trans (feq hc219_137).1) ?_
          show Steps p.tables e below (T135.setTop (mkF m 222 #[.val (.int i1), .val (.int i2), .val (.int i3), .val (.int i4), .val (.int i5), .val (.int i6), .val (.int (3 : Int32)), .val (.int ((i6 &&& (2147483647 : Int32)) % (4 : Int32))), .val (.ref b89), .val (.int (own_j0_180_0 i1 i2 i3 i4 i6))] [])) _
          refine XS.iload X135.here hx rfl (hb hby at_222) rfl ?_
          show Steps p.tables e below (T135.setTop (mkF m 224 #[.val (.int i1), .val (.int i2), .val (.int i3), .val (.int i4), .val (.int i5), .val (.int i6), .val (.int (3 : Int32)), .val (.int ((i6 &&& (2147483647 : Int32)) % (4 : Int32))), .val (.ref b89), .val (.int (own_j0_180_0 i1 i2 i3 i4 i6))] [(.int (3 : Int32))])) _
          refine XS.iconst X135.here hx rfl (hb hby at_224) ?_
          show Steps p.tables e below (T135.setTop (mkF m 225 #[.val (.int i1), .val (.int i2), .val (.int i3), .val (.int i4), .val (.int i5), .val (.int i6), .val (.int (3 : Int32)), .val (.int ((i6 &&& (2147483647 : Int32)) % (4 : Int32))), .val (.ref b89), .val (.int (own_j0_180_0 i1 i2 i3 i4 i6))] [(.int (3 : Int32)), (.int (3 : Int32))])) _
          refine XS.icmpYes X135.here hx rfl (pc0 := 225) (pc' := 256) rfl (hb hby at_225) rfl (flt (by decide : ¬ ((3 : Int32) < (3 : Int32)))).2.2.2 (by decide) (by decide) ?_
          exact k
        exact pre139
    have pre141 : ∀ t, Steps p.tables e below (T135.setTop (mkF m 258 #[.val (.int i1), .val (.int i2), .val (.int i3), .val (.int i4), .val (.int i5), .val (.int i6), .val (.int (3 : Int32)), .val (.int ((i6 &&& (2147483647 : Int32)) % (4 : Int32))), .val (.ref b89), .val (.int (own_j0_180_0 i1 i2 i3 i4 i6))] [(.int (own_j0_180_0 i1 i2 i3 i4 i6))])) t → Steps p.tables e below (s₁.setTop (entryFrame m #[(.int i1), (.int i2), (.int i3), (.int i4), (.int i5), (.int i6)] maxLocals)) t := by
      intro t k
      refine pre140 _ ?_
      show Steps p.tables e below (T135.setTop (mkF m 256 #[.val (.int i1), .val (.int i2), .val (.int i3), .val (.int i4), .val (.int i5), .val (.int i6), .val (.int (3 : Int32)), .val (.int ((i6 &&& (2147483647 : Int32)) % (4 : Int32))), .val (.ref b89), .val (.int (own_j0_180_0 i1 i2 i3 i4 i6))] [])) _
      refine XS.iload X135.here hx rfl (hb hby at_256) rfl ?_
      exact k
    obtain ⟨fs, hr, hrun, hended, hW, hsame⟩ := X135.leave (v := some (.int (nar .boolean (own_j0_180_0 i1 i2 i3 i4 i6)))) (fun h => by rw [Bd.returns] at h; cases h)
    refine ⟨_, _, pre141 _ ?_, hrun, hended, _, _, rfl, ?_, ⟨_, rfl⟩, hW, hsame.mono (by decide) (by decide)⟩
    · show Steps p.tables e below (T135.setTop (mkF m 258 #[.val (.int i1), .val (.int i2), .val (.int i3), .val (.int i4), .val (.int i5), .val (.int i6), .val (.int (3 : Int32)), .val (.int ((i6 &&& (2147483647 : Int32)) % (4 : Int32))), .val (.ref b89), .val (.int (own_j0_180_0 i1 i2 i3 i4 i6))] [(.int (own_j0_180_0 i1 i2 i3 i4 i6))])) _
      exact retN X135 hx (t := .boolean) Bd.returns (by simp) (hb hby at_258) hr
    · show Q0 Z i1 i2 i3 i4 i5 i6 h0 n0 _ T135.heap _
      rw [e135]
      exact ⟨congrArg (fun z => some (Value.int z)) (show (own_r0 i1 i2 i3 i4 i5 i6) = (nar .boolean (own_j0_180_0 i1 i2 i3 i4 i6)) from ((if_neg (by rw [hk2]; decide)).trans ((if_neg (by rw [hk2]; decide)).trans ((if_neg (by rw [hk2]; decide)).trans (if_pos hk2))))).symm, N135⟩
  · have pre142 : ∀ t, Steps p.tables e below (s₁.setTop (mkF m 9 #[.val (.int i1), .val (.int i2), .val (.int i3), .val (.int i4), .val (.int i5), .val (.int i6), .val (.int (4 : Int32)), .unset, .unset, .unset] [])) t → Steps p.tables e below (s₁.setTop (entryFrame m #[(.int i1), (.int i2), (.int i3), (.int i4), (.int i5), (.int i6)] maxLocals)) t := fun t k => pre1 t (by rw [hk2]; exact k)
    obtain ⟨T143, h143, X143, e143, E143, A143, D143, -, st143⟩ := newO X0 hx hZ hown (hw _ (List.mem_of_getElem? (i := 1) rfl)) (hw _ (List.mem_of_getElem? (i := 2) rfl)) (hw _ (List.mem_of_getElem? (i := 3) rfl)) e0 (g := (mkF m 21 #[.val (.int i1), .val (.int i2), .val (.int i3), .val (.int i4), .val (.int i5), .val (.int i6), .val (.int (4 : Int32)), .val (.int ((i6 &&& (2147483647 : Int32)) % (5 : Int32))), .unset, .unset] [])) rfl (hb hby at_21) (by decide) (by decide)
    obtain ⟨b143, g143⟩ : ∃ z, z = h0.size := ⟨_, rfl⟩
    rw [← g143] at A143 D143 st143
    have sz_b143 : h0.size ≤ b143 := Nat.le_trans (Keep.refl h0 []).1 (Nat.le_of_eq g143.symm)
    have K144 : Keep h0 h143 [] := (Keep.refl h0 []).ext E143
    have Fnumbers_143 : Fld Z h143 b143 "com/example/baum/baum/query/NodeList$Builder" "numbers" "[I" .null := D143 (Or.inl (hw _ (List.mem_of_getElem? (i := 12) rfl))) (ty := (.array .int)) (by decide)
    have Fsize_143 : Fld Z h143 b143 "com/example/baum/baum/query/NodeList$Builder" "size" "I" (.int (0 : Int32)) := D143 (Or.inl (hw _ (List.mem_of_getElem? (i := 19) rfl))) (ty := .int) (by decide)
    obtain ⟨_, _, ⟨T145, L145, k145, n145⟩, -, X145, ⟨Lc145, hQ145, l145, y145, z145⟩, st145⟩ := X143.specialBack hx (y := (⟨"com/example/baum/baum/query/NodeList$Builder", "<init>", "()V"⟩ : MethodName)) rfl hown (mvT hZ (hw _ (List.mem_of_getElem? (i := 4) rfl))) (mvT hZ (hw _ (List.mem_of_getElem? (i := 5) rfl))) (mvT hZ (hw _ (List.mem_of_getElem? (i := 6) rfl))) (by decide) (backOf (W := 1) (rm1 l Z a0 hw [] b143 (.int (0 : Int32)) (.null) h143 n0 (Nat.le_trans Z0 K144.1) Fsize_143 A143 Fnumbers_143 (Nat.le_trans Z0 sz_b143)) hZ (hw _ (List.mem_of_getElem? (i := 6) rfl)) (hw _ (List.mem_of_getElem? (i := 3) rfl)) (by decide) (by decide)) (g := (mkF m 25 #[.val (.int i1), .val (.int i2), .val (.int i3), .val (.int i4), .val (.int i5), .val (.int i6), .val (.int (4 : Int32)), .val (.int ((i6 &&& (2147483647 : Int32)) % (5 : Int32))), .unset, .unset] [(.ref b143), (.ref b143)])) rfl (by rw [hml]; rfl) (Steps.refl _) (a := b143) (argsL := []) (rest := [(.ref b143)]) (lenOf pd_0 rfl) rfl (by show 2 * 0 + _ ≤ _; exact Nat.le_of_eq rfl) (hb hby at_25) (fun _ _ => ⟨rfl, e143, (by decide : 1 + 1 ≤ _), (by decide : 2 + 16 ≤ _)⟩)
    dsimp only [Pt.U, Pt.locs, Pt.cells, Pt.slots] at X145 l145 y145 z145 st145 hQ145
    subst l145 y145 z145
    obtain ⟨b145_0, k145_1, rfl, Nq145, Kq145, sq145_0, f145_0, f145_1, f145_2, f145_3⟩ := hQ145
    have sz_b145_0 : h0.size ≤ b145_0 := Nat.le_trans K144.1 sq145_0
    have K146 : Keep h0 T145.heap [] := K144.trans Kq145 (allS (Or.inr sz_b143) all0)
    have N145 := Fr.app N0 Nq145
    obtain ⟨cq147, kq147, q147a, q147b, q147c⟩ := isOf hZ rfl f145_1
    obtain ⟨_, _, ⟨T147, L147, k147, n147⟩, -, X147, ⟨Lc147, hQ147, l147, y147, z147⟩, st147⟩ := X145.virtualBack hx (y := (⟨"com/example/baum/baum/query/NodeList$Builder", "add", "(I)V"⟩ : MethodName)) (z := (⟨"com/example/baum/baum/query/NodeList$Builder", "add", "(I)V"⟩ : MethodName)) hown (mvT hZ (hw _ (List.mem_of_getElem? (i := 25) rfl))) (mvT hZ (hw _ (List.mem_of_getElem? (i := 26) rfl))) (notFace_of_selects (args := #[]) (mvT hZ (hw _ (List.mem_of_getElem? (i := 28) rfl)))) (mvT hZ (hw _ (List.mem_of_getElem? (i := 28) rfl))) (mvT hZ (hw _ (List.mem_of_getElem? (i := 27) rfl))) (by decide) (backOf (W := 0) (rm5 l Z a0 hw [] b143 i1 b145_0 k145_1 T145.heap n0 (Nat.le_trans Z0 K146.1) f145_3 f145_2 f145_0 f145_1 (Nat.le_trans Z0 sz_b143) (Ne.symm (Nat.ne_of_lt (Nat.lt_of_lt_of_le A143.lt (Nat.le_trans (Nat.le_refl _) sq145_0)))) (Nat.le_trans Z0 sz_b145_0)) hZ (hw _ (List.mem_of_getElem? (i := 29) rfl)) (hw _ (List.mem_of_getElem? (i := 3) rfl)) (by decide) (by decide)) q147a q147c (g := (mkF m 38 #[.val (.int i1), .val (.int i2), .val (.int i3), .val (.int i4), .val (.int i5), .val (.int i6), .val (.int (4 : Int32)), .val (.int ((i6 &&& (2147483647 : Int32)) % (5 : Int32))), .val (.ref b143), .unset] [(.int i1), (.ref b143)])) rfl (by rw [hml]; rfl) (Steps.refl _) (argsL := [(.int i1)]) (rest := []) (lenOf pd_1 rfl) rfl (by show 2 * 0 + _ ≤ _; exact Nat.le_of_eq rfl) (hb hby at_38) (fun _ _ => ⟨rfl, rfl, (by decide : 2 + 0 ≤ _), (by decide : 18 + 0 ≤ _)⟩)
    dsimp only [Pt.U, Pt.locs, Pt.cells, Pt.slots] at X147 l147 y147 z147 st147 hQ147
    subst l147 y147 z147
    obtain ⟨rfl, Nq147, Kq147, f147_0, f147_1, f147_2, f147_3⟩ := hQ147
    have K148 : Keep h0 T147.heap [] := K146.trans Kq147 (allS (Or.inr sz_b143) (allS (Or.inr sz_b145_0) all0))
    have N147 := Fr.app N145 Nq147
    obtain ⟨cq149, kq149, q149a, q149b, q149c⟩ := isOf hZ rfl f147_3
    obtain ⟨_, _, ⟨T149, L149, k149, n149⟩, -, X149, ⟨Lc149, hQ149, l149, y149, z149⟩, st149⟩ := X147.virtualBack hx (y := (⟨"com/example/baum/baum/query/NodeList$Builder", "add", "(I)V"⟩ : MethodName)) (z := (⟨"com/example/baum/baum/query/NodeList$Builder", "add", "(I)V"⟩ : MethodName)) hown (mvT hZ (hw _ (List.mem_of_getElem? (i := 25) rfl))) (mvT hZ (hw _ (List.mem_of_getElem? (i := 26) rfl))) (notFace_of_selects (args := #[]) (mvT hZ (hw _ (List.mem_of_getElem? (i := 28) rfl)))) (mvT hZ (hw _ (List.mem_of_getElem? (i := 28) rfl))) (mvT hZ (hw _ (List.mem_of_getElem? (i := 27) rfl))) (by decide) (backOf (W := 0) (rm5a l Z a0 hw [] b143 i2 b145_0 i1 k145_1 T147.heap n0 (Nat.le_trans Z0 K148.1) f147_0 f147_1 f147_2 f147_3 (Nat.le_trans Z0 sz_b143) (Ne.symm (Nat.ne_of_lt (Nat.lt_of_lt_of_le A143.lt (Nat.le_trans (Nat.le_refl _) sq145_0)))) (Nat.le_trans Z0 sz_b145_0)) hZ (hw _ (List.mem_of_getElem? (i := 29) rfl)) (hw _ (List.mem_of_getElem? (i := 3) rfl)) (by decide) (by decide)) q149a q149c (g := (mkF m 50 #[.val (.int i1), .val (.int i2), .val (.int i3), .val (.int i4), .val (.int i5), .val (.int i6), .val (.int (4 : Int32)), .val (.int ((i6 &&& (2147483647 : Int32)) % (5 : Int32))), .val (.ref b143), .unset] [(.int i2), (.ref b143)])) rfl (by rw [hml]; rfl) (Steps.refl _) (argsL := [(.int i2)]) (rest := []) (lenOf pd_1 rfl) rfl (by show 2 * 0 + _ ≤ _; exact Nat.le_of_eq rfl) (hb hby at_50) (fun _ _ => ⟨rfl, rfl, (by decide : 2 + 0 ≤ _), (by decide : 18 + 0 ≤ _)⟩)
    dsimp only [Pt.U, Pt.locs, Pt.cells, Pt.slots] at X149 l149 y149 z149 st149 hQ149
    subst l149 y149 z149
    obtain ⟨rfl, Nq149, Kq149, f149_0, f149_1, f149_2, f149_3⟩ := hQ149
    have K150 : Keep h0 T149.heap [] := K148.trans Kq149 (allS (Or.inr sz_b143) (allS (Or.inr sz_b145_0) all0))
    have N149 := Fr.app N147 Nq149
    obtain ⟨cq151, kq151, q151a, q151b, q151c⟩ := isOf hZ rfl f149_3
    obtain ⟨_, _, ⟨T151, L151, k151, n151⟩, -, X151, ⟨Lc151, hQ151, l151, y151, z151⟩, st151⟩ := X149.virtualBack hx (y := (⟨"com/example/baum/baum/query/NodeList$Builder", "add", "(I)V"⟩ : MethodName)) (z := (⟨"com/example/baum/baum/query/NodeList$Builder", "add", "(I)V"⟩ : MethodName)) hown (mvT hZ (hw _ (List.mem_of_getElem? (i := 25) rfl))) (mvT hZ (hw _ (List.mem_of_getElem? (i := 26) rfl))) (notFace_of_selects (args := #[]) (mvT hZ (hw _ (List.mem_of_getElem? (i := 28) rfl)))) (mvT hZ (hw _ (List.mem_of_getElem? (i := 28) rfl))) (mvT hZ (hw _ (List.mem_of_getElem? (i := 27) rfl))) (by decide) (backOf (W := 0) (rm5b l Z a0 hw [] b143 i3 b145_0 i1 i2 k145_1 T149.heap n0 (Nat.le_trans Z0 K150.1) f149_0 f149_1 f149_2 f149_3 (Nat.le_trans Z0 sz_b143) (Ne.symm (Nat.ne_of_lt (Nat.lt_of_lt_of_le A143.lt (Nat.le_trans (Nat.le_refl _) sq145_0)))) (Nat.le_trans Z0 sz_b145_0)) hZ (hw _ (List.mem_of_getElem? (i := 29) rfl)) (hw _ (List.mem_of_getElem? (i := 3) rfl)) (by decide) (by decide)) q151a q151c (g := (mkF m 62 #[.val (.int i1), .val (.int i2), .val (.int i3), .val (.int i4), .val (.int i5), .val (.int i6), .val (.int (4 : Int32)), .val (.int ((i6 &&& (2147483647 : Int32)) % (5 : Int32))), .val (.ref b143), .unset] [(.int i3), (.ref b143)])) rfl (by rw [hml]; rfl) (Steps.refl _) (argsL := [(.int i3)]) (rest := []) (lenOf pd_1 rfl) rfl (by show 2 * 0 + _ ≤ _; exact Nat.le_of_eq rfl) (hb hby at_62) (fun _ _ => ⟨rfl, rfl, (by decide : 2 + 0 ≤ _), (by decide : 18 + 0 ≤ _)⟩)
    dsimp only [Pt.U, Pt.locs, Pt.cells, Pt.slots] at X151 l151 y151 z151 st151 hQ151
    subst l151 y151 z151
    obtain ⟨rfl, Nq151, Kq151, f151_0, f151_1, f151_2, f151_3⟩ := hQ151
    have K152 : Keep h0 T151.heap [] := K150.trans Kq151 (allS (Or.inr sz_b143) (allS (Or.inr sz_b145_0) all0))
    have N151 := Fr.app N149 Nq151
    obtain ⟨cq153, kq153, q153a, q153b, q153c⟩ := isOf hZ rfl f151_3
    obtain ⟨_, _, ⟨T153, L153, k153, n153⟩, -, X153, ⟨Lc153, hQ153, l153, y153, z153⟩, st153⟩ := X151.virtualBack hx (y := (⟨"com/example/baum/baum/query/NodeList$Builder", "add", "(I)V"⟩ : MethodName)) (z := (⟨"com/example/baum/baum/query/NodeList$Builder", "add", "(I)V"⟩ : MethodName)) hown (mvT hZ (hw _ (List.mem_of_getElem? (i := 25) rfl))) (mvT hZ (hw _ (List.mem_of_getElem? (i := 26) rfl))) (notFace_of_selects (args := #[]) (mvT hZ (hw _ (List.mem_of_getElem? (i := 28) rfl)))) (mvT hZ (hw _ (List.mem_of_getElem? (i := 28) rfl))) (mvT hZ (hw _ (List.mem_of_getElem? (i := 27) rfl))) (by decide) (backOf (W := 0) (rm5c l Z a0 hw [] b143 i4 b145_0 i1 i2 i3 k145_1 T151.heap n0 (Nat.le_trans Z0 K152.1) f151_0 f151_1 f151_2 f151_3 (Nat.le_trans Z0 sz_b143) (Ne.symm (Nat.ne_of_lt (Nat.lt_of_lt_of_le A143.lt (Nat.le_trans (Nat.le_refl _) sq145_0)))) (Nat.le_trans Z0 sz_b145_0)) hZ (hw _ (List.mem_of_getElem? (i := 29) rfl)) (hw _ (List.mem_of_getElem? (i := 3) rfl)) (by decide) (by decide)) q153a q153c (g := (mkF m 74 #[.val (.int i1), .val (.int i2), .val (.int i3), .val (.int i4), .val (.int i5), .val (.int i6), .val (.int (4 : Int32)), .val (.int ((i6 &&& (2147483647 : Int32)) % (5 : Int32))), .val (.ref b143), .unset] [(.int i4), (.ref b143)])) rfl (by rw [hml]; rfl) (Steps.refl _) (argsL := [(.int i4)]) (rest := []) (lenOf pd_1 rfl) rfl (by show 2 * 0 + _ ≤ _; exact Nat.le_of_eq rfl) (hb hby at_74) (fun _ _ => ⟨rfl, rfl, (by decide : 2 + 0 ≤ _), (by decide : 18 + 0 ≤ _)⟩)
    dsimp only [Pt.U, Pt.locs, Pt.cells, Pt.slots] at X153 l153 y153 z153 st153 hQ153
    subst l153 y153 z153
    obtain ⟨rfl, Nq153, Kq153, f153_0, f153_1, f153_2, f153_3⟩ := hQ153
    have K154 : Keep h0 T153.heap [] := K152.trans Kq153 (allS (Or.inr sz_b143) (allS (Or.inr sz_b145_0) all0))
    have N153 := Fr.app N151 Nq153
    obtain ⟨cq155, kq155, q155a, q155b, q155c⟩ := isOf hZ rfl f153_3
    obtain ⟨_, _, ⟨T155, L155, k155, n155⟩, -, X155, ⟨Lc155, hQ155, l155, y155, z155⟩, st155⟩ := X153.virtualBack hx (y := (⟨"com/example/baum/baum/query/NodeList$Builder", "reverseFrom", "(I)V"⟩ : MethodName)) (z := (⟨"com/example/baum/baum/query/NodeList$Builder", "reverseFrom", "(I)V"⟩ : MethodName)) hown (mvT hZ (hw _ (List.mem_of_getElem? (i := 13) rfl))) (mvT hZ (hw _ (List.mem_of_getElem? (i := 14) rfl))) (notFace_of_selects (args := #[]) (mvT hZ (hw _ (List.mem_of_getElem? (i := 16) rfl)))) (mvT hZ (hw _ (List.mem_of_getElem? (i := 16) rfl))) (mvT hZ (hw _ (List.mem_of_getElem? (i := 15) rfl))) (by decide) (backOf (W := 0) (rm3d l Z a0 hw [] b143 ((i6 &&& (2147483647 : Int32)) % (5 : Int32)) b145_0 i1 i2 i3 i4 k145_1 T153.heap n0 (Nat.le_trans Z0 K154.1) f153_0 (own_ob0_g81_1xxxx i6) f153_1 f153_2 (Nat.le_trans Z0 sz_b145_0) (Nat.ne_of_lt (Nat.lt_of_lt_of_le A143.lt (Nat.le_trans (Nat.le_refl _) sq145_0)))) hZ (hw _ (List.mem_of_getElem? (i := 17) rfl)) (hw _ (List.mem_of_getElem? (i := 3) rfl)) (by decide) (by decide)) q155a q155c (g := (mkF m 81 #[.val (.int i1), .val (.int i2), .val (.int i3), .val (.int i4), .val (.int i5), .val (.int i6), .val (.int (4 : Int32)), .val (.int ((i6 &&& (2147483647 : Int32)) % (5 : Int32))), .val (.ref b143), .unset] [(.int ((i6 &&& (2147483647 : Int32)) % (5 : Int32))), (.ref b143)])) rfl (by rw [hml]; rfl) (Steps.refl _) (argsL := [(.int ((i6 &&& (2147483647 : Int32)) % (5 : Int32)))]) (rest := []) (lenOf pd_1 rfl) rfl (by show 2 * 0 + _ ≤ _; exact Nat.le_of_eq rfl) (hb hby at_81) (fun _ _ => ⟨rfl, rfl, (by decide : 2 + 0 ≤ _), (by decide : 18 + 0 ≤ _)⟩)
    dsimp only [Pt.U, Pt.locs, Pt.cells, Pt.slots] at X155 l155 y155 z155 st155 hQ155
    subst l155 y155 z155
    obtain ⟨rfl, Nq155, Kq155, f155_0⟩ := hQ155
    have K156 : Keep h0 T155.heap [] := K154.trans Kq155 (allS (Or.inr sz_b145_0) all0)
    have N155 := Fr.app N153 Nq155
    have f157 := (f153_0.keep Kq155 (ninS (Nat.ne_of_lt (Nat.lt_of_lt_of_le A143.lt (Nat.le_trans (Nat.le_refl _) sq145_0))) nin0))
    have f159 := (f153_3.keep Kq155)
    obtain ⟨cq158, kq158, q158a, q158b, q158c⟩ := isOf hZ rfl f159
    obtain ⟨_, _, ⟨T158, L158, k158, n158⟩, -, X158, ⟨Lc158, hQ158, l158, y158, z158⟩, st158⟩ := X155.virtualBack hx (y := (⟨"com/example/baum/baum/query/NodeList$Builder", "size", "()I"⟩ : MethodName)) (z := (⟨"com/example/baum/baum/query/NodeList$Builder", "size", "()I"⟩ : MethodName)) hown (mvT hZ (hw _ (List.mem_of_getElem? (i := 20) rfl))) (mvT hZ (hw _ (List.mem_of_getElem? (i := 21) rfl))) (notFace_of_selects (args := #[]) (mvT hZ (hw _ (List.mem_of_getElem? (i := 23) rfl)))) (mvT hZ (hw _ (List.mem_of_getElem? (i := 23) rfl))) (mvT hZ (hw _ (List.mem_of_getElem? (i := 22) rfl))) (by decide) (backOf (W := 0) (rm4d l Z a0 hw [] b143 T155.heap n0 (Nat.le_trans Z0 K156.1) f157) hZ (hw _ (List.mem_of_getElem? (i := 24) rfl)) (hw _ (List.mem_of_getElem? (i := 3) rfl)) (by decide) (by decide)) q158a q158c (g := (mkF m 86 #[.val (.int i1), .val (.int i2), .val (.int i3), .val (.int i4), .val (.int i5), .val (.int i6), .val (.int (4 : Int32)), .val (.int ((i6 &&& (2147483647 : Int32)) % (5 : Int32))), .val (.ref b143), .unset] [(.ref b143)])) rfl (by rw [hml]; rfl) (Steps.refl _) (argsL := []) (rest := []) (lenOf pd_2 rfl) rfl (by show 2 * 0 + _ ≤ _; exact Nat.le_of_eq rfl) (hb hby at_86) (fun _ _ => ⟨rfl, rfl, (by decide : 2 + 0 ≤ _), (by decide : 18 + 0 ≤ _)⟩)
    dsimp only [Pt.U, Pt.locs, Pt.cells, Pt.slots] at X158 l158 y158 z158 st158 hQ158
    subst l158 y158 z158
    obtain ⟨rfl, Nq158, e158⟩ := hQ158
    have N158 := Fr.app N155 Nq158
    have f160 := (f153_1.keep Kq155 (ninS (Nat.ne_of_lt (Nat.lt_of_lt_of_le A143.lt (Nat.le_trans (Nat.le_refl _) sq145_0))) nin0))
    obtain ⟨cq161, kq161, q161a, q161b, q161c⟩ := isOf hZ e158 f159
    obtain ⟨_, _, ⟨T161, L161, k161, n161⟩, -, X161, ⟨Lc161, hQ161, l161, y161, z161⟩, st161⟩ := X158.virtualBack hx (y := (⟨"com/example/baum/baum/query/NodeList$Builder", "get", "(I)I"⟩ : MethodName)) (z := (⟨"com/example/baum/baum/query/NodeList$Builder", "get", "(I)I"⟩ : MethodName)) hown (mvT hZ (hw _ (List.mem_of_getElem? (i := 30) rfl))) (mvT hZ (hw _ (List.mem_of_getElem? (i := 31) rfl))) (notFace_of_selects (args := #[]) (mvT hZ (hw _ (List.mem_of_getElem? (i := 33) rfl)))) (mvT hZ (hw _ (List.mem_of_getElem? (i := 33) rfl))) (mvT hZ (hw _ (List.mem_of_getElem? (i := 32) rfl))) (by decide) (backOf (W := 0) (rm6f l Z a0 hw [] b143 b145_0 (own_v3d_w_numbers_r0_0 ((i6 &&& (2147483647 : Int32)) % (5 : Int32)) i1 i4) (own_v3d_w_numbers_r0_1 ((i6 &&& (2147483647 : Int32)) % (5 : Int32)) i2 i3 i4) (own_v3d_w_numbers_r0_2 ((i6 &&& (2147483647 : Int32)) % (5 : Int32)) i2 i3 i4) (own_v3d_w_numbers_r0_3 ((i6 &&& (2147483647 : Int32)) % (5 : Int32)) i1 i2 i3 i4) k145_1 T155.heap n0 (Nat.le_trans Z0 K156.1) f160 f157 f155_0) hZ (hw _ (List.mem_of_getElem? (i := 34) rfl)) (hw _ (List.mem_of_getElem? (i := 3) rfl)) (by decide) (by decide)) q161a q161c (g := (mkF m 114 #[.val (.int i1), .val (.int i2), .val (.int i3), .val (.int i4), .val (.int i5), .val (.int i6), .val (.int (4 : Int32)), .val (.int ((i6 &&& (2147483647 : Int32)) % (5 : Int32))), .val (.ref b143), .val (.int (1 : Int32))] [(.int (0 : Int32)), (.ref b143)])) rfl (by rw [hml]; rfl) (Steps.refl _) (argsL := [(.int (0 : Int32))]) (rest := []) (lenOf pd_5 rfl) rfl (by show 2 * 0 + _ ≤ _; exact Nat.le_of_eq rfl) (hb hby at_114) (fun _ _ => ⟨rfl, e158, (by decide : 2 + 0 ≤ _), (by decide : 18 + 0 ≤ _)⟩)
    dsimp only [Pt.U, Pt.locs, Pt.cells, Pt.slots] at X161 l161 y161 z161 st161 hQ161
    subst l161 y161 z161
    obtain ⟨rfl, Nq161, e161⟩ := hQ161
    have N161 := Fr.app N158 Nq161
    obtain ⟨_, _, ⟨T162, L162, k162, n162⟩, -, X162, ⟨Lc162, hQ162, l162, y162, z162⟩, st162⟩ := Jvm.LawKit.callS X161 hx (y := (⟨"com/example/baum/baum/query/BuilderReverseFromPinLaw", "expect", "(IIIIIII)I"⟩ : MethodName)) hown (mvT hZ (hw _ (List.mem_of_getElem? (i := 43) rfl))) (mvT hZ (hw _ (List.mem_of_getElem? (i := 44) rfl))) (mvT hZ (hw _ (List.mem_of_getElem? (i := 45) rfl))) (mvT hZ (hw _ (List.mem_of_getElem? (i := 46) rfl))) (by decide) (backOf (W := 1) (rm9 l Z a0 hw [] (0 : Int32) ((i6 &&& (2147483647 : Int32)) % (5 : Int32)) (4 : Int32) i1 i2 i3 i4 T155.heap n0 (Nat.le_trans Z0 K156.1) ) hZ (hw _ (List.mem_of_getElem? (i := 46) rfl)) (hw _ (List.mem_of_getElem? (i := 45) rfl)) (by decide) (by decide)) (g := (mkF m 126 #[.val (.int i1), .val (.int i2), .val (.int i3), .val (.int i4), .val (.int i5), .val (.int i6), .val (.int (4 : Int32)), .val (.int ((i6 &&& (2147483647 : Int32)) % (5 : Int32))), .val (.ref b143), .val (.int (1 : Int32))] [(.int i4), (.int i3), (.int i2), (.int i1), (.int (4 : Int32)), (.int ((i6 &&& (2147483647 : Int32)) % (5 : Int32))), (.int (0 : Int32)), (.int (own_v3d_w_numbers_r0_0 ((i6 &&& (2147483647 : Int32)) % (5 : Int32)) i1 i4))])) rfl (by rw [hml]; rfl) (argsL := [(.int (0 : Int32)), (.int ((i6 &&& (2147483647 : Int32)) % (5 : Int32))), (.int (4 : Int32)), (.int i1), (.int i2), (.int i3), (.int i4)]) (rest := [(.int (own_v3d_w_numbers_r0_0 ((i6 &&& (2147483647 : Int32)) % (5 : Int32)) i1 i4))]) (lenOf pd_7 rfl) rfl (by show 2 * 0 + _ ≤ _; exact Nat.le_of_eq rfl) (hb hby at_126) (fun _ _ => ⟨rfl, e161, (by decide : 2 + 0 ≤ _), (by decide : 18 + 0 ≤ _)⟩)
    dsimp only [Pt.U, Pt.locs, Pt.cells, Pt.slots] at X162 l162 y162 z162 st162 hQ162
    subst l162 y162 z162
    obtain ⟨rfl, Nq162, e162⟩ := hQ162
    have N162 := Fr.app N161 Nq162
    have pre163 : ∀ t, Steps p.tables e below (T162.setTop (mkF m 129 #[.val (.int i1), .val (.int i2), .val (.int i3), .val (.int i4), .val (.int i5), .val (.int i6), .val (.int (4 : Int32)), .val (.int ((i6 &&& (2147483647 : Int32)) % (5 : Int32))), .val (.ref b143), .val (.int (1 : Int32))] [(.int (own_r10 (own_j9_2_0 (0 : Int32) ((i6 &&& (2147483647 : Int32)) % (5 : Int32)) (4 : Int32)) i1 i2 i3 i4)), (.int (own_v3d_w_numbers_r0_0 ((i6 &&& (2147483647 : Int32)) % (5 : Int32)) i1 i4))])) t → Steps p.tables e below (s₁.setTop (entryFrame m #[(.int i1), (.int i2), (.int i3), (.int i4), (.int i5), (.int i6)] maxLocals)) t := by
      intro t k
      refine pre142 _ ?_
      show Steps p.tables e below (s₁.setTop (mkF m 9 #[.val (.int i1), .val (.int i2), .val (.int i3), .val (.int i4), .val (.int i5), .val (.int i6), .val (.int (4 : Int32)), .unset, .unset, .unset] [])) _
      refine XS.iload X0.here hx rfl (hb hby at_9) rfl ?_
      show Steps p.tables e below (s₁.setTop (mkF m 11 #[.val (.int i1), .val (.int i2), .val (.int i3), .val (.int i4), .val (.int i5), .val (.int i6), .val (.int (4 : Int32)), .unset, .unset, .unset] [(.int i6)])) _
      refine X0.ldcInt hx hown (mvT hZ (hw _ (List.mem_of_getElem? (i := 0) rfl))) (g := (mkF m 11 #[.val (.int i1), .val (.int i2), .val (.int i3), .val (.int i4), .val (.int i5), .val (.int i6), .val (.int (4 : Int32)), .unset, .unset, .unset] [(.int i6)])) rfl (hb hby at_11) _ ?_
      show Steps p.tables e below (s₁.setTop (mkF m 13 #[.val (.int i1), .val (.int i2), .val (.int i3), .val (.int i4), .val (.int i5), .val (.int i6), .val (.int (4 : Int32)), .unset, .unset, .unset] [(.int (2147483647 : Int32)), (.int i6)])) _
      refine XS.iand X0.here hx rfl (hb hby at_13) rfl ?_
      show Steps p.tables e below (s₁.setTop (mkF m 14 #[.val (.int i1), .val (.int i2), .val (.int i3), .val (.int i4), .val (.int i5), .val (.int i6), .val (.int (4 : Int32)), .unset, .unset, .unset] [(.int (i6 &&& (2147483647 : Int32)))])) _
      refine XS.iload X0.here hx rfl (hb hby at_14) rfl ?_
      show Steps p.tables e below (s₁.setTop (mkF m 16 #[.val (.int i1), .val (.int i2), .val (.int i3), .val (.int i4), .val (.int i5), .val (.int i6), .val (.int (4 : Int32)), .unset, .unset, .unset] [(.int (4 : Int32)), (.int (i6 &&& (2147483647 : Int32)))])) _
      refine XS.iconst X0.here hx rfl (hb hby at_16) ?_
      show Steps p.tables e below (s₁.setTop (mkF m 17 #[.val (.int i1), .val (.int i2), .val (.int i3), .val (.int i4), .val (.int i5), .val (.int i6), .val (.int (4 : Int32)), .unset, .unset, .unset] [(.int (1 : Int32)), (.int (4 : Int32)), (.int (i6 &&& (2147483647 : Int32)))])) _
      refine XS.iadd X0.here hx rfl (hb hby at_17) rfl ?_
      show Steps p.tables e below (s₁.setTop (mkF m 18 #[.val (.int i1), .val (.int i2), .val (.int i3), .val (.int i4), .val (.int i5), .val (.int i6), .val (.int (4 : Int32)), .unset, .unset, .unset] [(.int (5 : Int32)), (.int (i6 &&& (2147483647 : Int32)))])) _
      refine iremM X0 hx rfl (hb hby at_18) rfl (by decide) ?_
      show Steps p.tables e below (s₁.setTop (mkF m 19 #[.val (.int i1), .val (.int i2), .val (.int i3), .val (.int i4), .val (.int i5), .val (.int i6), .val (.int (4 : Int32)), .unset, .unset, .unset] [(.int ((i6 &&& (2147483647 : Int32)) % (5 : Int32)))])) _
      refine XS.istore X0.here hx rfl (hb hby at_19) rfl (l' := #[.val (.int i1), .val (.int i2), .val (.int i3), .val (.int i4), .val (.int i5), .val (.int i6), .val (.int (4 : Int32)), .val (.int ((i6 &&& (2147483647 : Int32)) % (5 : Int32))), .unset, .unset]) rfl ?_
      show Steps p.tables e below (s₁.setTop (mkF m 21 #[.val (.int i1), .val (.int i2), .val (.int i3), .val (.int i4), .val (.int i5), .val (.int i6), .val (.int (4 : Int32)), .val (.int ((i6 &&& (2147483647 : Int32)) % (5 : Int32))), .unset, .unset] [])) _
      refine st143 _ ?_
      show Steps p.tables e below (T143.setTop (mkF m 24 #[.val (.int i1), .val (.int i2), .val (.int i3), .val (.int i4), .val (.int i5), .val (.int i6), .val (.int (4 : Int32)), .val (.int ((i6 &&& (2147483647 : Int32)) % (5 : Int32))), .unset, .unset] [(.ref b143)])) _
      refine XS.dup X143.here hx rfl (hb hby at_24) rfl rfl ?_
      show Steps p.tables e below (T143.setTop (mkF m 25 #[.val (.int i1), .val (.int i2), .val (.int i3), .val (.int i4), .val (.int i5), .val (.int i6), .val (.int (4 : Int32)), .val (.int ((i6 &&& (2147483647 : Int32)) % (5 : Int32))), .unset, .unset] [(.ref b143), (.ref b143)])) _
      refine st145.trans ?_
      show Steps p.tables e below (T145.setTop (mkF m 28 #[.val (.int i1), .val (.int i2), .val (.int i3), .val (.int i4), .val (.int i5), .val (.int i6), .val (.int (4 : Int32)), .val (.int ((i6 &&& (2147483647 : Int32)) % (5 : Int32))), .unset, .unset] [(.ref b143)])) _
      refine XS.astore X145.here hx rfl (hb hby at_28) rfl rfl (l' := #[.val (.int i1), .val (.int i2), .val (.int i3), .val (.int i4), .val (.int i5), .val (.int i6), .val (.int (4 : Int32)), .val (.int ((i6 &&& (2147483647 : Int32)) % (5 : Int32))), .val (.ref b143), .unset]) rfl ?_
      show Steps p.tables e below (T145.setTop (mkF m 30 #[.val (.int i1), .val (.int i2), .val (.int i3), .val (.int i4), .val (.int i5), .val (.int i6), .val (.int (4 : Int32)), .val (.int ((i6 &&& (2147483647 : Int32)) % (5 : Int32))), .val (.ref b143), .unset] [])) _
      refine XS.iload X145.here hx rfl (hb hby at_30) rfl ?_
      show Steps p.tables e below (T145.setTop (mkF m 32 #[.val (.int i1), .val (.int i2), .val (.int i3), .val (.int i4), .val (.int i5), .val (.int i6), .val (.int (4 : Int32)), .val (.int ((i6 &&& (2147483647 : Int32)) % (5 : Int32))), .val (.ref b143), .unset] [(.int (4 : Int32))])) _
      refine XS.ifNo X145.here hx rfl (hb hby at_32) rfl ((if0 _ _).trans (tlt (by decide : (0 : Int32) < (4 : Int32))).2.2.2) ?_
      show Steps p.tables e below (T145.setTop (mkF m 35 #[.val (.int i1), .val (.int i2), .val (.int i3), .val (.int i4), .val (.int i5), .val (.int i6), .val (.int (4 : Int32)), .val (.int ((i6 &&& (2147483647 : Int32)) % (5 : Int32))), .val (.ref b143), .unset] [])) _
      refine XS.aload X145.here hx rfl (hb hby at_35) rfl rfl ?_
      show Steps p.tables e below (T145.setTop (mkF m 37 #[.val (.int i1), .val (.int i2), .val (.int i3), .val (.int i4), .val (.int i5), .val (.int i6), .val (.int (4 : Int32)), .val (.int ((i6 &&& (2147483647 : Int32)) % (5 : Int32))), .val (.ref b143), .unset] [(.ref b143)])) _
      refine XS.iloadN X145.here hx rfl (hb hby at_37) rfl ?_
      show Steps p.tables e below (T145.setTop (mkF m 38 #[.val (.int i1), .val (.int i2), .val (.int i3), .val (.int i4), .val (.int i5), .val (.int i6), .val (.int (4 : Int32)), .val (.int ((i6 &&& (2147483647 : Int32)) % (5 : Int32))), .val (.ref b143), .unset] [(.int i1), (.ref b143)])) _
      refine st147.trans ?_
      show Steps p.tables e below (T147.setTop (mkF m 41 #[.val (.int i1), .val (.int i2), .val (.int i3), .val (.int i4), .val (.int i5), .val (.int i6), .val (.int (4 : Int32)), .val (.int ((i6 &&& (2147483647 : Int32)) % (5 : Int32))), .val (.ref b143), .unset] [])) _
      refine XS.iload X147.here hx rfl (hb hby at_41) rfl ?_
      show Steps p.tables e below (T147.setTop (mkF m 43 #[.val (.int i1), .val (.int i2), .val (.int i3), .val (.int i4), .val (.int i5), .val (.int i6), .val (.int (4 : Int32)), .val (.int ((i6 &&& (2147483647 : Int32)) % (5 : Int32))), .val (.ref b143), .unset] [(.int (4 : Int32))])) _
      refine XS.iconst X147.here hx rfl (hb hby at_43) ?_
      show Steps p.tables e below (T147.setTop (mkF m 44 #[.val (.int i1), .val (.int i2), .val (.int i3), .val (.int i4), .val (.int i5), .val (.int i6), .val (.int (4 : Int32)), .val (.int ((i6 &&& (2147483647 : Int32)) % (5 : Int32))), .val (.ref b143), .unset] [(.int (1 : Int32)), (.int (4 : Int32))])) _
      refine XS.icmpNo X147.here hx rfl (hb hby at_44) rfl (tlt (by decide : (1 : Int32) < (4 : Int32))).2.2.2 ?_
      show Steps p.tables e below (T147.setTop (mkF m 47 #[.val (.int i1), .val (.int i2), .val (.int i3), .val (.int i4), .val (.int i5), .val (.int i6), .val (.int (4 : Int32)), .val (.int ((i6 &&& (2147483647 : Int32)) % (5 : Int32))), .val (.ref b143), .unset] [])) _
      refine XS.aload X147.here hx rfl (hb hby at_47) rfl rfl ?_
      show Steps p.tables e below (T147.setTop (mkF m 49 #[.val (.int i1), .val (.int i2), .val (.int i3), .val (.int i4), .val (.int i5), .val (.int i6), .val (.int (4 : Int32)), .val (.int ((i6 &&& (2147483647 : Int32)) % (5 : Int32))), .val (.ref b143), .unset] [(.ref b143)])) _
      refine XS.iloadN X147.here hx rfl (hb hby at_49) rfl ?_
      show Steps p.tables e below (T147.setTop (mkF m 50 #[.val (.int i1), .val (.int i2), .val (.int i3), .val (.int i4), .val (.int i5), .val (.int i6), .val (.int (4 : Int32)), .val (.int ((i6 &&& (2147483647 : Int32)) % (5 : Int32))), .val (.ref b143), .unset] [(.int i2), (.ref b143)])) _
      refine st149.trans ?_
      show Steps p.tables e below (T149.setTop (mkF m 53 #[.val (.int i1), .val (.int i2), .val (.int i3), .val (.int i4), .val (.int i5), .val (.int i6), .val (.int (4 : Int32)), .val (.int ((i6 &&& (2147483647 : Int32)) % (5 : Int32))), .val (.ref b143), .unset] [])) _
      refine XS.iload X149.here hx rfl (hb hby at_53) rfl ?_
      show Steps p.tables e below (T149.setTop (mkF m 55 #[.val (.int i1), .val (.int i2), .val (.int i3), .val (.int i4), .val (.int i5), .val (.int i6), .val (.int (4 : Int32)), .val (.int ((i6 &&& (2147483647 : Int32)) % (5 : Int32))), .val (.ref b143), .unset] [(.int (4 : Int32))])) _
      refine XS.iconst X149.here hx rfl (hb hby at_55) ?_
      show Steps p.tables e below (T149.setTop (mkF m 56 #[.val (.int i1), .val (.int i2), .val (.int i3), .val (.int i4), .val (.int i5), .val (.int i6), .val (.int (4 : Int32)), .val (.int ((i6 &&& (2147483647 : Int32)) % (5 : Int32))), .val (.ref b143), .unset] [(.int (2 : Int32)), (.int (4 : Int32))])) _
      refine XS.icmpNo X149.here hx rfl (hb hby at_56) rfl (tlt (by decide : (2 : Int32) < (4 : Int32))).2.2.2 ?_
      show Steps p.tables e below (T149.setTop (mkF m 59 #[.val (.int i1), .val (.int i2), .val (.int i3), .val (.int i4), .val (.int i5), .val (.int i6), .val (.int (4 : Int32)), .val (.int ((i6 &&& (2147483647 : Int32)) % (5 : Int32))), .val (.ref b143), .unset] [])) _
      refine XS.aload X149.here hx rfl (hb hby at_59) rfl rfl ?_
      show Steps p.tables e below (T149.setTop (mkF m 61 #[.val (.int i1), .val (.int i2), .val (.int i3), .val (.int i4), .val (.int i5), .val (.int i6), .val (.int (4 : Int32)), .val (.int ((i6 &&& (2147483647 : Int32)) % (5 : Int32))), .val (.ref b143), .unset] [(.ref b143)])) _
      refine XS.iloadN X149.here hx rfl (hb hby at_61) rfl ?_
      show Steps p.tables e below (T149.setTop (mkF m 62 #[.val (.int i1), .val (.int i2), .val (.int i3), .val (.int i4), .val (.int i5), .val (.int i6), .val (.int (4 : Int32)), .val (.int ((i6 &&& (2147483647 : Int32)) % (5 : Int32))), .val (.ref b143), .unset] [(.int i3), (.ref b143)])) _
      refine st151.trans ?_
      show Steps p.tables e below (T151.setTop (mkF m 65 #[.val (.int i1), .val (.int i2), .val (.int i3), .val (.int i4), .val (.int i5), .val (.int i6), .val (.int (4 : Int32)), .val (.int ((i6 &&& (2147483647 : Int32)) % (5 : Int32))), .val (.ref b143), .unset] [])) _
      refine XS.iload X151.here hx rfl (hb hby at_65) rfl ?_
      show Steps p.tables e below (T151.setTop (mkF m 67 #[.val (.int i1), .val (.int i2), .val (.int i3), .val (.int i4), .val (.int i5), .val (.int i6), .val (.int (4 : Int32)), .val (.int ((i6 &&& (2147483647 : Int32)) % (5 : Int32))), .val (.ref b143), .unset] [(.int (4 : Int32))])) _
      refine XS.iconst X151.here hx rfl (hb hby at_67) ?_
      show Steps p.tables e below (T151.setTop (mkF m 68 #[.val (.int i1), .val (.int i2), .val (.int i3), .val (.int i4), .val (.int i5), .val (.int i6), .val (.int (4 : Int32)), .val (.int ((i6 &&& (2147483647 : Int32)) % (5 : Int32))), .val (.ref b143), .unset] [(.int (3 : Int32)), (.int (4 : Int32))])) _
      refine XS.icmpNo X151.here hx rfl (hb hby at_68) rfl (tlt (by decide : (3 : Int32) < (4 : Int32))).2.2.2 ?_
      show Steps p.tables e below (T151.setTop (mkF m 71 #[.val (.int i1), .val (.int i2), .val (.int i3), .val (.int i4), .val (.int i5), .val (.int i6), .val (.int (4 : Int32)), .val (.int ((i6 &&& (2147483647 : Int32)) % (5 : Int32))), .val (.ref b143), .unset] [])) _
      refine XS.aload X151.here hx rfl (hb hby at_71) rfl rfl ?_
      show Steps p.tables e below (T151.setTop (mkF m 73 #[.val (.int i1), .val (.int i2), .val (.int i3), .val (.int i4), .val (.int i5), .val (.int i6), .val (.int (4 : Int32)), .val (.int ((i6 &&& (2147483647 : Int32)) % (5 : Int32))), .val (.ref b143), .unset] [(.ref b143)])) _
      refine XS.iloadN X151.here hx rfl (hb hby at_73) rfl ?_
      show Steps p.tables e below (T151.setTop (mkF m 74 #[.val (.int i1), .val (.int i2), .val (.int i3), .val (.int i4), .val (.int i5), .val (.int i6), .val (.int (4 : Int32)), .val (.int ((i6 &&& (2147483647 : Int32)) % (5 : Int32))), .val (.ref b143), .unset] [(.int i4), (.ref b143)])) _
      refine st153.trans ?_
      show Steps p.tables e below (T153.setTop (mkF m 77 #[.val (.int i1), .val (.int i2), .val (.int i3), .val (.int i4), .val (.int i5), .val (.int i6), .val (.int (4 : Int32)), .val (.int ((i6 &&& (2147483647 : Int32)) % (5 : Int32))), .val (.ref b143), .unset] [])) _
      refine XS.aload X153.here hx rfl (hb hby at_77) rfl rfl ?_
      show Steps p.tables e below (T153.setTop (mkF m 79 #[.val (.int i1), .val (.int i2), .val (.int i3), .val (.int i4), .val (.int i5), .val (.int i6), .val (.int (4 : Int32)), .val (.int ((i6 &&& (2147483647 : Int32)) % (5 : Int32))), .val (.ref b143), .unset] [(.ref b143)])) _
      refine XS.iload X153.here hx rfl (hb hby at_79) rfl ?_
      show Steps p.tables e below (T153.setTop (mkF m 81 #[.val (.int i1), .val (.int i2), .val (.int i3), .val (.int i4), .val (.int i5), .val (.int i6), .val (.int (4 : Int32)), .val (.int ((i6 &&& (2147483647 : Int32)) % (5 : Int32))), .val (.ref b143), .unset] [(.int ((i6 &&& (2147483647 : Int32)) % (5 : Int32))), (.ref b143)])) _
      refine st155.trans ?_
      show Steps p.tables e below (T155.setTop (mkF m 84 #[.val (.int i1), .val (.int i2), .val (.int i3), .val (.int i4), .val (.int i5), .val (.int i6), .val (.int (4 : Int32)), .val (.int ((i6 &&& (2147483647 : Int32)) % (5 : Int32))), .val (.ref b143), .unset] [])) _
      refine XS.aload X155.here hx rfl (hb hby at_84) rfl rfl ?_
      show Steps p.tables e below (T155.setTop (mkF m 86 #[.val (.int i1), .val (.int i2), .val (.int i3), .val (.int i4), .val (.int i5), .val (.int i6), .val (.int (4 : Int32)), .val (.int ((i6 &&& (2147483647 : Int32)) % (5 : Int32))), .val (.ref b143), .unset] [(.ref b143)])) _
      refine st158.trans ?_
      show Steps p.tables e below (T158.setTop (mkF m 89 #[.val (.int i1), .val (.int i2), .val (.int i3), .val (.int i4), .val (.int i5), .val (.int i6), .val (.int (4 : Int32)), .val (.int ((i6 &&& (2147483647 : Int32)) % (5 : Int32))), .val (.ref b143), .unset] [(.int (4 : Int32))])) _
      refine XS.iload X158.here hx rfl (hb hby at_89) rfl ?_
      show Steps p.tables e below (T158.setTop (mkF m 91 #[.val (.int i1), .val (.int i2), .val (.int i3), .val (.int i4), .val (.int i5), .val (.int i6), .val (.int (4 : Int32)), .val (.int ((i6 &&& (2147483647 : Int32)) % (5 : Int32))), .val (.ref b143), .unset] [(.int (4 : Int32)), (.int (4 : Int32))])) _
      refine XS.icmpNo X158.here hx rfl (hb hby at_91) rfl (teq (by decide : (4 : Int32) = (4 : Int32))).2 ?_
      show Steps p.tables e below (T158.setTop (mkF m 94 #[.val (.int i1), .val (.int i2), .val (.int i3), .val (.int i4), .val (.int i5), .val (.int i6), .val (.int (4 : Int32)), .val (.int ((i6 &&& (2147483647 : Int32)) % (5 : Int32))), .val (.ref b143), .unset] [])) _
      refine XS.iconst X158.here hx rfl (hb hby at_94) ?_
      show Steps p.tables e below (T158.setTop (mkF m 95 #[.val (.int i1), .val (.int i2), .val (.int i3), .val (.int i4), .val (.int i5), .val (.int i6), .val (.int (4 : Int32)), .val (.int ((i6 &&& (2147483647 : Int32)) % (5 : Int32))), .val (.ref b143), .unset] [(.int (1 : Int32))])) _
      refine XS.goto X158.here hx rfl (pc0 := 95) (pc' := 99) rfl (hb hby at_95) (by decide) (by decide) ?_
      show Steps p.tables e below (T158.setTop (mkF m 99 #[.val (.int i1), .val (.int i2), .val (.int i3), .val (.int i4), .val (.int i5), .val (.int i6), .val (.int (4 : Int32)), .val (.int ((i6 &&& (2147483647 : Int32)) % (5 : Int32))), .val (.ref b143), .unset] [(.int (1 : Int32))])) _
      refine XS.istore X158.here hx rfl (hb hby at_99) rfl (l' := #[.val (.int i1), .val (.int i2), .val (.int i3), .val (.int i4), .val (.int i5), .val (.int i6), .val (.int (4 : Int32)), .val (.int ((i6 &&& (2147483647 : Int32)) % (5 : Int32))), .val (.ref b143), .val (.int (1 : Int32))]) rfl ?_
      show Steps p.tables e below (T158.setTop (mkF m 101 #[.val (.int i1), .val (.int i2), .val (.int i3), .val (.int i4), .val (.int i5), .val (.int i6), .val (.int (4 : Int32)), .val (.int ((i6 &&& (2147483647 : Int32)) % (5 : Int32))), .val (.ref b143), .val (.int (1 : Int32))] [])) _
      refine XS.iload X158.here hx rfl (hb hby at_101) rfl ?_
      show Steps p.tables e below (T158.setTop (mkF m 103 #[.val (.int i1), .val (.int i2), .val (.int i3), .val (.int i4), .val (.int i5), .val (.int i6), .val (.int (4 : Int32)), .val (.int ((i6 &&& (2147483647 : Int32)) % (5 : Int32))), .val (.ref b143), .val (.int (1 : Int32))] [(.int (1 : Int32))])) _
      refine XS.ifNo X158.here hx rfl (hb hby at_103) rfl ((if0 _ _).trans (feq (by decide : ¬ ((1 : Int32) = (0 : Int32)))).1) ?_
      show Steps p.tables e below (T158.setTop (mkF m 106 #[.val (.int i1), .val (.int i2), .val (.int i3), .val (.int i4), .val (.int i5), .val (.int i6), .val (.int (4 : Int32)), .val (.int ((i6 &&& (2147483647 : Int32)) % (5 : Int32))), .val (.ref b143), .val (.int (1 : Int32))] [])) _
      refine XS.iload X158.here hx rfl (hb hby at_106) rfl ?_
      show Steps p.tables e below (T158.setTop (mkF m 108 #[.val (.int i1), .val (.int i2), .val (.int i3), .val (.int i4), .val (.int i5), .val (.int i6), .val (.int (4 : Int32)), .val (.int ((i6 &&& (2147483647 : Int32)) % (5 : Int32))), .val (.ref b143), .val (.int (1 : Int32))] [(.int (4 : Int32))])) _
      refine XS.ifNo X158.here hx rfl (hb hby at_108) rfl ((if0 _ _).trans (tlt (by decide : (0 : Int32) < (4 : Int32))).2.2.2) ?_
      show Steps p.tables e below (T158.setTop (mkF m 111 #[.val (.int i1), .val (.int i2), .val (.int i3), .val (.int i4), .val (.int i5), .val (.int i6), .val (.int (4 : Int32)), .val (.int ((i6 &&& (2147483647 : Int32)) % (5 : Int32))), .val (.ref b143), .val (.int (1 : Int32))] [])) _
      refine XS.aload X158.here hx rfl (hb hby at_111) rfl rfl ?_
      show Steps p.tables e below (T158.setTop (mkF m 113 #[.val (.int i1), .val (.int i2), .val (.int i3), .val (.int i4), .val (.int i5), .val (.int i6), .val (.int (4 : Int32)), .val (.int ((i6 &&& (2147483647 : Int32)) % (5 : Int32))), .val (.ref b143), .val (.int (1 : Int32))] [(.ref b143)])) _
      refine XS.iconst X158.here hx rfl (hb hby at_113) ?_
      show Steps p.tables e below (T158.setTop (mkF m 114 #[.val (.int i1), .val (.int i2), .val (.int i3), .val (.int i4), .val (.int i5), .val (.int i6), .val (.int (4 : Int32)), .val (.int ((i6 &&& (2147483647 : Int32)) % (5 : Int32))), .val (.ref b143), .val (.int (1 : Int32))] [(.int (0 : Int32)), (.ref b143)])) _
      refine st161.trans ?_
      show Steps p.tables e below (T161.setTop (mkF m 117 #[.val (.int i1), .val (.int i2), .val (.int i3), .val (.int i4), .val (.int i5), .val (.int i6), .val (.int (4 : Int32)), .val (.int ((i6 &&& (2147483647 : Int32)) % (5 : Int32))), .val (.ref b143), .val (.int (1 : Int32))] [(.int (own_v3d_w_numbers_r0_0 ((i6 &&& (2147483647 : Int32)) % (5 : Int32)) i1 i4))])) _
      refine XS.iconst X161.here hx rfl (hb hby at_117) ?_
      show Steps p.tables e below (T161.setTop (mkF m 118 #[.val (.int i1), .val (.int i2), .val (.int i3), .val (.int i4), .val (.int i5), .val (.int i6), .val (.int (4 : Int32)), .val (.int ((i6 &&& (2147483647 : Int32)) % (5 : Int32))), .val (.ref b143), .val (.int (1 : Int32))] [(.int (0 : Int32)), (.int (own_v3d_w_numbers_r0_0 ((i6 &&& (2147483647 : Int32)) % (5 : Int32)) i1 i4))])) _
      refine XS.iload X161.here hx rfl (hb hby at_118) rfl ?_
      show Steps p.tables e below (T161.setTop (mkF m 120 #[.val (.int i1), .val (.int i2), .val (.int i3), .val (.int i4), .val (.int i5), .val (.int i6), .val (.int (4 : Int32)), .val (.int ((i6 &&& (2147483647 : Int32)) % (5 : Int32))), .val (.ref b143), .val (.int (1 : Int32))] [(.int ((i6 &&& (2147483647 : Int32)) % (5 : Int32))), (.int (0 : Int32)), (.int (own_v3d_w_numbers_r0_0 ((i6 &&& (2147483647 : Int32)) % (5 : Int32)) i1 i4))])) _
      refine XS.iload X161.here hx rfl (hb hby at_120) rfl ?_
      show Steps p.tables e below (T161.setTop (mkF m 122 #[.val (.int i1), .val (.int i2), .val (.int i3), .val (.int i4), .val (.int i5), .val (.int i6), .val (.int (4 : Int32)), .val (.int ((i6 &&& (2147483647 : Int32)) % (5 : Int32))), .val (.ref b143), .val (.int (1 : Int32))] [(.int (4 : Int32)), (.int ((i6 &&& (2147483647 : Int32)) % (5 : Int32))), (.int (0 : Int32)), (.int (own_v3d_w_numbers_r0_0 ((i6 &&& (2147483647 : Int32)) % (5 : Int32)) i1 i4))])) _
      refine XS.iloadN X161.here hx rfl (hb hby at_122) rfl ?_
      show Steps p.tables e below (T161.setTop (mkF m 123 #[.val (.int i1), .val (.int i2), .val (.int i3), .val (.int i4), .val (.int i5), .val (.int i6), .val (.int (4 : Int32)), .val (.int ((i6 &&& (2147483647 : Int32)) % (5 : Int32))), .val (.ref b143), .val (.int (1 : Int32))] [(.int i1), (.int (4 : Int32)), (.int ((i6 &&& (2147483647 : Int32)) % (5 : Int32))), (.int (0 : Int32)), (.int (own_v3d_w_numbers_r0_0 ((i6 &&& (2147483647 : Int32)) % (5 : Int32)) i1 i4))])) _
      refine XS.iloadN X161.here hx rfl (hb hby at_123) rfl ?_
      show Steps p.tables e below (T161.setTop (mkF m 124 #[.val (.int i1), .val (.int i2), .val (.int i3), .val (.int i4), .val (.int i5), .val (.int i6), .val (.int (4 : Int32)), .val (.int ((i6 &&& (2147483647 : Int32)) % (5 : Int32))), .val (.ref b143), .val (.int (1 : Int32))] [(.int i2), (.int i1), (.int (4 : Int32)), (.int ((i6 &&& (2147483647 : Int32)) % (5 : Int32))), (.int (0 : Int32)), (.int (own_v3d_w_numbers_r0_0 ((i6 &&& (2147483647 : Int32)) % (5 : Int32)) i1 i4))])) _
      refine XS.iloadN X161.here hx rfl (hb hby at_124) rfl ?_
      show Steps p.tables e below (T161.setTop (mkF m 125 #[.val (.int i1), .val (.int i2), .val (.int i3), .val (.int i4), .val (.int i5), .val (.int i6), .val (.int (4 : Int32)), .val (.int ((i6 &&& (2147483647 : Int32)) % (5 : Int32))), .val (.ref b143), .val (.int (1 : Int32))] [(.int i3), (.int i2), (.int i1), (.int (4 : Int32)), (.int ((i6 &&& (2147483647 : Int32)) % (5 : Int32))), (.int (0 : Int32)), (.int (own_v3d_w_numbers_r0_0 ((i6 &&& (2147483647 : Int32)) % (5 : Int32)) i1 i4))])) _
      refine XS.iloadN X161.here hx rfl (hb hby at_125) rfl ?_
      show Steps p.tables e below (T161.setTop (mkF m 126 #[.val (.int i1), .val (.int i2), .val (.int i3), .val (.int i4), .val (.int i5), .val (.int i6), .val (.int (4 : Int32)), .val (.int ((i6 &&& (2147483647 : Int32)) % (5 : Int32))), .val (.ref b143), .val (.int (1 : Int32))] [(.int i4), (.int i3), (.int i2), (.int i1), (.int (4 : Int32)), (.int ((i6 &&& (2147483647 : Int32)) % (5 : Int32))), (.int (0 : Int32)), (.int (own_v3d_w_numbers_r0_0 ((i6 &&& (2147483647 : Int32)) % (5 : Int32)) i1 i4))])) _
      refine st162 _ ?_
      exact k
    have pre167 : ∀ t, Steps p.tables e below (T162.setTop (mkF m 137 #[.val (.int i1), .val (.int i2), .val (.int i3), .val (.int i4), .val (.int i5), .val (.int i6), .val (.int (4 : Int32)), .val (.int ((i6 &&& (2147483647 : Int32)) % (5 : Int32))), .val (.ref b143), .val (.int (1 : Int32))] [(.int (own_j0_129_0_v3 i1 i2 i3 i4 i6))])) t → Steps p.tables e below (s₁.setTop (entryFrame m #[(.int i1), (.int i2), (.int i3), (.int i4), (.int i5), (.int i6)] maxLocals)) t := by
      by_cases hc129_164 : (own_v3d_w_numbers_r0_0 ((i6 &&& (2147483647 : Int32)) % (5 : Int32)) i1 i4) = (own_r10 (own_j9_2_0 (0 : Int32) ((i6 &&& (2147483647 : Int32)) % (5 : Int32)) (4 : Int32)) i1 i2 i3 i4)
      · have pre165 : ∀ t, Steps p.tables e below (T162.setTop (mkF m 137 #[.val (.int i1), .val (.int i2), .val (.int i3), .val (.int i4), .val (.int i5), .val (.int i6), .val (.int (4 : Int32)), .val (.int ((i6 &&& (2147483647 : Int32)) % (5 : Int32))), .val (.ref b143), .val (.int (1 : Int32))] [(.int (1 : Int32))])) t → Steps p.tables e below (s₁.setTop (entryFrame m #[(.int i1), (.int i2), (.int i3), (.int i4), (.int i5), (.int i6)] maxLocals)) t := by
          intro t k
          refine pre163 _ ?_
          show Steps p.tables e below (T162.setTop (mkF m 129 #[.val (.int i1), .val (.int i2), .val (.int i3), .val (.int i4), .val (.int i5), .val (.int i6), .val (.int (4 : Int32)), .val (.int ((i6 &&& (2147483647 : Int32)) % (5 : Int32))), .val (.ref b143), .val (.int (1 : Int32))] [(.int (own_r10 (own_j9_2_0 (0 : Int32) ((i6 &&& (2147483647 : Int32)) % (5 : Int32)) (4 : Int32)) i1 i2 i3 i4)), (.int (own_v3d_w_numbers_r0_0 ((i6 &&& (2147483647 : Int32)) % (5 : Int32)) i1 i4))])) _
          refine XS.icmpNo X162.here hx rfl (hb hby at_129) rfl (teq hc129_164).2 ?_
          show Steps p.tables e below (T162.setTop (mkF m 132 #[.val (.int i1), .val (.int i2), .val (.int i3), .val (.int i4), .val (.int i5), .val (.int i6), .val (.int (4 : Int32)), .val (.int ((i6 &&& (2147483647 : Int32)) % (5 : Int32))), .val (.ref b143), .val (.int (1 : Int32))] [])) _
          refine XS.iconst X162.here hx rfl (hb hby at_132) ?_
          show Steps p.tables e below (T162.setTop (mkF m 133 #[.val (.int i1), .val (.int i2), .val (.int i3), .val (.int i4), .val (.int i5), .val (.int i6), .val (.int (4 : Int32)), .val (.int ((i6 &&& (2147483647 : Int32)) % (5 : Int32))), .val (.ref b143), .val (.int (1 : Int32))] [(.int (1 : Int32))])) _
          refine XS.goto X162.here hx rfl (pc0 := 133) (pc' := 137) rfl (hb hby at_133) (by decide) (by decide) ?_
          exact k
        exact fun t k => pre165 t (by rw [show (own_j0_129_0_v3 i1 i2 i3 i4 i6) = (1 : Int32) from (if_pos hc129_164)] at k; exact k)
      · have pre166 : ∀ t, Steps p.tables e below (T162.setTop (mkF m 137 #[.val (.int i1), .val (.int i2), .val (.int i3), .val (.int i4), .val (.int i5), .val (.int i6), .val (.int (4 : Int32)), .val (.int ((i6 &&& (2147483647 : Int32)) % (5 : Int32))), .val (.ref b143), .val (.int (1 : Int32))] [(.int (0 : Int32))])) t → Steps p.tables e below (s₁.setTop (entryFrame m #[(.int i1), (.int i2), (.int i3), (.int i4), (.int i5), (.int i6)] maxLocals)) t := by
          intro t k
          refine pre163 _ ?_
          show Steps p.tables e below (T162.setTop (mkF m 129 #[.val (.int i1), .val (.int i2), .val (.int i3), .val (.int i4), .val (.int i5), .val (.int i6), .val (.int (4 : Int32)), .val (.int ((i6 &&& (2147483647 : Int32)) % (5 : Int32))), .val (.ref b143), .val (.int (1 : Int32))] [(.int (own_r10 (own_j9_2_0 (0 : Int32) ((i6 &&& (2147483647 : Int32)) % (5 : Int32)) (4 : Int32)) i1 i2 i3 i4)), (.int (own_v3d_w_numbers_r0_0 ((i6 &&& (2147483647 : Int32)) % (5 : Int32)) i1 i4))])) _
          refine XS.icmpYes X162.here hx rfl (pc0 := 129) (pc' := 136) rfl (hb hby at_129) rfl (feq hc129_164).2 (by decide) (by decide) ?_
          show Steps p.tables e below (T162.setTop (mkF m 136 #[.val (.int i1), .val (.int i2), .val (.int i3), .val (.int i4), .val (.int i5), .val (.int i6), .val (.int (4 : Int32)), .val (.int ((i6 &&& (2147483647 : Int32)) % (5 : Int32))), .val (.ref b143), .val (.int (1 : Int32))] [])) _
          refine XS.iconst X162.here hx rfl (hb hby at_136) ?_
          exact k
        exact fun t k => pre166 t (by rw [show (own_j0_129_0_v3 i1 i2 i3 i4 i6) = (0 : Int32) from (if_neg hc129_164)] at k; exact k)
    have pre168 : ∀ t, Steps p.tables e below (T162.setTop (mkF m 141 #[.val (.int i1), .val (.int i2), .val (.int i3), .val (.int i4), .val (.int i5), .val (.int i6), .val (.int (4 : Int32)), .val (.int ((i6 &&& (2147483647 : Int32)) % (5 : Int32))), .val (.ref b143), .val (.int (own_j0_129_0_v3 i1 i2 i3 i4 i6))] [(.int (own_j0_129_0_v3 i1 i2 i3 i4 i6))])) t → Steps p.tables e below (s₁.setTop (entryFrame m #[(.int i1), (.int i2), (.int i3), (.int i4), (.int i5), (.int i6)] maxLocals)) t := by
      intro t k
      refine pre167 _ ?_
      show Steps p.tables e below (T162.setTop (mkF m 137 #[.val (.int i1), .val (.int i2), .val (.int i3), .val (.int i4), .val (.int i5), .val (.int i6), .val (.int (4 : Int32)), .val (.int ((i6 &&& (2147483647 : Int32)) % (5 : Int32))), .val (.ref b143), .val (.int (1 : Int32))] [(.int (own_j0_129_0_v3 i1 i2 i3 i4 i6))])) _
      refine XS.istore X162.here hx rfl (hb hby at_137) rfl (l' := #[.val (.int i1), .val (.int i2), .val (.int i3), .val (.int i4), .val (.int i5), .val (.int i6), .val (.int (4 : Int32)), .val (.int ((i6 &&& (2147483647 : Int32)) % (5 : Int32))), .val (.ref b143), .val (.int (own_j0_129_0_v3 i1 i2 i3 i4 i6))]) rfl ?_
      show Steps p.tables e below (T162.setTop (mkF m 139 #[.val (.int i1), .val (.int i2), .val (.int i3), .val (.int i4), .val (.int i5), .val (.int i6), .val (.int (4 : Int32)), .val (.int ((i6 &&& (2147483647 : Int32)) % (5 : Int32))), .val (.ref b143), .val (.int (own_j0_129_0_v3 i1 i2 i3 i4 i6))] [])) _
      refine XS.iload X162.here hx rfl (hb hby at_139) rfl ?_
      exact k
    obtain ⟨T179, Lq179, X179, N179, e179, pre179⟩ : ∃ (T' : State) (locs' : List Loc), Stand p l e room_1 s m #[(.int i1), (.int i2), (.int i3), (.int i4), (.int i5), (.int i6)] below meth c T' locs' 2 18 ∧ Fr n0 locs' ∧ T'.heap = T155.heap ∧ ∀ t, Steps p.tables e below (T'.setTop (mkF m 178 #[.val (.int i1), .val (.int i2), .val (.int i3), .val (.int i4), .val (.int i5), .val (.int i6), .val (.int (4 : Int32)), .val (.int ((i6 &&& (2147483647 : Int32)) % (5 : Int32))), .val (.ref b143), .val (.int (own_j0_141_0_v2 i1 i2 i3 i4 i6))] [])) t → Steps p.tables e below (s₁.setTop (entryFrame m #[(.int i1), (.int i2), (.int i3), (.int i4), (.int i5), (.int i6)] maxLocals)) t := by
      by_cases hc141_169 : (own_j0_129_0_v3 i1 i2 i3 i4 i6) = (0 : Int32)
      · have pre170 : ∀ t, Steps p.tables e below (T162.setTop (mkF m 178 #[.val (.int i1), .val (.int i2), .val (.int i3), .val (.int i4), .val (.int i5), .val (.int i6), .val (.int (4 : Int32)), .val (.int ((i6 &&& (2147483647 : Int32)) % (5 : Int32))), .val (.ref b143), .val (.int (own_j0_129_0_v3 i1 i2 i3 i4 i6))] [])) t → Steps p.tables e below (s₁.setTop (entryFrame m #[(.int i1), (.int i2), (.int i3), (.int i4), (.int i5), (.int i6)] maxLocals)) t := by
          intro t k
          refine pre168 _ ?_
          show Steps p.tables e below (T162.setTop (mkF m 141 #[.val (.int i1), .val (.int i2), .val (.int i3), .val (.int i4), .val (.int i5), .val (.int i6), .val (.int (4 : Int32)), .val (.int ((i6 &&& (2147483647 : Int32)) % (5 : Int32))), .val (.ref b143), .val (.int (own_j0_129_0_v3 i1 i2 i3 i4 i6))] [(.int (own_j0_129_0_v3 i1 i2 i3 i4 i6))])) _
          refine XS.ifYes X162.here hx rfl (pc0 := 141) (pc' := 178) rfl (hb hby at_141) rfl ((if0 _ _).trans (teq hc141_169).1) (by decide) (by decide) ?_
          exact k
        exact ⟨T162, _, X162, N162, e162, fun t k => pre170 t (by rw [show (own_j0_141_0_v2 i1 i2 i3 i4 i6) = (own_j0_129_0_v3 i1 i2 i3 i4 i6) from (if_pos hc141_169)] at k; exact k)⟩
      · obtain ⟨cq171, kq171, q171a, q171b, q171c⟩ := isOf hZ e162 f159
        obtain ⟨_, _, ⟨T171, L171, k171, n171⟩, -, X171, ⟨Lc171, hQ171, l171, y171, z171⟩, st171⟩ := X162.virtualBack hx (y := (⟨"com/example/baum/baum/query/NodeList$Builder", "get", "(I)I"⟩ : MethodName)) (z := (⟨"com/example/baum/baum/query/NodeList$Builder", "get", "(I)I"⟩ : MethodName)) hown (mvT hZ (hw _ (List.mem_of_getElem? (i := 30) rfl))) (mvT hZ (hw _ (List.mem_of_getElem? (i := 31) rfl))) (notFace_of_selects (args := #[]) (mvT hZ (hw _ (List.mem_of_getElem? (i := 33) rfl)))) (mvT hZ (hw _ (List.mem_of_getElem? (i := 33) rfl))) (mvT hZ (hw _ (List.mem_of_getElem? (i := 32) rfl))) (by decide) (backOf (W := 0) (rm6g l Z a0 hw [] b143 b145_0 (own_v3d_w_numbers_r0_0 ((i6 &&& (2147483647 : Int32)) % (5 : Int32)) i1 i4) (own_v3d_w_numbers_r0_1 ((i6 &&& (2147483647 : Int32)) % (5 : Int32)) i2 i3 i4) (own_v3d_w_numbers_r0_2 ((i6 &&& (2147483647 : Int32)) % (5 : Int32)) i2 i3 i4) (own_v3d_w_numbers_r0_3 ((i6 &&& (2147483647 : Int32)) % (5 : Int32)) i1 i2 i3 i4) k145_1 T155.heap n0 (Nat.le_trans Z0 K156.1) f160 f157 f155_0) hZ (hw _ (List.mem_of_getElem? (i := 34) rfl)) (hw _ (List.mem_of_getElem? (i := 3) rfl)) (by decide) (by decide)) q171a q171c (g := (mkF m 153 #[.val (.int i1), .val (.int i2), .val (.int i3), .val (.int i4), .val (.int i5), .val (.int i6), .val (.int (4 : Int32)), .val (.int ((i6 &&& (2147483647 : Int32)) % (5 : Int32))), .val (.ref b143), .val (.int (own_j0_129_0_v3 i1 i2 i3 i4 i6))] [(.int (1 : Int32)), (.ref b143)])) rfl (by rw [hml]; rfl) (Steps.refl _) (argsL := [(.int (1 : Int32))]) (rest := []) (lenOf pd_5 rfl) rfl (by show 2 * 0 + _ ≤ _; exact Nat.le_of_eq rfl) (hb hby at_153) (fun _ _ => ⟨rfl, e162, (by decide : 2 + 0 ≤ _), (by decide : 18 + 0 ≤ _)⟩)
        dsimp only [Pt.U, Pt.locs, Pt.cells, Pt.slots] at X171 l171 y171 z171 st171 hQ171
        subst l171 y171 z171
        obtain ⟨rfl, Nq171, e171⟩ := hQ171
        have N171 := Fr.app N162 Nq171
        obtain ⟨_, _, ⟨T172, L172, k172, n172⟩, -, X172, ⟨Lc172, hQ172, l172, y172, z172⟩, st172⟩ := Jvm.LawKit.callS X171 hx (y := (⟨"com/example/baum/baum/query/BuilderReverseFromPinLaw", "expect", "(IIIIIII)I"⟩ : MethodName)) hown (mvT hZ (hw _ (List.mem_of_getElem? (i := 43) rfl))) (mvT hZ (hw _ (List.mem_of_getElem? (i := 44) rfl))) (mvT hZ (hw _ (List.mem_of_getElem? (i := 45) rfl))) (mvT hZ (hw _ (List.mem_of_getElem? (i := 46) rfl))) (by decide) (backOf (W := 1) (rm9 l Z a0 hw [] (1 : Int32) ((i6 &&& (2147483647 : Int32)) % (5 : Int32)) (4 : Int32) i1 i2 i3 i4 T155.heap n0 (Nat.le_trans Z0 K156.1) ) hZ (hw _ (List.mem_of_getElem? (i := 46) rfl)) (hw _ (List.mem_of_getElem? (i := 45) rfl)) (by decide) (by decide)) (g := (mkF m 165 #[.val (.int i1), .val (.int i2), .val (.int i3), .val (.int i4), .val (.int i5), .val (.int i6), .val (.int (4 : Int32)), .val (.int ((i6 &&& (2147483647 : Int32)) % (5 : Int32))), .val (.ref b143), .val (.int (own_j0_129_0_v3 i1 i2 i3 i4 i6))] [(.int i4), (.int i3), (.int i2), (.int i1), (.int (4 : Int32)), (.int ((i6 &&& (2147483647 : Int32)) % (5 : Int32))), (.int (1 : Int32)), (.int (own_v3d_w_numbers_r0_1 ((i6 &&& (2147483647 : Int32)) % (5 : Int32)) i2 i3 i4))])) rfl (by rw [hml]; rfl) (argsL := [(.int (1 : Int32)), (.int ((i6 &&& (2147483647 : Int32)) % (5 : Int32))), (.int (4 : Int32)), (.int i1), (.int i2), (.int i3), (.int i4)]) (rest := [(.int (own_v3d_w_numbers_r0_1 ((i6 &&& (2147483647 : Int32)) % (5 : Int32)) i2 i3 i4))]) (lenOf pd_7 rfl) rfl (by show 2 * 0 + _ ≤ _; exact Nat.le_of_eq rfl) (hb hby at_165) (fun _ _ => ⟨rfl, e171, (by decide : 2 + 0 ≤ _), (by decide : 18 + 0 ≤ _)⟩)
        dsimp only [Pt.U, Pt.locs, Pt.cells, Pt.slots] at X172 l172 y172 z172 st172 hQ172
        subst l172 y172 z172
        obtain ⟨rfl, Nq172, e172⟩ := hQ172
        have N172 := Fr.app N171 Nq172
        have pre173 : ∀ t, Steps p.tables e below (T172.setTop (mkF m 168 #[.val (.int i1), .val (.int i2), .val (.int i3), .val (.int i4), .val (.int i5), .val (.int i6), .val (.int (4 : Int32)), .val (.int ((i6 &&& (2147483647 : Int32)) % (5 : Int32))), .val (.ref b143), .val (.int (own_j0_129_0_v3 i1 i2 i3 i4 i6))] [(.int (own_r10 (own_j9_2_0 (1 : Int32) ((i6 &&& (2147483647 : Int32)) % (5 : Int32)) (4 : Int32)) i1 i2 i3 i4)), (.int (own_v3d_w_numbers_r0_1 ((i6 &&& (2147483647 : Int32)) % (5 : Int32)) i2 i3 i4))])) t → Steps p.tables e below (s₁.setTop (entryFrame m #[(.int i1), (.int i2), (.int i3), (.int i4), (.int i5), (.int i6)] maxLocals)) t := by
          intro t k
          refine pre168 _ ?_
          show Steps p.tables e below (T162.setTop (mkF m 141 #[.val (.int i1), .val (.int i2), .val (.int i3), .val (.int i4), .val (.int i5), .val (.int i6), .val (.int (4 : Int32)), .val (.int ((i6 &&& (2147483647 : Int32)) % (5 : Int32))), .val (.ref b143), .val (.int (own_j0_129_0_v3 i1 i2 i3 i4 i6))] [(.int (own_j0_129_0_v3 i1 i2 i3 i4 i6))])) _
          refine XS.ifNo X162.here hx rfl (hb hby at_141) rfl ((if0 _ _).trans (feq hc141_169).1) ?_
          show Steps p.tables e below (T162.setTop (mkF m 144 #[.val (.int i1), .val (.int i2), .val (.int i3), .val (.int i4), .val (.int i5), .val (.int i6), .val (.int (4 : Int32)), .val (.int ((i6 &&& (2147483647 : Int32)) % (5 : Int32))), .val (.ref b143), .val (.int (own_j0_129_0_v3 i1 i2 i3 i4 i6))] [])) _
          refine XS.iload X162.here hx rfl (hb hby at_144) rfl ?_
          show Steps p.tables e below (T162.setTop (mkF m 146 #[.val (.int i1), .val (.int i2), .val (.int i3), .val (.int i4), .val (.int i5), .val (.int i6), .val (.int (4 : Int32)), .val (.int ((i6 &&& (2147483647 : Int32)) % (5 : Int32))), .val (.ref b143), .val (.int (own_j0_129_0_v3 i1 i2 i3 i4 i6))] [(.int (4 : Int32))])) _
          refine XS.iconst X162.here hx rfl (hb hby at_146) ?_
          show Steps p.tables e below (T162.setTop (mkF m 147 #[.val (.int i1), .val (.int i2), .val (.int i3), .val (.int i4), .val (.int i5), .val (.int i6), .val (.int (4 : Int32)), .val (.int ((i6 &&& (2147483647 : Int32)) % (5 : Int32))), .val (.ref b143), .val (.int (own_j0_129_0_v3 i1 i2 i3 i4 i6))] [(.int (1 : Int32)), (.int (4 : Int32))])) _
          refine XS.icmpNo X162.here hx rfl (hb hby at_147) rfl (tlt (by decide : (1 : Int32) < (4 : Int32))).2.2.2 ?_
          show Steps p.tables e below (T162.setTop (mkF m 150 #[.val (.int i1), .val (.int i2), .val (.int i3), .val (.int i4), .val (.int i5), .val (.int i6), .val (.int (4 : Int32)), .val (.int ((i6 &&& (2147483647 : Int32)) % (5 : Int32))), .val (.ref b143), .val (.int (own_j0_129_0_v3 i1 i2 i3 i4 i6))] [])) _
          refine XS.aload X162.here hx rfl (hb hby at_150) rfl rfl ?_
          show Steps p.tables e below (T162.setTop (mkF m 152 #[.val (.int i1), .val (.int i2), .val (.int i3), .val (.int i4), .val (.int i5), .val (.int i6), .val (.int (4 : Int32)), .val (.int ((i6 &&& (2147483647 : Int32)) % (5 : Int32))), .val (.ref b143), .val (.int (own_j0_129_0_v3 i1 i2 i3 i4 i6))] [(.ref b143)])) _
          refine XS.iconst X162.here hx rfl (hb hby at_152) ?_
          show Steps p.tables e below (T162.setTop (mkF m 153 #[.val (.int i1), .val (.int i2), .val (.int i3), .val (.int i4), .val (.int i5), .val (.int i6), .val (.int (4 : Int32)), .val (.int ((i6 &&& (2147483647 : Int32)) % (5 : Int32))), .val (.ref b143), .val (.int (own_j0_129_0_v3 i1 i2 i3 i4 i6))] [(.int (1 : Int32)), (.ref b143)])) _
          refine st171.trans ?_
          show Steps p.tables e below (T171.setTop (mkF m 156 #[.val (.int i1), .val (.int i2), .val (.int i3), .val (.int i4), .val (.int i5), .val (.int i6), .val (.int (4 : Int32)), .val (.int ((i6 &&& (2147483647 : Int32)) % (5 : Int32))), .val (.ref b143), .val (.int (own_j0_129_0_v3 i1 i2 i3 i4 i6))] [(.int (own_v3d_w_numbers_r0_1 ((i6 &&& (2147483647 : Int32)) % (5 : Int32)) i2 i3 i4))])) _
          refine XS.iconst X171.here hx rfl (hb hby at_156) ?_
          show Steps p.tables e below (T171.setTop (mkF m 157 #[.val (.int i1), .val (.int i2), .val (.int i3), .val (.int i4), .val (.int i5), .val (.int i6), .val (.int (4 : Int32)), .val (.int ((i6 &&& (2147483647 : Int32)) % (5 : Int32))), .val (.ref b143), .val (.int (own_j0_129_0_v3 i1 i2 i3 i4 i6))] [(.int (1 : Int32)), (.int (own_v3d_w_numbers_r0_1 ((i6 &&& (2147483647 : Int32)) % (5 : Int32)) i2 i3 i4))])) _
          refine XS.iload X171.here hx rfl (hb hby at_157) rfl ?_
          show Steps p.tables e below (T171.setTop (mkF m 159 #[.val (.int i1), .val (.int i2), .val (.int i3), .val (.int i4), .val (.int i5), .val (.int i6), .val (.int (4 : Int32)), .val (.int ((i6 &&& (2147483647 : Int32)) % (5 : Int32))), .val (.ref b143), .val (.int (own_j0_129_0_v3 i1 i2 i3 i4 i6))] [(.int ((i6 &&& (2147483647 : Int32)) % (5 : Int32))), (.int (1 : Int32)), (.int (own_v3d_w_numbers_r0_1 ((i6 &&& (2147483647 : Int32)) % (5 : Int32)) i2 i3 i4))])) _
          refine XS.iload X171.here hx rfl (hb hby at_159) rfl ?_
          show Steps p.tables e below (T171.setTop (mkF m 161 #[.val (.int i1), .val (.int i2), .val (.int i3), .val (.int i4), .val (.int i5), .val (.int i6), .val (.int (4 : Int32)), .val (.int ((i6 &&& (2147483647 : Int32)) % (5 : Int32))), .val (.ref b143), .val (.int (own_j0_129_0_v3 i1 i2 i3 i4 i6))] [(.int (4 : Int32)), (.int ((i6 &&& (2147483647 : Int32)) % (5 : Int32))), (.int (1 : Int32)), (.int (own_v3d_w_numbers_r0_1 ((i6 &&& (2147483647 : Int32)) % (5 : Int32)) i2 i3 i4))])) _
          refine XS.iloadN X171.here hx rfl (hb hby at_161) rfl ?_
          show Steps p.tables e below (T171.setTop (mkF m 162 #[.val (.int i1), .val (.int i2), .val (.int i3), .val (.int i4), .val (.int i5), .val (.int i6), .val (.int (4 : Int32)), .val (.int ((i6 &&& (2147483647 : Int32)) % (5 : Int32))), .val (.ref b143), .val (.int (own_j0_129_0_v3 i1 i2 i3 i4 i6))] [(.int i1), (.int (4 : Int32)), (.int ((i6 &&& (2147483647 : Int32)) % (5 : Int32))), (.int (1 : Int32)), (.int (own_v3d_w_numbers_r0_1 ((i6 &&& (2147483647 : Int32)) % (5 : Int32)) i2 i3 i4))])) _
          refine XS.iloadN X171.here hx rfl (hb hby at_162) rfl ?_
          show Steps p.tables e below (T171.setTop (mkF m 163 #[.val (.int i1), .val (.int i2), .val (.int i3), .val (.int i4), .val (.int i5), .val (.int i6), .val (.int (4 : Int32)), .val (.int ((i6 &&& (2147483647 : Int32)) % (5 : Int32))), .val (.ref b143), .val (.int (own_j0_129_0_v3 i1 i2 i3 i4 i6))] [(.int i2), (.int i1), (.int (4 : Int32)), (.int ((i6 &&& (2147483647 : Int32)) % (5 : Int32))), (.int (1 : Int32)), (.int (own_v3d_w_numbers_r0_1 ((i6 &&& (2147483647 : Int32)) % (5 : Int32)) i2 i3 i4))])) _
          refine XS.iloadN X171.here hx rfl (hb hby at_163) rfl ?_
          show Steps p.tables e below (T171.setTop (mkF m 164 #[.val (.int i1), .val (.int i2), .val (.int i3), .val (.int i4), .val (.int i5), .val (.int i6), .val (.int (4 : Int32)), .val (.int ((i6 &&& (2147483647 : Int32)) % (5 : Int32))), .val (.ref b143), .val (.int (own_j0_129_0_v3 i1 i2 i3 i4 i6))] [(.int i3), (.int i2), (.int i1), (.int (4 : Int32)), (.int ((i6 &&& (2147483647 : Int32)) % (5 : Int32))), (.int (1 : Int32)), (.int (own_v3d_w_numbers_r0_1 ((i6 &&& (2147483647 : Int32)) % (5 : Int32)) i2 i3 i4))])) _
          refine XS.iloadN X171.here hx rfl (hb hby at_164) rfl ?_
          show Steps p.tables e below (T171.setTop (mkF m 165 #[.val (.int i1), .val (.int i2), .val (.int i3), .val (.int i4), .val (.int i5), .val (.int i6), .val (.int (4 : Int32)), .val (.int ((i6 &&& (2147483647 : Int32)) % (5 : Int32))), .val (.ref b143), .val (.int (own_j0_129_0_v3 i1 i2 i3 i4 i6))] [(.int i4), (.int i3), (.int i2), (.int i1), (.int (4 : Int32)), (.int ((i6 &&& (2147483647 : Int32)) % (5 : Int32))), (.int (1 : Int32)), (.int (own_v3d_w_numbers_r0_1 ((i6 &&& (2147483647 : Int32)) % (5 : Int32)) i2 i3 i4))])) _
          refine st172 _ ?_
          exact k
        have pre177 : ∀ t, Steps p.tables e below (T172.setTop (mkF m 176 #[.val (.int i1), .val (.int i2), .val (.int i3), .val (.int i4), .val (.int i5), .val (.int i6), .val (.int (4 : Int32)), .val (.int ((i6 &&& (2147483647 : Int32)) % (5 : Int32))), .val (.ref b143), .val (.int (own_j0_129_0_v3 i1 i2 i3 i4 i6))] [(.int (own_j0_168_0_v2 i1 i2 i3 i4 i6))])) t → Steps p.tables e below (s₁.setTop (entryFrame m #[(.int i1), (.int i2), (.int i3), (.int i4), (.int i5), (.int i6)] maxLocals)) t := by
          by_cases hc168_174 : (own_v3d_w_numbers_r0_1 ((i6 &&& (2147483647 : Int32)) % (5 : Int32)) i2 i3 i4) = (own_r10 (own_j9_2_0 (1 : Int32) ((i6 &&& (2147483647 : Int32)) % (5 : Int32)) (4 : Int32)) i1 i2 i3 i4)
          · have pre175 : ∀ t, Steps p.tables e below (T172.setTop (mkF m 176 #[.val (.int i1), .val (.int i2), .val (.int i3), .val (.int i4), .val (.int i5), .val (.int i6), .val (.int (4 : Int32)), .val (.int ((i6 &&& (2147483647 : Int32)) % (5 : Int32))), .val (.ref b143), .val (.int (own_j0_129_0_v3 i1 i2 i3 i4 i6))] [(.int (1 : Int32))])) t → Steps p.tables e below (s₁.setTop (entryFrame m #[(.int i1), (.int i2), (.int i3), (.int i4), (.int i5), (.int i6)] maxLocals)) t := by
              intro t k
              refine pre173 _ ?_
              show Steps p.tables e below (T172.setTop (mkF m 168 #[.val (.int i1), .val (.int i2), .val (.int i3), .val (.int i4), .val (.int i5), .val (.int i6), .val (.int (4 : Int32)), .val (.int ((i6 &&& (2147483647 : Int32)) % (5 : Int32))), .val (.ref b143), .val (.int (own_j0_129_0_v3 i1 i2 i3 i4 i6))] [(.int (own_r10 (own_j9_2_0 (1 : Int32) ((i6 &&& (2147483647 : Int32)) % (5 : Int32)) (4 : Int32)) i1 i2 i3 i4)), (.int (own_v3d_w_numbers_r0_1 ((i6 &&& (2147483647 : Int32)) % (5 : Int32)) i2 i3 i4))])) _
              refine XS.icmpNo X172.here hx rfl (hb hby at_168) rfl (teq hc168_174).2 ?_
              show Steps p.tables e below (T172.setTop (mkF m 171 #[.val (.int i1), .val (.int i2), .val (.int i3), .val (.int i4), .val (.int i5), .val (.int i6), .val (.int (4 : Int32)), .val (.int ((i6 &&& (2147483647 : Int32)) % (5 : Int32))), .val (.ref b143), .val (.int (own_j0_129_0_v3 i1 i2 i3 i4 i6))] [])) _
              refine XS.iconst X172.here hx rfl (hb hby at_171) ?_
              show Steps p.tables e below (T172.setTop (mkF m 172 #[.val (.int i1), .val (.int i2), .val (.int i3), .val (.int i4), .val (.int i5), .val (.int i6), .val (.int (4 : Int32)), .val (.int ((i6 &&& (2147483647 : Int32)) % (5 : Int32))), .val (.ref b143), .val (.int (own_j0_129_0_v3 i1 i2 i3 i4 i6))] [(.int (1 : Int32))])) _
              refine XS.goto X172.here hx rfl (pc0 := 172) (pc' := 176) rfl (hb hby at_172) (by decide) (by decide) ?_
              exact k
            exact fun t k => pre175 t (by rw [show (own_j0_168_0_v2 i1 i2 i3 i4 i6) = (1 : Int32) from (if_pos hc168_174)] at k; exact k)
          · have pre176 : ∀ t, Steps p.tables e below (T172.setTop (mkF m 176 #[.val (.int i1), .val (.int i2), .val (.int i3), .val (.int i4), .val (.int i5), .val (.int i6), .val (.int (4 : Int32)), .val (.int ((i6 &&& (2147483647 : Int32)) % (5 : Int32))), .val (.ref b143), .val (.int (own_j0_129_0_v3 i1 i2 i3 i4 i6))] [(.int (0 : Int32))])) t → Steps p.tables e below (s₁.setTop (entryFrame m #[(.int i1), (.int i2), (.int i3), (.int i4), (.int i5), (.int i6)] maxLocals)) t := by
              intro t k
              refine pre173 _ ?_
              show Steps p.tables e below (T172.setTop (mkF m 168 #[.val (.int i1), .val (.int i2), .val (.int i3), .val (.int i4), .val (.int i5), .val (.int i6), .val (.int (4 : Int32)), .val (.int ((i6 &&& (2147483647 : Int32)) % (5 : Int32))), .val (.ref b143), .val (.int (own_j0_129_0_v3 i1 i2 i3 i4 i6))] [(.int (own_r10 (own_j9_2_0 (1 : Int32) ((i6 &&& (2147483647 : Int32)) % (5 : Int32)) (4 : Int32)) i1 i2 i3 i4)), (.int (own_v3d_w_numbers_r0_1 ((i6 &&& (2147483647 : Int32)) % (5 : Int32)) i2 i3 i4))])) _
              refine XS.icmpYes X172.here hx rfl (pc0 := 168) (pc' := 175) rfl (hb hby at_168) rfl (feq hc168_174).2 (by decide) (by decide) ?_
              show Steps p.tables e below (T172.setTop (mkF m 175 #[.val (.int i1), .val (.int i2), .val (.int i3), .val (.int i4), .val (.int i5), .val (.int i6), .val (.int (4 : Int32)), .val (.int ((i6 &&& (2147483647 : Int32)) % (5 : Int32))), .val (.ref b143), .val (.int (own_j0_129_0_v3 i1 i2 i3 i4 i6))] [])) _
              refine XS.iconst X172.here hx rfl (hb hby at_175) ?_
              exact k
            exact fun t k => pre176 t (by rw [show (own_j0_168_0_v2 i1 i2 i3 i4 i6) = (0 : Int32) from (if_neg hc168_174)] at k; exact k)
        have pre178 : ∀ t, Steps p.tables e below (T172.setTop (mkF m 178 #[.val (.int i1), .val (.int i2), .val (.int i3), .val (.int i4), .val (.int i5), .val (.int i6), .val (.int (4 : Int32)), .val (.int ((i6 &&& (2147483647 : Int32)) % (5 : Int32))), .val (.ref b143), .val (.int (own_j0_168_0_v2 i1 i2 i3 i4 i6))] [])) t → Steps p.tables e below (s₁.setTop (entryFrame m #[(.int i1), (.int i2), (.int i3), (.int i4), (.int i5), (.int i6)] maxLocals)) t := by
          intro t k
          refine pre177 _ ?_
          show Steps p.tables e below (T172.setTop (mkF m 176 #[.val (.int i1), .val (.int i2), .val (.int i3), .val (.int i4), .val (.int i5), .val (.int i6), .val (.int (4 : Int32)), .val (.int ((i6 &&& (2147483647 : Int32)) % (5 : Int32))), .val (.ref b143), .val (.int (own_j0_129_0_v3 i1 i2 i3 i4 i6))] [(.int (own_j0_168_0_v2 i1 i2 i3 i4 i6))])) _
          refine XS.istore X172.here hx rfl (hb hby at_176) rfl (l' := #[.val (.int i1), .val (.int i2), .val (.int i3), .val (.int i4), .val (.int i5), .val (.int i6), .val (.int (4 : Int32)), .val (.int ((i6 &&& (2147483647 : Int32)) % (5 : Int32))), .val (.ref b143), .val (.int (own_j0_168_0_v2 i1 i2 i3 i4 i6))]) rfl ?_
          exact k
        exact ⟨T172, _, X172, N172, e172, fun t k => pre178 t (by rw [show (own_j0_141_0_v2 i1 i2 i3 i4 i6) = (own_j0_168_0_v2 i1 i2 i3 i4 i6) from (if_neg hc141_169)] at k; exact k)⟩
    have pre180 : ∀ t, Steps p.tables e below (T179.setTop (mkF m 180 #[.val (.int i1), .val (.int i2), .val (.int i3), .val (.int i4), .val (.int i5), .val (.int i6), .val (.int (4 : Int32)), .val (.int ((i6 &&& (2147483647 : Int32)) % (5 : Int32))), .val (.ref b143), .val (.int (own_j0_141_0_v2 i1 i2 i3 i4 i6))] [(.int (own_j0_141_0_v2 i1 i2 i3 i4 i6))])) t → Steps p.tables e below (s₁.setTop (entryFrame m #[(.int i1), (.int i2), (.int i3), (.int i4), (.int i5), (.int i6)] maxLocals)) t := by
      intro t k
      refine pre179 _ ?_
      show Steps p.tables e below (T179.setTop (mkF m 178 #[.val (.int i1), .val (.int i2), .val (.int i3), .val (.int i4), .val (.int i5), .val (.int i6), .val (.int (4 : Int32)), .val (.int ((i6 &&& (2147483647 : Int32)) % (5 : Int32))), .val (.ref b143), .val (.int (own_j0_141_0_v2 i1 i2 i3 i4 i6))] [])) _
      refine XS.iload X179.here hx rfl (hb hby at_178) rfl ?_
      exact k
    obtain ⟨T191, Lq191, X191, N191, e191, pre191⟩ : ∃ (T' : State) (locs' : List Loc), Stand p l e room_1 s m #[(.int i1), (.int i2), (.int i3), (.int i4), (.int i5), (.int i6)] below meth c T' locs' 2 18 ∧ Fr n0 locs' ∧ T'.heap = T155.heap ∧ ∀ t, Steps p.tables e below (T'.setTop (mkF m 217 #[.val (.int i1), .val (.int i2), .val (.int i3), .val (.int i4), .val (.int i5), .val (.int i6), .val (.int (4 : Int32)), .val (.int ((i6 &&& (2147483647 : Int32)) % (5 : Int32))), .val (.ref b143), .val (.int (own_j0_180_0_v1 i1 i2 i3 i4 i6))] [])) t → Steps p.tables e below (s₁.setTop (entryFrame m #[(.int i1), (.int i2), (.int i3), (.int i4), (.int i5), (.int i6)] maxLocals)) t := by
      by_cases hc180_181 : (own_j0_141_0_v2 i1 i2 i3 i4 i6) = (0 : Int32)
      · have pre182 : ∀ t, Steps p.tables e below (T179.setTop (mkF m 217 #[.val (.int i1), .val (.int i2), .val (.int i3), .val (.int i4), .val (.int i5), .val (.int i6), .val (.int (4 : Int32)), .val (.int ((i6 &&& (2147483647 : Int32)) % (5 : Int32))), .val (.ref b143), .val (.int (own_j0_141_0_v2 i1 i2 i3 i4 i6))] [])) t → Steps p.tables e below (s₁.setTop (entryFrame m #[(.int i1), (.int i2), (.int i3), (.int i4), (.int i5), (.int i6)] maxLocals)) t := by
          intro t k
          refine pre180 _ ?_
          show Steps p.tables e below (T179.setTop (mkF m 180 #[.val (.int i1), .val (.int i2), .val (.int i3), .val (.int i4), .val (.int i5), .val (.int i6), .val (.int (4 : Int32)), .val (.int ((i6 &&& (2147483647 : Int32)) % (5 : Int32))), .val (.ref b143), .val (.int (own_j0_141_0_v2 i1 i2 i3 i4 i6))] [(.int (own_j0_141_0_v2 i1 i2 i3 i4 i6))])) _
          refine XS.ifYes X179.here hx rfl (pc0 := 180) (pc' := 217) rfl (hb hby at_180) rfl ((if0 _ _).trans (teq hc180_181).1) (by decide) (by decide) ?_
          exact k
        exact ⟨T179, _, X179, N179, e179, fun t k => pre182 t (by rw [show (own_j0_180_0_v1 i1 i2 i3 i4 i6) = (own_j0_141_0_v2 i1 i2 i3 i4 i6) from (if_pos hc180_181)] at k; exact k)⟩
      · obtain ⟨cq183, kq183, q183a, q183b, q183c⟩ := isOf hZ e179 f159
        obtain ⟨_, _, ⟨T183, L183, k183, n183⟩, -, X183, ⟨Lc183, hQ183, l183, y183, z183⟩, st183⟩ := X179.virtualBack hx (y := (⟨"com/example/baum/baum/query/NodeList$Builder", "get", "(I)I"⟩ : MethodName)) (z := (⟨"com/example/baum/baum/query/NodeList$Builder", "get", "(I)I"⟩ : MethodName)) hown (mvT hZ (hw _ (List.mem_of_getElem? (i := 30) rfl))) (mvT hZ (hw _ (List.mem_of_getElem? (i := 31) rfl))) (notFace_of_selects (args := #[]) (mvT hZ (hw _ (List.mem_of_getElem? (i := 33) rfl)))) (mvT hZ (hw _ (List.mem_of_getElem? (i := 33) rfl))) (mvT hZ (hw _ (List.mem_of_getElem? (i := 32) rfl))) (by decide) (backOf (W := 0) (rm6h l Z a0 hw [] b143 b145_0 (own_v3d_w_numbers_r0_0 ((i6 &&& (2147483647 : Int32)) % (5 : Int32)) i1 i4) (own_v3d_w_numbers_r0_1 ((i6 &&& (2147483647 : Int32)) % (5 : Int32)) i2 i3 i4) (own_v3d_w_numbers_r0_2 ((i6 &&& (2147483647 : Int32)) % (5 : Int32)) i2 i3 i4) (own_v3d_w_numbers_r0_3 ((i6 &&& (2147483647 : Int32)) % (5 : Int32)) i1 i2 i3 i4) k145_1 T155.heap n0 (Nat.le_trans Z0 K156.1) f160 f157 f155_0) hZ (hw _ (List.mem_of_getElem? (i := 34) rfl)) (hw _ (List.mem_of_getElem? (i := 3) rfl)) (by decide) (by decide)) q183a q183c (g := (mkF m 192 #[.val (.int i1), .val (.int i2), .val (.int i3), .val (.int i4), .val (.int i5), .val (.int i6), .val (.int (4 : Int32)), .val (.int ((i6 &&& (2147483647 : Int32)) % (5 : Int32))), .val (.ref b143), .val (.int (own_j0_141_0_v2 i1 i2 i3 i4 i6))] [(.int (2 : Int32)), (.ref b143)])) rfl (by rw [hml]; rfl) (Steps.refl _) (argsL := [(.int (2 : Int32))]) (rest := []) (lenOf pd_5 rfl) rfl (by show 2 * 0 + _ ≤ _; exact Nat.le_of_eq rfl) (hb hby at_192) (fun _ _ => ⟨rfl, e179, (by decide : 2 + 0 ≤ _), (by decide : 18 + 0 ≤ _)⟩)
        dsimp only [Pt.U, Pt.locs, Pt.cells, Pt.slots] at X183 l183 y183 z183 st183 hQ183
        subst l183 y183 z183
        obtain ⟨rfl, Nq183, e183⟩ := hQ183
        have N183 := Fr.app N179 Nq183
        obtain ⟨_, _, ⟨T184, L184, k184, n184⟩, -, X184, ⟨Lc184, hQ184, l184, y184, z184⟩, st184⟩ := Jvm.LawKit.callS X183 hx (y := (⟨"com/example/baum/baum/query/BuilderReverseFromPinLaw", "expect", "(IIIIIII)I"⟩ : MethodName)) hown (mvT hZ (hw _ (List.mem_of_getElem? (i := 43) rfl))) (mvT hZ (hw _ (List.mem_of_getElem? (i := 44) rfl))) (mvT hZ (hw _ (List.mem_of_getElem? (i := 45) rfl))) (mvT hZ (hw _ (List.mem_of_getElem? (i := 46) rfl))) (by decide) (backOf (W := 1) (rm9 l Z a0 hw [] (2 : Int32) ((i6 &&& (2147483647 : Int32)) % (5 : Int32)) (4 : Int32) i1 i2 i3 i4 T155.heap n0 (Nat.le_trans Z0 K156.1) ) hZ (hw _ (List.mem_of_getElem? (i := 46) rfl)) (hw _ (List.mem_of_getElem? (i := 45) rfl)) (by decide) (by decide)) (g := (mkF m 204 #[.val (.int i1), .val (.int i2), .val (.int i3), .val (.int i4), .val (.int i5), .val (.int i6), .val (.int (4 : Int32)), .val (.int ((i6 &&& (2147483647 : Int32)) % (5 : Int32))), .val (.ref b143), .val (.int (own_j0_141_0_v2 i1 i2 i3 i4 i6))] [(.int i4), (.int i3), (.int i2), (.int i1), (.int (4 : Int32)), (.int ((i6 &&& (2147483647 : Int32)) % (5 : Int32))), (.int (2 : Int32)), (.int (own_v3d_w_numbers_r0_2 ((i6 &&& (2147483647 : Int32)) % (5 : Int32)) i2 i3 i4))])) rfl (by rw [hml]; rfl) (argsL := [(.int (2 : Int32)), (.int ((i6 &&& (2147483647 : Int32)) % (5 : Int32))), (.int (4 : Int32)), (.int i1), (.int i2), (.int i3), (.int i4)]) (rest := [(.int (own_v3d_w_numbers_r0_2 ((i6 &&& (2147483647 : Int32)) % (5 : Int32)) i2 i3 i4))]) (lenOf pd_7 rfl) rfl (by show 2 * 0 + _ ≤ _; exact Nat.le_of_eq rfl) (hb hby at_204) (fun _ _ => ⟨rfl, e183, (by decide : 2 + 0 ≤ _), (by decide : 18 + 0 ≤ _)⟩)
        dsimp only [Pt.U, Pt.locs, Pt.cells, Pt.slots] at X184 l184 y184 z184 st184 hQ184
        subst l184 y184 z184
        obtain ⟨rfl, Nq184, e184⟩ := hQ184
        have N184 := Fr.app N183 Nq184
        have pre185 : ∀ t, Steps p.tables e below (T184.setTop (mkF m 207 #[.val (.int i1), .val (.int i2), .val (.int i3), .val (.int i4), .val (.int i5), .val (.int i6), .val (.int (4 : Int32)), .val (.int ((i6 &&& (2147483647 : Int32)) % (5 : Int32))), .val (.ref b143), .val (.int (own_j0_141_0_v2 i1 i2 i3 i4 i6))] [(.int (own_r10 (own_j9_2_0 (2 : Int32) ((i6 &&& (2147483647 : Int32)) % (5 : Int32)) (4 : Int32)) i1 i2 i3 i4)), (.int (own_v3d_w_numbers_r0_2 ((i6 &&& (2147483647 : Int32)) % (5 : Int32)) i2 i3 i4))])) t → Steps p.tables e below (s₁.setTop (entryFrame m #[(.int i1), (.int i2), (.int i3), (.int i4), (.int i5), (.int i6)] maxLocals)) t := by
          intro t k
          refine pre180 _ ?_
          show Steps p.tables e below (T179.setTop (mkF m 180 #[.val (.int i1), .val (.int i2), .val (.int i3), .val (.int i4), .val (.int i5), .val (.int i6), .val (.int (4 : Int32)), .val (.int ((i6 &&& (2147483647 : Int32)) % (5 : Int32))), .val (.ref b143), .val (.int (own_j0_141_0_v2 i1 i2 i3 i4 i6))] [(.int (own_j0_141_0_v2 i1 i2 i3 i4 i6))])) _
          refine XS.ifNo X179.here hx rfl (hb hby at_180) rfl ((if0 _ _).trans (feq hc180_181).1) ?_
          show Steps p.tables e below (T179.setTop (mkF m 183 #[.val (.int i1), .val (.int i2), .val (.int i3), .val (.int i4), .val (.int i5), .val (.int i6), .val (.int (4 : Int32)), .val (.int ((i6 &&& (2147483647 : Int32)) % (5 : Int32))), .val (.ref b143), .val (.int (own_j0_141_0_v2 i1 i2 i3 i4 i6))] [])) _
          refine XS.iload X179.here hx rfl (hb hby at_183) rfl ?_
          show Steps p.tables e below (T179.setTop (mkF m 185 #[.val (.int i1), .val (.int i2), .val (.int i3), .val (.int i4), .val (.int i5), .val (.int i6), .val (.int (4 : Int32)), .val (.int ((i6 &&& (2147483647 : Int32)) % (5 : Int32))), .val (.ref b143), .val (.int (own_j0_141_0_v2 i1 i2 i3 i4 i6))] [(.int (4 : Int32))])) _
          refine XS.iconst X179.here hx rfl (hb hby at_185) ?_
          show Steps p.tables e below (T179.setTop (mkF m 186 #[.val (.int i1), .val (.int i2), .val (.int i3), .val (.int i4), .val (.int i5), .val (.int i6), .val (.int (4 : Int32)), .val (.int ((i6 &&& (2147483647 : Int32)) % (5 : Int32))), .val (.ref b143), .val (.int (own_j0_141_0_v2 i1 i2 i3 i4 i6))] [(.int (2 : Int32)), (.int (4 : Int32))])) _
          refine XS.icmpNo X179.here hx rfl (hb hby at_186) rfl (tlt (by decide : (2 : Int32) < (4 : Int32))).2.2.2 ?_
          show Steps p.tables e below (T179.setTop (mkF m 189 #[.val (.int i1), .val (.int i2), .val (.int i3), .val (.int i4), .val (.int i5), .val (.int i6), .val (.int (4 : Int32)), .val (.int ((i6 &&& (2147483647 : Int32)) % (5 : Int32))), .val (.ref b143), .val (.int (own_j0_141_0_v2 i1 i2 i3 i4 i6))] [])) _
          refine XS.aload X179.here hx rfl (hb hby at_189) rfl rfl ?_
          show Steps p.tables e below (T179.setTop (mkF m 191 #[.val (.int i1), .val (.int i2), .val (.int i3), .val (.int i4), .val (.int i5), .val (.int i6), .val (.int (4 : Int32)), .val (.int ((i6 &&& (2147483647 : Int32)) % (5 : Int32))), .val (.ref b143), .val (.int (own_j0_141_0_v2 i1 i2 i3 i4 i6))] [(.ref b143)])) _
          refine XS.iconst X179.here hx rfl (hb hby at_191) ?_
          show Steps p.tables e below (T179.setTop (mkF m 192 #[.val (.int i1), .val (.int i2), .val (.int i3), .val (.int i4), .val (.int i5), .val (.int i6), .val (.int (4 : Int32)), .val (.int ((i6 &&& (2147483647 : Int32)) % (5 : Int32))), .val (.ref b143), .val (.int (own_j0_141_0_v2 i1 i2 i3 i4 i6))] [(.int (2 : Int32)), (.ref b143)])) _
          refine st183.trans ?_
          show Steps p.tables e below (T183.setTop (mkF m 195 #[.val (.int i1), .val (.int i2), .val (.int i3), .val (.int i4), .val (.int i5), .val (.int i6), .val (.int (4 : Int32)), .val (.int ((i6 &&& (2147483647 : Int32)) % (5 : Int32))), .val (.ref b143), .val (.int (own_j0_141_0_v2 i1 i2 i3 i4 i6))] [(.int (own_v3d_w_numbers_r0_2 ((i6 &&& (2147483647 : Int32)) % (5 : Int32)) i2 i3 i4))])) _
          refine XS.iconst X183.here hx rfl (hb hby at_195) ?_
          show Steps p.tables e below (T183.setTop (mkF m 196 #[.val (.int i1), .val (.int i2), .val (.int i3), .val (.int i4), .val (.int i5), .val (.int i6), .val (.int (4 : Int32)), .val (.int ((i6 &&& (2147483647 : Int32)) % (5 : Int32))), .val (.ref b143), .val (.int (own_j0_141_0_v2 i1 i2 i3 i4 i6))] [(.int (2 : Int32)), (.int (own_v3d_w_numbers_r0_2 ((i6 &&& (2147483647 : Int32)) % (5 : Int32)) i2 i3 i4))])) _
          refine XS.iload X183.here hx rfl (hb hby at_196) rfl ?_
          show Steps p.tables e below (T183.setTop (mkF m 198 #[.val (.int i1), .val (.int i2), .val (.int i3), .val (.int i4), .val (.int i5), .val (.int i6), .val (.int (4 : Int32)), .val (.int ((i6 &&& (2147483647 : Int32)) % (5 : Int32))), .val (.ref b143), .val (.int (own_j0_141_0_v2 i1 i2 i3 i4 i6))] [(.int ((i6 &&& (2147483647 : Int32)) % (5 : Int32))), (.int (2 : Int32)), (.int (own_v3d_w_numbers_r0_2 ((i6 &&& (2147483647 : Int32)) % (5 : Int32)) i2 i3 i4))])) _
          refine XS.iload X183.here hx rfl (hb hby at_198) rfl ?_
          show Steps p.tables e below (T183.setTop (mkF m 200 #[.val (.int i1), .val (.int i2), .val (.int i3), .val (.int i4), .val (.int i5), .val (.int i6), .val (.int (4 : Int32)), .val (.int ((i6 &&& (2147483647 : Int32)) % (5 : Int32))), .val (.ref b143), .val (.int (own_j0_141_0_v2 i1 i2 i3 i4 i6))] [(.int (4 : Int32)), (.int ((i6 &&& (2147483647 : Int32)) % (5 : Int32))), (.int (2 : Int32)), (.int (own_v3d_w_numbers_r0_2 ((i6 &&& (2147483647 : Int32)) % (5 : Int32)) i2 i3 i4))])) _
          refine XS.iloadN X183.here hx rfl (hb hby at_200) rfl ?_
          show Steps p.tables e below (T183.setTop (mkF m 201 #[.val (.int i1), .val (.int i2), .val (.int i3), .val (.int i4), .val (.int i5), .val (.int i6), .val (.int (4 : Int32)), .val (.int ((i6 &&& (2147483647 : Int32)) % (5 : Int32))), .val (.ref b143), .val (.int (own_j0_141_0_v2 i1 i2 i3 i4 i6))] [(.int i1), (.int (4 : Int32)), (.int ((i6 &&& (2147483647 : Int32)) % (5 : Int32))), (.int (2 : Int32)), (.int (own_v3d_w_numbers_r0_2 ((i6 &&& (2147483647 : Int32)) % (5 : Int32)) i2 i3 i4))])) _
          refine XS.iloadN X183.here hx rfl (hb hby at_201) rfl ?_
          show Steps p.tables e below (T183.setTop (mkF m 202 #[.val (.int i1), .val (.int i2), .val (.int i3), .val (.int i4), .val (.int i5), .val (.int i6), .val (.int (4 : Int32)), .val (.int ((i6 &&& (2147483647 : Int32)) % (5 : Int32))), .val (.ref b143), .val (.int (own_j0_141_0_v2 i1 i2 i3 i4 i6))] [(.int i2), (.int i1), (.int (4 : Int32)), (.int ((i6 &&& (2147483647 : Int32)) % (5 : Int32))), (.int (2 : Int32)), (.int (own_v3d_w_numbers_r0_2 ((i6 &&& (2147483647 : Int32)) % (5 : Int32)) i2 i3 i4))])) _
          refine XS.iloadN X183.here hx rfl (hb hby at_202) rfl ?_
          show Steps p.tables e below (T183.setTop (mkF m 203 #[.val (.int i1), .val (.int i2), .val (.int i3), .val (.int i4), .val (.int i5), .val (.int i6), .val (.int (4 : Int32)), .val (.int ((i6 &&& (2147483647 : Int32)) % (5 : Int32))), .val (.ref b143), .val (.int (own_j0_141_0_v2 i1 i2 i3 i4 i6))] [(.int i3), (.int i2), (.int i1), (.int (4 : Int32)), (.int ((i6 &&& (2147483647 : Int32)) % (5 : Int32))), (.int (2 : Int32)), (.int (own_v3d_w_numbers_r0_2 ((i6 &&& (2147483647 : Int32)) % (5 : Int32)) i2 i3 i4))])) _
          refine XS.iloadN X183.here hx rfl (hb hby at_203) rfl ?_
          show Steps p.tables e below (T183.setTop (mkF m 204 #[.val (.int i1), .val (.int i2), .val (.int i3), .val (.int i4), .val (.int i5), .val (.int i6), .val (.int (4 : Int32)), .val (.int ((i6 &&& (2147483647 : Int32)) % (5 : Int32))), .val (.ref b143), .val (.int (own_j0_141_0_v2 i1 i2 i3 i4 i6))] [(.int i4), (.int i3), (.int i2), (.int i1), (.int (4 : Int32)), (.int ((i6 &&& (2147483647 : Int32)) % (5 : Int32))), (.int (2 : Int32)), (.int (own_v3d_w_numbers_r0_2 ((i6 &&& (2147483647 : Int32)) % (5 : Int32)) i2 i3 i4))])) _
          refine st184 _ ?_
          exact k
        have pre189 : ∀ t, Steps p.tables e below (T184.setTop (mkF m 215 #[.val (.int i1), .val (.int i2), .val (.int i3), .val (.int i4), .val (.int i5), .val (.int i6), .val (.int (4 : Int32)), .val (.int ((i6 &&& (2147483647 : Int32)) % (5 : Int32))), .val (.ref b143), .val (.int (own_j0_141_0_v2 i1 i2 i3 i4 i6))] [(.int (own_j0_207_0_v1 i1 i2 i3 i4 i6))])) t → Steps p.tables e below (s₁.setTop (entryFrame m #[(.int i1), (.int i2), (.int i3), (.int i4), (.int i5), (.int i6)] maxLocals)) t := by
          by_cases hc207_186 : (own_v3d_w_numbers_r0_2 ((i6 &&& (2147483647 : Int32)) % (5 : Int32)) i2 i3 i4) = (own_r10 (own_j9_2_0 (2 : Int32) ((i6 &&& (2147483647 : Int32)) % (5 : Int32)) (4 : Int32)) i1 i2 i3 i4)
          · have pre187 : ∀ t, Steps p.tables e below (T184.setTop (mkF m 215 #[.val (.int i1), .val (.int i2), .val (.int i3), .val (.int i4), .val (.int i5), .val (.int i6), .val (.int (4 : Int32)), .val (.int ((i6 &&& (2147483647 : Int32)) % (5 : Int32))), .val (.ref b143), .val (.int (own_j0_141_0_v2 i1 i2 i3 i4 i6))] [(.int (1 : Int32))])) t → Steps p.tables e below (s₁.setTop (entryFrame m #[(.int i1), (.int i2), (.int i3), (.int i4), (.int i5), (.int i6)] maxLocals)) t := by
              intro t k
              refine pre185 _ ?_
              show Steps p.tables e below (T184.setTop (mkF m 207 #[.val (.int i1), .val (.int i2), .val (.int i3), .val (.int i4), .val (.int i5), .val (.int i6), .val (.int (4 : Int32)), .val (.int ((i6 &&& (2147483647 : Int32)) % (5 : Int32))), .val (.ref b143), .val (.int (own_j0_141_0_v2 i1 i2 i3 i4 i6))] [(.int (own_r10 (own_j9_2_0 (2 : Int32) ((i6 &&& (2147483647 : Int32)) % (5 : Int32)) (4 : Int32)) i1 i2 i3 i4)), (.int (own_v3d_w_numbers_r0_2 ((i6 &&& (2147483647 : Int32)) % (5 : Int32)) i2 i3 i4))])) _
              refine XS.icmpNo X184.here hx rfl (hb hby at_207) rfl (teq hc207_186).2 ?_
              show Steps p.tables e below (T184.setTop (mkF m 210 #[.val (.int i1), .val (.int i2), .val (.int i3), .val (.int i4), .val (.int i5), .val (.int i6), .val (.int (4 : Int32)), .val (.int ((i6 &&& (2147483647 : Int32)) % (5 : Int32))), .val (.ref b143), .val (.int (own_j0_141_0_v2 i1 i2 i3 i4 i6))] [])) _
              refine XS.iconst X184.here hx rfl (hb hby at_210) ?_
              show Steps p.tables e below (T184.setTop (mkF m 211 #[.val (.int i1), .val (.int i2), .val (.int i3), .val (.int i4), .val (.int i5), .val (.int i6), .val (.int (4 : Int32)), .val (.int ((i6 &&& (2147483647 : Int32)) % (5 : Int32))), .val (.ref b143), .val (.int (own_j0_141_0_v2 i1 i2 i3 i4 i6))] [(.int (1 : Int32))])) _
              refine XS.goto X184.here hx rfl (pc0 := 211) (pc' := 215) rfl (hb hby at_211) (by decide) (by decide) ?_
              exact k
            exact fun t k => pre187 t (by rw [show (own_j0_207_0_v1 i1 i2 i3 i4 i6) = (1 : Int32) from (if_pos hc207_186)] at k; exact k)
          · have pre188 : ∀ t, Steps p.tables e below (T184.setTop (mkF m 215 #[.val (.int i1), .val (.int i2), .val (.int i3), .val (.int i4), .val (.int i5), .val (.int i6), .val (.int (4 : Int32)), .val (.int ((i6 &&& (2147483647 : Int32)) % (5 : Int32))), .val (.ref b143), .val (.int (own_j0_141_0_v2 i1 i2 i3 i4 i6))] [(.int (0 : Int32))])) t → Steps p.tables e below (s₁.setTop (entryFrame m #[(.int i1), (.int i2), (.int i3), (.int i4), (.int i5), (.int i6)] maxLocals)) t := by
              intro t k
              refine pre185 _ ?_
              show Steps p.tables e below (T184.setTop (mkF m 207 #[.val (.int i1), .val (.int i2), .val (.int i3), .val (.int i4), .val (.int i5), .val (.int i6), .val (.int (4 : Int32)), .val (.int ((i6 &&& (2147483647 : Int32)) % (5 : Int32))), .val (.ref b143), .val (.int (own_j0_141_0_v2 i1 i2 i3 i4 i6))] [(.int (own_r10 (own_j9_2_0 (2 : Int32) ((i6 &&& (2147483647 : Int32)) % (5 : Int32)) (4 : Int32)) i1 i2 i3 i4)), (.int (own_v3d_w_numbers_r0_2 ((i6 &&& (2147483647 : Int32)) % (5 : Int32)) i2 i3 i4))])) _
              refine XS.icmpYes X184.here hx rfl (pc0 := 207) (pc' := 214) rfl (hb hby at_207) rfl (feq hc207_186).2 (by decide) (by decide) ?_
              show Steps p.tables e below (T184.setTop (mkF m 214 #[.val (.int i1), .val (.int i2), .val (.int i3), .val (.int i4), .val (.int i5), .val (.int i6), .val (.int (4 : Int32)), .val (.int ((i6 &&& (2147483647 : Int32)) % (5 : Int32))), .val (.ref b143), .val (.int (own_j0_141_0_v2 i1 i2 i3 i4 i6))] [])) _
              refine XS.iconst X184.here hx rfl (hb hby at_214) ?_
              exact k
            exact fun t k => pre188 t (by rw [show (own_j0_207_0_v1 i1 i2 i3 i4 i6) = (0 : Int32) from (if_neg hc207_186)] at k; exact k)
        have pre190 : ∀ t, Steps p.tables e below (T184.setTop (mkF m 217 #[.val (.int i1), .val (.int i2), .val (.int i3), .val (.int i4), .val (.int i5), .val (.int i6), .val (.int (4 : Int32)), .val (.int ((i6 &&& (2147483647 : Int32)) % (5 : Int32))), .val (.ref b143), .val (.int (own_j0_207_0_v1 i1 i2 i3 i4 i6))] [])) t → Steps p.tables e below (s₁.setTop (entryFrame m #[(.int i1), (.int i2), (.int i3), (.int i4), (.int i5), (.int i6)] maxLocals)) t := by
          intro t k
          refine pre189 _ ?_
          show Steps p.tables e below (T184.setTop (mkF m 215 #[.val (.int i1), .val (.int i2), .val (.int i3), .val (.int i4), .val (.int i5), .val (.int i6), .val (.int (4 : Int32)), .val (.int ((i6 &&& (2147483647 : Int32)) % (5 : Int32))), .val (.ref b143), .val (.int (own_j0_141_0_v2 i1 i2 i3 i4 i6))] [(.int (own_j0_207_0_v1 i1 i2 i3 i4 i6))])) _
          refine XS.istore X184.here hx rfl (hb hby at_215) rfl (l' := #[.val (.int i1), .val (.int i2), .val (.int i3), .val (.int i4), .val (.int i5), .val (.int i6), .val (.int (4 : Int32)), .val (.int ((i6 &&& (2147483647 : Int32)) % (5 : Int32))), .val (.ref b143), .val (.int (own_j0_207_0_v1 i1 i2 i3 i4 i6))]) rfl ?_
          exact k
        exact ⟨T184, _, X184, N184, e184, fun t k => pre190 t (by rw [show (own_j0_180_0_v1 i1 i2 i3 i4 i6) = (own_j0_207_0_v1 i1 i2 i3 i4 i6) from (if_neg hc180_181)] at k; exact k)⟩
    have pre192 : ∀ t, Steps p.tables e below (T191.setTop (mkF m 219 #[.val (.int i1), .val (.int i2), .val (.int i3), .val (.int i4), .val (.int i5), .val (.int i6), .val (.int (4 : Int32)), .val (.int ((i6 &&& (2147483647 : Int32)) % (5 : Int32))), .val (.ref b143), .val (.int (own_j0_180_0_v1 i1 i2 i3 i4 i6))] [(.int (own_j0_180_0_v1 i1 i2 i3 i4 i6))])) t → Steps p.tables e below (s₁.setTop (entryFrame m #[(.int i1), (.int i2), (.int i3), (.int i4), (.int i5), (.int i6)] maxLocals)) t := by
      intro t k
      refine pre191 _ ?_
      show Steps p.tables e below (T191.setTop (mkF m 217 #[.val (.int i1), .val (.int i2), .val (.int i3), .val (.int i4), .val (.int i5), .val (.int i6), .val (.int (4 : Int32)), .val (.int ((i6 &&& (2147483647 : Int32)) % (5 : Int32))), .val (.ref b143), .val (.int (own_j0_180_0_v1 i1 i2 i3 i4 i6))] [])) _
      refine XS.iload X191.here hx rfl (hb hby at_217) rfl ?_
      exact k
    obtain ⟨T203, Lq203, X203, N203, e203, pre203⟩ : ∃ (T' : State) (locs' : List Loc), Stand p l e room_1 s m #[(.int i1), (.int i2), (.int i3), (.int i4), (.int i5), (.int i6)] below meth c T' locs' 2 18 ∧ Fr n0 locs' ∧ T'.heap = T155.heap ∧ ∀ t, Steps p.tables e below (T'.setTop (mkF m 256 #[.val (.int i1), .val (.int i2), .val (.int i3), .val (.int i4), .val (.int i5), .val (.int i6), .val (.int (4 : Int32)), .val (.int ((i6 &&& (2147483647 : Int32)) % (5 : Int32))), .val (.ref b143), .val (.int (own_j0_219_0 i1 i2 i3 i4 i6))] [])) t → Steps p.tables e below (s₁.setTop (entryFrame m #[(.int i1), (.int i2), (.int i3), (.int i4), (.int i5), (.int i6)] maxLocals)) t := by
      by_cases hc219_193 : (own_j0_180_0_v1 i1 i2 i3 i4 i6) = (0 : Int32)
      · have pre194 : ∀ t, Steps p.tables e below (T191.setTop (mkF m 256 #[.val (.int i1), .val (.int i2), .val (.int i3), .val (.int i4), .val (.int i5), .val (.int i6), .val (.int (4 : Int32)), .val (.int ((i6 &&& (2147483647 : Int32)) % (5 : Int32))), .val (.ref b143), .val (.int (own_j0_180_0_v1 i1 i2 i3 i4 i6))] [])) t → Steps p.tables e below (s₁.setTop (entryFrame m #[(.int i1), (.int i2), (.int i3), (.int i4), (.int i5), (.int i6)] maxLocals)) t := by
          intro t k
          refine pre192 _ ?_
          show Steps p.tables e below (T191.setTop (mkF m 219 #[.val (.int i1), .val (.int i2), .val (.int i3), .val (.int i4), .val (.int i5), .val (.int i6), .val (.int (4 : Int32)), .val (.int ((i6 &&& (2147483647 : Int32)) % (5 : Int32))), .val (.ref b143), .val (.int (own_j0_180_0_v1 i1 i2 i3 i4 i6))] [(.int (own_j0_180_0_v1 i1 i2 i3 i4 i6))])) _
          refine XS.ifYes X191.here hx rfl (pc0 := 219) (pc' := 256) rfl (hb hby at_219) rfl ((if0 _ _).trans (teq hc219_193).1) (by decide) (by decide) ?_
          exact k
        exact ⟨T191, _, X191, N191, e191, fun t k => pre194 t (by rw [show (own_j0_219_0 i1 i2 i3 i4 i6) = (own_j0_180_0_v1 i1 i2 i3 i4 i6) from (if_pos hc219_193)] at k; exact k)⟩
      · obtain ⟨cq195, kq195, q195a, q195b, q195c⟩ := isOf hZ e191 f159
        obtain ⟨_, _, ⟨T195, L195, k195, n195⟩, -, X195, ⟨Lc195, hQ195, l195, y195, z195⟩, st195⟩ := X191.virtualBack hx (y := (⟨"com/example/baum/baum/query/NodeList$Builder", "get", "(I)I"⟩ : MethodName)) (z := (⟨"com/example/baum/baum/query/NodeList$Builder", "get", "(I)I"⟩ : MethodName)) hown (mvT hZ (hw _ (List.mem_of_getElem? (i := 30) rfl))) (mvT hZ (hw _ (List.mem_of_getElem? (i := 31) rfl))) (notFace_of_selects (args := #[]) (mvT hZ (hw _ (List.mem_of_getElem? (i := 33) rfl)))) (mvT hZ (hw _ (List.mem_of_getElem? (i := 33) rfl))) (mvT hZ (hw _ (List.mem_of_getElem? (i := 32) rfl))) (by decide) (backOf (W := 0) (rm6i l Z a0 hw [] b143 b145_0 (own_v3d_w_numbers_r0_0 ((i6 &&& (2147483647 : Int32)) % (5 : Int32)) i1 i4) (own_v3d_w_numbers_r0_1 ((i6 &&& (2147483647 : Int32)) % (5 : Int32)) i2 i3 i4) (own_v3d_w_numbers_r0_2 ((i6 &&& (2147483647 : Int32)) % (5 : Int32)) i2 i3 i4) (own_v3d_w_numbers_r0_3 ((i6 &&& (2147483647 : Int32)) % (5 : Int32)) i1 i2 i3 i4) k145_1 T155.heap n0 (Nat.le_trans Z0 K156.1) f160 f157 f155_0) hZ (hw _ (List.mem_of_getElem? (i := 34) rfl)) (hw _ (List.mem_of_getElem? (i := 3) rfl)) (by decide) (by decide)) q195a q195c (g := (mkF m 231 #[.val (.int i1), .val (.int i2), .val (.int i3), .val (.int i4), .val (.int i5), .val (.int i6), .val (.int (4 : Int32)), .val (.int ((i6 &&& (2147483647 : Int32)) % (5 : Int32))), .val (.ref b143), .val (.int (own_j0_180_0_v1 i1 i2 i3 i4 i6))] [(.int (3 : Int32)), (.ref b143)])) rfl (by rw [hml]; rfl) (Steps.refl _) (argsL := [(.int (3 : Int32))]) (rest := []) (lenOf pd_5 rfl) rfl (by show 2 * 0 + _ ≤ _; exact Nat.le_of_eq rfl) (hb hby at_231) (fun _ _ => ⟨rfl, e191, (by decide : 2 + 0 ≤ _), (by decide : 18 + 0 ≤ _)⟩)
        dsimp only [Pt.U, Pt.locs, Pt.cells, Pt.slots] at X195 l195 y195 z195 st195 hQ195
        subst l195 y195 z195
        obtain ⟨rfl, Nq195, e195⟩ := hQ195
        have N195 := Fr.app N191 Nq195
        obtain ⟨_, _, ⟨T196, L196, k196, n196⟩, -, X196, ⟨Lc196, hQ196, l196, y196, z196⟩, st196⟩ := Jvm.LawKit.callS X195 hx (y := (⟨"com/example/baum/baum/query/BuilderReverseFromPinLaw", "expect", "(IIIIIII)I"⟩ : MethodName)) hown (mvT hZ (hw _ (List.mem_of_getElem? (i := 43) rfl))) (mvT hZ (hw _ (List.mem_of_getElem? (i := 44) rfl))) (mvT hZ (hw _ (List.mem_of_getElem? (i := 45) rfl))) (mvT hZ (hw _ (List.mem_of_getElem? (i := 46) rfl))) (by decide) (backOf (W := 1) (rm9 l Z a0 hw [] (3 : Int32) ((i6 &&& (2147483647 : Int32)) % (5 : Int32)) (4 : Int32) i1 i2 i3 i4 T155.heap n0 (Nat.le_trans Z0 K156.1) ) hZ (hw _ (List.mem_of_getElem? (i := 46) rfl)) (hw _ (List.mem_of_getElem? (i := 45) rfl)) (by decide) (by decide)) (g := (mkF m 243 #[.val (.int i1), .val (.int i2), .val (.int i3), .val (.int i4), .val (.int i5), .val (.int i6), .val (.int (4 : Int32)), .val (.int ((i6 &&& (2147483647 : Int32)) % (5 : Int32))), .val (.ref b143), .val (.int (own_j0_180_0_v1 i1 i2 i3 i4 i6))] [(.int i4), (.int i3), (.int i2), (.int i1), (.int (4 : Int32)), (.int ((i6 &&& (2147483647 : Int32)) % (5 : Int32))), (.int (3 : Int32)), (.int (own_v3d_w_numbers_r0_3 ((i6 &&& (2147483647 : Int32)) % (5 : Int32)) i1 i2 i3 i4))])) rfl (by rw [hml]; rfl) (argsL := [(.int (3 : Int32)), (.int ((i6 &&& (2147483647 : Int32)) % (5 : Int32))), (.int (4 : Int32)), (.int i1), (.int i2), (.int i3), (.int i4)]) (rest := [(.int (own_v3d_w_numbers_r0_3 ((i6 &&& (2147483647 : Int32)) % (5 : Int32)) i1 i2 i3 i4))]) (lenOf pd_7 rfl) rfl (by show 2 * 0 + _ ≤ _; exact Nat.le_of_eq rfl) (hb hby at_243) (fun _ _ => ⟨rfl, e195, (by decide : 2 + 0 ≤ _), (by decide : 18 + 0 ≤ _)⟩)
        dsimp only [Pt.U, Pt.locs, Pt.cells, Pt.slots] at X196 l196 y196 z196 st196 hQ196
        subst l196 y196 z196
        obtain ⟨rfl, Nq196, e196⟩ := hQ196
        have N196 := Fr.app N195 Nq196
        have pre197 : ∀ t, Steps p.tables e below (T196.setTop (mkF m 246 #[.val (.int i1), .val (.int i2), .val (.int i3), .val (.int i4), .val (.int i5), .val (.int i6), .val (.int (4 : Int32)), .val (.int ((i6 &&& (2147483647 : Int32)) % (5 : Int32))), .val (.ref b143), .val (.int (own_j0_180_0_v1 i1 i2 i3 i4 i6))] [(.int (own_r10 (own_j9_2_0 (3 : Int32) ((i6 &&& (2147483647 : Int32)) % (5 : Int32)) (4 : Int32)) i1 i2 i3 i4)), (.int (own_v3d_w_numbers_r0_3 ((i6 &&& (2147483647 : Int32)) % (5 : Int32)) i1 i2 i3 i4))])) t → Steps p.tables e below (s₁.setTop (entryFrame m #[(.int i1), (.int i2), (.int i3), (.int i4), (.int i5), (.int i6)] maxLocals)) t := by
          intro t k
          refine pre192 _ ?_
          show Steps p.tables e below (T191.setTop (mkF m 219 #[.val (.int i1), .val (.int i2), .val (.int i3), .val (.int i4), .val (.int i5), .val (.int i6), .val (.int (4 : Int32)), .val (.int ((i6 &&& (2147483647 : Int32)) % (5 : Int32))), .val (.ref b143), .val (.int (own_j0_180_0_v1 i1 i2 i3 i4 i6))] [(.int (own_j0_180_0_v1 i1 i2 i3 i4 i6))])) _
          refine XS.ifNo X191.here hx rfl (hb hby at_219) rfl ((if0 _ _).trans (feq hc219_193).1) ?_
          show Steps p.tables e below (T191.setTop (mkF m 222 #[.val (.int i1), .val (.int i2), .val (.int i3), .val (.int i4), .val (.int i5), .val (.int i6), .val (.int (4 : Int32)), .val (.int ((i6 &&& (2147483647 : Int32)) % (5 : Int32))), .val (.ref b143), .val (.int (own_j0_180_0_v1 i1 i2 i3 i4 i6))] [])) _
          refine XS.iload X191.here hx rfl (hb hby at_222) rfl ?_
          show Steps p.tables e below (T191.setTop (mkF m 224 #[.val (.int i1), .val (.int i2), .val (.int i3), .val (.int i4), .val (.int i5), .val (.int i6), .val (.int (4 : Int32)), .val (.int ((i6 &&& (2147483647 : Int32)) % (5 : Int32))), .val (.ref b143), .val (.int (own_j0_180_0_v1 i1 i2 i3 i4 i6))] [(.int (4 : Int32))])) _
          refine XS.iconst X191.here hx rfl (hb hby at_224) ?_
          show Steps p.tables e below (T191.setTop (mkF m 225 #[.val (.int i1), .val (.int i2), .val (.int i3), .val (.int i4), .val (.int i5), .val (.int i6), .val (.int (4 : Int32)), .val (.int ((i6 &&& (2147483647 : Int32)) % (5 : Int32))), .val (.ref b143), .val (.int (own_j0_180_0_v1 i1 i2 i3 i4 i6))] [(.int (3 : Int32)), (.int (4 : Int32))])) _
          refine XS.icmpNo X191.here hx rfl (hb hby at_225) rfl (tlt (by decide : (3 : Int32) < (4 : Int32))).2.2.2 ?_
          show Steps p.tables e below (T191.setTop (mkF m 228 #[.val (.int i1), .val (.int i2), .val (.int i3), .val (.int i4), .val (.int i5), .val (.int i6), .val (.int (4 : Int32)), .val (.int ((i6 &&& (2147483647 : Int32)) % (5 : Int32))), .val (.ref b143), .val (.int (own_j0_180_0_v1 i1 i2 i3 i4 i6))] [])) _
          refine XS.aload X191.here hx rfl (hb hby at_228) rfl rfl ?_
          show Steps p.tables e below (T191.setTop (mkF m 230 #[.val (.int i1), .val (.int i2), .val (.int i3), .val (.int i4), .val (.int i5), .val (.int i6), .val (.int (4 : Int32)), .val (.int ((i6 &&& (2147483647 : Int32)) % (5 : Int32))), .val (.ref b143), .val (.int (own_j0_180_0_v1 i1 i2 i3 i4 i6))] [(.ref b143)])) _
          refine XS.iconst X191.here hx rfl (hb hby at_230) ?_
          show Steps p.tables e below (T191.setTop (mkF m 231 #[.val (.int i1), .val (.int i2), .val (.int i3), .val (.int i4), .val (.int i5), .val (.int i6), .val (.int (4 : Int32)), .val (.int ((i6 &&& (2147483647 : Int32)) % (5 : Int32))), .val (.ref b143), .val (.int (own_j0_180_0_v1 i1 i2 i3 i4 i6))] [(.int (3 : Int32)), (.ref b143)])) _
          refine st195.trans ?_
          show Steps p.tables e below (T195.setTop (mkF m 234 #[.val (.int i1), .val (.int i2), .val (.int i3), .val (.int i4), .val (.int i5), .val (.int i6), .val (.int (4 : Int32)), .val (.int ((i6 &&& (2147483647 : Int32)) % (5 : Int32))), .val (.ref b143), .val (.int (own_j0_180_0_v1 i1 i2 i3 i4 i6))] [(.int (own_v3d_w_numbers_r0_3 ((i6 &&& (2147483647 : Int32)) % (5 : Int32)) i1 i2 i3 i4))])) _
          refine XS.iconst X195.here hx rfl (hb hby at_234) ?_
          show Steps p.tables e below (T195.setTop (mkF m 235 #[.val (.int i1), .val (.int i2), .val (.int i3), .val (.int i4), .val (.int i5), .val (.int i6), .val (.int (4 : Int32)), .val (.int ((i6 &&& (2147483647 : Int32)) % (5 : Int32))), .val (.ref b143), .val (.int (own_j0_180_0_v1 i1 i2 i3 i4 i6))] [(.int (3 : Int32)), (.int (own_v3d_w_numbers_r0_3 ((i6 &&& (2147483647 : Int32)) % (5 : Int32)) i1 i2 i3 i4))])) _
          refine XS.iload X195.here hx rfl (hb hby at_235) rfl ?_
          show Steps p.tables e below (T195.setTop (mkF m 237 #[.val (.int i1), .val (.int i2), .val (.int i3), .val (.int i4), .val (.int i5), .val (.int i6), .val (.int (4 : Int32)), .val (.int ((i6 &&& (2147483647 : Int32)) % (5 : Int32))), .val (.ref b143), .val (.int (own_j0_180_0_v1 i1 i2 i3 i4 i6))] [(.int ((i6 &&& (2147483647 : Int32)) % (5 : Int32))), (.int (3 : Int32)), (.int (own_v3d_w_numbers_r0_3 ((i6 &&& (2147483647 : Int32)) % (5 : Int32)) i1 i2 i3 i4))])) _
          refine XS.iload X195.here hx rfl (hb hby at_237) rfl ?_
          show Steps p.tables e below (T195.setTop (mkF m 239 #[.val (.int i1), .val (.int i2), .val (.int i3), .val (.int i4), .val (.int i5), .val (.int i6), .val (.int (4 : Int32)), .val (.int ((i6 &&& (2147483647 : Int32)) % (5 : Int32))), .val (.ref b143), .val (.int (own_j0_180_0_v1 i1 i2 i3 i4 i6))] [(.int (4 : Int32)), (.int ((i6 &&& (2147483647 : Int32)) % (5 : Int32))), (.int (3 : Int32)), (.int (own_v3d_w_numbers_r0_3 ((i6 &&& (2147483647 : Int32)) % (5 : Int32)) i1 i2 i3 i4))])) _
          refine XS.iloadN X195.here hx rfl (hb hby at_239) rfl ?_
          show Steps p.tables e below (T195.setTop (mkF m 240 #[.val (.int i1), .val (.int i2), .val (.int i3), .val (.int i4), .val (.int i5), .val (.int i6), .val (.int (4 : Int32)), .val (.int ((i6 &&& (2147483647 : Int32)) % (5 : Int32))), .val (.ref b143), .val (.int (own_j0_180_0_v1 i1 i2 i3 i4 i6))] [(.int i1), (.int (4 : Int32)), (.int ((i6 &&& (2147483647 : Int32)) % (5 : Int32))), (.int (3 : Int32)), (.int (own_v3d_w_numbers_r0_3 ((i6 &&& (2147483647 : Int32)) % (5 : Int32)) i1 i2 i3 i4))])) _
          refine XS.iloadN X195.here hx rfl (hb hby at_240) rfl ?_
          show Steps p.tables e below (T195.setTop (mkF m 241 #[.val (.int i1), .val (.int i2), .val (.int i3), .val (.int i4), .val (.int i5), .val (.int i6), .val (.int (4 : Int32)), .val (.int ((i6 &&& (2147483647 : Int32)) % (5 : Int32))), .val (.ref b143), .val (.int (own_j0_180_0_v1 i1 i2 i3 i4 i6))] [(.int i2), (.int i1), (.int (4 : Int32)), (.int ((i6 &&& (2147483647 : Int32)) % (5 : Int32))), (.int (3 : Int32)), (.int (own_v3d_w_numbers_r0_3 ((i6 &&& (2147483647 : Int32)) % (5 : Int32)) i1 i2 i3 i4))])) _
          refine XS.iloadN X195.here hx rfl (hb hby at_241) rfl ?_
          show Steps p.tables e below (T195.setTop (mkF m 242 #[.val (.int i1), .val (.int i2), .val (.int i3), .val (.int i4), .val (.int i5), .val (.int i6), .val (.int (4 : Int32)), .val (.int ((i6 &&& (2147483647 : Int32)) % (5 : Int32))), .val (.ref b143), .val (.int (own_j0_180_0_v1 i1 i2 i3 i4 i6))] [(.int i3), (.int i2), (.int i1), (.int (4 : Int32)), (.int ((i6 &&& (2147483647 : Int32)) % (5 : Int32))), (.int (3 : Int32)), (.int (own_v3d_w_numbers_r0_3 ((i6 &&& (2147483647 : Int32)) % (5 : Int32)) i1 i2 i3 i4))])) _
          refine XS.iloadN X195.here hx rfl (hb hby at_242) rfl ?_
          show Steps p.tables e below (T195.setTop (mkF m 243 #[.val (.int i1), .val (.int i2), .val (.int i3), .val (.int i4), .val (.int i5), .val (.int i6), .val (.int (4 : Int32)), .val (.int ((i6 &&& (2147483647 : Int32)) % (5 : Int32))), .val (.ref b143), .val (.int (own_j0_180_0_v1 i1 i2 i3 i4 i6))] [(.int i4), (.int i3), (.int i2), (.int i1), (.int (4 : Int32)), (.int ((i6 &&& (2147483647 : Int32)) % (5 : Int32))), (.int (3 : Int32)), (.int (own_v3d_w_numbers_r0_3 ((i6 &&& (2147483647 : Int32)) % (5 : Int32)) i1 i2 i3 i4))])) _
          refine st196 _ ?_
          exact k
        have pre201 : ∀ t, Steps p.tables e below (T196.setTop (mkF m 254 #[.val (.int i1), .val (.int i2), .val (.int i3), .val (.int i4), .val (.int i5), .val (.int i6), .val (.int (4 : Int32)), .val (.int ((i6 &&& (2147483647 : Int32)) % (5 : Int32))), .val (.ref b143), .val (.int (own_j0_180_0_v1 i1 i2 i3 i4 i6))] [(.int (own_j0_246_0 i1 i2 i3 i4 i6))])) t → Steps p.tables e below (s₁.setTop (entryFrame m #[(.int i1), (.int i2), (.int i3), (.int i4), (.int i5), (.int i6)] maxLocals)) t := by
          by_cases hc246_198 : (own_v3d_w_numbers_r0_3 ((i6 &&& (2147483647 : Int32)) % (5 : Int32)) i1 i2 i3 i4) = (own_r10 (own_j9_2_0 (3 : Int32) ((i6 &&& (2147483647 : Int32)) % (5 : Int32)) (4 : Int32)) i1 i2 i3 i4)
          · have pre199 : ∀ t, Steps p.tables e below (T196.setTop (mkF m 254 #[.val (.int i1), .val (.int i2), .val (.int i3), .val (.int i4), .val (.int i5), .val (.int i6), .val (.int (4 : Int32)), .val (.int ((i6 &&& (2147483647 : Int32)) % (5 : Int32))), .val (.ref b143), .val (.int (own_j0_180_0_v1 i1 i2 i3 i4 i6))] [(.int (1 : Int32))])) t → Steps p.tables e below (s₁.setTop (entryFrame m #[(.int i1), (.int i2), (.int i3), (.int i4), (.int i5), (.int i6)] maxLocals)) t := by
              intro t k
              refine pre197 _ ?_
              show Steps p.tables e below (T196.setTop (mkF m 246 #[.val (.int i1), .val (.int i2), .val (.int i3), .val (.int i4), .val (.int i5), .val (.int i6), .val (.int (4 : Int32)), .val (.int ((i6 &&& (2147483647 : Int32)) % (5 : Int32))), .val (.ref b143), .val (.int (own_j0_180_0_v1 i1 i2 i3 i4 i6))] [(.int (own_r10 (own_j9_2_0 (3 : Int32) ((i6 &&& (2147483647 : Int32)) % (5 : Int32)) (4 : Int32)) i1 i2 i3 i4)), (.int (own_v3d_w_numbers_r0_3 ((i6 &&& (2147483647 : Int32)) % (5 : Int32)) i1 i2 i3 i4))])) _
              refine XS.icmpNo X196.here hx rfl (hb hby at_246) rfl (teq hc246_198).2 ?_
              show Steps p.tables e below (T196.setTop (mkF m 249 #[.val (.int i1), .val (.int i2), .val (.int i3), .val (.int i4), .val (.int i5), .val (.int i6), .val (.int (4 : Int32)), .val (.int ((i6 &&& (2147483647 : Int32)) % (5 : Int32))), .val (.ref b143), .val (.int (own_j0_180_0_v1 i1 i2 i3 i4 i6))] [])) _
              refine XS.iconst X196.here hx rfl (hb hby at_249) ?_
              show Steps p.tables e below (T196.setTop (mkF m 250 #[.val (.int i1), .val (.int i2), .val (.int i3), .val (.int i4), .val (.int i5), .val (.int i6), .val (.int (4 : Int32)), .val (.int ((i6 &&& (2147483647 : Int32)) % (5 : Int32))), .val (.ref b143), .val (.int (own_j0_180_0_v1 i1 i2 i3 i4 i6))] [(.int (1 : Int32))])) _
              refine XS.goto X196.here hx rfl (pc0 := 250) (pc' := 254) rfl (hb hby at_250) (by decide) (by decide) ?_
              exact k
            exact fun t k => pre199 t (by rw [show (own_j0_246_0 i1 i2 i3 i4 i6) = (1 : Int32) from (if_pos hc246_198)] at k; exact k)
          · have pre200 : ∀ t, Steps p.tables e below (T196.setTop (mkF m 254 #[.val (.int i1), .val (.int i2), .val (.int i3), .val (.int i4), .val (.int i5), .val (.int i6), .val (.int (4 : Int32)), .val (.int ((i6 &&& (2147483647 : Int32)) % (5 : Int32))), .val (.ref b143), .val (.int (own_j0_180_0_v1 i1 i2 i3 i4 i6))] [(.int (0 : Int32))])) t → Steps p.tables e below (s₁.setTop (entryFrame m #[(.int i1), (.int i2), (.int i3), (.int i4), (.int i5), (.int i6)] maxLocals)) t := by
              intro t k
              refine pre197 _ ?_
              show Steps p.tables e below (T196.setTop (mkF m 246 #[.val (.int i1), .val (.int i2), .val (.int i3), .val (.int i4), .val (.int i5), .val (.int i6), .val (.int (4 : Int32)), .val (.int ((i6 &&& (2147483647 : Int32)) % (5 : Int32))), .val (.ref b143), .val (.int (own_j0_180_0_v1 i1 i2 i3 i4 i6))] [(.int (own_r10 (own_j9_2_0 (3 : Int32) ((i6 &&& (2147483647 : Int32)) % (5 : Int32)) (4 : Int32)) i1 i2 i3 i4)), (.int (own_v3d_w_numbers_r0_3 ((i6 &&& (2147483647 : Int32)) % (5 : Int32)) i1 i2 i3 i4))])) _
              refine XS.icmpYes X196.here hx rfl (pc0 := 246) (pc' := 253) rfl (hb hby at_246) rfl (feq hc246_198).2 (by decide) (by decide) ?_
              show Steps p.tables e below (T196.setTop (mkF m 253 #[.val (.int i1), .val (.int i2), .val (.int i3), .val (.int i4), .val (.int i5), .val (.int i6), .val (.int (4 : Int32)), .val (.int ((i6 &&& (2147483647 : Int32)) % (5 : Int32))), .val (.ref b143), .val (.int (own_j0_180_0_v1 i1 i2 i3 i4 i6))] [])) _
              refine XS.iconst X196.here hx rfl (hb hby at_253) ?_
              exact k
            exact fun t k => pre200 t (by rw [show (own_j0_246_0 i1 i2 i3 i4 i6) = (0 : Int32) from (if_neg hc246_198)] at k; exact k)
        have pre202 : ∀ t, Steps p.tables e below (T196.setTop (mkF m 256 #[.val (.int i1), .val (.int i2), .val (.int i3), .val (.int i4), .val (.int i5), .val (.int i6), .val (.int (4 : Int32)), .val (.int ((i6 &&& (2147483647 : Int32)) % (5 : Int32))), .val (.ref b143), .val (.int (own_j0_246_0 i1 i2 i3 i4 i6))] [])) t → Steps p.tables e below (s₁.setTop (entryFrame m #[(.int i1), (.int i2), (.int i3), (.int i4), (.int i5), (.int i6)] maxLocals)) t := by
          intro t k
          refine pre201 _ ?_
          show Steps p.tables e below (T196.setTop (mkF m 254 #[.val (.int i1), .val (.int i2), .val (.int i3), .val (.int i4), .val (.int i5), .val (.int i6), .val (.int (4 : Int32)), .val (.int ((i6 &&& (2147483647 : Int32)) % (5 : Int32))), .val (.ref b143), .val (.int (own_j0_180_0_v1 i1 i2 i3 i4 i6))] [(.int (own_j0_246_0 i1 i2 i3 i4 i6))])) _
          refine XS.istore X196.here hx rfl (hb hby at_254) rfl (l' := #[.val (.int i1), .val (.int i2), .val (.int i3), .val (.int i4), .val (.int i5), .val (.int i6), .val (.int (4 : Int32)), .val (.int ((i6 &&& (2147483647 : Int32)) % (5 : Int32))), .val (.ref b143), .val (.int (own_j0_246_0 i1 i2 i3 i4 i6))]) rfl ?_
          exact k
        exact ⟨T196, _, X196, N196, e196, fun t k => pre202 t (by rw [show (own_j0_219_0 i1 i2 i3 i4 i6) = (own_j0_246_0 i1 i2 i3 i4 i6) from (if_neg hc219_193)] at k; exact k)⟩
    have pre204 : ∀ t, Steps p.tables e below (T203.setTop (mkF m 258 #[.val (.int i1), .val (.int i2), .val (.int i3), .val (.int i4), .val (.int i5), .val (.int i6), .val (.int (4 : Int32)), .val (.int ((i6 &&& (2147483647 : Int32)) % (5 : Int32))), .val (.ref b143), .val (.int (own_j0_219_0 i1 i2 i3 i4 i6))] [(.int (own_j0_219_0 i1 i2 i3 i4 i6))])) t → Steps p.tables e below (s₁.setTop (entryFrame m #[(.int i1), (.int i2), (.int i3), (.int i4), (.int i5), (.int i6)] maxLocals)) t := by
      intro t k
      refine pre203 _ ?_
      show Steps p.tables e below (T203.setTop (mkF m 256 #[.val (.int i1), .val (.int i2), .val (.int i3), .val (.int i4), .val (.int i5), .val (.int i6), .val (.int (4 : Int32)), .val (.int ((i6 &&& (2147483647 : Int32)) % (5 : Int32))), .val (.ref b143), .val (.int (own_j0_219_0 i1 i2 i3 i4 i6))] [])) _
      refine XS.iload X203.here hx rfl (hb hby at_256) rfl ?_
      exact k
    obtain ⟨fs, hr, hrun, hended, hW, hsame⟩ := X203.leave (v := some (.int (nar .boolean (own_j0_219_0 i1 i2 i3 i4 i6)))) (fun h => by rw [Bd.returns] at h; cases h)
    refine ⟨_, _, pre204 _ ?_, hrun, hended, _, _, rfl, ?_, ⟨_, rfl⟩, hW, hsame.mono (by decide) (by decide)⟩
    · show Steps p.tables e below (T203.setTop (mkF m 258 #[.val (.int i1), .val (.int i2), .val (.int i3), .val (.int i4), .val (.int i5), .val (.int i6), .val (.int (4 : Int32)), .val (.int ((i6 &&& (2147483647 : Int32)) % (5 : Int32))), .val (.ref b143), .val (.int (own_j0_219_0 i1 i2 i3 i4 i6))] [(.int (own_j0_219_0 i1 i2 i3 i4 i6))])) _
      exact retN X203 hx (t := .boolean) Bd.returns (by simp) (hb hby at_258) hr
    · show Q0 Z i1 i2 i3 i4 i5 i6 h0 n0 _ T203.heap _
      rw [e203]
      exact ⟨congrArg (fun z => some (Value.int z)) (show (own_r0 i1 i2 i3 i4 i5 i6) = (nar .boolean (own_j0_219_0 i1 i2 i3 i4 i6)) from ((if_neg (by rw [hk2]; decide)).trans ((if_neg (by rw [hk2]; decide)).trans ((if_neg (by rw [hk2]; decide)).trans (if_neg (by rw [hk2]; decide)))))).symm, N203⟩
theorem own_law (i1 : Int32) (i2 : Int32) (i3 : Int32) (i4 : Int32) (i5 : Int32) (i6 : Int32) : (own_r0 i1 i2 i3 i4 i5 i6) = 1 := by
  have e_j0_129_0 : own_j0_129_0 i1 i2 i3 i4 i6 = 1 := by
    refine if_pos ?_
    rcases own_ob0_g81_1x i6 with h | h <;> rw [h] <;> first | rfl | simp [own_r10, own_j9_2_0]
  have e_j0_129_0_v1 : own_j0_129_0_v1 i1 i2 i3 i4 i6 = 1 := by
    refine if_pos ?_
    rcases own_ob0_g81_1xx i6 with h | h | h <;> rw [h] <;> first | rfl | simp [own_r10, own_j9_2_0]
  have e_j0_168_0 : own_j0_168_0 i1 i2 i3 i4 i6 = 1 := by
    refine if_pos ?_
    rcases own_ob0_g81_1xx i6 with h | h | h <;> rw [h] <;> first | rfl | simp [own_r10, own_j9_2_0]
  have e_j0_141_0 : own_j0_141_0 i1 i2 i3 i4 i6 = 1 := by unfold own_j0_141_0; rw [e_j0_129_0_v1, e_j0_168_0, if_neg (by decide)]
  have e_j0_129_0_v2 : own_j0_129_0_v2 i1 i2 i3 i4 i6 = 1 := by
    refine if_pos ?_
    rcases own_ob0_g81_1xxx i6 with h | h | h | h <;> rw [h] <;> first | rfl | simp [own_r10, own_j9_2_0]
  have e_j0_168_0_v1 : own_j0_168_0_v1 i1 i2 i3 i4 i6 = 1 := by
    refine if_pos ?_
    rcases own_ob0_g81_1xxx i6 with h | h | h | h <;> rw [h] <;> first | rfl | simp [own_r10, own_j9_2_0]
  have e_j0_207_0 : own_j0_207_0 i1 i2 i3 i4 i6 = 1 := by
    refine if_pos ?_
    rcases own_ob0_g81_1xxx i6 with h | h | h | h <;> rw [h] <;> first | rfl | simp [own_r10, own_j9_2_0]
  have e_j0_141_0_v1 : own_j0_141_0_v1 i1 i2 i3 i4 i6 = 1 := by unfold own_j0_141_0_v1; rw [e_j0_129_0_v2, e_j0_168_0_v1, if_neg (by decide)]
  have e_j0_180_0 : own_j0_180_0 i1 i2 i3 i4 i6 = 1 := by unfold own_j0_180_0; rw [e_j0_141_0_v1, e_j0_207_0, if_neg (by decide)]
  have e_j0_129_0_v3 : own_j0_129_0_v3 i1 i2 i3 i4 i6 = 1 := by
    refine if_pos ?_
    rcases own_ob0_g81_1xxxx i6 with h | h | h | h | h <;> rw [h] <;> first | rfl | simp [own_r10, own_j9_2_0]
  have e_j0_168_0_v2 : own_j0_168_0_v2 i1 i2 i3 i4 i6 = 1 := by
    refine if_pos ?_
    rcases own_ob0_g81_1xxxx i6 with h | h | h | h | h <;> rw [h] <;> first | rfl | simp [own_r10, own_j9_2_0]
  have e_j0_207_0_v1 : own_j0_207_0_v1 i1 i2 i3 i4 i6 = 1 := by
    refine if_pos ?_
    rcases own_ob0_g81_1xxxx i6 with h | h | h | h | h <;> rw [h] <;> first | rfl | simp [own_r10, own_j9_2_0]
  have e_j0_246_0 : own_j0_246_0 i1 i2 i3 i4 i6 = 1 := by
    refine if_pos ?_
    rcases own_ob0_g81_1xxxx i6 with h | h | h | h | h <;> rw [h] <;> first | rfl | simp [own_r10, own_j9_2_0]
  have e_j0_141_0_v2 : own_j0_141_0_v2 i1 i2 i3 i4 i6 = 1 := by unfold own_j0_141_0_v2; rw [e_j0_129_0_v3, e_j0_168_0_v2, if_neg (by decide)]
  have e_j0_180_0_v1 : own_j0_180_0_v1 i1 i2 i3 i4 i6 = 1 := by unfold own_j0_180_0_v1; rw [e_j0_141_0_v2, e_j0_207_0_v1, if_neg (by decide)]
  have e_j0_219_0 : own_j0_219_0 i1 i2 i3 i4 i6 = 1 := by unfold own_j0_219_0; rw [e_j0_180_0_v1, e_j0_246_0, if_neg (by decide)]
  unfold own_r0
  rw [e_j0_129_0, e_j0_141_0, e_j0_180_0, e_j0_219_0]
  repeat' split
  all_goals rfl
set_option maxRecDepth 65536 in
set_option maxHeartbeats 40000000 in
theorem comes_1 {Post : Tables → Env → Array Value → State → Outcome → State → Prop} (hpost : ∀ tb e args s v u, (limb_1_1.after args s (.returned v) u = true ∧ limb_1_2.after args s (.returned v) u = true ∧ True) → FrameEnd s (.returned v) u (Jvm.fieldLocs frame_1_writes args s ++ Jvm.arrayLocs frame_1_arrays args s ++ Jvm.staticLocs frame_1_statics s) 16 128 → Post tb e args s (.returned v) u) :
    ArmFor flags0 classFile x code maxLocals ret World_1 tables_1 room_1 Calls_1 rest_1 Pre_1 Post := by
  intro l hfl _ _ p e ha hc hk s m args below hf hA hF happ hP
  obtain ⟨hcalls, hrest, hpre⟩ := hP
  obtain ⟨-, -, -, hnamed, -, -, -, hat⟩ := (Spec.applies_iff hf).mp happ
  obtain ⟨hg, hn⟩ := and_e (Cond.before_iff.mp (show (Jvm.Cond.and given_1 narrow_1).before args s = true from hpre))
  obtain ⟨g1, g2⟩ := and_e hg
  obtain ⟨g3, g4⟩ := and_e g2
  obtain ⟨g5, g6⟩ := and_e g4
  obtain ⟨g7, g8⟩ := and_e g6
  obtain ⟨g9, g10⟩ := and_e g8
  obtain ⟨g11, g12⟩ := and_e g10
  obtain ⟨w0, w1, w2, w3, w4, w5, rfl⟩ : ∃ w0 w1 w2 w3 w4 w5 : Value, args = #[w0, w1, w2, w3, w4, w5] := by
    have hs : args.size = 6 := by simpa [Cond.value, given_1] using g1
    obtain ⟨L⟩ := args
    match L, hs with
    | [w0, w1, w2, w3, w4, w5], _ => exact ⟨w0, w1, w2, w3, w4, w5, rfl⟩
  have hw := fun d (hd : d ∈ tables_1) => atoms_spec (ws := Jvm.Cond.code x code maxLocals ret :: tables_1) hat d (List.mem_cons_of_mem _ hd)
  have hfit : Fit s := fun {y c} hc i hi => by
    obtain ⟨ha, rfl⟩ := Array.getElem?_eq_some_iff.mp hc
    have q := List.all_eq_true.mp ((Array.all_eq_true_iff_forall_mem.mp hF) _ (Array.getElem_mem ha)) i (List.mem_range.mpr hi)
    simpa [Array.getElem?_eq_getElem hi] using q
  obtain ⟨i0, ei0⟩ := is_v g3
  obtain rfl : w0 = (.int i0) := Option.some.inj ei0
  obtain ⟨i1, ei1⟩ := is_v g5
  obtain rfl : w1 = (.int i1) := Option.some.inj ei1
  obtain ⟨i2, ei2⟩ := is_v g7
  obtain rfl : w2 = (.int i2) := Option.some.inj ei2
  obtain ⟨i3, ei3⟩ := is_v g9
  obtain rfl : w3 = (.int i3) := Option.some.inj ei3
  obtain ⟨i4, ei4⟩ := is_v g11
  obtain rfl : w4 = (.int i4) := Option.some.inj ei4
  obtain ⟨i5, ei5⟩ := is_v g12
  obtain rfl : w5 = (.int i5) := Option.some.inj ei5
  obtain ⟨n, o, h1, h2, h3, _, L, rfl, ⟨hv, N⟩, hq⟩ := rm0 l s _ hw tables_1 i0 i1 i2 i3 i4 i5 s.heap s.heap.size (Nat.le_refl _)  p e ha hc hk s m _ below hf ((Spec.applies_iff_loose hf).mp happ).1 ⟨rfl, State.Warmed39.refl s, rfl⟩ trivial
  rw [show (own_r0 i0 i1 i2 i3 i4 i5) = 1 from own_law i0 i1 i2 i3 i4 i5] at hv
  subst hv
  refine ⟨n, _, h1, h2, h3, hpost _ _ _ _ _ _ ⟨Cond.after_iff.mpr rfl, Cond.after_iff.mpr (eq_i res_at (Term.int_eval (1)) rfl), trivial⟩ ⟨hq.1, hq.2.1, (hq.2.2.sift fun y hy => Or.inr (N y hy)).mono (by decide) (by decide)⟩⟩
theorem main_1_1 : Claimed_1_1 := comes_1 fun _ _ _ _ _ _ h hF => ⟨h.1, hF⟩
theorem main_1_2 : Claimed_1_2 := comes_1 fun _ _ _ _ _ _ h hF => ⟨h.2.1, hF⟩
end Jvm.Pilot.@@N@@
namespace Jvm.Pilot.@@N@@
open Jvm Jvm.ClassFile Sem Op Lib Jvm.Free Jvm.Stand Jvm.Pilot.@@N@@.Jvm.D
/-! MADE BY PROGRAM (witnessworld.py) out of the Statement's table words and the real class files: 11 classes; the members and pool entries that the words name. The judged class is class 1, her method 3. -/
namespace start1
open Jvm.ClassFile
def u (s : String) : CpInfo := .utf8 (stringToUtf16 s)
/-- a pool by its gaps: so many unusable entries, then the entry; so many at the end -/
def gap : Nat → List CpInfo → List CpInfo
  | 0, r => r
  | n + 1, r => .unusable :: gap n r
def poolList (es : List (Nat × CpInfo)) (last : Nat) : List CpInfo := es.foldr (fun e r => gap e.1 (e.2 :: r)) (gap last [])
def pool (es : List (Nat × CpInfo)) (last : Nat) : Array CpInfo := ⟨poolList es last⟩
def fileOf (pool : Array CpInfo) (this : Nat) (attrs : Array Attribute := #[]) (ms : Array MethodInfo := #[]) (fl : Nat := 33) (sup : Nat := 0) (ifs : Array Nat := #[]) (fds : Array FieldInfo := #[]) : ClassFile where
  minorVersion := 0
  majorVersion := 65
  constantPool := pool
  accessFlags := fl
  thisClass := this
  superClass := sup
  interfaces := ifs
  fields := fds
  methods := ms
  attributes := attrs
def plain (name : String) (sup : Option ClassId) : Class where
  name := name
  kind := .ordinary
  loader := none
  accessFlags := 33
  super := sup
  interfaces := #[]
  cf := none
  fields := #[]
  methods := #[]
  instanceTypes := #[]
  staticTypes := #[]
  resolved := #[]
  callSites := []
  init := .initialized
  statics := none
  mirror := none

def pool0 : Array CpInfo := pool [(5, u "<init>"), (0, u "()V"), (1, .class_ 10), (1, u "java/lang/Object")] 113

def k0c0 : Code := { maxStack := 0, maxLocals := 1, code := object_method_1_code, exceptionTable := #[], attributes := #[] }
def k0m0 : Method := { name := "<init>", desc := "()V", sig := { parameters := [], returnType := none }, accessFlags := 1, code := some k0c0 }
/-- java/lang/Object -/
def k0 : Class := { plain "java/lang/Object" none with
  accessFlags := 33
  interfaces := #[]
  cf := some (fileOf pool0 8 #[] #[{ accessFlags := 1, nameIndex := 5, descriptorIndex := 6, attributes := #[] }] 33 0 #[] #[])
  fields := #[]
  methods := #[k0m0]
  instanceTypes := #[]
  staticTypes := #[]
  resolved := Array.replicate 124 none
  statics := none }

def pool1 : Array CpInfo := pool [(2, .class_ 4), (0, .nameAndType 5 6), (0, u "java/lang/Object"), (0, u "<init>"), (0, u "()V"), (0, .methodref 8 9), (0, .class_ 10), (0, .nameAndType 11 12), (0, u "com/example/baum/baum/query/BuilderReverseFromPinLaw"), (0, u "pick"), (0, u "(IIIII)I"), (0, .integer 2147483647), (0, .class_ 15), (0, u "com/example/baum/baum/query/NodeList$Builder"), (0, .methodref 14 3), (0, .methodref 14 18), (0, .nameAndType 19 20), (0, u "add"), (0, u "(I)V"), (0, .methodref 14 22), (0, .nameAndType 23 20), (0, u "reverseFrom"), (0, .methodref 14 25), (0, .nameAndType 26 27), (0, u "size"), (0, u "()I"), (0, .methodref 14 29), (0, .nameAndType 30 31), (0, u "get"), (0, u "(I)I"), (0, .methodref 8 33), (0, .nameAndType 34 35), (0, u "expect"), (0, u "(IIIIIII)I"), (3, u "law"), (0, u "(IIIIII)Z")] 6

def k1m0 : Method := { name := "<init>", desc := "()V", sig := { parameters := [], returnType := none }, accessFlags := 2, code := none }
def k1c1 : Code := { maxStack := 2, maxLocals := 5, code := method_2_code, exceptionTable := #[], attributes := #[] }
def k1m1 : Method := { name := "pick", desc := "(IIIII)I", sig := { parameters := [.int, .int, .int, .int, .int], returnType := some .int }, accessFlags := 10, code := some k1c1 }
def k1c2 : Code := { maxStack := 5, maxLocals := 8, code := method_3_code, exceptionTable := #[], attributes := #[] }
def k1m2 : Method := { name := "expect", desc := "(IIIIIII)I", sig := { parameters := [.int, .int, .int, .int, .int, .int, .int], returnType := some .int }, accessFlags := 10, code := some k1c2 }
def k1c3 : Code := { maxStack := 8, maxLocals := 10, code := code, exceptionTable := #[], attributes := #[] }
def k1m3 : Method := { name := "law", desc := "(IIIIII)Z", sig := { parameters := [.int, .int, .int, .int, .int, .int], returnType := some .boolean }, accessFlags := 9, code := some k1c3 }
/-- com/example/baum/baum/query/BuilderReverseFromPinLaw -/
def k1 : Class := { plain "com/example/baum/baum/query/BuilderReverseFromPinLaw" (some 0) with
  accessFlags := 49
  interfaces := #[]
  cf := some (fileOf pool1 8 #[] #[{ accessFlags := 2, nameIndex := 5, descriptorIndex := 6, attributes := #[] }, { accessFlags := 10, nameIndex := 11, descriptorIndex := 12, attributes := #[] }, { accessFlags := 10, nameIndex := 34, descriptorIndex := 35, attributes := #[] }, { accessFlags := 9, nameIndex := 39, descriptorIndex := 40, attributes := #[] }] 49 2 #[] #[])
  fields := #[]
  methods := #[k1m0, k1m1, k1m2, k1m3]
  instanceTypes := #[]
  staticTypes := #[]
  resolved := Array.replicate 47 none
  statics := none }

def pool2 : Array CpInfo := pool [(1, .methodref 2 3), (0, .class_ 4), (0, .nameAndType 5 6), (0, u "java/lang/Object"), (0, u "<init>"), (0, u "()V"), (0, .fieldref 8 9), (0, .class_ 10), (0, .nameAndType 11 12), (0, u "com/example/baum/baum/query/NodeList$Builder"), (0, u "numbers"), (0, u "[I"), (0, .fieldref 8 14), (0, .nameAndType 15 16), (0, u "size"), (0, u "I"), (6, .methodref 24 25), (0, .class_ 26), (0, .nameAndType 27 28), (0, u "java/util/Objects"), (0, u "checkIndex"), (0, u "(II)I"), (0, .class_ 30), (0, u "com/example/baum/baum/query/NodeList"), (17, u "add"), (0, u "(I)V"), (1, u "()I"), (0, u "get"), (0, u "(I)I"), (0, u "reverseFrom")] 8

def k2c0 : Code := { maxStack := 2, maxLocals := 1, code := prog_99_method_1_code, exceptionTable := #[], attributes := #[] }
def k2m0 : Method := { name := "<init>", desc := "()V", sig := { parameters := [], returnType := none }, accessFlags := 0, code := some k2c0 }
def k2c1 : Code := { maxStack := 5, maxLocals := 2, code := prog_99_method_4_code, exceptionTable := #[], attributes := #[] }
def k2m1 : Method := { name := "add", desc := "(I)V", sig := { parameters := [.int], returnType := none }, accessFlags := 0, code := some k2c1 }
def k2c2 : Code := { maxStack := 1, maxLocals := 1, code := prog_99_method_5_code, exceptionTable := #[], attributes := #[] }
def k2m2 : Method := { name := "size", desc := "()I", sig := { parameters := [], returnType := some .int }, accessFlags := 0, code := some k2c2 }
def k2c3 : Code := { maxStack := 3, maxLocals := 2, code := prog_99_method_6_code, exceptionTable := #[], attributes := #[] }
def k2m3 : Method := { name := "get", desc := "(I)I", sig := { parameters := [.int], returnType := some .int }, accessFlags := 0, code := some k2c3 }
def k2c4 : Code := { maxStack := 4, maxLocals := 5, code := prog_99_method_7_code, exceptionTable := #[], attributes := #[] }
def k2m4 : Method := { name := "reverseFrom", desc := "(I)V", sig := { parameters := [.int], returnType := none }, accessFlags := 0, code := some k2c4 }
/-- com/example/baum/baum/query/NodeList$Builder -/
def k2 : Class := { plain "com/example/baum/baum/query/NodeList$Builder" (some 0) with
  accessFlags := 32
  interfaces := #[]
  cf := some (fileOf pool2 8 #[.nestHost 29] #[{ accessFlags := 0, nameIndex := 5, descriptorIndex := 6, attributes := #[] }, { accessFlags := 0, nameIndex := 48, descriptorIndex := 49, attributes := #[] }, { accessFlags := 0, nameIndex := 15, descriptorIndex := 51, attributes := #[] }, { accessFlags := 0, nameIndex := 52, descriptorIndex := 53, attributes := #[] }, { accessFlags := 0, nameIndex := 54, descriptorIndex := 49, attributes := #[] }] 32 2 #[] #[{ accessFlags := 2, nameIndex := 11, descriptorIndex := 12, attributes := #[] }, { accessFlags := 2, nameIndex := 15, descriptorIndex := 16, attributes := #[] }])
  fields := #[{ name := "numbers", type := (.array .int), accessFlags := 2, slot := 0, constantValue := 0 }, { name := "size", type := .int, accessFlags := 2, slot := 1, constantValue := 0 }]
  methods := #[k2m0, k2m1, k2m2, k2m3, k2m4]
  instanceTypes := #[(.array .int), .int]
  staticTypes := #[]
  resolved := Array.replicate 63 none
  statics := none }

def pool3 : Array CpInfo := pool [(2, .class_ 4), (1, u "java/lang/Object"), (0, u "<init>"), (0, u "()V"), (35, .class_ 44), (1, u "java/util/Objects"), (60, .methodref 106 107), (0, .class_ 108), (0, .nameAndType 109 110), (0, u "jdk/internal/util/Preconditions"), (0, u "checkIndex"), (0, u "(IILjava/util/function/BiFunction;)I"), (60, u "(II)I")] 12

def k3m0 : Method := { name := "<init>", desc := "()V", sig := { parameters := [], returnType := none }, accessFlags := 2, code := none }
def k3c1 : Code := { maxStack := 3, maxLocals := 2, code := jdk_31_method_17_code, exceptionTable := #[], attributes := #[] }
def k3m1 : Method := { name := "checkIndex", desc := "(II)I", sig := { parameters := [.int, .int], returnType := some .int }, accessFlags := 9, code := some k3c1 }
/-- java/util/Objects -/
def k3 : Class := { plain "java/util/Objects" (some 0) with
  accessFlags := 49
  interfaces := #[]
  cf := some (fileOf pool3 42 #[] #[{ accessFlags := 2, nameIndex := 5, descriptorIndex := 6, attributes := #[] }, { accessFlags := 9, nameIndex := 109, descriptorIndex := 171, attributes := #[] }] 49 2 #[] #[])
  fields := #[]
  methods := #[k3m0, k3m1]
  instanceTypes := #[]
  staticTypes := #[]
  resolved := Array.replicate 184 none
  statics := none }

def pool4 : Array CpInfo := pool [(2, .class_ 4), (1, u "java/lang/Object"), (0, u "<init>"), (0, u "()V"), (17, .class_ 26), (1, u "jdk/internal/util/Preconditions"), (6, u "checkIndex"), (21, .class_ 56), (0, u "jdk/internal/util/Preconditions$4"), (57, .class_ 115), (0, u "jdk/internal/util/Preconditions$1"), (7, u "SIOOBE_FORMATTER"), (0, u "Ljava/util/function/BiFunction;"), (0, .class_ 126), (0, u "jdk/internal/util/Preconditions$2"), (3, u "AIOOBE_FORMATTER"), (0, .class_ 132), (0, u "jdk/internal/util/Preconditions$3"), (3, u "IOOBE_FORMATTER"), (41, u "(IILjava/util/function/BiFunction;)I")] 15

def k4m0 : Method := { name := "<init>", desc := "()V", sig := { parameters := [], returnType := none }, accessFlags := 1, code := none }
def k4c1 : Code := { maxStack := 3, maxLocals := 3, code := jdk_41_method_11_code, exceptionTable := #[], attributes := #[] }
def k4m1 : Method := { name := "checkIndex", desc := "(IILjava/util/function/BiFunction;)I", sig := { parameters := [.int, .int, (.object "java/util/function/BiFunction")], returnType := some .int }, accessFlags := 9, code := some k4c1 }
/-- jdk/internal/util/Preconditions -/
def k4 : Class := { plain "jdk/internal/util/Preconditions" (some 0) with
  accessFlags := 33
  interfaces := #[]
  cf := some (fileOf pool4 24 #[.nestMembers #[55, 131, 125, 114]] #[{ accessFlags := 1, nameIndex := 5, descriptorIndex := 6, attributes := #[] }, { accessFlags := 9, nameIndex := 33, descriptorIndex := 178, attributes := #[] }] 33 2 #[] #[{ accessFlags := 25, nameIndex := 123, descriptorIndex := 124, attributes := #[] }, { accessFlags := 25, nameIndex := 130, descriptorIndex := 124, attributes := #[] }, { accessFlags := 25, nameIndex := 136, descriptorIndex := 124, attributes := #[] }])
  fields := #[{ name := "SIOOBE_FORMATTER", type := (.object "java/util/function/BiFunction"), accessFlags := 25, slot := 0, constantValue := 0 }, { name := "AIOOBE_FORMATTER", type := (.object "java/util/function/BiFunction"), accessFlags := 25, slot := 1, constantValue := 0 }, { name := "IOOBE_FORMATTER", type := (.object "java/util/function/BiFunction"), accessFlags := 25, slot := 2, constantValue := 0 }]
  methods := #[k4m0, k4m1]
  instanceTypes := #[]
  staticTypes := #[(.object "java/util/function/BiFunction"), (.object "java/util/function/BiFunction"), (.object "java/util/function/BiFunction")]
  resolved := Array.replicate 194 none
  statics := none }

def pool5 : Array CpInfo := pool [(1, u "java/lang/Cloneable"), (0, .class_ 1), (0, u "java/lang/Object"), (0, .class_ 3)] 3

/-- java/lang/Cloneable -/
def k5 : Class := { plain "java/lang/Cloneable" (some 0) with
  accessFlags := 1537
  interfaces := #[]
  cf := some (fileOf pool5 2 #[] #[] 1537 4 #[] #[])
  fields := #[]
  methods := #[]
  instanceTypes := #[]
  staticTypes := #[]
  resolved := Array.replicate 8 none
  statics := none }

def pool6 : Array CpInfo := pool [(1, u "java/io/Serializable"), (0, .class_ 1), (0, u "java/lang/Object"), (0, .class_ 3)] 3

/-- java/io/Serializable -/
def k6 : Class := { plain "java/io/Serializable" (some 0) with
  accessFlags := 1537
  interfaces := #[]
  cf := some (fileOf pool6 2 #[] #[] 1537 4 #[] #[])
  fields := #[]
  methods := #[]
  instanceTypes := #[]
  staticTypes := #[]
  resolved := Array.replicate 8 none
  statics := none }

/-- the primitive byte -/
def k7 : Class := { plain "byte" none with kind := .primitive 'B', accessFlags := 0x411 }
/-- [B -/
def k8 : Class := { plain "[B" (some 0) with kind := .array 7 .byte, interfaces := #[5, 6], accessFlags := 1041 }

/-- the primitive int -/
def k9 : Class := { plain "int" none with kind := .primitive 'I', accessFlags := 0x411 }
/-- [I -/
def k10 : Class := { plain "[I" (some 0) with kind := .array 9 .int, interfaces := #[5, 6], accessFlags := 1041 }

def heap : Heap := #[]
def classes : Array Class := #[k0, k1, k2, k3, k4, k5, k6, k7, k8, k9, k10]
def interned : List (Array UInt16 × Addr) := []
def slotsUsed : Nat := 0
def theMethod : MethodId := ⟨1, 3⟩
def args0 : Array Value := #[.int 5, .int 6, .int 7, .int 8, .int 9, .int 10]
def aboutOver (below : List Frame) : State where
  vm := { classes := classes, interned := interned.toArray }
  heap := heap
  slotsUsed := slotsUsed
  threads := #[{ frames := .invoking theMethod args0 :: below }]
def below0 : List Frame := [.native { method := ⟨0, 0⟩, args := #[] }]
def about1 : State := aboutOver below0
def p0 : Program := .bare "" "" ""
def e0 : Env := launch0.env 0 0 0
theorem w_frames : about1.frames = Frame.invoking theMethod args0 :: below0 := rfl
set_option maxRecDepth 65536 in
theorem w_args : argsFit about1.vm theMethod args0 = true := by decide +kernel
set_option maxRecDepth 65536 in
theorem w_heap : heapFits about1 = true := by decide +kernel
set_option maxRecDepth 65536 in
theorem w_runnable : about1.curStatus? = some .runnable := by decide +kernel
set_option maxRecDepth 65536 in
theorem w_alone : about1.alone = true := by decide +kernel
set_option maxRecDepth 65536 in
theorem w_named : about1.methodNamed? x = some theMethod := by decide +kernel
set_option maxRecDepth 65536 in
theorem w_hears : about1.hears theMethod below0 = true := by decide +kernel
set_option maxRecDepth 65536 in
theorem w_ripe : about1.ripe theMethod args0 below0 = true := by decide +kernel
theorem w_running : about1.status = .running := rfl
set_option maxRecDepth 65536 in
theorem w_room : about1.hasRoom e0.platform room_1 = true :=
  launch0.hasRoom_least _ room_1 (by decide +kernel) (by decide +kernel) (by decide +kernel) (by decide +kernel) (by decide +kernel) (by decide +kernel)
theorem allAtoms_all (ts : List Jvm.Cond) (a : Array Jvm.Value) (st : Jvm.State) : (allAtoms ts).before a st = ts.all (fun c => c.before a st) := by
  induction ts with
  | nil => rfl
  | cons c t ih =>
    show (Jvm.Cond.and c (allAtoms t)).before a st = _
    rw [Jvm.Cond.before_and, ih, List.all_cons]
def words1 : List Jvm.Cond := Jvm.Cond.code x code maxLocals ret :: tables_1
/-- a 'code' word, met by the world's own term for the bytes: nothing is compared byte by byte -/
theorem code_word {y : MethodName} {bytes : ByteArray} {mx : Nat} {rt : Option FieldType} {a : Array Value} {s : State} {m : MethodId} {meth : Method} {c : Code} (h1 : s.methodNamed? y = some m) (h2 : s.vm.method? m = some meth) (h3 : meth.code = some c) (h4 : c.code = bytes)
    (h5 : (c.maxLocals == mx && c.exceptionTable.isEmpty && decide (c.maxStack ≤ mostOperands) && decide (meth.sig.returnType = rt) && !meth.locks && decide (parseMethodDescriptor y.desc = some meth.sig)) = true) : (Jvm.Cond.code y bytes mx rt).before a s = true := by
  simp only [Bool.and_eq_true, beq_iff_eq, Bool.not_eq_true', decide_eq_true_eq] at h5
  obtain ⟨⟨⟨⟨⟨g1, g2⟩, g3⟩, g4⟩, g5⟩, g6⟩ := h5
  simp [Cond.before, Cond.holds, Cond.value, h1, h2, h3, h4, g1, g2, g3, g4, g5, g6]
def isCode : Jvm.Cond → Bool
  | .code _ _ _ _ => true
  | _ => false
theorem all_split {L : List Jvm.Cond} {P : Jvm.Cond → Bool} (h1 : L.all (fun c => isCode c || P c) = true) (h2 : ∀ c ∈ L.filter isCode, P c = true) : L.all P = true := by
  refine List.all_eq_true.mpr fun c hc => ?_
  have h := List.all_eq_true.mp h1 c hc
  rcases Bool.eq_false_or_eq_true (isCode c) with hi | hi
  · exact h2 c (List.mem_filter.mpr ⟨hc, hi⟩)
  · simpa [hi] using h
set_option maxRecDepth 65536 in
theorem w_c0 : (Jvm.Cond.code x code maxLocals ret).before args0 about1 = true := code_word (m := ⟨1, 3⟩) (meth := k1m3) (c := k1c3) (by decide +kernel) rfl rfl rfl (by decide +kernel)
set_option maxRecDepth 65536 in
theorem w_c1 : (Jvm.Cond.code ({ cls := "com/example/baum/baum/query/NodeList$Builder", name := "<init>", desc := "()V" } : Jvm.MethodName) prog_99_method_1_code (1 : Nat) (Option.none : Option Jvm.ClassFile.FieldType)).before args0 about1 = true := code_word (m := ⟨2, 0⟩) (meth := k2m0) (c := k2c0) (by decide +kernel) rfl rfl rfl (by decide +kernel)
set_option maxRecDepth 65536 in
theorem w_c2 : (Jvm.Cond.code ({ cls := "java/lang/Object", name := "<init>", desc := "()V" } : Jvm.MethodName) object_method_1_code (1 : Nat) (Option.none : Option Jvm.ClassFile.FieldType)).before args0 about1 = true := code_word (m := ⟨0, 0⟩) (meth := k0m0) (c := k0c0) (by decide +kernel) rfl rfl rfl (by decide +kernel)
set_option maxRecDepth 65536 in
theorem w_c3 : (Jvm.Cond.code ({ cls := "com/example/baum/baum/query/NodeList$Builder", name := "reverseFrom", desc := "(I)V" } : Jvm.MethodName) prog_99_method_7_code (5 : Nat) (Option.none : Option Jvm.ClassFile.FieldType)).before args0 about1 = true := code_word (m := ⟨2, 4⟩) (meth := k2m4) (c := k2c4) (by decide +kernel) rfl rfl rfl (by decide +kernel)
set_option maxRecDepth 65536 in
theorem w_c4 : (Jvm.Cond.code ({ cls := "com/example/baum/baum/query/NodeList$Builder", name := "size", desc := "()I" } : Jvm.MethodName) prog_99_method_5_code (1 : Nat) (Option.some Jvm.ClassFile.FieldType.int)).before args0 about1 = true := code_word (m := ⟨2, 2⟩) (meth := k2m2) (c := k2c2) (by decide +kernel) rfl rfl rfl (by decide +kernel)
set_option maxRecDepth 65536 in
theorem w_c5 : (Jvm.Cond.code ({ cls := "com/example/baum/baum/query/NodeList$Builder", name := "add", desc := "(I)V" } : Jvm.MethodName) prog_99_method_4_code (2 : Nat) (Option.none : Option Jvm.ClassFile.FieldType)).before args0 about1 = true := code_word (m := ⟨2, 1⟩) (meth := k2m1) (c := k2c1) (by decide +kernel) rfl rfl rfl (by decide +kernel)
set_option maxRecDepth 65536 in
theorem w_c6 : (Jvm.Cond.code ({ cls := "com/example/baum/baum/query/NodeList$Builder", name := "get", desc := "(I)I" } : Jvm.MethodName) prog_99_method_6_code (2 : Nat) (Option.some Jvm.ClassFile.FieldType.int)).before args0 about1 = true := code_word (m := ⟨2, 3⟩) (meth := k2m3) (c := k2c3) (by decide +kernel) rfl rfl rfl (by decide +kernel)
set_option maxRecDepth 65536 in
theorem w_c7 : (Jvm.Cond.code ({ cls := "java/util/Objects", name := "checkIndex", desc := "(II)I" } : Jvm.MethodName) jdk_31_method_17_code (2 : Nat) (Option.some Jvm.ClassFile.FieldType.int)).before args0 about1 = true := code_word (m := ⟨3, 1⟩) (meth := k3m1) (c := k3c1) (by decide +kernel) rfl rfl rfl (by decide +kernel)
set_option maxRecDepth 65536 in
theorem w_c8 : (Jvm.Cond.code ({ cls := "jdk/internal/util/Preconditions", name := "checkIndex", desc := "(IILjava/util/function/BiFunction;)I" } : Jvm.MethodName) jdk_41_method_11_code (3 : Nat) (Option.some Jvm.ClassFile.FieldType.int)).before args0 about1 = true := code_word (m := ⟨4, 1⟩) (meth := k4m1) (c := k4c1) (by decide +kernel) rfl rfl rfl (by decide +kernel)
set_option maxRecDepth 65536 in
theorem w_c9 : (Jvm.Cond.code ({ cls := "com/example/baum/baum/query/BuilderReverseFromPinLaw", name := "expect", desc := "(IIIIIII)I" } : Jvm.MethodName) method_3_code (8 : Nat) (Option.some Jvm.ClassFile.FieldType.int)).before args0 about1 = true := code_word (m := ⟨1, 2⟩) (meth := k1m2) (c := k1c2) (by decide +kernel) rfl rfl rfl (by decide +kernel)
set_option maxRecDepth 65536 in
theorem w_c10 : (Jvm.Cond.code ({ cls := "com/example/baum/baum/query/BuilderReverseFromPinLaw", name := "pick", desc := "(IIIII)I" } : Jvm.MethodName) method_2_code (5 : Nat) (Option.some Jvm.ClassFile.FieldType.int)).before args0 about1 = true := code_word (m := ⟨1, 1⟩) (meth := k1m1) (c := k1c1) (by decide +kernel) rfl rfl rfl (by decide +kernel)
def codes1 : List Jvm.Cond := [Jvm.Cond.code x code maxLocals ret, Jvm.Cond.code ({ cls := "com/example/baum/baum/query/NodeList$Builder", name := "<init>", desc := "()V" } : Jvm.MethodName) prog_99_method_1_code (1 : Nat) (Option.none : Option Jvm.ClassFile.FieldType), Jvm.Cond.code ({ cls := "java/lang/Object", name := "<init>", desc := "()V" } : Jvm.MethodName) object_method_1_code (1 : Nat) (Option.none : Option Jvm.ClassFile.FieldType), Jvm.Cond.code ({ cls := "com/example/baum/baum/query/NodeList$Builder", name := "reverseFrom", desc := "(I)V" } : Jvm.MethodName) prog_99_method_7_code (5 : Nat) (Option.none : Option Jvm.ClassFile.FieldType), Jvm.Cond.code ({ cls := "com/example/baum/baum/query/NodeList$Builder", name := "size", desc := "()I" } : Jvm.MethodName) prog_99_method_5_code (1 : Nat) (Option.some Jvm.ClassFile.FieldType.int), Jvm.Cond.code ({ cls := "com/example/baum/baum/query/NodeList$Builder", name := "add", desc := "(I)V" } : Jvm.MethodName) prog_99_method_4_code (2 : Nat) (Option.none : Option Jvm.ClassFile.FieldType), Jvm.Cond.code ({ cls := "com/example/baum/baum/query/NodeList$Builder", name := "get", desc := "(I)I" } : Jvm.MethodName) prog_99_method_6_code (2 : Nat) (Option.some Jvm.ClassFile.FieldType.int), Jvm.Cond.code ({ cls := "java/util/Objects", name := "checkIndex", desc := "(II)I" } : Jvm.MethodName) jdk_31_method_17_code (2 : Nat) (Option.some Jvm.ClassFile.FieldType.int), Jvm.Cond.code ({ cls := "jdk/internal/util/Preconditions", name := "checkIndex", desc := "(IILjava/util/function/BiFunction;)I" } : Jvm.MethodName) jdk_41_method_11_code (3 : Nat) (Option.some Jvm.ClassFile.FieldType.int), Jvm.Cond.code ({ cls := "com/example/baum/baum/query/BuilderReverseFromPinLaw", name := "expect", desc := "(IIIIIII)I" } : Jvm.MethodName) method_3_code (8 : Nat) (Option.some Jvm.ClassFile.FieldType.int), Jvm.Cond.code ({ cls := "com/example/baum/baum/query/BuilderReverseFromPinLaw", name := "pick", desc := "(IIIII)I" } : Jvm.MethodName) method_2_code (5 : Nat) (Option.some Jvm.ClassFile.FieldType.int)]
set_option maxRecDepth 65536 in
theorem codes_eq : words1.filter isCode = codes1 := rfl
theorem w_codes : ∀ c ∈ words1.filter isCode, c.before args0 about1 = true := by
  rw [codes_eq]
  intro c hc
  simp only [codes1, List.mem_cons, List.not_mem_nil, or_false] at hc
  rcases hc with rfl | rfl | rfl | rfl | rfl | rfl | rfl | rfl | rfl | rfl | rfl
  · exact w_c0
  · exact w_c1
  · exact w_c2
  · exact w_c3
  · exact w_c4
  · exact w_c5
  · exact w_c6
  · exact w_c7
  · exact w_c8
  · exact w_c9
  · exact w_c10
set_option maxRecDepth 65536 in
theorem w_t1 : (words1.take 24).all (fun c => isCode c || c.before args0 about1) = true := by decide +kernel
set_option maxRecDepth 65536 in
theorem w_t2 : ((words1.drop 24).take 24).all (fun c => isCode c || c.before args0 about1) = true := by decide +kernel
set_option maxRecDepth 65536 in
theorem w_t3 : ((words1.drop 24).drop 24).all (fun c => isCode c || c.before args0 about1) = true := by decide +kernel
theorem w_tables : (allAtoms (Jvm.Cond.code x code maxLocals ret :: tables_1)).before args0 about1 = true := by
  rw [allAtoms_all]
  show words1.all (fun c => c.before args0 about1) = true
  refine all_split ?_ w_codes
  rw [← List.take_append_drop 24 words1, List.all_append, w_t1, ← List.take_append_drop 24 (words1.drop 24), List.all_append, w_t2, w_t3]
  rfl
set_option maxRecDepth 65536 in
theorem w_case : (Jvm.Cond.and given_1 narrow_1).before args0 about1 = true := by decide +kernel
theorem w_applies : (headSpec (Jvm.Cond.code x code maxLocals ret :: tables_1) room_1).applies x e0.platform about1 = true :=
  (Spec.applies_iff w_frames).mpr ⟨w_running, w_runnable, w_alone, w_named, w_hears, w_ripe, w_room, w_tables⟩
theorem atStart : AtStart classFile x code maxLocals ret World_1 tables_1 room_1 Calls_1 rest_1 Pre_1 launch0 p0 e0 about1 theMethod args0 below0 :=
  ⟨lists_1, trivial, launch0.admits_env _ _ _, launch0.least_env, fairChoices_fair.cas, fairChoices_fair.clock, w_frames, w_args, w_heap, w_applies, trivial, trivial, w_case⟩
end start1
theorem witness_1 : WitnessClaimed_1 := ⟨start1.p0, start1.e0, start1.about1, start1.theMethod, start1.args0, start1.below0, start1.atStart⟩
end Jvm.Pilot.@@N@@
