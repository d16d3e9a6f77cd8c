import JvmDerived
import JvmDerived.Pilot.@@N@@Statement
import JvmDerived.Pilot.@@N@@Code
set_option linter.unusedVariables false
set_option linter.unusedSimpArgs false
namespace Jvm.RoadKit
open Sem ClassFile Op Lib Jvm.Stand Jvm.Free Jvm.LawKit
section New
variable {p : Program} {l : Launch} {e : Env} {R : Room} {s : State} {m : MethodId} {args : Array Value} {below : List Frame} {meth : Method} {c : Code} {T : State} {locs : List Loc} {cells slots : Nat}
theorem retI (X : Stand p l e R s m args below meth c T locs cells slots) (hx : p.tables.exec = Jvm.exec) {pc : Nat} {Ls : Array Slot} {z : Int32} {rest : List Value} (hret : meth.sig.returnType = some .int) (hd : decode c.code pc = .ok (.ireturn, 1)) {fs : List Frame}
    (hl : ∀ (f : JFrame) (acts : List Action), f.method = m → f.locked = none → f.entered = [] → (doReturn e (T.setTop f) acts (some (.int z))).1 = T.setFrames fs) : Steps p.tables e below (T.setTop (mkF m pc Ls (.int z :: rest))) (T.setFrames fs) := by
  have hm' : T.vm.method? m = some meth := X.method'
  have hn : narrow .int (.int z) = .int z := rfl
  show Steps p.tables e below (T.setTop { method := m, pc := pc, locals := Ls, stack := _ :: rest, locked := none }) _
  jvm_step X.here [X.here.top, hx, hd, hm', hret, hn]
  first | (intro acts; rw [hl _ acts rfl rfl rfl]) | rw [hl _ _ rfl rfl rfl]
  exact Steps.refl _
theorem mvRef {Z s : State} {a0 a1 args : Array Value} {own : String} {i : Nat} {y : MethodName} (hZ : Z.Warmed39 s.vm) (hi : (Cond.instanceMethod y).before a1 Z = true) (hy : y.cls ≠ "java/lang/invoke/MethodHandle" ∧ y.cls ≠ "java/lang/invoke/VarHandle") (h : (Cond.methodRef own i y).before a0 Z = true) : (Cond.methodRef own i y).before args s = true := by
  obtain ⟨obj, methO, hnO, -⟩ := Cond.instanceMethod_spec hi
  have q := Cond.methodRef_warmed39 hZ hnO hy h
  simp only [Cond.before, Cond.holds, Cond.value] at q ⊢
  exact q
theorem specialRef (X : Stand p l e R s m args below meth c T locs cells slots) (hexec : p.tables.exec = Jvm.exec) {own : String} {index : Nat} {y : MethodName} (hy1 : y.name = "<init>")
    (hown : s.vm.findClass own = some m.cls) (hlink : (Cond.methodRef own index y).before args s = true) (hinst : (Cond.instanceMethod y).before args s = true)
    {bytes : ByteArray} {maxL : Nat} (hcode : (Cond.code y bytes maxL none).before args s = true)
    (hy : y.cls ≠ "java/lang/invoke/MethodHandle" ∧ y.cls ≠ "java/lang/invoke/VarHandle")
    {W : Nat} {Pre : Pt → Array Value → Prop} {Post : Pt → Array Value → Option Value → Pt → Prop} (hK : Back l R p e below s args y 3 W Pre Post)
    {g : JFrame} (hg : g.method = m) (hsize : g.locals.size = c.maxLocals) {s₀ : State} (hcome : Steps p.tables e below s₀ (T.setTop g)) {a : Addr} {argsL rest : List Value}
    (hlen : ∀ sig, parseMethodDescriptor y.desc = some sig → argsL.length = sig.parameters.length) (hstack : g.stack = argsL.reverse ++ .ref a :: rest) (hW : 2 * g.monitorRoom + (rest.map fun v => v.category).sum ≤ W)
    (hdg : decode c.code g.pc = .ok (.invokespecial index, 3)) (hpre : ∀ vm₁, s.WarmedH vm₁ → Pre ⟨T.setVm vm₁, locs, cells, slots⟩ (.ref a :: argsL).toArray) :
    ∃ (v : Option Value) (vm₁ : Vm) (B : Pt), s.WarmedH vm₁ ∧ Stand p l e R s m args below meth c B.U B.locs B.cells B.slots ∧ Post ⟨T.setVm vm₁, locs, cells, slots⟩ (.ref a :: argsL).toArray v B ∧
      Steps p.tables e below s₀ (B.U.setTop { g with pc := g.pc + 3, stack := v.toList ++ rest }) := by
  obtain ⟨obj, methO, hnO, hmO, hstO, habO⟩ := Cond.instanceMethod_spec hinst
  obtain ⟨methO', cO, hmO', hcO, hbO, hlO, -, hlockO, -, hsigO⟩ := Cond.code_spec hnO hcode
  cases hmO.symm.trans hmO'
  obtain ⟨kO, hkO, hnameO⟩ := className_of_methodNamed hnO
  obtain ⟨hnameMO, hdescO⟩ := name_of_methodNamed hnO hmO
  have hw := X.warmed
  have hU : (Cond.methodRef own index y).before args (s.setVm T.vm) = true := Cond.methodRef_warmed hw hnO hy hlink
  have hownT : (s.setVm T.vm).vm.findClass own = some m.cls := by rw [State.vm_setVm, hw.alike.findClass]; exact hown
  obtain ⟨m', c', hf', hready, hfind, hnames⟩ := Cond.methodRef_named (s := s.setVm T.vm) e hownT hU
  have hmm : m' = obj := by
    rw [State.methodFound?_setVm_of_named hw.alike hnO hy, State.methodFound?_of_named hnO hy] at hf'
    exact (Option.some.inj hf').symm
  subst hmm
  have hc' : c' = m'.cls := by
    rw [State.vm_setVm, hw.alike.findClass, findClass_of_methodNamed hnO] at hfind
    exact (Option.some.inj hfind).symm
  subst hc'
  obtain ⟨kT, hkT, -⟩ := hw.alike.2.2 _ _ hkO
  have hmT : T.vm.method? m' = some methO := by rw [hw.alike.method?]; exact hmO
  have hfound : lookupSpecial T.vm m'.cls "<init>" methO.desc = .method m' := by
    rw [hw.alike.lookupSpecial, hdescO, ← hy1]; exact lookupSpecial_of_named hnO hmO hstO
  have hstep : ∀ target, (∀ acts, Steps p.tables e below (doInvoke e (T.setTop { g with stack := rest }) acts m' (.ref a :: argsL).toArray).1 target) → Steps p.tables e below (T.setTop g) target := by
    intro target hrest
    subst hg
    jvm_step X.here [hexec, hdg, invokespecial.wp_init (e := e) (s := T) (k := kT) (meth := methO) (m := m') (a := a) (args := argsL) (rest := rest) (f := g) X.here.top hnames hready hkT hmT (by rw [hnameMO]; exact hy1) hstO habO hfound (hlen _ hsigO) hstack]
    exact hrest
  obtain ⟨v, B, X', hpost, hsteps⟩ := hK m meth c ⟨T.setVm T.vm, locs, cells, slots⟩ { g with stack := rest } (.invokespecial index) m' (.ref a :: argsL).toArray X hg hsize hdg hW (X.named hnO) (hpre T.vm hw)
  exact ⟨v, T.vm, B, hw, X', hpost, (hcome.trans (hstep _ fun acts => by rw [doInvoke_state]; exact Steps.refl _)).trans hsteps⟩
end New
end Jvm.RoadKit
namespace Jvm.Pilot.@@N@@
open Jvm Jvm.ClassFile Sem Op Lib Jvm.Free Jvm.Stand Jvm.LawKit Jvm.RoadKit Bundle Jvm.Pilot.@@N@@.Jvm.D
abbrev own_y1 : MethodName := ⟨"com/example/fetchwright/fetchwright/service/LoadsInProgress", "started", "(Ljava/lang/Object;Ljava/lang/Object;Lcom/example/fetchwright/fetchwright/service/SecondaryLoad;)V"⟩
abbrev own_y2 : MethodName := ⟨"java/util/ArrayList", "get", "(I)Ljava/lang/Object;"⟩
abbrev own_y3 : MethodName := ⟨"com/example/fetchwright/fetchwright/service/LoadsInProgress$Load", "session", "()Ljava/lang/Object;"⟩
abbrev own_y4 : MethodName := ⟨"com/example/fetchwright/fetchwright/service/LoadsInProgress$Load", "secondary", "()Lcom/example/fetchwright/fetchwright/service/SecondaryLoad;"⟩
abbrev own_y5 : MethodName := ⟨"java/util/ArrayList", "size", "()I"⟩
abbrev own_y6 : MethodName := ⟨"com/example/fetchwright/fetchwright/service/LoadsInProgress", "innermost", "(Ljava/lang/Object;)Lcom/example/fetchwright/fetchwright/service/SecondaryLoad;"⟩
abbrev own_y7 : MethodName := ⟨"java/util/ArrayList", "add", "(Ljava/lang/Object;)Z"⟩
abbrev own_y8 : MethodName := ⟨"java/util/ArrayList", "add", "(Ljava/lang/Object;[Ljava/lang/Object;I)V"⟩
abbrev own_y9 : MethodName := ⟨"com/example/fetchwright/fetchwright/service/SecondaryLoad", "ofProxy", "()Lcom/example/fetchwright/fetchwright/service/SecondaryLoad;"⟩
abbrev own_y10 : MethodName := ⟨"com/example/fetchwright/fetchwright/service/LoadsInProgress$Load", "<init>", "(Ljava/lang/Object;Ljava/lang/Object;Lcom/example/fetchwright/fetchwright/service/SecondaryLoad;)V"⟩
abbrev own_y11 : MethodName := ⟨"com/example/fetchwright/fetchwright/service/Origin", "<init>", "(Lcom/example/fetchwright/fetchwright/service/SecondaryLoad;Ljava/lang/String;)V"⟩
theorem d1_0 : decode prog_16_method_3_code 0 = .ok (.new 15, 3) := by decide +kernel
theorem d1_3 : decode prog_16_method_3_code 3 = .ok (.dup, 1) := by decide +kernel
theorem d1_4 : decode prog_16_method_3_code 4 = .ok (.iconst 0, 1) := by decide +kernel
theorem d1_5 : decode prog_16_method_3_code 5 = .ok (.iconst 0, 1) := by decide +kernel
theorem d1_6 : decode prog_16_method_3_code 6 = .ok (.iconst 0, 1) := by decide +kernel
theorem d1_7 : decode prog_16_method_3_code 7 = .ok (.invokespecial 30, 3) := by decide +kernel
theorem d1_10 : decode prog_16_method_3_code 10 = .ok (.areturn, 1) := by decide +kernel
theorem d2_0 : decode prog_16_method_1_code 0 = .ok (.aload_n 0, 1) := by decide +kernel
theorem d2_1 : decode prog_16_method_1_code 1 = .ok (.invokespecial 1, 3) := by decide +kernel
theorem d2_4 : decode prog_16_method_1_code 4 = .ok (.aload_n 0, 1) := by decide +kernel
theorem d2_5 : decode prog_16_method_1_code 5 = .ok (.new 7, 3) := by decide +kernel
theorem d2_8 : decode prog_16_method_1_code 8 = .ok (.dup, 1) := by decide +kernel
theorem d2_9 : decode prog_16_method_1_code 9 = .ok (.aload_n 0, 1) := by decide +kernel
theorem d2_10 : decode prog_16_method_1_code 10 = .ok (.ldc 9, 2) := by decide +kernel
theorem d2_12 : decode prog_16_method_1_code 12 = .ok (.invokespecial 11, 3) := by decide +kernel
theorem d2_15 : decode prog_16_method_1_code 15 = .ok (.putfield 14, 3) := by decide +kernel
theorem d2_18 : decode prog_16_method_1_code 18 = .ok (.aload_n 0, 1) := by decide +kernel
theorem d2_19 : decode prog_16_method_1_code 19 = .ok (.iload_n 1, 1) := by decide +kernel
theorem d2_20 : decode prog_16_method_1_code 20 = .ok (.putfield 20, 3) := by decide +kernel
theorem d2_23 : decode prog_16_method_1_code 23 = .ok (.aload_n 0, 1) := by decide +kernel
theorem d2_24 : decode prog_16_method_1_code 24 = .ok (.iload_n 2, 1) := by decide +kernel
theorem d2_25 : decode prog_16_method_1_code 25 = .ok (.putfield 24, 3) := by decide +kernel
theorem d2_28 : decode prog_16_method_1_code 28 = .ok (.aload_n 0, 1) := by decide +kernel
theorem d2_29 : decode prog_16_method_1_code 29 = .ok (.iload_n 3, 1) := by decide +kernel
theorem d2_30 : decode prog_16_method_1_code 30 = .ok (.putfield 27, 3) := by decide +kernel
theorem d2_33 : decode prog_16_method_1_code 33 = .ok (.return_, 1) := by decide +kernel
theorem d4_0 : decode prog_12_method_1_code 0 = .ok (.aload_n 0, 1) := by decide +kernel
theorem d4_1 : decode prog_12_method_1_code 1 = .ok (.invokespecial 1, 3) := by decide +kernel
theorem d4_4 : decode prog_12_method_1_code 4 = .ok (.aload_n 0, 1) := by decide +kernel
theorem d4_5 : decode prog_12_method_1_code 5 = .ok (.aload_n 1, 1) := by decide +kernel
theorem d4_6 : decode prog_12_method_1_code 6 = .ok (.putfield 7, 3) := by decide +kernel
theorem d4_9 : decode prog_12_method_1_code 9 = .ok (.aload_n 0, 1) := by decide +kernel
theorem d4_10 : decode prog_12_method_1_code 10 = .ok (.aload_n 2, 1) := by decide +kernel
theorem d4_11 : decode prog_12_method_1_code 11 = .ok (.putfield 13, 3) := by decide +kernel
theorem d4_14 : decode prog_12_method_1_code 14 = .ok (.return_, 1) := by decide +kernel
theorem d5_0 : decode jdk_30_method_1_code 0 = .ok (.aload_n 0, 1) := by decide +kernel
theorem d5_1 : decode jdk_30_method_1_code 1 = .ok (.invokespecial 1, 3) := by decide +kernel
theorem d5_4 : decode jdk_30_method_1_code 4 = .ok (.return_, 1) := by decide +kernel
theorem d6_0 : decode prog_9_method_1_code 0 = .ok (.aload_n 0, 1) := by decide +kernel
theorem d6_1 : decode prog_9_method_1_code 1 = .ok (.invokespecial 1, 3) := by decide +kernel
theorem d6_4 : decode prog_9_method_1_code 4 = .ok (.aload_n 0, 1) := by decide +kernel
theorem d6_5 : decode prog_9_method_1_code 5 = .ok (.new 7, 3) := by decide +kernel
theorem d6_8 : decode prog_9_method_1_code 8 = .ok (.dup, 1) := by decide +kernel
theorem d6_9 : decode prog_9_method_1_code 9 = .ok (.invokespecial 9, 3) := by decide +kernel
theorem d6_12 : decode prog_9_method_1_code 12 = .ok (.putfield 10, 3) := by decide +kernel
theorem d6_15 : decode prog_9_method_1_code 15 = .ok (.return_, 1) := by decide +kernel
theorem d7_0 : decode jdk_38_method_2_code 0 = .ok (.aload_n 0, 1) := by decide +kernel
theorem d7_1 : decode jdk_38_method_2_code 1 = .ok (.invokespecial 1, 3) := by decide +kernel
theorem d7_4 : decode jdk_38_method_2_code 4 = .ok (.aload_n 0, 1) := by decide +kernel
theorem d7_5 : decode jdk_38_method_2_code 5 = .ok (.getstatic 39, 3) := by decide +kernel
theorem d7_8 : decode jdk_38_method_2_code 8 = .ok (.putfield 9, 3) := by decide +kernel
theorem d7_11 : decode jdk_38_method_2_code 11 = .ok (.return_, 1) := by decide +kernel
theorem d8_0 : decode jdk_39_method_1_code 0 = .ok (.aload_n 0, 1) := by decide +kernel
theorem d8_1 : decode jdk_39_method_1_code 1 = .ok (.invokespecial 1, 3) := by decide +kernel
theorem d8_4 : decode jdk_39_method_1_code 4 = .ok (.aload_n 0, 1) := by decide +kernel
theorem d8_5 : decode jdk_39_method_1_code 5 = .ok (.iconst 0, 1) := by decide +kernel
theorem d8_6 : decode jdk_39_method_1_code 6 = .ok (.putfield 7, 3) := by decide +kernel
theorem d8_9 : decode jdk_39_method_1_code 9 = .ok (.return_, 1) := by decide +kernel
theorem d9_0 : decode jdk_22_method_1_code 0 = .ok (.aload_n 0, 1) := by decide +kernel
theorem d9_1 : decode jdk_22_method_1_code 1 = .ok (.invokespecial 1, 3) := by decide +kernel
theorem d9_4 : decode jdk_22_method_1_code 4 = .ok (.return_, 1) := by decide +kernel
theorem d10_0 : decode prog_9_method_4_code 0 = .ok (.aload_n 0, 1) := by decide +kernel
theorem d10_1 : decode prog_9_method_4_code 1 = .ok (.getfield 10, 3) := by decide +kernel
theorem d10_4 : decode prog_9_method_4_code 4 = .ok (.invokevirtual 25, 3) := by decide +kernel
theorem d10_7 : decode prog_9_method_4_code 7 = .ok (.iconst 1, 1) := by decide +kernel
theorem d10_8 : decode prog_9_method_4_code 8 = .ok (.isub, 1) := by decide +kernel
theorem d10_9 : decode prog_9_method_4_code 9 = .ok (.istore_n 2, 1) := by decide +kernel
theorem d10_10 : decode prog_9_method_4_code 10 = .ok (.iload_n 2, 1) := by decide +kernel
theorem d10_11 : decode prog_9_method_4_code 11 = .ok (.ifCond .lt 34, 3) := by decide +kernel
theorem d10_14 : decode prog_9_method_4_code 14 = .ok (.aload_n 0, 1) := by decide +kernel
theorem d10_15 : decode prog_9_method_4_code 15 = .ok (.getfield 10, 3) := by decide +kernel
theorem d10_18 : decode prog_9_method_4_code 18 = .ok (.iload_n 2, 1) := by decide +kernel
theorem d10_19 : decode prog_9_method_4_code 19 = .ok (.invokevirtual 29, 3) := by decide +kernel
theorem d10_22 : decode prog_9_method_4_code 22 = .ok (.checkcast 16, 3) := by decide +kernel
theorem d10_25 : decode prog_9_method_4_code 25 = .ok (.astore_n 3, 1) := by decide +kernel
theorem d10_26 : decode prog_9_method_4_code 26 = .ok (.aload_n 3, 1) := by decide +kernel
theorem d10_27 : decode prog_9_method_4_code 27 = .ok (.invokevirtual 44, 3) := by decide +kernel
theorem d10_30 : decode prog_9_method_4_code 30 = .ok (.aload_n 1, 1) := by decide +kernel
theorem d10_31 : decode prog_9_method_4_code 31 = .ok (.if_acmp .ne 8, 3) := by decide +kernel
theorem d10_34 : decode prog_9_method_4_code 34 = .ok (.aload_n 3, 1) := by decide +kernel
theorem d10_35 : decode prog_9_method_4_code 35 = .ok (.invokevirtual 40, 3) := by decide +kernel
theorem d10_38 : decode prog_9_method_4_code 38 = .ok (.areturn, 1) := by decide +kernel
theorem d10_39 : decode prog_9_method_4_code 39 = .ok (.iinc 2 (-1), 3) := by decide +kernel
theorem d10_42 : decode prog_9_method_4_code 42 = .ok (.goto (-32), 3) := by decide +kernel
theorem d10_45 : decode prog_9_method_4_code 45 = .ok (.aconst_null, 1) := by decide +kernel
theorem d10_46 : decode prog_9_method_4_code 46 = .ok (.areturn, 1) := by decide +kernel
theorem d11_0 : decode jdk_38_method_8_code 0 = .ok (.aload_n 0, 1) := by decide +kernel
theorem d11_1 : decode jdk_38_method_8_code 1 = .ok (.getfield 48, 3) := by decide +kernel
theorem d11_4 : decode jdk_38_method_8_code 4 = .ok (.ireturn, 1) := by decide +kernel
theorem d12_0 : decode prog_9_method_2_code 0 = .ok (.aload_n 0, 1) := by decide +kernel
theorem d12_1 : decode prog_9_method_2_code 1 = .ok (.getfield 10, 3) := by decide +kernel
theorem d12_4 : decode prog_9_method_2_code 4 = .ok (.new 16, 3) := by decide +kernel
theorem d12_7 : decode prog_9_method_2_code 7 = .ok (.dup, 1) := by decide +kernel
theorem d12_8 : decode prog_9_method_2_code 8 = .ok (.aload_n 1, 1) := by decide +kernel
theorem d12_9 : decode prog_9_method_2_code 9 = .ok (.aload_n 2, 1) := by decide +kernel
theorem d12_10 : decode prog_9_method_2_code 10 = .ok (.aload_n 3, 1) := by decide +kernel
theorem d12_11 : decode prog_9_method_2_code 11 = .ok (.invokespecial 18, 3) := by decide +kernel
theorem d12_14 : decode prog_9_method_2_code 14 = .ok (.invokevirtual 21, 3) := by decide +kernel
theorem d12_17 : decode prog_9_method_2_code 17 = .ok (.pop, 1) := by decide +kernel
theorem d12_18 : decode prog_9_method_2_code 18 = .ok (.return_, 1) := by decide +kernel
theorem d13_0 : decode prog_10_method_1_code 0 = .ok (.aload_n 0, 1) := by decide +kernel
theorem d13_1 : decode prog_10_method_1_code 1 = .ok (.invokespecial 1, 3) := by decide +kernel
theorem d13_4 : decode prog_10_method_1_code 4 = .ok (.aload_n 0, 1) := by decide +kernel
theorem d13_5 : decode prog_10_method_1_code 5 = .ok (.aload_n 1, 1) := by decide +kernel
theorem d13_6 : decode prog_10_method_1_code 6 = .ok (.putfield 7, 3) := by decide +kernel
theorem d13_9 : decode prog_10_method_1_code 9 = .ok (.aload_n 0, 1) := by decide +kernel
theorem d13_10 : decode prog_10_method_1_code 10 = .ok (.aload_n 2, 1) := by decide +kernel
theorem d13_11 : decode prog_10_method_1_code 11 = .ok (.putfield 13, 3) := by decide +kernel
theorem d13_14 : decode prog_10_method_1_code 14 = .ok (.aload_n 0, 1) := by decide +kernel
theorem d13_15 : decode prog_10_method_1_code 15 = .ok (.aload_n 3, 1) := by decide +kernel
theorem d13_16 : decode prog_10_method_1_code 16 = .ok (.putfield 16, 3) := by decide +kernel
theorem d13_19 : decode prog_10_method_1_code 19 = .ok (.return_, 1) := by decide +kernel
theorem d14_0 : decode jdk_38_method_25_code 0 = .ok (.aload_n 0, 1) := by decide +kernel
theorem d14_1 : decode jdk_38_method_25_code 1 = .ok (.dup, 1) := by decide +kernel
theorem d14_2 : decode jdk_38_method_25_code 2 = .ok (.getfield 63, 3) := by decide +kernel
theorem d14_5 : decode jdk_38_method_25_code 5 = .ok (.iconst 1, 1) := by decide +kernel
theorem d14_6 : decode jdk_38_method_25_code 6 = .ok (.iadd, 1) := by decide +kernel
theorem d14_7 : decode jdk_38_method_25_code 7 = .ok (.putfield 63, 3) := by decide +kernel
theorem d14_10 : decode jdk_38_method_25_code 10 = .ok (.aload_n 0, 1) := by decide +kernel
theorem d14_11 : decode jdk_38_method_25_code 11 = .ok (.aload_n 1, 1) := by decide +kernel
theorem d14_12 : decode jdk_38_method_25_code 12 = .ok (.aload_n 0, 1) := by decide +kernel
theorem d14_13 : decode jdk_38_method_25_code 13 = .ok (.getfield 9, 3) := by decide +kernel
theorem d14_16 : decode jdk_38_method_25_code 16 = .ok (.aload_n 0, 1) := by decide +kernel
theorem d14_17 : decode jdk_38_method_25_code 17 = .ok (.getfield 48, 3) := by decide +kernel
theorem d14_20 : decode jdk_38_method_25_code 20 = .ok (.invokevirtual 131, 3) := by decide +kernel
theorem d14_23 : decode jdk_38_method_25_code 23 = .ok (.iconst 1, 1) := by decide +kernel
theorem d14_24 : decode jdk_38_method_25_code 24 = .ok (.ireturn, 1) := by decide +kernel
theorem d15_0 : decode jdk_38_method_24_code 0 = .ok (.iload_n 3, 1) := by decide +kernel
theorem d15_1 : decode jdk_38_method_24_code 1 = .ok (.aload_n 2, 1) := by decide +kernel
theorem d15_2 : decode jdk_38_method_24_code 2 = .ok (.arraylength, 1) := by decide +kernel
theorem d15_3 : decode jdk_38_method_24_code 3 = .ok (.if_icmp .ne 8, 3) := by decide +kernel
theorem d15_6 : decode jdk_38_method_24_code 6 = .ok (.aload_n 0, 1) := by decide +kernel
theorem d15_7 : decode jdk_38_method_24_code 7 = .ok (.invokevirtual 129, 3) := by decide +kernel
theorem d15_10 : decode jdk_38_method_24_code 10 = .ok (.astore_n 2, 1) := by decide +kernel
theorem d15_11 : decode jdk_38_method_24_code 11 = .ok (.aload_n 2, 1) := by decide +kernel
theorem d15_12 : decode jdk_38_method_24_code 12 = .ok (.iload_n 3, 1) := by decide +kernel
theorem d15_13 : decode jdk_38_method_24_code 13 = .ok (.aload_n 1, 1) := by decide +kernel
theorem d15_14 : decode jdk_38_method_24_code 14 = .ok (.aastore, 1) := by decide +kernel
theorem d15_15 : decode jdk_38_method_24_code 15 = .ok (.aload_n 0, 1) := by decide +kernel
theorem d15_16 : decode jdk_38_method_24_code 16 = .ok (.iload_n 3, 1) := by decide +kernel
theorem d15_17 : decode jdk_38_method_24_code 17 = .ok (.iconst 1, 1) := by decide +kernel
theorem d15_18 : decode jdk_38_method_24_code 18 = .ok (.iadd, 1) := by decide +kernel
theorem d15_19 : decode jdk_38_method_24_code 19 = .ok (.putfield 48, 3) := by decide +kernel
theorem d15_22 : decode jdk_38_method_24_code 22 = .ok (.return_, 1) := by decide +kernel
theorem d16_0 : decode jdk_38_method_7_code 0 = .ok (.aload_n 0, 1) := by decide +kernel
theorem d16_1 : decode jdk_38_method_7_code 1 = .ok (.aload_n 0, 1) := by decide +kernel
theorem d16_2 : decode jdk_38_method_7_code 2 = .ok (.getfield 48, 3) := by decide +kernel
theorem d16_5 : decode jdk_38_method_7_code 5 = .ok (.iconst 1, 1) := by decide +kernel
theorem d16_6 : decode jdk_38_method_7_code 6 = .ok (.iadd, 1) := by decide +kernel
theorem d16_7 : decode jdk_38_method_7_code 7 = .ok (.invokevirtual 69, 3) := by decide +kernel
theorem d16_10 : decode jdk_38_method_7_code 10 = .ok (.areturn, 1) := by decide +kernel
theorem d17_0 : decode jdk_38_method_6_code 0 = .ok (.aload_n 0, 1) := by decide +kernel
theorem d17_1 : decode jdk_38_method_6_code 1 = .ok (.getfield 9, 3) := by decide +kernel
theorem d17_4 : decode jdk_38_method_6_code 4 = .ok (.arraylength, 1) := by decide +kernel
theorem d17_5 : decode jdk_38_method_6_code 5 = .ok (.istore_n 2, 1) := by decide +kernel
theorem d17_6 : decode jdk_38_method_6_code 6 = .ok (.iload_n 2, 1) := by decide +kernel
theorem d17_7 : decode jdk_38_method_6_code 7 = .ok (.ifCond .gt 13, 3) := by decide +kernel
theorem d17_10 : decode jdk_38_method_6_code 10 = .ok (.aload_n 0, 1) := by decide +kernel
theorem d17_11 : decode jdk_38_method_6_code 11 = .ok (.getfield 9, 3) := by decide +kernel
theorem d17_14 : decode jdk_38_method_6_code 14 = .ok (.getstatic 39, 3) := by decide +kernel
theorem d17_17 : decode jdk_38_method_6_code 17 = .ok (.if_acmp .eq 28, 3) := by decide +kernel
theorem d17_45 : decode jdk_38_method_6_code 45 = .ok (.aload_n 0, 1) := by decide +kernel
theorem d17_46 : decode jdk_38_method_6_code 46 = .ok (.bipush 10, 2) := by decide +kernel
theorem d17_48 : decode jdk_38_method_6_code 48 = .ok (.iload_n 1, 1) := by decide +kernel
theorem d17_49 : decode jdk_38_method_6_code 49 = .ok (.invokestatic 79, 3) := by decide +kernel
theorem d17_52 : decode jdk_38_method_6_code 52 = .ok (.anewarray 7, 3) := by decide +kernel
theorem d17_55 : decode jdk_38_method_6_code 55 = .ok (.dup_x1, 1) := by decide +kernel
theorem d17_56 : decode jdk_38_method_6_code 56 = .ok (.putfield 9, 3) := by decide +kernel
theorem d17_59 : decode jdk_38_method_6_code 59 = .ok (.areturn, 1) := by decide +kernel
theorem d18_0 : decode jdk_29_method_65_code 0 = .ok (.iload_n 0, 1) := by decide +kernel
theorem d18_1 : decode jdk_29_method_65_code 1 = .ok (.iload_n 1, 1) := by decide +kernel
theorem d18_2 : decode jdk_29_method_65_code 2 = .ok (.if_icmp .lt 7, 3) := by decide +kernel
theorem d18_5 : decode jdk_29_method_65_code 5 = .ok (.iload_n 0, 1) := by decide +kernel
theorem d18_6 : decode jdk_29_method_65_code 6 = .ok (.goto 4, 3) := by decide +kernel
theorem d18_10 : decode jdk_29_method_65_code 10 = .ok (.ireturn, 1) := by decide +kernel
theorem d19_0 : decode jdk_38_method_20_code 0 = .ok (.iload_n 1, 1) := by decide +kernel
theorem d19_1 : decode jdk_38_method_20_code 1 = .ok (.aload_n 0, 1) := by decide +kernel
theorem d19_2 : decode jdk_38_method_20_code 2 = .ok (.getfield 48, 3) := by decide +kernel
theorem d19_5 : decode jdk_38_method_20_code 5 = .ok (.invokestatic 118, 3) := by decide +kernel
theorem d19_8 : decode jdk_38_method_20_code 8 = .ok (.pop, 1) := by decide +kernel
theorem d19_9 : decode jdk_38_method_20_code 9 = .ok (.aload_n 0, 1) := by decide +kernel
theorem d19_10 : decode jdk_38_method_20_code 10 = .ok (.iload_n 1, 1) := by decide +kernel
theorem d19_11 : decode jdk_38_method_20_code 11 = .ok (.invokevirtual 123, 3) := by decide +kernel
theorem d19_14 : decode jdk_38_method_20_code 14 = .ok (.areturn, 1) := by decide +kernel
theorem d20_0 : decode jdk_31_method_17_code 0 = .ok (.iload_n 0, 1) := by decide +kernel
theorem d20_1 : decode jdk_31_method_17_code 1 = .ok (.iload_n 1, 1) := by decide +kernel
theorem d20_2 : decode jdk_31_method_17_code 2 = .ok (.aconst_null, 1) := by decide +kernel
theorem d20_3 : decode jdk_31_method_17_code 3 = .ok (.invokestatic 105, 3) := by decide +kernel
theorem d20_6 : decode jdk_31_method_17_code 6 = .ok (.ireturn, 1) := by decide +kernel
theorem d21_0 : decode jdk_41_method_11_code 0 = .ok (.iload_n 0, 1) := by decide +kernel
theorem d21_1 : decode jdk_41_method_11_code 1 = .ok (.ifCond .lt 8, 3) := by decide +kernel
theorem d21_4 : decode jdk_41_method_11_code 4 = .ok (.iload_n 0, 1) := by decide +kernel
theorem d21_5 : decode jdk_41_method_11_code 5 = .ok (.iload_n 1, 1) := by decide +kernel
theorem d21_6 : decode jdk_41_method_11_code 6 = .ok (.if_icmp .lt 10, 3) := by decide +kernel
theorem d21_16 : decode jdk_41_method_11_code 16 = .ok (.iload_n 0, 1) := by decide +kernel
theorem d21_17 : decode jdk_41_method_11_code 17 = .ok (.ireturn, 1) := by decide +kernel
theorem d22_0 : decode jdk_38_method_18_code 0 = .ok (.aload_n 0, 1) := by decide +kernel
theorem d22_1 : decode jdk_38_method_18_code 1 = .ok (.getfield 9, 3) := by decide +kernel
theorem d22_4 : decode jdk_38_method_18_code 4 = .ok (.iload_n 1, 1) := by decide +kernel
theorem d22_5 : decode jdk_38_method_18_code 5 = .ok (.aaload, 1) := by decide +kernel
theorem d22_6 : decode jdk_38_method_18_code 6 = .ok (.areturn, 1) := by decide +kernel
theorem d23_0 : decode prog_10_method_6_code 0 = .ok (.aload_n 0, 1) := by decide +kernel
theorem d23_1 : decode prog_10_method_6_code 1 = .ok (.getfield 13, 3) := by decide +kernel
theorem d23_4 : decode prog_10_method_6_code 4 = .ok (.areturn, 1) := by decide +kernel
theorem d24_0 : decode prog_10_method_7_code 0 = .ok (.aload_n 0, 1) := by decide +kernel
theorem d24_1 : decode prog_10_method_7_code 1 = .ok (.getfield 16, 3) := by decide +kernel
theorem d24_4 : decode prog_10_method_7_code 4 = .ok (.areturn, 1) := by decide +kernel
theorem pn_0 : plainName "java/lang/Record" = true := by first | (simp [plainName, overriddenIn]; done) | decide +kernel
theorem pn_1 : plainName "com/example/fetchwright/fetchwright/service/Origin" = true := by first | (simp [plainName, overriddenIn]; done) | decide +kernel
theorem pn_2 : plainName "com/example/fetchwright/fetchwright/service/SecondaryLoad" = true := by first | (simp [plainName, overriddenIn]; done) | decide +kernel
theorem pn_3 : plainName "java/util/AbstractCollection" = true := by first | (simp [plainName, overriddenIn]; done) | decide +kernel
theorem pn_4 : plainName "java/util/AbstractList" = true := by first | (simp [plainName, overriddenIn]; done) | decide +kernel
theorem pn_5 : plainName "java/util/ArrayList" = true := by first | (simp [plainName, overriddenIn]; done) | decide +kernel
theorem pn_6 : plainName "com/example/fetchwright/fetchwright/service/LoadsInProgress" = true := by first | (simp [plainName, overriddenIn]; done) | decide +kernel
theorem pn_7 : plainName "com/example/fetchwright/fetchwright/service/LoadsInProgress$Load" = true := by first | (simp [plainName, overriddenIn]; done) | decide +kernel
theorem pn_8 : plainName "jdk/internal/util/Preconditions" = true := by first | (simp [plainName, overriddenIn]; done) | decide +kernel
theorem pn_9 : plainName "java/util/Objects" = true := by first | (simp [plainName, overriddenIn]; done) | decide +kernel
theorem pn_10 : plainName "com/example/fetchwright/fetchwright/service/LoadsInProgressInnermostPinLaw" = true := by first | (simp [plainName, overriddenIn]; done) | decide +kernel
theorem pd_0 : parseMethodDescriptor "()V" = some ⟨[], none⟩ := by decide +kernel
theorem pd_1 : parseMethodDescriptor "(Lcom/example/fetchwright/fetchwright/service/SecondaryLoad;Ljava/lang/String;)V" = some ⟨[(.object "com/example/fetchwright/fetchwright/service/SecondaryLoad"), (.object "java/lang/String")], none⟩ := by decide +kernel
theorem pd_2 : parseMethodDescriptor "(ZZZ)V" = some ⟨[.boolean, .boolean, .boolean], none⟩ := by decide +kernel
theorem pd_3 : parseMethodDescriptor "()Lcom/example/fetchwright/fetchwright/service/SecondaryLoad;" = some ⟨[], some (.object "com/example/fetchwright/fetchwright/service/SecondaryLoad")⟩ := by decide +kernel
theorem pd_4 : parseMethodDescriptor "()I" = some ⟨[], some .int⟩ := by decide +kernel
theorem pd_5 : parseMethodDescriptor "(Ljava/lang/Object;)Lcom/example/fetchwright/fetchwright/service/SecondaryLoad;" = some ⟨[(.object "java/lang/Object")], some (.object "com/example/fetchwright/fetchwright/service/SecondaryLoad")⟩ := by decide +kernel
theorem pd_6 : parseMethodDescriptor "(Ljava/lang/Object;Ljava/lang/Object;Lcom/example/fetchwright/fetchwright/service/SecondaryLoad;)V" = some ⟨[(.object "java/lang/Object"), (.object "java/lang/Object"), (.object "com/example/fetchwright/fetchwright/service/SecondaryLoad")], none⟩ := by decide +kernel
theorem pd_7 : parseMethodDescriptor "(II)I" = some ⟨[.int, .int], some .int⟩ := by decide +kernel
theorem pd_8 : parseMethodDescriptor "(I)[Ljava/lang/Object;" = some ⟨[.int], some (.array (.object "java/lang/Object"))⟩ := by decide +kernel
theorem pd_9 : parseMethodDescriptor "()[Ljava/lang/Object;" = some ⟨[], some (.array (.object "java/lang/Object"))⟩ := by decide +kernel
theorem pd_10 : parseMethodDescriptor "(Ljava/lang/Object;[Ljava/lang/Object;I)V" = some ⟨[(.object "java/lang/Object"), (.array (.object "java/lang/Object")), .int], none⟩ := by decide +kernel
theorem pd_11 : parseMethodDescriptor "(Ljava/lang/Object;)Z" = some ⟨[(.object "java/lang/Object")], some .boolean⟩ := by decide +kernel
theorem pd_12 : parseMethodDescriptor "(IILjava/util/function/BiFunction;)I" = some ⟨[.int, .int, (.object "java/util/function/BiFunction")], some .int⟩ := by decide +kernel
theorem pd_13 : parseMethodDescriptor "(I)Ljava/lang/Object;" = some ⟨[.int], some (.object "java/lang/Object")⟩ := by decide +kernel
theorem pd_14 : parseMethodDescriptor "()Ljava/lang/Object;" = some ⟨[], some (.object "java/lang/Object")⟩ := by decide +kernel
theorem own_narU {C : String} {v : Value} (h : v.isRef = true) : narrow (.object C) v = v := by
  rcases Jvm.Free.XT.refc h with rfl | ⟨r, rfl⟩ <;> rfl
theorem own_fitU {C : String} {v : Value} (h : v.isRef = true) : fits (.object C) v = true := by
  rcases Jvm.Free.XT.refc h with rfl | ⟨r, rfl⟩ <;> rfl
def own_pick (e : Int32) (x0 x1 x2 x3 : Addr) : Addr := if e = 0 then x0 else if e = 1 then x1 else if e = 2 then x2 else x3
theorem own_and3 (x : Int32) : x &&& (3 : Int32) = 0 ∨ x &&& (3 : Int32) = 1 ∨ x &&& (3 : Int32) = 2 ∨ x &&& (3 : Int32) = 3 := by
  have h := c_mask x 3 2 (by decide) (by decide)
  have k : ((2 ^ 2 : Nat) : Int) = 4 := by decide
  rw [k] at h
  simp only [← Int32.toInt_inj, h, show (0 : Int32).toInt = 0 from by decide, show (1 : Int32).toInt = 1 from by decide, show (2 : Int32).toInt = 2 from by decide, show (3 : Int32).toInt = 3 from by decide]
  omega
theorem own_in4 {e : Int32} (h : e = 0 ∨ e = 1 ∨ e = 2 ∨ e = 3) : ¬ e < 0 ∧ e < (4 : Int32) := by
  rcases h with rfl | rfl | rfl | rfl <;> decide
theorem own_pickat {e : Int32} (h : e = 0 ∨ e = 1 ∨ e = 2 ∨ e = 3) (x0 x1 x2 x3 : Addr) : [Value.ref x0, .ref x1, .ref x2, .ref x3].getD e.toNatClampNeg .null = .ref (own_pick e x0 x1 x2 x3) := by
  rcases h with rfl | rfl | rfl | rfl <;> rfl
theorem own_str_in : ∀ w ∈ Bundle.stringAtoms, w ∈ tables_1 := by decide +kernel
theorem own_fin {c : Int32} {n : Nat} (h0 : 0 ≤ c.toInt) (h1 : c.toInt < n) : ∃ k, k < n ∧ c = k.toInt32 := by
  have hn : ¬ c < 0 := by
    rw [Int32.lt_iff_toInt_lt]
    show ¬ c.toInt < 0
    omega
  exact ⟨c.toNatClampNeg, by have := nat_of hn; omega, (back32 hn).1.symm⟩
theorem own_nar1 {x : Int32} (h : x = 1) : nar .boolean x = 1 := by subst h; rfl
theorem own_n0 : nar .boolean (0 : Int32) = 0 := rfl
theorem own_n1 : nar .boolean (1 : Int32) = 1 := rfl
theorem own_modfin7 (x : Int32) : ∃ k, k < 5 ∧ (x &&& (7 : Int32)) % (5 : Int32) = k.toInt32 := by
  have h1 := c_mask x 7 3 (by decide) (by decide)
  have k : ((2 ^ 3 : Nat) : Int) = 8 := by decide
  rw [k] at h1
  have h3 := (c_iremV (x &&& (7 : Int32)) 5).1 (by omega) (by decide)
  exact own_fin h3.1 h3.2.1
theorem own_len0 {args : Array Value} {s : State} {t : Term} {a : Addr} {cl : Cell} {ty : FieldType} (ev : t.eval args s none [] s = some (.ref a)) (A : Arr s s.heap a cl ty) (h : (Jvm.Cond.eq (Jvm.Term.length t) (Jvm.Term.int 0)).value args s none s [] = some true) : cl.slots.size = 0 := by
  obtain ⟨x, y, hx, hy, -⟩ := cmp_v (Or.inl h)
  have h3 : s.arrayAt? a = some cl := Jvm.Free.IntBox.arrayAt_of A.1 A.2.1 A.2.2
  have hlt := Jvm.Free.SBG.length_lt ev h3 hx
  have hx' := len_f ev h3 hlt
  rw [Cond.eq_ints hx' (Term.int_eval 0)] at h
  have e : cl.slots.size.toInt32 = 0 := by simpa using h
  have e2 := congrArg Int32.toInt e
  rw [show cl.slots.size.toInt32.toInt = cl.slots.size from Int32.toInt_ofNat_of_lt hlt] at e2
  have k0 : (0 : Int32).toInt = 0 := by decide
  omega
def Q5 (Z : State) (r0 : Addr) (h0 : Heap) (n0 : Nat) (v : Option Value) (h : Heap) (L : List Loc) : Prop := v = none ∧ Fr n0 L ∧ h = h0
theorem ef_5 (m : MethodId) (x0 : Addr) : entryFrame m #[(.ref x0)] 1 = mkF m 0 #[.val (.ref x0)] [] := by first | (simp [entryFrame, mkF, argsToLocals, Value.category]; done) | rfl
set_option maxRecDepth 65536 in
set_option maxHeartbeats 40000000 in
theorem rm5 (l : Launch) (Z : State) (a0 : Array Value) (hw : ∀ d ∈ tables_1, d.before a0 Z = true) (ws : List Jvm.Cond) (r0 : Addr) (h0 : Heap) (n0 : Nat) (Z0 : n0 ≤ h0.size) :
    MetFree l (⟨"java/lang/Record", "<init>", "()V"⟩ : MethodName) (head1 (Jvm.Cond.code (⟨"java/lang/Record", "<init>", "()V"⟩ : MethodName) jdk_30_method_1_code 1 none :: ws) ({ frames := 1, cells := 0, slots := 0, locals := 12 } : Room)) (fun a U => a = #[(.ref r0)] ∧ Z.Warmed39 U.vm ∧ U.heap = h0) (fun _ _ _ _ _ => True) (fun _ U o U' => ∃ v L, o = .returned v ∧ Q5 Z r0 h0 n0 v U'.heap L ∧ FrameEnd U o U' L ({ frames := 1, cells := 0, slots := 0, locals := 12 } : Room).cells ({ frames := 1, cells := 0, slots := 0, locals := 12 } : Room).slots) := by
  refine MetFree.of_bodySF (plainFor_of_name pn_0) hisR ?_
  intro p e s m args below meth c s₁ Bd hml0 hP hK
  obtain ⟨rfl, hZ, hh⟩ := hP
  have hx := Bd.exec
  have hby := Bd.bytes
  have hml : c.maxLocals = 1 := hml0
  have hown : s.vm.findClass "java/lang/Record" = some m.cls := findClass_of_methodNamed Bd.named
  have hnm := (name_of_methodNamed Bd.named Bd.method).1
  have X0 : Stand p l e ({ frames := 1, cells := 0, slots := 0, locals := 12 } : Room) s m #[(.ref r0)] below meth c s₁ [] 0 0 := Stand.of_body Bd
  have e0 : s₁.heap = h0 := by rw [← hh, Bd.state]; rfl
  have N0 := Fr.nil n0
  have pre0 : ∀ t, Steps p.tables e below (s₁.setTop (mkF m 0 #[.val (.ref r0)] [])) t → Steps p.tables e below (s₁.setTop (entryFrame m #[(.ref r0)] 1)) t := fun t k => castTop (ef_5 m r0) k
  obtain ⟨T1, X1, e1, st1⟩ := initO X0 hx hZ hown (hw _ (List.mem_of_getElem? (i := 37) rfl)) (hw _ (List.mem_of_getElem? (i := 16) rfl)) (hw _ (List.mem_of_getElem? (i := 17) rfl)) e0 (g := (mkF m 1 #[.val (.ref r0)] [(.ref r0)])) rfl (by rw [hml]; rfl) rfl (hb hby d5_1) (by decide) (W := 0) (by show 2 * 0 + _ ≤ _; exact Nat.le_of_eq rfl) (by decide)
  have pre2 : ∀ t, Steps p.tables e below (T1.setTop (mkF m 4 #[.val (.ref r0)] [])) t → Steps p.tables e below (s₁.setTop (entryFrame m #[(.ref r0)] 1)) t := by
    intro t k
    refine pre0 _ ?_
    show Steps p.tables e below (s₁.setTop (mkF m 0 #[.val (.ref r0)] [])) _
    refine XS.aloadN X0.here hx rfl (hb hby d5_0) rfl rfl ?_
    show Steps p.tables e below (s₁.setTop (mkF m 1 #[.val (.ref r0)] [(.ref r0)])) _
    refine st1 _ ?_
    exact k
  obtain ⟨fs, hr, hrun, hended, hW, hsame⟩ := X1.leave (v := none) (fun _ => rfl)
  refine ⟨_, _, pre2 _ ?_, hrun, hended, _, _, rfl, ?_, ⟨_, rfl⟩, hW, hsame.mono (by decide) (by decide)⟩
  · show Steps p.tables e below (T1.setTop (mkF m 4 #[.val (.ref r0)] [])) _
    exact X1.returnOut hx Bd.returns (hb hby d5_4) hr
  · show Q5 Z r0 h0 n0 _ T1.heap _
    rw [e1]
    exact ⟨rfl, N0, rfl⟩
def Q4 (Z : State) (r0 : Addr) (r1 : Addr) (r2 : Addr) (y61 : Value) (y62 : Value) (h0 : Heap) (n0 : Nat) (v : Option Value) (h : Heap) (L : List Loc) : Prop := v = none ∧ Fr n0 L ∧ Keep h0 h [r0] ∧ Exa Z h r0 "com/example/fetchwright/fetchwright/service/Origin" ∧ Fld Z h r0 "com/example/fetchwright/fetchwright/service/Origin" "load" "Lcom/example/fetchwright/fetchwright/service/SecondaryLoad;" (.ref r1) ∧ Fld Z h r0 "com/example/fetchwright/fetchwright/service/Origin" "path" "Ljava/lang/String;" (.ref r2)
theorem ef_4 (m : MethodId) (x0 : Addr) (x1 : Addr) (x2 : Addr) : entryFrame m #[(.ref x0), (.ref x1), (.ref x2)] 3 = mkF m 0 #[.val (.ref x0), .val (.ref x1), .val (.ref x2)] [] := by first | (simp [entryFrame, mkF, argsToLocals, Value.category]; done) | rfl
set_option maxRecDepth 65536 in
set_option maxHeartbeats 40000000 in
theorem rm4 (l : Launch) (Z : State) (a0 : Array Value) (hw : ∀ d ∈ tables_1, d.before a0 Z = true) (ws : List Jvm.Cond) (r0 : Addr) (r1 : Addr) (r2 : Addr) (y61 : Value) (y62 : Value) (h0 : Heap) (n0 : Nat) (Z0 : n0 ≤ h0.size) (E_r0 : Exa Z h0 r0 "com/example/fetchwright/fetchwright/service/Origin") (y77 : Fld Z h0 r0 "com/example/fetchwright/fetchwright/service/Origin" "load" "Lcom/example/fetchwright/fetchwright/service/SecondaryLoad;" y61) (g_r0 : n0 ≤ r0) (y83 : Fld Z h0 r0 "com/example/fetchwright/fetchwright/service/Origin" "path" "Ljava/lang/String;" y62) :
    MetFree l own_y11 (head1 (Jvm.Cond.code own_y11 prog_12_method_1_code 3 none :: ws) ({ frames := 2, cells := 0, slots := 0, locals := 24 } : Room)) (fun a U => a = #[(.ref r0), (.ref r1), (.ref r2)] ∧ Z.Warmed39 U.vm ∧ U.heap = h0) (fun _ _ _ _ _ => True) (fun _ U o U' => ∃ v L, o = .returned v ∧ Q4 Z r0 r1 r2 y61 y62 h0 n0 v U'.heap L ∧ FrameEnd U o U' L ({ frames := 2, cells := 0, slots := 0, locals := 24 } : Room).cells ({ frames := 2, cells := 0, slots := 0, locals := 24 } : Room).slots) := by
  refine MetFree.of_bodySF (plainFor_of_name pn_1) hisR ?_
  intro p e s m args below meth c s₁ Bd hml0 hP hK
  obtain ⟨rfl, hZ, hh⟩ := hP
  have hx := Bd.exec
  have hby := Bd.bytes
  have hml : c.maxLocals = 3 := hml0
  have hown : s.vm.findClass "com/example/fetchwright/fetchwright/service/Origin" = some m.cls := findClass_of_methodNamed Bd.named
  have hnm := (name_of_methodNamed Bd.named Bd.method).1
  have X0 : Stand p l e ({ frames := 2, cells := 0, slots := 0, locals := 24 } : Room) s m #[(.ref r0), (.ref r1), (.ref r2)] below meth c s₁ [] 0 0 := Stand.of_body Bd
  have e0 : s₁.heap = h0 := by rw [← hh, Bd.state]; rfl
  have N0 := Fr.nil n0
  have pre0 : ∀ t, Steps p.tables e below (s₁.setTop (mkF m 0 #[.val (.ref r0), .val (.ref r1), .val (.ref r2)] [])) t → Steps p.tables e below (s₁.setTop (entryFrame m #[(.ref r0), (.ref r1), (.ref r2)] 3)) t := fun t k => castTop (ef_4 m r0 r1 r2) k
  obtain ⟨_, _, ⟨T1, L1, k1, n1⟩, -, X1, ⟨Lc1, hQ1, l1, y1, z1⟩, st1⟩ := X0.specialBack hx (y := (⟨"java/lang/Record", "<init>", "()V"⟩ : MethodName)) rfl hown (mvT hZ (hw _ (List.mem_of_getElem? (i := 32) rfl))) (mvT hZ (hw _ (List.mem_of_getElem? (i := 33) rfl))) (mvT hZ (hw _ (List.mem_of_getElem? (i := 36) rfl))) (by decide) (backOf (W := 0) (rm5 l Z a0 hw [] r0 h0 n0 (Nat.le_trans Z0 (Keep.refl h0 [r0]).1) ) hZ (hw _ (List.mem_of_getElem? (i := 36) rfl)) (hw _ (List.mem_of_getElem? (i := 35) rfl)) (by decide) (by decide)) (g := (mkF m 1 #[.val (.ref r0), .val (.ref r1), .val (.ref r2)] [(.ref r0)])) rfl (by rw [hml]; rfl) (Steps.refl _) (a := r0) (argsL := []) (rest := []) (lenOf pd_0 rfl) rfl (by show 2 * 0 + _ ≤ _; exact Nat.le_of_eq rfl) (hb hby d4_1) (fun _ _ => ⟨rfl, e0, (by decide : 0 + 0 ≤ _), (by decide : 0 + 0 ≤ _)⟩)
  dsimp only [Pt.U, Pt.locs, Pt.cells, Pt.slots] at X1 l1 y1 z1 st1 hQ1
  subst l1 y1 z1
  obtain ⟨rfl, Nq1, e1⟩ := hQ1
  have N1 := Fr.app N0 Nq1
  obtain ⟨T2, h2, X2, e2, W2, st2⟩ := putF X1 hx hZ hown (host := "") (Or.inl (hw _ (List.mem_of_getElem? (i := 38) rfl))) Via.refl e1 y77 E_r0 (Or.inr ⟨(hw _ (List.mem_of_getElem? (i := 39) rfl)), rfl, hnm⟩) (hw _ (List.mem_of_getElem? (i := 19) rfl)) (ty := (.object "com/example/fetchwright/fetchwright/service/SecondaryLoad")) (by decide) rfl rfl (g := (mkF m 6 #[.val (.ref r0), .val (.ref r1), .val (.ref r2)] [(.ref r1), (.ref r0)])) rfl rfl (hb hby d4_6)
  have N2 := Fr.snoc X2 N1 g_r0
  have K3 : Keep h0 h2 [r0] := (Keep.refl h0 [r0]).wr W2 (Or.inl (List.mem_of_getElem? (i := 0) rfl))
  have F2 := y77.same W2
  have f4 := (E_r0.wr W2)
  have f5 := (y83.other W2 (Or.inr (slot_ne (Or.inr (hw _ (List.mem_of_getElem? (i := 41) rfl))) (Or.inr (hw _ (List.mem_of_getElem? (i := 39) rfl))) (by decide) (t := (.object "java/lang/String")) (t' := (.object "com/example/fetchwright/fetchwright/service/SecondaryLoad")) (by decide) (by decide))))
  obtain ⟨T6, h6, X6, e6, W6, st6⟩ := putF X2 hx hZ hown (host := "") (Or.inl (hw _ (List.mem_of_getElem? (i := 40) rfl))) Via.refl e2 f5 f4 (Or.inr ⟨(hw _ (List.mem_of_getElem? (i := 41) rfl)), rfl, hnm⟩) (hw _ (List.mem_of_getElem? (i := 19) rfl)) (ty := (.object "java/lang/String")) (by decide) rfl rfl (g := (mkF m 11 #[.val (.ref r0), .val (.ref r1), .val (.ref r2)] [(.ref r2), (.ref r0)])) rfl rfl (hb hby d4_11)
  have N6 := Fr.snoc X6 N2 g_r0
  have K7 : Keep h0 h6 [r0] := K3.wr W6 (Or.inl (List.mem_of_getElem? (i := 0) rfl))
  have F6 := f5.same W6
  have pre8 : ∀ t, Steps p.tables e below (T6.setTop (mkF m 14 #[.val (.ref r0), .val (.ref r1), .val (.ref r2)] [])) t → Steps p.tables e below (s₁.setTop (entryFrame m #[(.ref r0), (.ref r1), (.ref r2)] 3)) t := by
    intro t k
    refine pre0 _ ?_
    show Steps p.tables e below (s₁.setTop (mkF m 0 #[.val (.ref r0), .val (.ref r1), .val (.ref r2)] [])) _
    refine XS.aloadN X0.here hx rfl (hb hby d4_0) rfl rfl ?_
    show Steps p.tables e below (s₁.setTop (mkF m 1 #[.val (.ref r0), .val (.ref r1), .val (.ref r2)] [(.ref r0)])) _
    refine st1.trans ?_
    show Steps p.tables e below (T1.setTop (mkF m 4 #[.val (.ref r0), .val (.ref r1), .val (.ref r2)] [])) _
    refine XS.aloadN X1.here hx rfl (hb hby d4_4) rfl rfl ?_
    refine XS.aloadN X1.here hx rfl (hb hby d4_5) rfl rfl ?_
    show Steps p.tables e below (T1.setTop (mkF m 6 #[.val (.ref r0), .val (.ref r1), .val (.ref r2)] [(.ref r1), (.ref r0)])) _
    refine st2 _ ?_
    show Steps p.tables e below (T2.setTop (mkF m 9 #[.val (.ref r0), .val (.ref r1), .val (.ref r2)] [])) _
    refine XS.aloadN X2.here hx rfl (hb hby d4_9) rfl rfl ?_
    refine XS.aloadN X2.here hx rfl (hb hby d4_10) rfl rfl ?_
    show Steps p.tables e below (T2.setTop (mkF m 11 #[.val (.ref r0), .val (.ref r1), .val (.ref r2)] [(.ref r2), (.ref r0)])) _
    refine st6 _ ?_
    exact k
  have f9 := (f4.wr W6)
  have f10 := (F2.other W6 (Or.inr (slot_ne (Or.inr (hw _ (List.mem_of_getElem? (i := 39) rfl))) (Or.inr (hw _ (List.mem_of_getElem? (i := 41) rfl))) (by decide) (t := (.object "com/example/fetchwright/fetchwright/service/SecondaryLoad")) (t' := (.object "java/lang/String")) (by decide) (by decide))))
  obtain ⟨fs, hr, hrun, hended, hW, hsame⟩ := X6.leave (v := none) (fun _ => rfl)
  refine ⟨_, _, pre8 _ ?_, hrun, hended, _, _, rfl, ?_, ⟨_, rfl⟩, hW, hsame.mono (by decide) (by decide)⟩
  · show Steps p.tables e below (T6.setTop (mkF m 14 #[.val (.ref r0), .val (.ref r1), .val (.ref r2)] [])) _
    exact X6.returnOut hx Bd.returns (hb hby d4_14) hr
  · show Q4 Z r0 r1 r2 y61 y62 h0 n0 _ T6.heap _
    rw [e6]
    exact ⟨rfl, N6, K7, f9, f10, F6⟩
def Q2 (Z : State) (r0 : Addr) (i1 : Int32) (i2 : Int32) (i3 : Int32) (y63 : Value) (y64 : Value) (y65 : Value) (y66 : Value) (h0 : Heap) (n0 : Nat) (v : Option Value) (h : Heap) (L : List Loc) : Prop := v = none ∧ Fr n0 L ∧ Keep h0 h [r0] ∧ Exa Z h r0 "com/example/fetchwright/fetchwright/service/SecondaryLoad" ∧ Fld Z h r0 "com/example/fetchwright/fetchwright/service/SecondaryLoad" "ofCollection" "Z" (.int (nar .boolean i1)) ∧ Fld Z h r0 "com/example/fetchwright/fetchwright/service/SecondaryLoad" "claimedLater" "Z" (.int (nar .boolean i2)) ∧ Fld Z h r0 "com/example/fetchwright/fetchwright/service/SecondaryLoad" "withOthers" "Z" (.int (nar .boolean i3))
theorem ef_2 (m : MethodId) (x0 : Addr) (x1 : Int32) (x2 : Int32) (x3 : Int32) : entryFrame m #[(.ref x0), (.int x1), (.int x2), (.int x3)] 4 = mkF m 0 #[.val (.ref x0), .val (.int x1), .val (.int x2), .val (.int x3)] [] := by first | (simp [entryFrame, mkF, argsToLocals, Value.category]; done) | rfl
set_option maxRecDepth 65536 in
set_option maxHeartbeats 40000000 in
theorem rm2 (l : Launch) (Z : State) (a0 : Array Value) (hw : ∀ d ∈ tables_1, d.before a0 Z = true) (ws : List Jvm.Cond) (r0 : Addr) (i1 : Int32) (i2 : Int32) (i3 : Int32) (y63 : Value) (y64 : Value) (y65 : Value) (y66 : Value) (h0 : Heap) (n0 : Nat) (Z0 : n0 ≤ h0.size) (E_r0 : Exa Z h0 r0 "com/example/fetchwright/fetchwright/service/SecondaryLoad") (y84 : Fld Z h0 r0 "com/example/fetchwright/fetchwright/service/SecondaryLoad" "resultOrigin" "Lcom/example/fetchwright/fetchwright/service/Origin;" y63) (g_r0 : n0 ≤ r0) (y85 : Fld Z h0 r0 "com/example/fetchwright/fetchwright/service/SecondaryLoad" "ofCollection" "Z" y64) (y86 : Fld Z h0 r0 "com/example/fetchwright/fetchwright/service/SecondaryLoad" "claimedLater" "Z" y65) (y87 : Fld Z h0 r0 "com/example/fetchwright/fetchwright/service/SecondaryLoad" "withOthers" "Z" y66) :
    MetFree l (⟨"com/example/fetchwright/fetchwright/service/SecondaryLoad", "<init>", "(ZZZ)V"⟩ : MethodName) (head1 (Jvm.Cond.code (⟨"com/example/fetchwright/fetchwright/service/SecondaryLoad", "<init>", "(ZZZ)V"⟩ : MethodName) prog_16_method_1_code 4 none :: ws) ({ frames := 3, cells := 3, slots := 6, locals := 40 } : Room)) (fun a U => a = #[(.ref r0), (.int i1), (.int i2), (.int i3)] ∧ Z.Warmed39 U.vm ∧ U.heap = h0) (fun _ _ _ _ _ => True) (fun _ U o U' => ∃ v L, o = .returned v ∧ Q2 Z r0 i1 i2 i3 y63 y64 y65 y66 h0 n0 v U'.heap L ∧ ReturnedEndW U o U' L ({ frames := 3, cells := 3, slots := 6, locals := 40 } : Room).cells ({ frames := 3, cells := 3, slots := 6, locals := 40 } : Room).slots) := by
  refine MetFree.of_bodySF (plainFor_of_name pn_2) hisR ?_
  intro p e s m args below meth c s₁ Bd hml0 hP hK
  obtain ⟨rfl, hZ, hh⟩ := hP
  have hx := Bd.exec
  have hby := Bd.bytes
  have hml : c.maxLocals = 4 := hml0
  have hown : s.vm.findClass "com/example/fetchwright/fetchwright/service/SecondaryLoad" = some m.cls := findClass_of_methodNamed Bd.named
  have hnm := (name_of_methodNamed Bd.named Bd.method).1
  have X0 : Stand p l e ({ frames := 3, cells := 3, slots := 6, locals := 40 } : Room) s m #[(.ref r0), (.int i1), (.int i2), (.int i3)] below meth c s₁ [] 0 0 := Stand.of_body Bd
  have e0 : s₁.heap = h0 := by rw [← hh, Bd.state]; rfl
  have N0 := Fr.nil n0
  have pre0 : ∀ t, Steps p.tables e below (s₁.setTop (mkF m 0 #[.val (.ref r0), .val (.int i1), .val (.int i2), .val (.int i3)] [])) t → Steps p.tables e below (s₁.setTop (entryFrame m #[(.ref r0), (.int i1), (.int i2), (.int i3)] 4)) t := fun t k => castTop (ef_2 m r0 i1 i2 i3) k
  obtain ⟨T1, X1, e1, st1⟩ := initO X0 hx hZ hown (hw _ (List.mem_of_getElem? (i := 15) rfl)) (hw _ (List.mem_of_getElem? (i := 16) rfl)) (hw _ (List.mem_of_getElem? (i := 17) rfl)) e0 (g := (mkF m 1 #[.val (.ref r0), .val (.int i1), .val (.int i2), .val (.int i3)] [(.ref r0)])) rfl (by rw [hml]; rfl) rfl (hb hby d2_1) (by decide) (W := 0) (by show 2 * 0 + _ ≤ _; exact Nat.le_of_eq rfl) (by decide)
  obtain ⟨T2, h2, X2, e2, E2, A2, D2, -, st2⟩ := newO X1 hx hZ hown (hw _ (List.mem_of_getElem? (i := 18) rfl)) (hw _ (List.mem_of_getElem? (i := 19) rfl)) (hw _ (List.mem_of_getElem? (i := 20) rfl)) e1 (g := (mkF m 5 #[.val (.ref r0), .val (.int i1), .val (.int i2), .val (.int i3)] [(.ref r0)])) rfl (hb hby d2_5) (by decide) (by decide)
  obtain ⟨b2, g2⟩ : ∃ z, z = h0.size := ⟨_, rfl⟩
  rw [← g2] at A2 D2 st2
  have sz_b2 : h0.size ≤ b2 := Nat.le_trans (Keep.refl h0 [r0]).1 (Nat.le_of_eq g2.symm)
  have K3 : Keep h0 h2 [r0] := (Keep.refl h0 [r0]).ext E2
  have Fload_2 : Fld Z h2 b2 "com/example/fetchwright/fetchwright/service/Origin" "load" "Lcom/example/fetchwright/fetchwright/service/SecondaryLoad;" .null := D2 (Or.inr (hw _ (List.mem_of_getElem? (i := 39) rfl))) (ty := (.object "com/example/fetchwright/fetchwright/service/SecondaryLoad")) (by decide)
  have Fpath_2 : Fld Z h2 b2 "com/example/fetchwright/fetchwright/service/Origin" "path" "Ljava/lang/String;" .null := D2 (Or.inr (hw _ (List.mem_of_getElem? (i := 41) rfl))) (ty := (.object "java/lang/String")) (by decide)
  obtain ⟨a4, T4, h4, k4, X4, e4, E4, S4, kk4, hZ4, hown4, st4⟩ := ldcS (s := s) (vm0 := s.vm) (show Stand p l e ({ frames := 3, cells := 3, slots := 6, locals := 40 } : Room) (s.setVm s.vm) m #[(.ref r0), (.int i1), (.int i2), (.int i3)] below meth c T2 _ _ _ from X2) hx hZ hown (hw _ (List.mem_of_getElem? (i := 21) rfl)) (fun d hd => hw d (own_str_in d hd)) e2 ((State.WarmedH.refl s).since 0) (Nat.zero_le _) (g := (mkF m 10 #[.val (.ref r0), .val (.int i1), .val (.int i2), .val (.int i3)] [(.ref r0), (.ref b2), (.ref b2), (.ref r0)])) rfl (hb hby d2_10) (n := 0) (by decide) (by decide) (by decide) (by decide)
  have hZ := hZ4
  have hown := hown4
  have K5 : Keep h0 h4 [r0] := K3.ext E4
  have f6 := (A2.ext E4)
  have f7 := (Fload_2.ext E4)
  have f8 := (Fpath_2.ext E4)
  obtain ⟨_, _, ⟨T9, L9, k9, n9⟩, -, X9, ⟨Lc9, hQ9, l9, y9, z9⟩, st9⟩ := X4.specialBack hx (y := own_y11) rfl hown (mvT hZ (hw _ (List.mem_of_getElem? (i := 29) rfl))) (mvT hZ (hw _ (List.mem_of_getElem? (i := 30) rfl))) (mvT hZ (hw _ (List.mem_of_getElem? (i := 31) rfl))) (by decide) (backOf (W := 2) (rm4 l Z a0 hw [] b2 r0 a4 (.null) (.null) h4 n0 (Nat.le_trans Z0 K5.1) f6 f7 (Nat.le_trans Z0 sz_b2) f8) hZ (hw _ (List.mem_of_getElem? (i := 31) rfl)) (hw _ (List.mem_of_getElem? (i := 20) rfl)) (by decide) (by decide)) (g := (mkF m 12 #[.val (.ref r0), .val (.int i1), .val (.int i2), .val (.int i3)] [(.ref a4), (.ref r0), (.ref b2), (.ref b2), (.ref r0)])) rfl (by rw [hml]; rfl) (Steps.refl _) (a := b2) (argsL := [(.ref r0), (.ref a4)]) (rest := [(.ref b2), (.ref r0)]) (lenOf pd_1 rfl) rfl (by show 2 * 0 + _ ≤ _; exact Nat.le_of_eq rfl) (hb hby d2_12) (fun _ _ => ⟨rfl, e4, (by decide : 3 + 0 ≤ _), (by decide : 6 + 0 ≤ _)⟩)
  dsimp only [Pt.U, Pt.locs, Pt.cells, Pt.slots] at X9 l9 y9 z9 st9 hQ9
  subst l9 y9 z9
  obtain ⟨rfl, Nq9, Kq9, f9_0, f9_1, f9_2⟩ := hQ9
  have K10 : Keep h0 T9.heap [r0] := K5.trans Kq9 (allS (Or.inr sz_b2) all0)
  have N9 := Fr.app N0 Nq9
  have f11 := (((E_r0.ext E2).ext E4).keep Kq9)
  have f12 := (((y84.ext E2).ext E4).keep Kq9 (ninS (Nat.ne_of_lt (Nat.lt_of_lt_of_le E_r0.lt (Nat.le_trans (Nat.le_refl _) (Nat.le_of_eq g2.symm)))) nin0))
  obtain ⟨T13, h13, X13, e13, W13, st13⟩ := putF X9 hx hZ hown (host := "") (Or.inl (hw _ (List.mem_of_getElem? (i := 42) rfl))) Via.refl rfl f12 f11 (Or.inr ⟨(hw _ (List.mem_of_getElem? (i := 43) rfl)), rfl, hnm⟩) (hw _ (List.mem_of_getElem? (i := 11) rfl)) (ty := (.object "com/example/fetchwright/fetchwright/service/Origin")) (by decide) rfl rfl (g := (mkF m 15 #[.val (.ref r0), .val (.int i1), .val (.int i2), .val (.int i3)] [(.ref b2), (.ref r0)])) rfl rfl (hb hby d2_15)
  have N13 := Fr.snoc X13 N9 g_r0
  have K14 : Keep h0 h13 [r0] := K10.wr W13 (Or.inl (List.mem_of_getElem? (i := 0) rfl))
  have F13 := f12.same W13
  have f15 := (f11.wr W13)
  have f16 := ((((y85.ext E2).ext E4).keep Kq9 (ninS (Nat.ne_of_lt (Nat.lt_of_lt_of_le E_r0.lt (Nat.le_trans (Nat.le_refl _) (Nat.le_of_eq g2.symm)))) nin0)).other W13 (Or.inr (slot_ne (Or.inr (hw _ (List.mem_of_getElem? (i := 45) rfl))) (Or.inr (hw _ (List.mem_of_getElem? (i := 43) rfl))) (by decide) (t := .boolean) (t' := (.object "com/example/fetchwright/fetchwright/service/Origin")) (by decide) (by decide))))
  obtain ⟨T17, h17, X17, e17, W17, st17⟩ := putFN X13 hx hZ hown (hw _ (List.mem_of_getElem? (i := 44) rfl)) Via.refl e13 f16 f15 (Or.inr ⟨(hw _ (List.mem_of_getElem? (i := 45) rfl)), rfl, hnm⟩) (hw _ (List.mem_of_getElem? (i := 11) rfl)) (ty := .boolean) (v' := (.int (nar .boolean i1))) (by decide) rfl (fits_nar_bool _) (g := (mkF m 20 #[.val (.ref r0), .val (.int i1), .val (.int i2), .val (.int i3)] [(.int i1), (.ref r0)])) rfl rfl (hb hby d2_20)
  have N17 := Fr.snoc X17 N13 g_r0
  have K18 : Keep h0 h17 [r0] := K14.wr W17 (Or.inl (List.mem_of_getElem? (i := 0) rfl))
  have F17 := f16.same W17
  have f19 := (f15.wr W17)
  have f20 := (((((y86.ext E2).ext E4).keep Kq9 (ninS (Nat.ne_of_lt (Nat.lt_of_lt_of_le E_r0.lt (Nat.le_trans (Nat.le_refl _) (Nat.le_of_eq g2.symm)))) nin0)).other W13 (Or.inr (slot_ne (Or.inr (hw _ (List.mem_of_getElem? (i := 47) rfl))) (Or.inr (hw _ (List.mem_of_getElem? (i := 43) rfl))) (by decide) (t := .boolean) (t' := (.object "com/example/fetchwright/fetchwright/service/Origin")) (by decide) (by decide)))).other W17 (Or.inr (slot_ne (Or.inr (hw _ (List.mem_of_getElem? (i := 47) rfl))) (Or.inr (hw _ (List.mem_of_getElem? (i := 45) rfl))) (by decide) (t := .boolean) (t' := .boolean) (by decide) (by decide))))
  obtain ⟨T21, h21, X21, e21, W21, st21⟩ := putFN X17 hx hZ hown (hw _ (List.mem_of_getElem? (i := 46) rfl)) Via.refl e17 f20 f19 (Or.inr ⟨(hw _ (List.mem_of_getElem? (i := 47) rfl)), rfl, hnm⟩) (hw _ (List.mem_of_getElem? (i := 11) rfl)) (ty := .boolean) (v' := (.int (nar .boolean i2))) (by decide) rfl (fits_nar_bool _) (g := (mkF m 25 #[.val (.ref r0), .val (.int i1), .val (.int i2), .val (.int i3)] [(.int i2), (.ref r0)])) rfl rfl (hb hby d2_25)
  have N21 := Fr.snoc X21 N17 g_r0
  have K22 : Keep h0 h21 [r0] := K18.wr W21 (Or.inl (List.mem_of_getElem? (i := 0) rfl))
  have F21 := f20.same W21
  have f23 := (f19.wr W21)
  have f24 := ((((((y87.ext E2).ext E4).keep Kq9 (ninS (Nat.ne_of_lt (Nat.lt_of_lt_of_le E_r0.lt (Nat.le_trans (Nat.le_refl _) (Nat.le_of_eq g2.symm)))) nin0)).other W13 (Or.inr (slot_ne (Or.inr (hw _ (List.mem_of_getElem? (i := 49) rfl))) (Or.inr (hw _ (List.mem_of_getElem? (i := 43) rfl))) (by decide) (t := .boolean) (t' := (.object "com/example/fetchwright/fetchwright/service/Origin")) (by decide) (by decide)))).other W17 (Or.inr (slot_ne (Or.inr (hw _ (List.mem_of_getElem? (i := 49) rfl))) (Or.inr (hw _ (List.mem_of_getElem? (i := 45) rfl))) (by decide) (t := .boolean) (t' := .boolean) (by decide) (by decide)))).other W21 (Or.inr (slot_ne (Or.inr (hw _ (List.mem_of_getElem? (i := 49) rfl))) (Or.inr (hw _ (List.mem_of_getElem? (i := 47) rfl))) (by decide) (t := .boolean) (t' := .boolean) (by decide) (by decide))))
  obtain ⟨T25, h25, X25, e25, W25, st25⟩ := putFN X21 hx hZ hown (hw _ (List.mem_of_getElem? (i := 48) rfl)) Via.refl e21 f24 f23 (Or.inr ⟨(hw _ (List.mem_of_getElem? (i := 49) rfl)), rfl, hnm⟩) (hw _ (List.mem_of_getElem? (i := 11) rfl)) (ty := .boolean) (v' := (.int (nar .boolean i3))) (by decide) rfl (fits_nar_bool _) (g := (mkF m 30 #[.val (.ref r0), .val (.int i1), .val (.int i2), .val (.int i3)] [(.int i3), (.ref r0)])) rfl rfl (hb hby d2_30)
  have N25 := Fr.snoc X25 N21 g_r0
  have K26 : Keep h0 h25 [r0] := K22.wr W25 (Or.inl (List.mem_of_getElem? (i := 0) rfl))
  have F25 := f24.same W25
  have pre27 : ∀ t, Steps p.tables e below (T25.setTop (mkF m 33 #[.val (.ref r0), .val (.int i1), .val (.int i2), .val (.int i3)] [])) t → Steps p.tables e below (s₁.setTop (entryFrame m #[(.ref r0), (.int i1), (.int i2), (.int i3)] 4)) t := by
    intro t k
    refine pre0 _ ?_
    show Steps p.tables e below (s₁.setTop (mkF m 0 #[.val (.ref r0), .val (.int i1), .val (.int i2), .val (.int i3)] [])) _
    refine XS.aloadN X0.here hx rfl (hb hby d2_0) rfl rfl ?_
    show Steps p.tables e below (s₁.setTop (mkF m 1 #[.val (.ref r0), .val (.int i1), .val (.int i2), .val (.int i3)] [(.ref r0)])) _
    refine st1 _ ?_
    show Steps p.tables e below (T1.setTop (mkF m 4 #[.val (.ref r0), .val (.int i1), .val (.int i2), .val (.int i3)] [])) _
    refine XS.aloadN X1.here hx rfl (hb hby d2_4) rfl rfl ?_
    show Steps p.tables e below (T1.setTop (mkF m 5 #[.val (.ref r0), .val (.int i1), .val (.int i2), .val (.int i3)] [(.ref r0)])) _
    refine st2 _ ?_
    show Steps p.tables e below (T2.setTop (mkF m 8 #[.val (.ref r0), .val (.int i1), .val (.int i2), .val (.int i3)] [(.ref b2), (.ref r0)])) _
    refine XS.dup X2.here hx rfl (hb hby d2_8) rfl rfl ?_
    refine XS.aloadN X2.here hx rfl (hb hby d2_9) rfl rfl ?_
    show Steps p.tables e below (T2.setTop (mkF m 10 #[.val (.ref r0), .val (.int i1), .val (.int i2), .val (.int i3)] [(.ref r0), (.ref b2), (.ref b2), (.ref r0)])) _
    refine st4 _ ?_
    show Steps p.tables e below (T4.setTop (mkF m 12 #[.val (.ref r0), .val (.int i1), .val (.int i2), .val (.int i3)] [(.ref a4), (.ref r0), (.ref b2), (.ref b2), (.ref r0)])) _
    refine st9.trans ?_
    show Steps p.tables e below (T9.setTop (mkF m 15 #[.val (.ref r0), .val (.int i1), .val (.int i2), .val (.int i3)] [(.ref b2), (.ref r0)])) _
    refine st13 _ ?_
    show Steps p.tables e below (T13.setTop (mkF m 18 #[.val (.ref r0), .val (.int i1), .val (.int i2), .val (.int i3)] [])) _
    refine XS.aloadN X13.here hx rfl (hb hby d2_18) rfl rfl ?_
    refine XS.iloadN X13.here hx rfl (hb hby d2_19) rfl ?_
    show Steps p.tables e below (T13.setTop (mkF m 20 #[.val (.ref r0), .val (.int i1), .val (.int i2), .val (.int i3)] [(.int i1), (.ref r0)])) _
    refine st17 _ ?_
    show Steps p.tables e below (T17.setTop (mkF m 23 #[.val (.ref r0), .val (.int i1), .val (.int i2), .val (.int i3)] [])) _
    refine XS.aloadN X17.here hx rfl (hb hby d2_23) rfl rfl ?_
    refine XS.iloadN X17.here hx rfl (hb hby d2_24) rfl ?_
    show Steps p.tables e below (T17.setTop (mkF m 25 #[.val (.ref r0), .val (.int i1), .val (.int i2), .val (.int i3)] [(.int i2), (.ref r0)])) _
    refine st21 _ ?_
    show Steps p.tables e below (T21.setTop (mkF m 28 #[.val (.ref r0), .val (.int i1), .val (.int i2), .val (.int i3)] [])) _
    refine XS.aloadN X21.here hx rfl (hb hby d2_28) rfl rfl ?_
    refine XS.iloadN X21.here hx rfl (hb hby d2_29) rfl ?_
    show Steps p.tables e below (T21.setTop (mkF m 30 #[.val (.ref r0), .val (.int i1), .val (.int i2), .val (.int i3)] [(.int i3), (.ref r0)])) _
    refine st25 _ ?_
    exact k
  have f28 := (f23.wr W25)
  have f29 := ((F17.other W21 (Or.inr (slot_ne (Or.inr (hw _ (List.mem_of_getElem? (i := 45) rfl))) (Or.inr (hw _ (List.mem_of_getElem? (i := 47) rfl))) (by decide) (t := .boolean) (t' := .boolean) (by decide) (by decide)))).other W25 (Or.inr (slot_ne (Or.inr (hw _ (List.mem_of_getElem? (i := 45) rfl))) (Or.inr (hw _ (List.mem_of_getElem? (i := 49) rfl))) (by decide) (t := .boolean) (t' := .boolean) (by decide) (by decide))))
  have f30 := (F21.other W25 (Or.inr (slot_ne (Or.inr (hw _ (List.mem_of_getElem? (i := 47) rfl))) (Or.inr (hw _ (List.mem_of_getElem? (i := 49) rfl))) (by decide) (t := .boolean) (t' := .boolean) (by decide) (by decide))))
  obtain ⟨fs, hr, hrun, hended, hRW⟩ := Stand.leaveW (s := s) (vm₁ := T4.vm) (show Stand p l e ({ frames := 3, cells := 3, slots := 6, locals := 40 } : Room) (s.setVm T4.vm) m #[(.ref r0), (.int i1), (.int i2), (.int i3)] below meth c T25 _ _ _ from X25) S4 (by rw [e25]; exact Nat.le_trans kk4 (Nat.le_trans (Nat.le_trans (Nat.le_trans (Nat.le_trans Kq9.1 (Keep.of_wr W13).1) (Keep.of_wr W17).1) (Keep.of_wr W21).1) (Keep.of_wr W25).1)) (v := none) (fun _ => rfl)
  refine ⟨_, _, pre27 _ ?_, hrun, hended, _, _, rfl, ?_, hRW.1, hRW.2.1, hRW.2.2.1, hRW.2.2.2.mono (by decide) (by decide)⟩
  · show Steps p.tables e below (T25.setTop (mkF m 33 #[.val (.ref r0), .val (.int i1), .val (.int i2), .val (.int i3)] [])) _
    exact X25.returnOut hx Bd.returns (hb hby d2_33) hr
  · show Q2 Z r0 i1 i2 i3 y63 y64 y65 y66 h0 n0 _ T25.heap _
    rw [e25]
    exact ⟨rfl, N25, K26, f28, f29, f30, F25⟩
def Q1 (Z : State)  (h0 : Heap) (n0 : Nat) (v : Option Value) (h : Heap) (L : List Loc) : Prop := ∃ (b1 : Addr), v = some (.ref b1) ∧ Fr n0 L ∧ Keep h0 h [] ∧ h0.size ≤ b1 ∧ Exa Z h b1 "com/example/fetchwright/fetchwright/service/SecondaryLoad" ∧ Fld Z h b1 "com/example/fetchwright/fetchwright/service/SecondaryLoad" "ofCollection" "Z" (.int (nar .boolean (0 : Int32))) ∧ Fld Z h b1 "com/example/fetchwright/fetchwright/service/SecondaryLoad" "claimedLater" "Z" (.int (nar .boolean (0 : Int32))) ∧ Fld Z h b1 "com/example/fetchwright/fetchwright/service/SecondaryLoad" "withOthers" "Z" (.int (nar .boolean (0 : Int32)))
theorem ef_1 (m : MethodId)  : entryFrame m #[] 0 = mkF m 0 #[] [] := by first | (simp [entryFrame, mkF, argsToLocals, Value.category]; done) | rfl
set_option maxRecDepth 65536 in
set_option maxHeartbeats 40000000 in
theorem rm1 (l : Launch) (Z : State) (a0 : Array Value) (hw : ∀ d ∈ tables_1, d.before a0 Z = true) (ws : List Jvm.Cond)  (h0 : Heap) (n0 : Nat) (Z0 : n0 ≤ h0.size) :
    MetFree l own_y9 (head1 (Jvm.Cond.code own_y9 prog_16_method_3_code 0 (some (.object "com/example/fetchwright/fetchwright/service/SecondaryLoad")) :: ws) ({ frames := 4, cells := 4, slots := 16, locals := 56 } : Room)) (fun a U => a = #[] ∧ Z.Warmed39 U.vm ∧ U.heap = h0) (fun _ _ _ _ _ => True) (fun _ U o U' => ∃ v L, o = .returned v ∧ Q1 Z  h0 n0 v U'.heap L ∧ ReturnedEndW U o U' L ({ frames := 4, cells := 4, slots := 16, locals := 56 } : Room).cells ({ frames := 4, cells := 4, slots := 16, locals := 56 } : Room).slots) := by
  refine MetFree.of_bodySF (plainFor_of_name pn_2) hisR ?_
  intro p e s m args below meth c s₁ Bd hml0 hP hK
  obtain ⟨rfl, hZ, hh⟩ := hP
  have hx := Bd.exec
  have hby := Bd.bytes
  have hml : c.maxLocals = 0 := hml0
  have hown : s.vm.findClass "com/example/fetchwright/fetchwright/service/SecondaryLoad" = some m.cls := findClass_of_methodNamed Bd.named
  have hnm := (name_of_methodNamed Bd.named Bd.method).1
  have X0 : Stand p l e ({ frames := 4, cells := 4, slots := 16, locals := 56 } : Room) s m #[] below meth c s₁ [] 0 0 := Stand.of_body Bd
  have e0 : s₁.heap = h0 := by rw [← hh, Bd.state]; rfl
  have N0 := Fr.nil n0
  have pre0 : ∀ t, Steps p.tables e below (s₁.setTop (mkF m 0 #[] [])) t → Steps p.tables e below (s₁.setTop (entryFrame m #[] 0)) t := fun t k => castTop (ef_1 m ) k
  obtain ⟨T1, h1, X1, e1, E1, A1, D1, -, st1⟩ := newO X0 hx hZ hown (hw _ (List.mem_of_getElem? (i := 10) rfl)) (hw _ (List.mem_of_getElem? (i := 11) rfl)) (hw _ (List.mem_of_getElem? (i := 8) rfl)) e0 (g := (mkF m 0 #[] [])) rfl (hb hby d1_0) (by decide) (by decide)
  obtain ⟨b1, g1⟩ : ∃ z, z = h0.size := ⟨_, rfl⟩
  rw [← g1] at A1 D1 st1
  have sz_b1 : h0.size ≤ b1 := Nat.le_trans (Keep.refl h0 []).1 (Nat.le_of_eq g1.symm)
  have K2 : Keep h0 h1 [] := (Keep.refl h0 []).ext E1
  have FresultOrigin_1 : Fld Z h1 b1 "com/example/fetchwright/fetchwright/service/SecondaryLoad" "resultOrigin" "Lcom/example/fetchwright/fetchwright/service/Origin;" .null := D1 (Or.inr (hw _ (List.mem_of_getElem? (i := 43) rfl))) (ty := (.object "com/example/fetchwright/fetchwright/service/Origin")) (by decide)
  have FofCollection_1 : Fld Z h1 b1 "com/example/fetchwright/fetchwright/service/SecondaryLoad" "ofCollection" "Z" (.int (0 : Int32)) := D1 (Or.inr (hw _ (List.mem_of_getElem? (i := 45) rfl))) (ty := .boolean) (by decide)
  have FclaimedLater_1 : Fld Z h1 b1 "com/example/fetchwright/fetchwright/service/SecondaryLoad" "claimedLater" "Z" (.int (0 : Int32)) := D1 (Or.inr (hw _ (List.mem_of_getElem? (i := 47) rfl))) (ty := .boolean) (by decide)
  have FwithOthers_1 : Fld Z h1 b1 "com/example/fetchwright/fetchwright/service/SecondaryLoad" "withOthers" "Z" (.int (0 : Int32)) := D1 (Or.inr (hw _ (List.mem_of_getElem? (i := 49) rfl))) (ty := .boolean) (by decide)
  obtain ⟨_, _, ⟨T3, L3, k3, n3⟩, -, X3, Sq3, Gq3, ⟨Lc3, hQ3, l3, y3, z3⟩, st3⟩ := X1.specialBackS hx (y := (⟨"com/example/fetchwright/fetchwright/service/SecondaryLoad", "<init>", "(ZZZ)V"⟩ : MethodName)) rfl hown (mvT hZ (hw _ (List.mem_of_getElem? (i := 12) rfl))) (mvT hZ (hw _ (List.mem_of_getElem? (i := 13) rfl))) (mvT hZ (hw _ (List.mem_of_getElem? (i := 14) rfl))) (by decide) (backOfS (W := 1) (rm2 l Z a0 hw [] b1 (0 : Int32) (0 : Int32) (0 : Int32) (.null) (.int (0 : Int32)) (.int (0 : Int32)) (.int (0 : Int32)) h1 n0 (Nat.le_trans Z0 K2.1) A1 FresultOrigin_1 (Nat.le_trans Z0 sz_b1) FofCollection_1 FclaimedLater_1 FwithOthers_1) hZ (hw _ (List.mem_of_getElem? (i := 14) rfl)) (hw _ (List.mem_of_getElem? (i := 8) rfl)) (by decide) (by decide)) (g := (mkF m 7 #[] [(.int (0 : Int32)), (.int (0 : Int32)), (.int (0 : Int32)), (.ref b1), (.ref b1)])) rfl (by rw [hml]; rfl) (Steps.refl _) (a := b1) (argsL := [(.int (0 : Int32)), (.int (0 : Int32)), (.int (0 : Int32))]) (rest := [(.ref b1)]) (lenOf pd_2 rfl) rfl (by show 2 * 0 + _ ≤ _; exact Nat.le_of_eq rfl) (hb hby d1_7) (fun _ _ => ⟨rfl, e1, (by decide : 1 + 3 ≤ _), (by decide : 10 + 6 ≤ _)⟩)
  dsimp only [Pt.U, Pt.locs, Pt.cells, Pt.slots] at X3 l3 y3 z3 st3 hQ3 Sq3 Gq3
  subst l3 y3 z3
  have S3 : s.Since T3.vm T3.heap.size := Sq3
  have hZ : Z.Warmed39 (s.setVm T3.vm).vm := State.Warmed39.trans (t := s) hZ Sq3.1
  have hown : (s.setVm T3.vm).vm.findClass "com/example/fetchwright/fetchwright/service/SecondaryLoad" = some m.cls := by rw [show (s.setVm T3.vm).vm = T3.vm from rfl, Sq3.1.alike.findClass]; exact hown
  have X3 : Stand p l e ({ frames := 4, cells := 4, slots := 16, locals := 56 } : Room) (s.setVm T3.vm) m #[] below meth c T3 _ _ _ := X3
  obtain ⟨rfl, Nq3, Kq3, f3_0, f3_1, f3_2, f3_3⟩ := hQ3
  have K4 : Keep h0 T3.heap [] := K2.trans Kq3 (allS (Or.inr sz_b1) all0)
  have N3 := Fr.app N0 Nq3
  have pre5 : ∀ t, Steps p.tables e below (T3.setTop (mkF m 10 #[] [(.ref b1)])) t → Steps p.tables e below (s₁.setTop (entryFrame m #[] 0)) t := by
    intro t k
    refine pre0 _ ?_
    show Steps p.tables e below (s₁.setTop (mkF m 0 #[] [])) _
    refine st1 _ ?_
    show Steps p.tables e below (T1.setTop (mkF m 3 #[] [(.ref b1)])) _
    refine XS.dup X1.here hx rfl (hb hby d1_3) rfl rfl ?_
    refine XS.iconst X1.here hx rfl (hb hby d1_4) ?_
    show Steps p.tables e below (T1.setTop (mkF m 5 #[] [(.int (0 : Int32)), (.ref b1), (.ref b1)])) _
    refine XS.iconst X1.here hx rfl (hb hby d1_5) ?_
    refine XS.iconst X1.here hx rfl (hb hby d1_6) ?_
    show Steps p.tables e below (T1.setTop (mkF m 7 #[] [(.int (0 : Int32)), (.int (0 : Int32)), (.int (0 : Int32)), (.ref b1), (.ref b1)])) _
    refine st3.trans ?_
    exact k
  obtain ⟨fs, hr, hrun, hended, hRW⟩ := Stand.leaveW (s := s) (vm₁ := T3.vm) (show Stand p l e ({ frames := 4, cells := 4, slots := 16, locals := 56 } : Room) (s.setVm T3.vm) m #[] below meth c T3 _ _ _ from X3) S3 (Nat.le_trans (Nat.le_refl _) (Nat.le_refl _)) (v := some (.ref b1)) (fun h => by rw [Bd.returns] at h; cases h)
  refine ⟨_, _, pre5 _ ?_, hrun, hended, _, _, rfl, ?_, hRW.1, hRW.2.1, hRW.2.2.1, hRW.2.2.2.mono (by decide) (by decide)⟩
  · show Steps p.tables e below (T3.setTop (mkF m 10 #[] [(.ref b1)])) _
    exact areturnOut X3 hx rfl Bd.returns rfl (hb hby d1_10) hr
  · show Q1 Z  h0 n0 _ T3.heap _
    exact ⟨b1, rfl, N3, K4, sz_b1, f3_0, f3_1, f3_2, f3_3⟩
def Q9 (Z : State) (r0 : Addr) (h0 : Heap) (n0 : Nat) (v : Option Value) (h : Heap) (L : List Loc) : Prop := v = none ∧ Fr n0 L ∧ h = h0
theorem ef_9 (m : MethodId) (x0 : Addr) : entryFrame m #[(.ref x0)] 1 = mkF m 0 #[.val (.ref x0)] [] := by first | (simp [entryFrame, mkF, argsToLocals, Value.category]; done) | rfl
set_option maxRecDepth 65536 in
set_option maxHeartbeats 40000000 in
theorem rm9 (l : Launch) (Z : State) (a0 : Array Value) (hw : ∀ d ∈ tables_1, d.before a0 Z = true) (ws : List Jvm.Cond) (r0 : Addr) (h0 : Heap) (n0 : Nat) (Z0 : n0 ≤ h0.size) :
    MetFree l (⟨"java/util/AbstractCollection", "<init>", "()V"⟩ : MethodName) (head1 (Jvm.Cond.code (⟨"java/util/AbstractCollection", "<init>", "()V"⟩ : MethodName) jdk_22_method_1_code 1 none :: ws) ({ frames := 1, cells := 0, slots := 0, locals := 12 } : Room)) (fun a U => a = #[(.ref r0)] ∧ Z.Warmed39 U.vm ∧ U.heap = h0) (fun _ _ _ _ _ => True) (fun _ U o U' => ∃ v L, o = .returned v ∧ Q9 Z r0 h0 n0 v U'.heap L ∧ FrameEnd U o U' L ({ frames := 1, cells := 0, slots := 0, locals := 12 } : Room).cells ({ frames := 1, cells := 0, slots := 0, locals := 12 } : Room).slots) := by
  refine MetFree.of_bodySF (plainFor_of_name pn_3) hisR ?_
  intro p e s m args below meth c s₁ Bd hml0 hP hK
  obtain ⟨rfl, hZ, hh⟩ := hP
  have hx := Bd.exec
  have hby := Bd.bytes
  have hml : c.maxLocals = 1 := hml0
  have hown : s.vm.findClass "java/util/AbstractCollection" = some m.cls := findClass_of_methodNamed Bd.named
  have hnm := (name_of_methodNamed Bd.named Bd.method).1
  have X0 : Stand p l e ({ frames := 1, cells := 0, slots := 0, locals := 12 } : Room) s m #[(.ref r0)] below meth c s₁ [] 0 0 := Stand.of_body Bd
  have e0 : s₁.heap = h0 := by rw [← hh, Bd.state]; rfl
  have N0 := Fr.nil n0
  have pre0 : ∀ t, Steps p.tables e below (s₁.setTop (mkF m 0 #[.val (.ref r0)] [])) t → Steps p.tables e below (s₁.setTop (entryFrame m #[(.ref r0)] 1)) t := fun t k => castTop (ef_9 m r0) k
  obtain ⟨T1, X1, e1, st1⟩ := initO X0 hx hZ hown (hw _ (List.mem_of_getElem? (i := 76) rfl)) (hw _ (List.mem_of_getElem? (i := 16) rfl)) (hw _ (List.mem_of_getElem? (i := 17) rfl)) e0 (g := (mkF m 1 #[.val (.ref r0)] [(.ref r0)])) rfl (by rw [hml]; rfl) rfl (hb hby d9_1) (by decide) (W := 0) (by show 2 * 0 + _ ≤ _; exact Nat.le_of_eq rfl) (by decide)
  have pre2 : ∀ t, Steps p.tables e below (T1.setTop (mkF m 4 #[.val (.ref r0)] [])) t → Steps p.tables e below (s₁.setTop (entryFrame m #[(.ref r0)] 1)) t := by
    intro t k
    refine pre0 _ ?_
    show Steps p.tables e below (s₁.setTop (mkF m 0 #[.val (.ref r0)] [])) _
    refine XS.aloadN X0.here hx rfl (hb hby d9_0) rfl rfl ?_
    show Steps p.tables e below (s₁.setTop (mkF m 1 #[.val (.ref r0)] [(.ref r0)])) _
    refine st1 _ ?_
    exact k
  obtain ⟨fs, hr, hrun, hended, hW, hsame⟩ := X1.leave (v := none) (fun _ => rfl)
  refine ⟨_, _, pre2 _ ?_, hrun, hended, _, _, rfl, ?_, ⟨_, rfl⟩, hW, hsame.mono (by decide) (by decide)⟩
  · show Steps p.tables e below (T1.setTop (mkF m 4 #[.val (.ref r0)] [])) _
    exact X1.returnOut hx Bd.returns (hb hby d9_4) hr
  · show Q9 Z r0 h0 n0 _ T1.heap _
    rw [e1]
    exact ⟨rfl, N0, rfl⟩
def Q8 (Z : State) (r0 : Addr) (y22 : Value) (y17 : Value) (y12 : Value) (h0 : Heap) (n0 : Nat) (v : Option Value) (h : Heap) (L : List Loc) : Prop := v = none ∧ Fr n0 L ∧ Keep h0 h [r0] ∧ Exa Z h r0 "java/util/ArrayList" ∧ Fld Z h r0 "java/util/AbstractList" "modCount" "I" (.int (0 : Int32)) ∧ Fld Z h r0 "java/util/ArrayList" "elementData" "[Ljava/lang/Object;" y22 ∧ Fld Z h r0 "java/util/ArrayList" "size" "I" y17
theorem ef_8 (m : MethodId) (x0 : Addr) : entryFrame m #[(.ref x0)] 1 = mkF m 0 #[.val (.ref x0)] [] := by first | (simp [entryFrame, mkF, argsToLocals, Value.category]; done) | rfl
set_option maxRecDepth 65536 in
set_option maxHeartbeats 40000000 in
theorem rm8 (l : Launch) (Z : State) (a0 : Array Value) (hw : ∀ d ∈ tables_1, d.before a0 Z = true) (ws : List Jvm.Cond) (r0 : Addr) (y22 : Value) (y17 : Value) (y12 : Value) (h0 : Heap) (n0 : Nat) (Z0 : n0 ≤ h0.size) (y23 : Fld Z h0 r0 "java/util/ArrayList" "elementData" "[Ljava/lang/Object;" y22) (y15 : Fld Z h0 r0 "java/util/ArrayList" "size" "I" y17) (E_r0 : Exa Z h0 r0 "java/util/ArrayList") (y18 : Fld Z h0 r0 "java/util/AbstractList" "modCount" "I" y12) (g_r0 : n0 ≤ r0) :
    MetFree l (⟨"java/util/AbstractList", "<init>", "()V"⟩ : MethodName) (head1 (Jvm.Cond.code (⟨"java/util/AbstractList", "<init>", "()V"⟩ : MethodName) jdk_39_method_1_code 1 none :: ws) ({ frames := 2, cells := 0, slots := 0, locals := 24 } : Room)) (fun a U => a = #[(.ref r0)] ∧ Z.Warmed39 U.vm ∧ U.heap = h0) (fun _ _ _ _ _ => True) (fun _ U o U' => ∃ v L, o = .returned v ∧ Q8 Z r0 y22 y17 y12 h0 n0 v U'.heap L ∧ FrameEnd U o U' L ({ frames := 2, cells := 0, slots := 0, locals := 24 } : Room).cells ({ frames := 2, cells := 0, slots := 0, locals := 24 } : Room).slots) := by
  refine MetFree.of_bodySF (plainFor_of_name pn_4) hisR ?_
  intro p e s m args below meth c s₁ Bd hml0 hP hK
  obtain ⟨rfl, hZ, hh⟩ := hP
  have hx := Bd.exec
  have hby := Bd.bytes
  have hml : c.maxLocals = 1 := hml0
  have hown : s.vm.findClass "java/util/AbstractList" = some m.cls := findClass_of_methodNamed Bd.named
  have hnm := (name_of_methodNamed Bd.named Bd.method).1
  have X0 : Stand p l e ({ frames := 2, cells := 0, slots := 0, locals := 24 } : Room) s m #[(.ref r0)] below meth c s₁ [] 0 0 := Stand.of_body Bd
  have e0 : s₁.heap = h0 := by rw [← hh, Bd.state]; rfl
  have N0 := Fr.nil n0
  have pre0 : ∀ t, Steps p.tables e below (s₁.setTop (mkF m 0 #[.val (.ref r0)] [])) t → Steps p.tables e below (s₁.setTop (entryFrame m #[(.ref r0)] 1)) t := fun t k => castTop (ef_8 m r0) k
  obtain ⟨_, _, ⟨T1, L1, k1, n1⟩, -, X1, ⟨Lc1, hQ1, l1, y1, z1⟩, st1⟩ := X0.specialBack hx (y := (⟨"java/util/AbstractCollection", "<init>", "()V"⟩ : MethodName)) rfl hown (mvT hZ (hw _ (List.mem_of_getElem? (i := 70) rfl))) (mvT hZ (hw _ (List.mem_of_getElem? (i := 71) rfl))) (mvT hZ (hw _ (List.mem_of_getElem? (i := 75) rfl))) (by decide) (backOf (W := 0) (rm9 l Z a0 hw [] r0 h0 n0 (Nat.le_trans Z0 (Keep.refl h0 [r0]).1) ) hZ (hw _ (List.mem_of_getElem? (i := 75) rfl)) (hw _ (List.mem_of_getElem? (i := 74) rfl)) (by decide) (by decide)) (g := (mkF m 1 #[.val (.ref r0)] [(.ref r0)])) rfl (by rw [hml]; rfl) (Steps.refl _) (a := r0) (argsL := []) (rest := []) (lenOf pd_0 rfl) rfl (by show 2 * 0 + _ ≤ _; exact Nat.le_of_eq rfl) (hb hby d8_1) (fun _ _ => ⟨rfl, e0, (by decide : 0 + 0 ≤ _), (by decide : 0 + 0 ≤ _)⟩)
  dsimp only [Pt.U, Pt.locs, Pt.cells, Pt.slots] at X1 l1 y1 z1 st1 hQ1
  subst l1 y1 z1
  obtain ⟨rfl, Nq1, e1⟩ := hQ1
  have N1 := Fr.app N0 Nq1
  obtain ⟨T2, h2, X2, e2, W2, st2⟩ := putF X1 hx hZ hown (host := "") (Or.inl (hw _ (List.mem_of_getElem? (i := 77) rfl))) Via.refl e1 y18 E_r0 (Or.inl (hw _ (List.mem_of_getElem? (i := 78) rfl))) (hw _ (List.mem_of_getElem? (i := 59) rfl)) (ty := .int) (by decide) rfl rfl (g := (mkF m 6 #[.val (.ref r0)] [(.int (0 : Int32)), (.ref r0)])) rfl rfl (hb hby d8_6)
  have N2 := Fr.snoc X2 N1 g_r0
  have K3 : Keep h0 h2 [r0] := (Keep.refl h0 [r0]).wr W2 (Or.inl (List.mem_of_getElem? (i := 0) rfl))
  have F2 := y18.same W2
  have pre4 : ∀ t, Steps p.tables e below (T2.setTop (mkF m 9 #[.val (.ref r0)] [])) t → Steps p.tables e below (s₁.setTop (entryFrame m #[(.ref r0)] 1)) t := by
    intro t k
    refine pre0 _ ?_
    show Steps p.tables e below (s₁.setTop (mkF m 0 #[.val (.ref r0)] [])) _
    refine XS.aloadN X0.here hx rfl (hb hby d8_0) rfl rfl ?_
    show Steps p.tables e below (s₁.setTop (mkF m 1 #[.val (.ref r0)] [(.ref r0)])) _
    refine st1.trans ?_
    show Steps p.tables e below (T1.setTop (mkF m 4 #[.val (.ref r0)] [])) _
    refine XS.aloadN X1.here hx rfl (hb hby d8_4) rfl rfl ?_
    refine XS.iconst X1.here hx rfl (hb hby d8_5) ?_
    show Steps p.tables e below (T1.setTop (mkF m 6 #[.val (.ref r0)] [(.int (0 : Int32)), (.ref r0)])) _
    refine st2 _ ?_
    exact k
  have f5 := (E_r0.wr W2)
  have f6 := (y23.other W2 (Or.inr (slot_ne (Or.inl (hw _ (List.mem_of_getElem? (i := 81) rfl))) (Or.inl (hw _ (List.mem_of_getElem? (i := 78) rfl))) (by decide) (t := (.array (.object "java/lang/Object"))) (t' := .int) (by decide) (by decide))))
  have f7 := (y15.other W2 (Or.inr (slot_ne (Or.inl (hw _ (List.mem_of_getElem? (i := 95) rfl))) (Or.inl (hw _ (List.mem_of_getElem? (i := 78) rfl))) (by decide) (t := .int) (t' := .int) (by decide) (by decide))))
  obtain ⟨fs, hr, hrun, hended, hW, hsame⟩ := X2.leave (v := none) (fun _ => rfl)
  refine ⟨_, _, pre4 _ ?_, hrun, hended, _, _, rfl, ?_, ⟨_, rfl⟩, hW, hsame.mono (by decide) (by decide)⟩
  · show Steps p.tables e below (T2.setTop (mkF m 9 #[.val (.ref r0)] [])) _
    exact X2.returnOut hx Bd.returns (hb hby d8_9) hr
  · show Q8 Z r0 y22 y17 y12 h0 n0 _ T2.heap _
    rw [e2]
    exact ⟨rfl, N2, K3, f5, F2, f6, f7⟩
def Q7 (Z : State) (r0 : Addr) (y22 : Value) (y17 : Value) (y12 : Value) (y5 : Addr) (h0 : Heap) (n0 : Nat) (v : Option Value) (h : Heap) (L : List Loc) : Prop := v = none ∧ Fr n0 L ∧ Keep h0 h [r0] ∧ Exa Z h r0 "java/util/ArrayList" ∧ Fld Z h r0 "java/util/AbstractList" "modCount" "I" (.int (0 : Int32)) ∧ Fld Z h r0 "java/util/ArrayList" "elementData" "[Ljava/lang/Object;" (.ref y5) ∧ Fld Z h r0 "java/util/ArrayList" "size" "I" y17
theorem ef_7 (m : MethodId) (x0 : Addr) : entryFrame m #[(.ref x0)] 1 = mkF m 0 #[.val (.ref x0)] [] := by first | (simp [entryFrame, mkF, argsToLocals, Value.category]; done) | rfl
set_option maxRecDepth 65536 in
set_option maxHeartbeats 40000000 in
theorem rm7 (l : Launch) (Z : State) (a0 : Array Value) (hw : ∀ d ∈ tables_1, d.before a0 Z = true) (ws : List Jvm.Cond) (r0 : Addr) (y22 : Value) (y17 : Value) (y12 : Value) (y5 : Addr) (h0 : Heap) (n0 : Nat) (Z0 : n0 ≤ h0.size) (y23 : Fld Z h0 r0 "java/util/ArrayList" "elementData" "[Ljava/lang/Object;" y22) (y15 : Fld Z h0 r0 "java/util/ArrayList" "size" "I" y17) (E_r0 : Exa Z h0 r0 "java/util/ArrayList") (y18 : Fld Z h0 r0 "java/util/AbstractList" "modCount" "I" y12) (g_r0 : n0 ≤ r0) (y33 : Sta Z Z.heap "java/util/ArrayList" "DEFAULTCAPACITY_EMPTY_ELEMENTDATA" "[Ljava/lang/Object;" (.ref y5)) (O_ : Old Z n0 h0) :
    MetFree l (⟨"java/util/ArrayList", "<init>", "()V"⟩ : MethodName) (head1 (Jvm.Cond.code (⟨"java/util/ArrayList", "<init>", "()V"⟩ : MethodName) jdk_38_method_2_code 1 none :: ws) ({ frames := 3, cells := 0, slots := 0, locals := 36 } : Room)) (fun a U => a = #[(.ref r0)] ∧ Z.Warmed39 U.vm ∧ U.heap = h0) (fun _ _ _ _ _ => True) (fun _ U o U' => ∃ v L, o = .returned v ∧ Q7 Z r0 y22 y17 y12 y5 h0 n0 v U'.heap L ∧ FrameEnd U o U' L ({ frames := 3, cells := 0, slots := 0, locals := 36 } : Room).cells ({ frames := 3, cells := 0, slots := 0, locals := 36 } : Room).slots) := by
  refine MetFree.of_bodySF (plainFor_of_name pn_5) hisR ?_
  intro p e s m args below meth c s₁ Bd hml0 hP hK
  obtain ⟨rfl, hZ, hh⟩ := hP
  have hx := Bd.exec
  have hby := Bd.bytes
  have hml : c.maxLocals = 1 := hml0
  have hown : s.vm.findClass "java/util/ArrayList" = some m.cls := findClass_of_methodNamed Bd.named
  have hnm := (name_of_methodNamed Bd.named Bd.method).1
  have X0 : Stand p l e ({ frames := 3, cells := 0, slots := 0, locals := 36 } : Room) s m #[(.ref r0)] below meth c s₁ [] 0 0 := Stand.of_body Bd
  have e0 : s₁.heap = h0 := by rw [← hh, Bd.state]; rfl
  have N0 := Fr.nil n0
  have pre0 : ∀ t, Steps p.tables e below (s₁.setTop (mkF m 0 #[.val (.ref r0)] [])) t → Steps p.tables e below (s₁.setTop (entryFrame m #[(.ref r0)] 1)) t := fun t k => castTop (ef_7 m r0) k
  obtain ⟨_, _, ⟨T1, L1, k1, n1⟩, -, X1, ⟨Lc1, hQ1, l1, y1, z1⟩, st1⟩ := X0.specialBack hx (y := (⟨"java/util/AbstractList", "<init>", "()V"⟩ : MethodName)) rfl hown (mvT hZ (hw _ (List.mem_of_getElem? (i := 64) rfl))) (mvT hZ (hw _ (List.mem_of_getElem? (i := 65) rfl))) (mvT hZ (hw _ (List.mem_of_getElem? (i := 69) rfl))) (by decide) (backOf (W := 0) (rm8 l Z a0 hw [] r0 y22 y17 y12 h0 n0 (Nat.le_trans Z0 (Keep.refl h0 [r0]).1) y23 y15 E_r0 y18 g_r0) hZ (hw _ (List.mem_of_getElem? (i := 69) rfl)) (hw _ (List.mem_of_getElem? (i := 68) rfl)) (by decide) (by decide)) (g := (mkF m 1 #[.val (.ref r0)] [(.ref r0)])) rfl (by rw [hml]; rfl) (Steps.refl _) (a := r0) (argsL := []) (rest := []) (lenOf pd_0 rfl) rfl (by show 2 * 0 + _ ≤ _; exact Nat.le_of_eq rfl) (hb hby d7_1) (fun _ _ => ⟨rfl, e0, (by decide : 0 + 0 ≤ _), (by decide : 0 + 0 ≤ _)⟩)
  dsimp only [Pt.U, Pt.locs, Pt.cells, Pt.slots] at X1 l1 y1 z1 st1 hQ1
  subst l1 y1 z1
  obtain ⟨rfl, Nq1, Kq1, f1_0, f1_1, f1_2, f1_3⟩ := hQ1
  have K2 : Keep h0 T1.heap [r0] := (Keep.refl h0 [r0]).trans Kq1 (allS (Or.inl (List.mem_of_getElem? (i := 0) rfl)) all0)
  have N1 := Fr.app N0 Nq1
  have f3 := (O_.keep Kq1 (allS g_r0 all0))
  obtain ⟨T4, X4, e4, st4⟩ := getS2 X1 hx hZ hown (host := "") (Or.inl (hw _ (List.mem_of_getElem? (i := 79) rfl))) Via.refl rfl (y33.ext f3.2) (g := (mkF m 5 #[.val (.ref r0)] [(.ref r0)])) rfl (hb hby d7_5)
  obtain ⟨T5, h5, X5, e5, W5, st5⟩ := putF X4 hx hZ hown (host := "") (Or.inl (hw _ (List.mem_of_getElem? (i := 80) rfl))) Via.refl e4 f1_2 f1_0 (Or.inl (hw _ (List.mem_of_getElem? (i := 81) rfl))) (hw _ (List.mem_of_getElem? (i := 59) rfl)) (ty := (.array (.object "java/lang/Object"))) (by decide) rfl rfl (g := (mkF m 8 #[.val (.ref r0)] [(.ref y5), (.ref r0)])) rfl rfl (hb hby d7_8)
  have N5 := Fr.snoc X5 N1 g_r0
  have K6 : Keep h0 h5 [r0] := K2.wr W5 (Or.inl (List.mem_of_getElem? (i := 0) rfl))
  have F5 := f1_2.same W5
  have pre7 : ∀ t, Steps p.tables e below (T5.setTop (mkF m 11 #[.val (.ref r0)] [])) t → Steps p.tables e below (s₁.setTop (entryFrame m #[(.ref r0)] 1)) t := by
    intro t k
    refine pre0 _ ?_
    show Steps p.tables e below (s₁.setTop (mkF m 0 #[.val (.ref r0)] [])) _
    refine XS.aloadN X0.here hx rfl (hb hby d7_0) rfl rfl ?_
    show Steps p.tables e below (s₁.setTop (mkF m 1 #[.val (.ref r0)] [(.ref r0)])) _
    refine st1.trans ?_
    show Steps p.tables e below (T1.setTop (mkF m 4 #[.val (.ref r0)] [])) _
    refine XS.aloadN X1.here hx rfl (hb hby d7_4) rfl rfl ?_
    show Steps p.tables e below (T1.setTop (mkF m 5 #[.val (.ref r0)] [(.ref r0)])) _
    refine st4 _ ?_
    show Steps p.tables e below (T4.setTop (mkF m 8 #[.val (.ref r0)] [(.ref y5), (.ref r0)])) _
    refine st5 _ ?_
    exact k
  have f8 := (f1_0.wr W5)
  have f9 := (f1_1.other W5 (Or.inr (slot_ne (Or.inl (hw _ (List.mem_of_getElem? (i := 78) rfl))) (Or.inl (hw _ (List.mem_of_getElem? (i := 81) rfl))) (by decide) (t := .int) (t' := (.array (.object "java/lang/Object"))) (by decide) (by decide))))
  have f10 := (f1_3.other W5 (Or.inr (slot_ne (Or.inl (hw _ (List.mem_of_getElem? (i := 95) rfl))) (Or.inl (hw _ (List.mem_of_getElem? (i := 81) rfl))) (by decide) (t := .int) (t' := (.array (.object "java/lang/Object"))) (by decide) (by decide))))
  obtain ⟨fs, hr, hrun, hended, hW, hsame⟩ := X5.leave (v := none) (fun _ => rfl)
  refine ⟨_, _, pre7 _ ?_, hrun, hended, _, _, rfl, ?_, ⟨_, rfl⟩, hW, hsame.mono (by decide) (by decide)⟩
  · show Steps p.tables e below (T5.setTop (mkF m 11 #[.val (.ref r0)] [])) _
    exact X5.returnOut hx Bd.returns (hb hby d7_11) hr
  · show Q7 Z r0 y22 y17 y12 y5 h0 n0 _ T5.heap _
    rw [e5]
    exact ⟨rfl, N5, K6, f8, f9, F5, f10⟩
def Q6 (Z : State) (r0 : Addr) (y5 : Addr) (y67 : Value) (h0 : Heap) (n0 : Nat) (v : Option Value) (h : Heap) (L : List Loc) : Prop := ∃ (b2 : Addr), v = none ∧ Fr n0 L ∧ Keep h0 h [r0] ∧ h0.size ≤ b2 ∧ Exa Z h b2 "java/util/ArrayList" ∧ Fld Z h b2 "java/util/AbstractList" "modCount" "I" (.int (0 : Int32)) ∧ Fld Z h b2 "java/util/ArrayList" "elementData" "[Ljava/lang/Object;" (.ref y5) ∧ Fld Z h b2 "java/util/ArrayList" "size" "I" (.int (0 : Int32)) ∧ Exa Z h r0 "com/example/fetchwright/fetchwright/service/LoadsInProgress" ∧ Fld Z h r0 "com/example/fetchwright/fetchwright/service/LoadsInProgress" "loads" "Ljava/util/ArrayList;" (.ref b2)
theorem ef_6 (m : MethodId) (x0 : Addr) : entryFrame m #[(.ref x0)] 1 = mkF m 0 #[.val (.ref x0)] [] := by first | (simp [entryFrame, mkF, argsToLocals, Value.category]; done) | rfl
set_option maxRecDepth 65536 in
set_option maxHeartbeats 40000000 in
theorem rm6 (l : Launch) (Z : State) (a0 : Array Value) (hw : ∀ d ∈ tables_1, d.before a0 Z = true) (ws : List Jvm.Cond) (r0 : Addr) (y5 : Addr) (y67 : Value) (h0 : Heap) (n0 : Nat) (Z0 : n0 ≤ h0.size) (y33 : Sta Z Z.heap "java/util/ArrayList" "DEFAULTCAPACITY_EMPTY_ELEMENTDATA" "[Ljava/lang/Object;" (.ref y5)) (O_ : Old Z n0 h0) (E_r0 : Exa Z h0 r0 "com/example/fetchwright/fetchwright/service/LoadsInProgress") (y24 : Fld Z h0 r0 "com/example/fetchwright/fetchwright/service/LoadsInProgress" "loads" "Ljava/util/ArrayList;" y67) (g_r0 : n0 ≤ r0) :
    MetFree l (⟨"com/example/fetchwright/fetchwright/service/LoadsInProgress", "<init>", "()V"⟩ : MethodName) (head1 (Jvm.Cond.code (⟨"com/example/fetchwright/fetchwright/service/LoadsInProgress", "<init>", "()V"⟩ : MethodName) prog_9_method_1_code 1 none :: ws) ({ frames := 4, cells := 1, slots := 3, locals := 50 } : Room)) (fun a U => a = #[(.ref r0)] ∧ Z.Warmed39 U.vm ∧ U.heap = h0) (fun _ _ _ _ _ => True) (fun _ U o U' => ∃ v L, o = .returned v ∧ Q6 Z r0 y5 y67 h0 n0 v U'.heap L ∧ FrameEnd U o U' L ({ frames := 4, cells := 1, slots := 3, locals := 50 } : Room).cells ({ frames := 4, cells := 1, slots := 3, locals := 50 } : Room).slots) := by
  refine MetFree.of_bodySF (plainFor_of_name pn_6) hisR ?_
  intro p e s m args below meth c s₁ Bd hml0 hP hK
  obtain ⟨rfl, hZ, hh⟩ := hP
  have hx := Bd.exec
  have hby := Bd.bytes
  have hml : c.maxLocals = 1 := hml0
  have hown : s.vm.findClass "com/example/fetchwright/fetchwright/service/LoadsInProgress" = some m.cls := findClass_of_methodNamed Bd.named
  have hnm := (name_of_methodNamed Bd.named Bd.method).1
  have X0 : Stand p l e ({ frames := 4, cells := 1, slots := 3, locals := 50 } : Room) s m #[(.ref r0)] below meth c s₁ [] 0 0 := Stand.of_body Bd
  have e0 : s₁.heap = h0 := by rw [← hh, Bd.state]; rfl
  have N0 := Fr.nil n0
  have pre0 : ∀ t, Steps p.tables e below (s₁.setTop (mkF m 0 #[.val (.ref r0)] [])) t → Steps p.tables e below (s₁.setTop (entryFrame m #[(.ref r0)] 1)) t := fun t k => castTop (ef_6 m r0) k
  obtain ⟨T1, X1, e1, st1⟩ := initO X0 hx hZ hown (hw _ (List.mem_of_getElem? (i := 57) rfl)) (hw _ (List.mem_of_getElem? (i := 16) rfl)) (hw _ (List.mem_of_getElem? (i := 17) rfl)) e0 (g := (mkF m 1 #[.val (.ref r0)] [(.ref r0)])) rfl (by rw [hml]; rfl) rfl (hb hby d6_1) (by decide) (W := 0) (by show 2 * 0 + _ ≤ _; exact Nat.le_of_eq rfl) (by decide)
  obtain ⟨T2, h2, X2, e2, E2, A2, D2, -, st2⟩ := newO X1 hx hZ hown (hw _ (List.mem_of_getElem? (i := 58) rfl)) (hw _ (List.mem_of_getElem? (i := 59) rfl)) (hw _ (List.mem_of_getElem? (i := 60) rfl)) e1 (g := (mkF m 5 #[.val (.ref r0)] [(.ref r0)])) rfl (hb hby d6_5) (by decide) (by decide)
  obtain ⟨b2, g2⟩ : ∃ z, z = h0.size := ⟨_, rfl⟩
  rw [← g2] at A2 D2 st2
  have sz_b2 : h0.size ≤ b2 := Nat.le_trans (Keep.refl h0 [r0]).1 (Nat.le_of_eq g2.symm)
  have K3 : Keep h0 h2 [r0] := (Keep.refl h0 [r0]).ext E2
  have FmodCount_2 : Fld Z h2 b2 "java/util/AbstractList" "modCount" "I" (.int (0 : Int32)) := D2 (Or.inl (hw _ (List.mem_of_getElem? (i := 78) rfl))) (ty := .int) (by decide)
  have FelementData_2 : Fld Z h2 b2 "java/util/ArrayList" "elementData" "[Ljava/lang/Object;" .null := D2 (Or.inl (hw _ (List.mem_of_getElem? (i := 81) rfl))) (ty := (.array (.object "java/lang/Object"))) (by decide)
  have Fsize_2 : Fld Z h2 b2 "java/util/ArrayList" "size" "I" (.int (0 : Int32)) := D2 (Or.inl (hw _ (List.mem_of_getElem? (i := 95) rfl))) (ty := .int) (by decide)
  have f4 := (O_.ext E2)
  obtain ⟨_, _, ⟨T5, L5, k5, n5⟩, -, X5, ⟨Lc5, hQ5, l5, y5, z5⟩, st5⟩ := X2.specialBack hx (y := (⟨"java/util/ArrayList", "<init>", "()V"⟩ : MethodName)) rfl hown (mvT hZ (hw _ (List.mem_of_getElem? (i := 61) rfl))) (mvT hZ (hw _ (List.mem_of_getElem? (i := 62) rfl))) (mvT hZ (hw _ (List.mem_of_getElem? (i := 63) rfl))) (by decide) (backOf (W := 2) (rm7 l Z a0 hw [] b2 (.null) (.int (0 : Int32)) (.int (0 : Int32)) y5 h2 n0 (Nat.le_trans Z0 K3.1) FelementData_2 Fsize_2 A2 FmodCount_2 (Nat.le_trans Z0 sz_b2) y33 f4) hZ (hw _ (List.mem_of_getElem? (i := 63) rfl)) (hw _ (List.mem_of_getElem? (i := 60) rfl)) (by decide) (by decide)) (g := (mkF m 9 #[.val (.ref r0)] [(.ref b2), (.ref b2), (.ref r0)])) rfl (by rw [hml]; rfl) (Steps.refl _) (a := b2) (argsL := []) (rest := [(.ref b2), (.ref r0)]) (lenOf pd_0 rfl) rfl (by show 2 * 0 + _ ≤ _; exact Nat.le_of_eq rfl) (hb hby d6_9) (fun _ _ => ⟨rfl, e2, (by decide : 1 + 0 ≤ _), (by decide : 3 + 0 ≤ _)⟩)
  dsimp only [Pt.U, Pt.locs, Pt.cells, Pt.slots] at X5 l5 y5 z5 st5 hQ5
  subst l5 y5 z5
  obtain ⟨rfl, Nq5, Kq5, f5_0, f5_1, f5_2, f5_3⟩ := hQ5
  have K6 : Keep h0 T5.heap [r0] := K3.trans Kq5 (allS (Or.inr sz_b2) all0)
  have N5 := Fr.app N0 Nq5
  have f7 := ((E_r0.ext E2).keep Kq5)
  have f8 := ((y24.ext E2).keep Kq5 (ninS (Nat.ne_of_lt (Nat.lt_of_lt_of_le E_r0.lt (Nat.le_trans (Nat.le_refl _) (Nat.le_of_eq g2.symm)))) nin0))
  obtain ⟨T9, h9, X9, e9, W9, st9⟩ := putF X5 hx hZ hown (host := "") (Or.inl (hw _ (List.mem_of_getElem? (i := 82) rfl))) Via.refl rfl f8 f7 (Or.inr ⟨(hw _ (List.mem_of_getElem? (i := 83) rfl)), rfl, hnm⟩) (hw _ (List.mem_of_getElem? (i := 52) rfl)) (ty := (.object "java/util/ArrayList")) (by decide) rfl rfl (g := (mkF m 12 #[.val (.ref r0)] [(.ref b2), (.ref r0)])) rfl rfl (hb hby d6_12)
  have N9 := Fr.snoc X9 N5 g_r0
  have K10 : Keep h0 h9 [r0] := K6.wr W9 (Or.inl (List.mem_of_getElem? (i := 0) rfl))
  have F9 := f8.same W9
  have pre11 : ∀ t, Steps p.tables e below (T9.setTop (mkF m 15 #[.val (.ref r0)] [])) t → Steps p.tables e below (s₁.setTop (entryFrame m #[(.ref r0)] 1)) t := by
    intro t k
    refine pre0 _ ?_
    show Steps p.tables e below (s₁.setTop (mkF m 0 #[.val (.ref r0)] [])) _
    refine XS.aloadN X0.here hx rfl (hb hby d6_0) rfl rfl ?_
    show Steps p.tables e below (s₁.setTop (mkF m 1 #[.val (.ref r0)] [(.ref r0)])) _
    refine st1 _ ?_
    show Steps p.tables e below (T1.setTop (mkF m 4 #[.val (.ref r0)] [])) _
    refine XS.aloadN X1.here hx rfl (hb hby d6_4) rfl rfl ?_
    show Steps p.tables e below (T1.setTop (mkF m 5 #[.val (.ref r0)] [(.ref r0)])) _
    refine st2 _ ?_
    show Steps p.tables e below (T2.setTop (mkF m 8 #[.val (.ref r0)] [(.ref b2), (.ref r0)])) _
    refine XS.dup X2.here hx rfl (hb hby d6_8) rfl rfl ?_
    show Steps p.tables e below (T2.setTop (mkF m 9 #[.val (.ref r0)] [(.ref b2), (.ref b2), (.ref r0)])) _
    refine st5.trans ?_
    show Steps p.tables e below (T5.setTop (mkF m 12 #[.val (.ref r0)] [(.ref b2), (.ref r0)])) _
    refine st9 _ ?_
    exact k
  have f12 := (f5_0.wr W9)
  have f13 := (f5_1.other W9 (Or.inl (Ne.symm (Nat.ne_of_lt (Nat.lt_of_lt_of_le E_r0.lt (Nat.le_trans (Nat.le_refl _) (Nat.le_of_eq g2.symm)))))))
  have f14 := (f5_2.other W9 (Or.inl (Ne.symm (Nat.ne_of_lt (Nat.lt_of_lt_of_le E_r0.lt (Nat.le_trans (Nat.le_refl _) (Nat.le_of_eq g2.symm)))))))
  have f15 := (f5_3.other W9 (Or.inl (Ne.symm (Nat.ne_of_lt (Nat.lt_of_lt_of_le E_r0.lt (Nat.le_trans (Nat.le_refl _) (Nat.le_of_eq g2.symm)))))))
  have f16 := (f7.wr W9)
  obtain ⟨fs, hr, hrun, hended, hW, hsame⟩ := X9.leave (v := none) (fun _ => rfl)
  refine ⟨_, _, pre11 _ ?_, hrun, hended, _, _, rfl, ?_, ⟨_, rfl⟩, hW, hsame.mono (by decide) (by decide)⟩
  · show Steps p.tables e below (T9.setTop (mkF m 15 #[.val (.ref r0)] [])) _
    exact X9.returnOut hx Bd.returns (hb hby d6_15) hr
  · show Q6 Z r0 y5 y67 h0 n0 _ T9.heap _
    rw [e9]
    exact ⟨b2, rfl, N9, K10, sz_b2, f12, f13, f14, f15, f16, F9⟩
def Q11 (Z : State) (r0 : Addr) (h0 : Heap) (n0 : Nat) (v : Option Value) (h : Heap) (L : List Loc) : Prop := v = some (.int (0 : Int32)) ∧ Fr n0 L ∧ h = h0
theorem ef_11 (m : MethodId) (x0 : Addr) : entryFrame m #[(.ref x0)] 1 = mkF m 0 #[.val (.ref x0)] [] := by first | (simp [entryFrame, mkF, argsToLocals, Value.category]; done) | rfl
set_option maxRecDepth 65536 in
set_option maxHeartbeats 40000000 in
theorem rm11 (l : Launch) (Z : State) (a0 : Array Value) (hw : ∀ d ∈ tables_1, d.before a0 Z = true) (ws : List Jvm.Cond) (r0 : Addr) (h0 : Heap) (n0 : Nat) (Z0 : n0 ≤ h0.size) (y15 : Fld Z h0 r0 "java/util/ArrayList" "size" "I" (.int (0 : Int32))) :
    MetFree l own_y5 (head1 (Jvm.Cond.code own_y5 jdk_38_method_8_code 1 (some .int) :: ws) ({ frames := 0, cells := 0, slots := 0, locals := 0 } : Room)) (fun a U => a = #[(.ref r0)] ∧ Z.Warmed39 U.vm ∧ U.heap = h0) (fun _ _ _ _ _ => True) (fun _ U o U' => ∃ v L, o = .returned v ∧ Q11 Z r0 h0 n0 v U'.heap L ∧ FrameEnd U o U' L ({ frames := 0, cells := 0, slots := 0, locals := 0 } : Room).cells ({ frames := 0, cells := 0, slots := 0, locals := 0 } : Room).slots) := by
  refine MetFree.of_bodySF (plainFor_of_name pn_5) hisR ?_
  intro p e s m args below meth c s₁ Bd hml0 hP hK
  obtain ⟨rfl, hZ, hh⟩ := hP
  have hx := Bd.exec
  have hby := Bd.bytes
  have hml : c.maxLocals = 1 := hml0
  have hown : s.vm.findClass "java/util/ArrayList" = some m.cls := findClass_of_methodNamed Bd.named
  have hnm := (name_of_methodNamed Bd.named Bd.method).1
  have X0 : Stand p l e ({ frames := 0, cells := 0, slots := 0, locals := 0 } : Room) s m #[(.ref r0)] below meth c s₁ [] 0 0 := Stand.of_body Bd
  have e0 : s₁.heap = h0 := by rw [← hh, Bd.state]; rfl
  have N0 := Fr.nil n0
  have pre0 : ∀ t, Steps p.tables e below (s₁.setTop (mkF m 0 #[.val (.ref r0)] [])) t → Steps p.tables e below (s₁.setTop (entryFrame m #[(.ref r0)] 1)) t := fun t k => castTop (ef_11 m r0) k
  obtain ⟨T1, X1, e1, st1⟩ := getF X0 hx hZ hown (host := "") (Or.inl (hw _ (List.mem_of_getElem? (i := 94) rfl))) Via.refl e0 y15 (g := (mkF m 1 #[.val (.ref r0)] [(.ref r0)])) rfl rfl (hb hby d11_1)
  have pre2 : ∀ t, Steps p.tables e below (T1.setTop (mkF m 4 #[.val (.ref r0)] [(.int (0 : Int32))])) t → Steps p.tables e below (s₁.setTop (entryFrame m #[(.ref r0)] 1)) t := by
    intro t k
    refine pre0 _ ?_
    show Steps p.tables e below (s₁.setTop (mkF m 0 #[.val (.ref r0)] [])) _
    refine XS.aloadN X0.here hx rfl (hb hby d11_0) rfl rfl ?_
    show Steps p.tables e below (s₁.setTop (mkF m 1 #[.val (.ref r0)] [(.ref r0)])) _
    refine st1 _ ?_
    exact k
  obtain ⟨fs, hr, hrun, hended, hW, hsame⟩ := X1.leave (v := some (.int (0 : Int32))) (fun h => by rw [Bd.returns] at h; cases h)
  refine ⟨_, _, pre2 _ ?_, hrun, hended, _, _, rfl, ?_, ⟨_, rfl⟩, hW, hsame.mono (by decide) (by decide)⟩
  · show Steps p.tables e below (T1.setTop (mkF m 4 #[.val (.ref r0)] [(.int (0 : Int32))])) _
    exact retI X1 hx Bd.returns (hb hby d11_4) hr
  · show Q11 Z r0 h0 n0 _ T1.heap _
    rw [e1]
    exact ⟨rfl, N0, rfl⟩
def Q10 (Z : State) (r0 : Addr) (r1 : Addr) (y1 : Addr) (h0 : Heap) (n0 : Nat) (v : Option Value) (h : Heap) (L : List Loc) : Prop := v = some .null ∧ Fr n0 L ∧ h = h0
theorem ef_10 (m : MethodId) (x0 : Addr) (x1 : Addr) : entryFrame m #[(.ref x0), (.ref x1)] 4 = mkF m 0 #[.val (.ref x0), .val (.ref x1), .unset, .unset] [] := by first | (simp [entryFrame, mkF, argsToLocals, Value.category]; done) | rfl
set_option maxRecDepth 65536 in
set_option maxHeartbeats 40000000 in
theorem rm10 (l : Launch) (Z : State) (a0 : Array Value) (hw : ∀ d ∈ tables_1, d.before a0 Z = true) (ws : List Jvm.Cond) (r0 : Addr) (r1 : Addr) (y1 : Addr) (h0 : Heap) (n0 : Nat) (Z0 : n0 ≤ h0.size) (y24 : Fld Z h0 r0 "com/example/fetchwright/fetchwright/service/LoadsInProgress" "loads" "Ljava/util/ArrayList;" (.ref y1)) (y26 : Fld Z h0 y1 "java/util/ArrayList" "size" "I" (.int (0 : Int32))) (y16 : Exa Z h0 y1 "java/util/ArrayList") :
    MetFree l own_y6 (head1 (Jvm.Cond.code own_y6 prog_9_method_4_code 4 (some (.object "com/example/fetchwright/fetchwright/service/SecondaryLoad")) :: ws) ({ frames := 1, cells := 0, slots := 0, locals := 12 } : Room)) (fun a U => a = #[(.ref r0), (.ref r1)] ∧ Z.Warmed39 U.vm ∧ U.heap = h0) (fun _ _ _ _ _ => True) (fun _ U o U' => ∃ v L, o = .returned v ∧ Q10 Z r0 r1 y1 h0 n0 v U'.heap L ∧ FrameEnd U o U' L ({ frames := 1, cells := 0, slots := 0, locals := 12 } : Room).cells ({ frames := 1, cells := 0, slots := 0, locals := 12 } : Room).slots) := by
  refine MetFree.of_bodySF (plainFor_of_name pn_6) hisR ?_
  intro p e s m args below meth c s₁ Bd hml0 hP hK
  obtain ⟨rfl, hZ, hh⟩ := hP
  have hx := Bd.exec
  have hby := Bd.bytes
  have hml : c.maxLocals = 4 := hml0
  have hown : s.vm.findClass "com/example/fetchwright/fetchwright/service/LoadsInProgress" = some m.cls := findClass_of_methodNamed Bd.named
  have hnm := (name_of_methodNamed Bd.named Bd.method).1
  have X0 : Stand p l e ({ frames := 1, cells := 0, slots := 0, locals := 12 } : Room) s m #[(.ref r0), (.ref r1)] below meth c s₁ [] 0 0 := Stand.of_body Bd
  have e0 : s₁.heap = h0 := by rw [← hh, Bd.state]; rfl
  have N0 := Fr.nil n0
  have pre0 : ∀ t, Steps p.tables e below (s₁.setTop (mkF m 0 #[.val (.ref r0), .val (.ref r1), .unset, .unset] [])) t → Steps p.tables e below (s₁.setTop (entryFrame m #[(.ref r0), (.ref r1)] 4)) t := fun t k => castTop (ef_10 m r0 r1) k
  obtain ⟨T1, X1, e1, st1⟩ := getF X0 hx hZ hown (host := "") (Or.inl (hw _ (List.mem_of_getElem? (i := 82) rfl))) Via.refl e0 y24 (g := (mkF m 1 #[.val (.ref r0), .val (.ref r1), .unset, .unset] [(.ref r0)])) rfl rfl (hb hby d10_1)
  obtain ⟨cq2, kq2, q2a, q2b, q2c⟩ := isOf hZ e1 y16
  obtain ⟨_, _, ⟨T2, L2, k2, n2⟩, -, X2, ⟨Lc2, hQ2, l2, y2, z2⟩, st2⟩ := X1.virtualBack hx (y := own_y5) (z := own_y5) hown (mvT hZ (hw _ (List.mem_of_getElem? (i := 89) rfl))) (mvT hZ (hw _ (List.mem_of_getElem? (i := 90) rfl))) (notFace_of_selects (args := #[]) (mvT hZ (hw _ (List.mem_of_getElem? (i := 92) rfl)))) (mvT hZ (hw _ (List.mem_of_getElem? (i := 92) rfl))) (mvT hZ (hw _ (List.mem_of_getElem? (i := 91) rfl))) (by decide) (backOf (W := 0) (rm11 l Z a0 hw [] y1 h0 n0 (Nat.le_trans Z0 (Keep.refl h0 []).1) y26) hZ (hw _ (List.mem_of_getElem? (i := 93) rfl)) (hw _ (List.mem_of_getElem? (i := 60) rfl)) (by decide) (by decide)) q2a q2c (g := (mkF m 4 #[.val (.ref r0), .val (.ref r1), .unset, .unset] [(.ref y1)])) rfl (by rw [hml]; rfl) (Steps.refl _) (argsL := []) (rest := []) (lenOf pd_4 rfl) rfl (by show 2 * 0 + _ ≤ _; exact Nat.le_of_eq rfl) (hb hby d10_4) (fun _ _ => ⟨rfl, e1, (by decide : 0 + 0 ≤ _), (by decide : 0 + 0 ≤ _)⟩)
  dsimp only [Pt.U, Pt.locs, Pt.cells, Pt.slots] at X2 l2 y2 z2 st2 hQ2
  subst l2 y2 z2
  obtain ⟨rfl, Nq2, e2⟩ := hQ2
  have N2 := Fr.app N0 Nq2
  have pre3 : ∀ t, Steps p.tables e below (T2.setTop (mkF m 46 #[.val (.ref r0), .val (.ref r1), .val (.int (-1 : Int32)), .unset] [.null])) t → Steps p.tables e below (s₁.setTop (entryFrame m #[(.ref r0), (.ref r1)] 4)) t := by
    intro t k
    refine pre0 _ ?_
    show Steps p.tables e below (s₁.setTop (mkF m 0 #[.val (.ref r0), .val (.ref r1), .unset, .unset] [])) _
    refine XS.aloadN X0.here hx rfl (hb hby d10_0) rfl rfl ?_
    show Steps p.tables e below (s₁.setTop (mkF m 1 #[.val (.ref r0), .val (.ref r1), .unset, .unset] [(.ref r0)])) _
    refine st1 _ ?_
    show Steps p.tables e below (T1.setTop (mkF m 4 #[.val (.ref r0), .val (.ref r1), .unset, .unset] [(.ref y1)])) _
    refine st2.trans ?_
    show Steps p.tables e below (T2.setTop (mkF m 7 #[.val (.ref r0), .val (.ref r1), .unset, .unset] [(.int (0 : Int32))])) _
    refine XS.iconst X2.here hx rfl (hb hby d10_7) ?_
    refine XS.isub X2.here hx rfl (hb hby d10_8) rfl ?_
    show Steps p.tables e below (T2.setTop (mkF m 9 #[.val (.ref r0), .val (.ref r1), .unset, .unset] [(.int (-1 : Int32))])) _
    refine XS.istoreN X2.here hx rfl (hb hby d10_9) rfl (l' := #[.val (.ref r0), .val (.ref r1), .val (.int (-1 : Int32)), .unset]) rfl ?_
    refine XS.iloadN X2.here hx rfl (hb hby d10_10) rfl ?_
    show Steps p.tables e below (T2.setTop (mkF m 11 #[.val (.ref r0), .val (.ref r1), .val (.int (-1 : Int32)), .unset] [(.int (-1 : Int32))])) _
    refine XS.ifYes X2.here hx rfl (pc0 := 11) (pc' := 45) rfl (hb hby d10_11) rfl ((if0 _ _).trans (tlt (by decide : (-1 : Int32) < (0 : Int32))).1) (by decide) (by decide) ?_
    refine XS.aconstNull X2.here hx rfl (hb hby d10_45) ?_
    exact k
  obtain ⟨fs, hr, hrun, hended, hW, hsame⟩ := X2.leave (v := some .null) (fun h => by rw [Bd.returns] at h; cases h)
  refine ⟨_, _, pre3 _ ?_, hrun, hended, _, _, rfl, ?_, ⟨_, rfl⟩, hW, hsame.mono (by decide) (by decide)⟩
  · show Steps p.tables e below (T2.setTop (mkF m 46 #[.val (.ref r0), .val (.ref r1), .val (.int (-1 : Int32)), .unset] [.null])) _
    exact areturnOut X2 hx rfl Bd.returns rfl (hb hby d10_46) hr
  · show Q10 Z r0 r1 y1 h0 n0 _ T2.heap _
    rw [e2]
    exact ⟨rfl, N2, rfl⟩
def Q13 (Z : State) (r0 : Addr) (r1 : Addr) (r2 : Addr) (v3 : Value) (y68 : Value) (y69 : Value) (y70 : Value) (h0 : Heap) (n0 : Nat) (v : Option Value) (h : Heap) (L : List Loc) : Prop := v = none ∧ Fr n0 L ∧ Keep h0 h [r0] ∧ Exa Z h r0 "com/example/fetchwright/fetchwright/service/LoadsInProgress$Load" ∧ Fld Z h r0 "com/example/fetchwright/fetchwright/service/LoadsInProgress$Load" "token" "Ljava/lang/Object;" (.ref r1) ∧ Fld Z h r0 "com/example/fetchwright/fetchwright/service/LoadsInProgress$Load" "session" "Ljava/lang/Object;" (.ref r2) ∧ Fld Z h r0 "com/example/fetchwright/fetchwright/service/LoadsInProgress$Load" "secondary" "Lcom/example/fetchwright/fetchwright/service/SecondaryLoad;" v3
theorem ef_13 (m : MethodId) (x0 : Addr) (x1 : Addr) (x2 : Addr) (x3 : Value) (hx3 : x3.isRef = true) : entryFrame m #[(.ref x0), (.ref x1), (.ref x2), x3] 4 = mkF m 0 #[.val (.ref x0), .val (.ref x1), .val (.ref x2), .val x3] [] := by rcases Jvm.Free.XT.refc hx3 with rfl | ⟨r, rfl⟩ <;> first | (simp [entryFrame, mkF, argsToLocals, Value.category]; done) | rfl
set_option maxRecDepth 65536 in
set_option maxHeartbeats 40000000 in
theorem rm13 (l : Launch) (Z : State) (a0 : Array Value) (hw : ∀ d ∈ tables_1, d.before a0 Z = true) (ws : List Jvm.Cond) (r0 : Addr) (r1 : Addr) (r2 : Addr) (v3 : Value) (y68 : Value) (y69 : Value) (y70 : Value) (h0 : Heap) (n0 : Nat) (Z0 : n0 ≤ h0.size) (hr_v3 : v3.isRef = true) (E_r0 : Exa Z h0 r0 "com/example/fetchwright/fetchwright/service/LoadsInProgress$Load") (y78 : Fld Z h0 r0 "com/example/fetchwright/fetchwright/service/LoadsInProgress$Load" "token" "Ljava/lang/Object;" y68) (g_r0 : n0 ≤ r0) (y71 : Fld Z h0 r0 "com/example/fetchwright/fetchwright/service/LoadsInProgress$Load" "session" "Ljava/lang/Object;" y69) (y72 : Fld Z h0 r0 "com/example/fetchwright/fetchwright/service/LoadsInProgress$Load" "secondary" "Lcom/example/fetchwright/fetchwright/service/SecondaryLoad;" y70) :
    MetFree l own_y10 (head1 (Jvm.Cond.code own_y10 prog_10_method_1_code 4 none :: ws) ({ frames := 2, cells := 0, slots := 0, locals := 24 } : Room)) (fun a U => a = #[(.ref r0), (.ref r1), (.ref r2), v3] ∧ Z.Warmed39 U.vm ∧ U.heap = h0) (fun _ _ _ _ _ => True) (fun _ U o U' => ∃ v L, o = .returned v ∧ Q13 Z r0 r1 r2 v3 y68 y69 y70 h0 n0 v U'.heap L ∧ FrameEnd U o U' L ({ frames := 2, cells := 0, slots := 0, locals := 24 } : Room).cells ({ frames := 2, cells := 0, slots := 0, locals := 24 } : Room).slots) := by
  refine MetFree.of_bodySF (plainFor_of_name pn_7) hisR ?_
  intro p e s m args below meth c s₁ Bd hml0 hP hK
  obtain ⟨rfl, hZ, hh⟩ := hP
  have hx := Bd.exec
  have hby := Bd.bytes
  have hml : c.maxLocals = 4 := hml0
  have hown : s.vm.findClass "com/example/fetchwright/fetchwright/service/LoadsInProgress$Load" = some m.cls := findClass_of_methodNamed Bd.named
  have hnm := (name_of_methodNamed Bd.named Bd.method).1
  have X0 : Stand p l e ({ frames := 2, cells := 0, slots := 0, locals := 24 } : Room) s m #[(.ref r0), (.ref r1), (.ref r2), v3] below meth c s₁ [] 0 0 := Stand.of_body Bd
  have e0 : s₁.heap = h0 := by rw [← hh, Bd.state]; rfl
  have N0 := Fr.nil n0
  have pre0 : ∀ t, Steps p.tables e below (s₁.setTop (mkF m 0 #[.val (.ref r0), .val (.ref r1), .val (.ref r2), .val v3] [])) t → Steps p.tables e below (s₁.setTop (entryFrame m #[(.ref r0), (.ref r1), (.ref r2), v3] 4)) t := fun t k => castTop (ef_13 m r0 r1 r2 v3 hr_v3) k
  obtain ⟨_, _, ⟨T1, L1, k1, n1⟩, -, X1, ⟨Lc1, hQ1, l1, y1, z1⟩, st1⟩ := X0.specialBack hx (y := (⟨"java/lang/Record", "<init>", "()V"⟩ : MethodName)) rfl hown (mvT hZ (hw _ (List.mem_of_getElem? (i := 107) rfl))) (mvT hZ (hw _ (List.mem_of_getElem? (i := 33) rfl))) (mvT hZ (hw _ (List.mem_of_getElem? (i := 36) rfl))) (by decide) (backOf (W := 0) (rm5 l Z a0 hw [] r0 h0 n0 (Nat.le_trans Z0 (Keep.refl h0 [r0]).1) ) hZ (hw _ (List.mem_of_getElem? (i := 36) rfl)) (hw _ (List.mem_of_getElem? (i := 35) rfl)) (by decide) (by decide)) (g := (mkF m 1 #[.val (.ref r0), .val (.ref r1), .val (.ref r2), .val v3] [(.ref r0)])) rfl (by rw [hml]; rfl) (Steps.refl _) (a := r0) (argsL := []) (rest := []) (lenOf pd_0 rfl) rfl (by show 2 * 0 + _ ≤ _; exact Nat.le_of_eq rfl) (hb hby d13_1) (fun _ _ => ⟨rfl, e0, (by decide : 0 + 0 ≤ _), (by decide : 0 + 0 ≤ _)⟩)
  dsimp only [Pt.U, Pt.locs, Pt.cells, Pt.slots] at X1 l1 y1 z1 st1 hQ1
  subst l1 y1 z1
  obtain ⟨rfl, Nq1, e1⟩ := hQ1
  have N1 := Fr.app N0 Nq1
  obtain ⟨T2, h2, X2, e2, W2, st2⟩ := putF X1 hx hZ hown (host := "") (Or.inl (hw _ (List.mem_of_getElem? (i := 108) rfl))) Via.refl e1 y78 E_r0 (Or.inr ⟨(hw _ (List.mem_of_getElem? (i := 109) rfl)), rfl, hnm⟩) (hw _ (List.mem_of_getElem? (i := 102) rfl)) (ty := (.object "java/lang/Object")) (by decide) rfl rfl (g := (mkF m 6 #[.val (.ref r0), .val (.ref r1), .val (.ref r2), .val v3] [(.ref r1), (.ref r0)])) rfl rfl (hb hby d13_6)
  have N2 := Fr.snoc X2 N1 g_r0
  have K3 : Keep h0 h2 [r0] := (Keep.refl h0 [r0]).wr W2 (Or.inl (List.mem_of_getElem? (i := 0) rfl))
  have F2 := y78.same W2
  have f4 := (E_r0.wr W2)
  have f5 := (y71.other W2 (Or.inr (slot_ne (Or.inr (hw _ (List.mem_of_getElem? (i := 111) rfl))) (Or.inr (hw _ (List.mem_of_getElem? (i := 109) rfl))) (by decide) (t := (.object "java/lang/Object")) (t' := (.object "java/lang/Object")) (by decide) (by decide))))
  obtain ⟨T6, h6, X6, e6, W6, st6⟩ := putF X2 hx hZ hown (host := "") (Or.inl (hw _ (List.mem_of_getElem? (i := 110) rfl))) Via.refl e2 f5 f4 (Or.inr ⟨(hw _ (List.mem_of_getElem? (i := 111) rfl)), rfl, hnm⟩) (hw _ (List.mem_of_getElem? (i := 102) rfl)) (ty := (.object "java/lang/Object")) (by decide) rfl rfl (g := (mkF m 11 #[.val (.ref r0), .val (.ref r1), .val (.ref r2), .val v3] [(.ref r2), (.ref r0)])) rfl rfl (hb hby d13_11)
  have N6 := Fr.snoc X6 N2 g_r0
  have K7 : Keep h0 h6 [r0] := K3.wr W6 (Or.inl (List.mem_of_getElem? (i := 0) rfl))
  have F6 := f5.same W6
  have f8 := (f4.wr W6)
  have f9 := ((y72.other W2 (Or.inr (slot_ne (Or.inr (hw _ (List.mem_of_getElem? (i := 113) rfl))) (Or.inr (hw _ (List.mem_of_getElem? (i := 109) rfl))) (by decide) (t := (.object "com/example/fetchwright/fetchwright/service/SecondaryLoad")) (t' := (.object "java/lang/Object")) (by decide) (by decide)))).other W6 (Or.inr (slot_ne (Or.inr (hw _ (List.mem_of_getElem? (i := 113) rfl))) (Or.inr (hw _ (List.mem_of_getElem? (i := 111) rfl))) (by decide) (t := (.object "com/example/fetchwright/fetchwright/service/SecondaryLoad")) (t' := (.object "java/lang/Object")) (by decide) (by decide))))
  obtain ⟨T10, h10, X10, e10, W10, st10⟩ := putF X6 hx hZ hown (host := "") (Or.inl (hw _ (List.mem_of_getElem? (i := 112) rfl))) Via.refl e6 f9 f8 (Or.inr ⟨(hw _ (List.mem_of_getElem? (i := 113) rfl)), rfl, hnm⟩) (hw _ (List.mem_of_getElem? (i := 102) rfl)) (ty := (.object "com/example/fetchwright/fetchwright/service/SecondaryLoad")) (by decide) (own_narU hr_v3) (own_fitU hr_v3) (g := (mkF m 16 #[.val (.ref r0), .val (.ref r1), .val (.ref r2), .val v3] [v3, (.ref r0)])) rfl rfl (hb hby d13_16)
  have N10 := Fr.snoc X10 N6 g_r0
  have K11 : Keep h0 h10 [r0] := K7.wr W10 (Or.inl (List.mem_of_getElem? (i := 0) rfl))
  have F10 := f9.same W10
  have pre12 : ∀ t, Steps p.tables e below (T10.setTop (mkF m 19 #[.val (.ref r0), .val (.ref r1), .val (.ref r2), .val v3] [])) t → Steps p.tables e below (s₁.setTop (entryFrame m #[(.ref r0), (.ref r1), (.ref r2), v3] 4)) t := by
    intro t k
    refine pre0 _ ?_
    show Steps p.tables e below (s₁.setTop (mkF m 0 #[.val (.ref r0), .val (.ref r1), .val (.ref r2), .val v3] [])) _
    refine XS.aloadN X0.here hx rfl (hb hby d13_0) rfl rfl ?_
    show Steps p.tables e below (s₁.setTop (mkF m 1 #[.val (.ref r0), .val (.ref r1), .val (.ref r2), .val v3] [(.ref r0)])) _
    refine st1.trans ?_
    show Steps p.tables e below (T1.setTop (mkF m 4 #[.val (.ref r0), .val (.ref r1), .val (.ref r2), .val v3] [])) _
    refine XS.aloadN X1.here hx rfl (hb hby d13_4) rfl rfl ?_
    refine XS.aloadN X1.here hx rfl (hb hby d13_5) rfl rfl ?_
    show Steps p.tables e below (T1.setTop (mkF m 6 #[.val (.ref r0), .val (.ref r1), .val (.ref r2), .val v3] [(.ref r1), (.ref r0)])) _
    refine st2 _ ?_
    show Steps p.tables e below (T2.setTop (mkF m 9 #[.val (.ref r0), .val (.ref r1), .val (.ref r2), .val v3] [])) _
    refine XS.aloadN X2.here hx rfl (hb hby d13_9) rfl rfl ?_
    refine XS.aloadN X2.here hx rfl (hb hby d13_10) rfl rfl ?_
    show Steps p.tables e below (T2.setTop (mkF m 11 #[.val (.ref r0), .val (.ref r1), .val (.ref r2), .val v3] [(.ref r2), (.ref r0)])) _
    refine st6 _ ?_
    show Steps p.tables e below (T6.setTop (mkF m 14 #[.val (.ref r0), .val (.ref r1), .val (.ref r2), .val v3] [])) _
    refine XS.aloadN X6.here hx rfl (hb hby d13_14) rfl rfl ?_
    refine XS.aloadN X6.here hx rfl (hb hby d13_15) rfl hr_v3 ?_
    show Steps p.tables e below (T6.setTop (mkF m 16 #[.val (.ref r0), .val (.ref r1), .val (.ref r2), .val v3] [v3, (.ref r0)])) _
    refine st10 _ ?_
    exact k
  have f13 := (f8.wr W10)
  have f14 := ((F2.other W6 (Or.inr (slot_ne (Or.inr (hw _ (List.mem_of_getElem? (i := 109) rfl))) (Or.inr (hw _ (List.mem_of_getElem? (i := 111) rfl))) (by decide) (t := (.object "java/lang/Object")) (t' := (.object "java/lang/Object")) (by decide) (by decide)))).other W10 (Or.inr (slot_ne (Or.inr (hw _ (List.mem_of_getElem? (i := 109) rfl))) (Or.inr (hw _ (List.mem_of_getElem? (i := 113) rfl))) (by decide) (t := (.object "java/lang/Object")) (t' := (.object "com/example/fetchwright/fetchwright/service/SecondaryLoad")) (by decide) (by decide))))
  have f15 := (F6.other W10 (Or.inr (slot_ne (Or.inr (hw _ (List.mem_of_getElem? (i := 111) rfl))) (Or.inr (hw _ (List.mem_of_getElem? (i := 113) rfl))) (by decide) (t := (.object "java/lang/Object")) (t' := (.object "com/example/fetchwright/fetchwright/service/SecondaryLoad")) (by decide) (by decide))))
  obtain ⟨fs, hr, hrun, hended, hW, hsame⟩ := X10.leave (v := none) (fun _ => rfl)
  refine ⟨_, _, pre12 _ ?_, hrun, hended, _, _, rfl, ?_, ⟨_, rfl⟩, hW, hsame.mono (by decide) (by decide)⟩
  · show Steps p.tables e below (T10.setTop (mkF m 19 #[.val (.ref r0), .val (.ref r1), .val (.ref r2), .val v3] [])) _
    exact X10.returnOut hx Bd.returns (hb hby d13_19) hr
  · show Q13 Z r0 r1 r2 v3 y68 y69 y70 h0 n0 _ T10.heap _
    rw [e10]
    exact ⟨rfl, N10, K11, f13, f14, f15, F10⟩
def Q18 (Z : State)  (h0 : Heap) (n0 : Nat) (v : Option Value) (h : Heap) (L : List Loc) : Prop := v = some (.int (10 : Int32)) ∧ Fr n0 L ∧ h = h0
theorem ef_18 (m : MethodId)  : entryFrame m #[(.int (10 : Int32)), (.int (1 : Int32))] 2 = mkF m 0 #[.val (.int (10 : Int32)), .val (.int (1 : Int32))] [] := by first | (simp [entryFrame, mkF, argsToLocals, Value.category]; done) | rfl
set_option maxRecDepth 65536 in
set_option maxHeartbeats 40000000 in
theorem rm18 (l : Launch) (Z : State) (a0 : Array Value) (hw : ∀ d ∈ tables_1, d.before a0 Z = true) (ws : List Jvm.Cond)  (h0 : Heap) (n0 : Nat) (Z0 : n0 ≤ h0.size) :
    MetFree l (⟨"java/lang/Math", "max", "(II)I"⟩ : MethodName) (head1 (Jvm.Cond.code (⟨"java/lang/Math", "max", "(II)I"⟩ : MethodName) jdk_29_method_65_code 2 (some .int) :: ws) ({ frames := 0, cells := 0, slots := 0, locals := 0 } : Room)) (fun a U => a = #[(.int (10 : Int32)), (.int (1 : Int32))] ∧ Z.Warmed39 U.vm ∧ U.heap = h0) (fun _ _ _ _ _ => True) (fun _ U o U' => ∃ v L, o = .returned v ∧ Q18 Z  h0 n0 v U'.heap L ∧ FrameEnd U o U' L ({ frames := 0, cells := 0, slots := 0, locals := 0 } : Room).cells ({ frames := 0, cells := 0, slots := 0, locals := 0 } : Room).slots) := by
  refine MetFree.of_bodySF (Jvm.Free.JP.mathPlain rfl (by decide +kernel)) hisR ?_
  intro p e s m args below meth c s₁ Bd hml0 hP hK
  obtain ⟨rfl, hZ, hh⟩ := hP
  have hx := Bd.exec
  have hby := Bd.bytes
  have hml : c.maxLocals = 2 := hml0
  have hown : s.vm.findClass "java/lang/Math" = some m.cls := findClass_of_methodNamed Bd.named
  have hnm := (name_of_methodNamed Bd.named Bd.method).1
  have X0 : Stand p l e ({ frames := 0, cells := 0, slots := 0, locals := 0 } : Room) s m #[(.int (10 : Int32)), (.int (1 : Int32))] below meth c s₁ [] 0 0 := Stand.of_body Bd
  have e0 : s₁.heap = h0 := by rw [← hh, Bd.state]; rfl
  have N0 := Fr.nil n0
  have pre0 : ∀ t, Steps p.tables e below (s₁.setTop (mkF m 0 #[.val (.int (10 : Int32)), .val (.int (1 : Int32))] [])) t → Steps p.tables e below (s₁.setTop (entryFrame m #[(.int (10 : Int32)), (.int (1 : Int32))] 2)) t := fun t k => castTop (ef_18 m ) k
  have pre1 : ∀ t, Steps p.tables e below (s₁.setTop (mkF m 10 #[.val (.int (10 : Int32)), .val (.int (1 : Int32))] [(.int (10 : Int32))])) t → Steps p.tables e below (s₁.setTop (entryFrame m #[(.int (10 : Int32)), (.int (1 : Int32))] 2)) t := by
    intro t k
    refine pre0 _ ?_
    show Steps p.tables e below (s₁.setTop (mkF m 0 #[.val (.int (10 : Int32)), .val (.int (1 : Int32))] [])) _
    refine XS.iloadN X0.here hx rfl (hb hby d18_0) rfl ?_
    refine XS.iloadN X0.here hx rfl (hb hby d18_1) rfl ?_
    show Steps p.tables e below (s₁.setTop (mkF m 2 #[.val (.int (10 : Int32)), .val (.int (1 : Int32))] [(.int (1 : Int32)), (.int (10 : Int32))])) _
    refine XS.icmpNo X0.here hx rfl (hb hby d18_2) rfl (flt (by decide : ¬ ((10 : Int32) < (1 : Int32)))).1 ?_
    refine XS.iloadN X0.here hx rfl (hb hby d18_5) rfl ?_
    show Steps p.tables e below (s₁.setTop (mkF m 6 #[.val (.int (10 : Int32)), .val (.int (1 : Int32))] [(.int (10 : Int32))])) _
    refine XS.goto X0.here hx rfl (pc0 := 6) (pc' := 10) rfl (hb hby d18_6) (by decide) (by decide) ?_
    exact k
  obtain ⟨fs, hr, hrun, hended, hW, hsame⟩ := X0.leave (v := some (.int (10 : Int32))) (fun h => by rw [Bd.returns] at h; cases h)
  refine ⟨_, _, pre1 _ ?_, hrun, hended, _, _, rfl, ?_, ⟨_, rfl⟩, hW, hsame.mono (by decide) (by decide)⟩
  · show Steps p.tables e below (s₁.setTop (mkF m 10 #[.val (.int (10 : Int32)), .val (.int (1 : Int32))] [(.int (10 : Int32))])) _
    exact retI X0 hx Bd.returns (hb hby d18_10) hr
  · show Q18 Z  h0 n0 _ s₁.heap _
    rw [e0]
    exact ⟨rfl, N0, rfl⟩
def Q17 (Z : State) (r0 : Addr) (y12 : Value) (y17 : Value) (y5 : Addr) (y13 : ClassId) (h0 : Heap) (n0 : Nat) (v : Option Value) (h : Heap) (L : List Loc) : Prop := ∃ (b6 : Addr), ∃ (k6 : ClassId), v = some (.ref b6) ∧ Fr n0 L ∧ Keep h0 h [r0] ∧ h0.size ≤ b6 ∧ Fld Z h r0 "java/util/ArrayList" "elementData" "[Ljava/lang/Object;" (.ref b6) ∧ Arv Z h b6 k6 (.object "java/lang/Object") (10 : Int32) [.null, .null, .null, .null, .null, .null, .null, .null, .null, .null] .null ∧ Exa Z h r0 "java/util/ArrayList" ∧ Fld Z h r0 "java/util/AbstractList" "modCount" "I" y12 ∧ Fld Z h r0 "java/util/ArrayList" "size" "I" y17 ∧ Ovr Z k6 "java/lang/Object"
theorem ef_17 (m : MethodId) (x0 : Addr) : entryFrame m #[(.ref x0), (.int (1 : Int32))] 4 = mkF m 0 #[.val (.ref x0), .val (.int (1 : Int32)), .unset, .unset] [] := by first | (simp [entryFrame, mkF, argsToLocals, Value.category]; done) | rfl
set_option maxRecDepth 65536 in
set_option maxHeartbeats 40000000 in
theorem rm17 (l : Launch) (Z : State) (a0 : Array Value) (hw : ∀ d ∈ tables_1, d.before a0 Z = true) (ws : List Jvm.Cond) (r0 : Addr) (y12 : Value) (y17 : Value) (y5 : Addr) (y13 : ClassId) (h0 : Heap) (n0 : Nat) (Z0 : n0 ≤ h0.size) (y18 : Fld Z h0 r0 "java/util/AbstractList" "modCount" "I" y12) (y15 : Fld Z h0 r0 "java/util/ArrayList" "size" "I" y17) (y33 : Sta Z Z.heap "java/util/ArrayList" "DEFAULTCAPACITY_EMPTY_ELEMENTDATA" "[Ljava/lang/Object;" (.ref y5)) (y23 : Fld Z h0 r0 "java/util/ArrayList" "elementData" "[Ljava/lang/Object;" (.ref y5)) (y9 : Arv Z h0 y5 y13 (.object "java/lang/Object") (0 : Int32) [] .null) (O_ : Old Z n0 h0) (E_r0 : Exa Z h0 r0 "java/util/ArrayList") (g_r0 : n0 ≤ r0) :
    MetFree l (⟨"java/util/ArrayList", "grow", "(I)[Ljava/lang/Object;"⟩ : MethodName) (head1 (Jvm.Cond.code (⟨"java/util/ArrayList", "grow", "(I)[Ljava/lang/Object;"⟩ : MethodName) jdk_38_method_6_code 4 (some (.array (.object "java/lang/Object"))) :: ws) ({ frames := 1, cells := 1, slots := 10, locals := 14 } : Room)) (fun a U => a = #[(.ref r0), (.int (1 : Int32))] ∧ Z.Warmed39 U.vm ∧ U.heap = h0) (fun _ _ _ _ _ => True) (fun _ U o U' => ∃ v L, o = .returned v ∧ Q17 Z r0 y12 y17 y5 y13 h0 n0 v U'.heap L ∧ FrameEnd U o U' L ({ frames := 1, cells := 1, slots := 10, locals := 14 } : Room).cells ({ frames := 1, cells := 1, slots := 10, locals := 14 } : Room).slots) := by
  refine MetFree.of_bodySF (plainFor_of_name pn_5) hisR ?_
  intro p e s m args below meth c s₁ Bd hml0 hP hK
  obtain ⟨rfl, hZ, hh⟩ := hP
  have hx := Bd.exec
  have hby := Bd.bytes
  have hml : c.maxLocals = 4 := hml0
  have hown : s.vm.findClass "java/util/ArrayList" = some m.cls := findClass_of_methodNamed Bd.named
  have hnm := (name_of_methodNamed Bd.named Bd.method).1
  have X0 : Stand p l e ({ frames := 1, cells := 1, slots := 10, locals := 14 } : Room) s m #[(.ref r0), (.int (1 : Int32))] below meth c s₁ [] 0 0 := Stand.of_body Bd
  have e0 : s₁.heap = h0 := by rw [← hh, Bd.state]; rfl
  have N0 := Fr.nil n0
  have pre0 : ∀ t, Steps p.tables e below (s₁.setTop (mkF m 0 #[.val (.ref r0), .val (.int (1 : Int32)), .unset, .unset] [])) t → Steps p.tables e below (s₁.setTop (entryFrame m #[(.ref r0), (.int (1 : Int32))] 4)) t := fun t k => castTop (ef_17 m r0) k
  obtain ⟨T1, X1, e1, st1⟩ := getF X0 hx hZ hown (host := "") (Or.inl (hw _ (List.mem_of_getElem? (i := 80) rfl))) Via.refl e0 y23 (g := (mkF m 1 #[.val (.ref r0), .val (.int (1 : Int32)), .unset, .unset] [(.ref r0)])) rfl rfl (hb hby d17_1)
  obtain ⟨cl2, Ar2, -, Sz2, Nn2, -, -⟩ := id y9
  obtain ⟨T3, X3, e3, st3⟩ := getF X1 hx hZ hown (host := "") (Or.inl (hw _ (List.mem_of_getElem? (i := 80) rfl))) Via.refl e1 y23 (g := (mkF m 11 #[.val (.ref r0), .val (.int (1 : Int32)), .val (.int (0 : Int32)), .unset] [(.ref r0)])) rfl rfl (hb hby d17_11)
  obtain ⟨T4, X4, e4, st4⟩ := getS2 X3 hx hZ hown (host := "") (Or.inl (hw _ (List.mem_of_getElem? (i := 79) rfl))) Via.refl e3 (y33.ext O_.2) (g := (mkF m 14 #[.val (.ref r0), .val (.int (1 : Int32)), .val (.int (0 : Int32)), .unset] [(.ref y5)])) rfl (hb hby d17_14)
  obtain ⟨_, _, ⟨T5, L5, k5, n5⟩, -, X5, ⟨Lc5, hQ5, l5, y5, z5⟩, st5⟩ := Jvm.LawKit.callS X4 hx (y := (⟨"java/lang/Math", "max", "(II)I"⟩ : MethodName)) hown (mvT hZ (hw _ (List.mem_of_getElem? (i := 136) rfl))) (mvT hZ (hw _ (List.mem_of_getElem? (i := 137) rfl))) (mvT hZ (hw _ (List.mem_of_getElem? (i := 138) rfl))) (mvT hZ (hw _ (List.mem_of_getElem? (i := 139) rfl))) (by decide) (backOf (W := 1) (rm18 l Z a0 hw []  h0 n0 (Nat.le_trans Z0 (Keep.refl h0 [r0]).1) ) hZ (hw _ (List.mem_of_getElem? (i := 139) rfl)) (hw _ (List.mem_of_getElem? (i := 138) rfl)) (by decide) (by decide)) (g := (mkF m 49 #[.val (.ref r0), .val (.int (1 : Int32)), .val (.int (0 : Int32)), .unset] [(.int (1 : Int32)), (.int (10 : Int32)), (.ref r0)])) rfl (by rw [hml]; rfl) (argsL := [(.int (10 : Int32)), (.int (1 : Int32))]) (rest := [(.ref r0)]) (lenOf pd_7 rfl) rfl (by show 2 * 0 + _ ≤ _; exact Nat.le_of_eq rfl) (hb hby d17_49) (fun _ _ => ⟨rfl, e4, (by decide : 0 + 0 ≤ _), (by decide : 0 + 0 ≤ _)⟩)
  dsimp only [Pt.U, Pt.locs, Pt.cells, Pt.slots] at X5 l5 y5 z5 st5 hQ5
  subst l5 y5 z5
  obtain ⟨rfl, Nq5, e5⟩ := hQ5
  have N5 := Fr.app N0 Nq5
  obtain ⟨T6, h6, k6, X6, e6, E6, A6, O6, st6⟩ := newR X5 hx hZ hown (hw _ (List.mem_of_getElem? (i := 140) rfl)) (hw _ (List.mem_of_getElem? (i := 1) rfl)) e5 (g := (mkF m 52 #[.val (.ref r0), .val (.int (1 : Int32)), .val (.int (0 : Int32)), .unset] [(.int (10 : Int32)), (.ref r0)])) rfl (hb hby d17_52) rfl (by decide) (cap := 10) (by decide) (by decide) (by decide) (by decide)
  obtain ⟨b6, g6⟩ : ∃ z, z = h0.size := ⟨_, rfl⟩
  rw [← g6] at A6 st6
  have sz_b6 : h0.size ≤ b6 := Nat.le_trans (Keep.refl h0 [r0]).1 (Nat.le_of_eq g6.symm)
  have K7 : Keep h0 h6 [r0] := (Keep.refl h0 [r0]).ext E6
  have V6 : Arv Z h6 b6 k6 (.object "java/lang/Object") (10 : Int32) [.null, .null, .null, .null, .null, .null, .null, .null, .null, .null] .null := (Arv.new A6 (by decide)).pad (pad_rep [] .null 10)
  have f8 := (E_r0.ext E6)
  have f9 := (y23.ext E6)
  obtain ⟨T10, h10, X10, e10, W10, st10⟩ := putF X6 hx hZ hown (host := "") (Or.inl (hw _ (List.mem_of_getElem? (i := 80) rfl))) Via.refl e6 f9 f8 (Or.inl (hw _ (List.mem_of_getElem? (i := 81) rfl))) (hw _ (List.mem_of_getElem? (i := 59) rfl)) (ty := (.array (.object "java/lang/Object"))) (by decide) rfl rfl (g := (mkF m 56 #[.val (.ref r0), .val (.int (1 : Int32)), .val (.int (0 : Int32)), .unset] [(.ref b6), (.ref r0), (.ref b6)])) rfl rfl (hb hby d17_56)
  have N10 := Fr.snoc X10 N5 g_r0
  have K11 : Keep h0 h10 [r0] := K7.wr W10 (Or.inl (List.mem_of_getElem? (i := 0) rfl))
  have F10 := f9.same W10
  have pre12 : ∀ t, Steps p.tables e below (T10.setTop (mkF m 59 #[.val (.ref r0), .val (.int (1 : Int32)), .val (.int (0 : Int32)), .unset] [(.ref b6)])) t → Steps p.tables e below (s₁.setTop (entryFrame m #[(.ref r0), (.int (1 : Int32))] 4)) t := by
    intro t k
    refine pre0 _ ?_
    show Steps p.tables e below (s₁.setTop (mkF m 0 #[.val (.ref r0), .val (.int (1 : Int32)), .unset, .unset] [])) _
    refine XS.aloadN X0.here hx rfl (hb hby d17_0) rfl rfl ?_
    show Steps p.tables e below (s₁.setTop (mkF m 1 #[.val (.ref r0), .val (.int (1 : Int32)), .unset, .unset] [(.ref r0)])) _
    refine st1 _ ?_
    show Steps p.tables e below (T1.setTop (mkF m 4 #[.val (.ref r0), .val (.int (1 : Int32)), .unset, .unset] [(.ref y5)])) _
    refine X1.arraylength hx (by rw [e1]; exact Ar2.1) (State.isArrayOf_alike hZ.alike Ar2.2.1) (g := (mkF m 4 #[.val (.ref r0), .val (.int (1 : Int32)), .unset, .unset] [(.ref y5)])) rfl rfl (hb hby d17_4) _ ?_
    rw [len_of Sz2 Nn2]
    show Steps p.tables e below (T1.setTop (mkF m 5 #[.val (.ref r0), .val (.int (1 : Int32)), .unset, .unset] [(.int (0 : Int32))])) _
    refine XS.istoreN X1.here hx rfl (hb hby d17_5) rfl (l' := #[.val (.ref r0), .val (.int (1 : Int32)), .val (.int (0 : Int32)), .unset]) rfl ?_
    refine XS.iloadN X1.here hx rfl (hb hby d17_6) rfl ?_
    show Steps p.tables e below (T1.setTop (mkF m 7 #[.val (.ref r0), .val (.int (1 : Int32)), .val (.int (0 : Int32)), .unset] [(.int (0 : Int32))])) _
    refine XS.ifNo X1.here hx rfl (hb hby d17_7) rfl ((if0 _ _).trans (flt (by decide : ¬ ((0 : Int32) < (0 : Int32)))).2.2.1) ?_
    refine XS.aloadN X1.here hx rfl (hb hby d17_10) rfl rfl ?_
    show Steps p.tables e below (T1.setTop (mkF m 11 #[.val (.ref r0), .val (.int (1 : Int32)), .val (.int (0 : Int32)), .unset] [(.ref r0)])) _
    refine st3 _ ?_
    show Steps p.tables e below (T3.setTop (mkF m 14 #[.val (.ref r0), .val (.int (1 : Int32)), .val (.int (0 : Int32)), .unset] [(.ref y5)])) _
    refine st4 _ ?_
    show Steps p.tables e below (T4.setTop (mkF m 17 #[.val (.ref r0), .val (.int (1 : Int32)), .val (.int (0 : Int32)), .unset] [(.ref y5), (.ref y5)])) _
    refine Jvm.RoadKit.acmp (g := (mkF m 17 #[.val (.ref r0), .val (.int (1 : Int32)), .val (.int (0 : Int32)), .unset] [(.ref y5), (.ref y5)])) X4 hx rfl rfl rfl (pc0 := 17) (pc' := 45) (same := true) rfl (hb hby d17_17) rfl (decide_eq_true rfl) (by decide) (by decide) ?_
    show Steps p.tables e below (T4.setTop (mkF m 45 #[.val (.ref r0), .val (.int (1 : Int32)), .val (.int (0 : Int32)), .unset] [])) _
    refine XS.aloadN X4.here hx rfl (hb hby d17_45) rfl rfl ?_
    refine XS.bipush X4.here hx rfl (hb hby d17_46) ?_
    show Steps p.tables e below (T4.setTop (mkF m 48 #[.val (.ref r0), .val (.int (1 : Int32)), .val (.int (0 : Int32)), .unset] [(.int (10 : Int32)), (.ref r0)])) _
    refine XS.iloadN X4.here hx rfl (hb hby d17_48) rfl ?_
    show Steps p.tables e below (T4.setTop (mkF m 49 #[.val (.ref r0), .val (.int (1 : Int32)), .val (.int (0 : Int32)), .unset] [(.int (1 : Int32)), (.int (10 : Int32)), (.ref r0)])) _
    refine st5 _ ?_
    show Steps p.tables e below (T5.setTop (mkF m 52 #[.val (.ref r0), .val (.int (1 : Int32)), .val (.int (0 : Int32)), .unset] [(.int (10 : Int32)), (.ref r0)])) _
    refine st6 _ ?_
    show Steps p.tables e below (T6.setTop (mkF m 55 #[.val (.ref r0), .val (.int (1 : Int32)), .val (.int (0 : Int32)), .unset] [(.ref b6), (.ref r0)])) _
    refine XS.dupX1 X6.here hx rfl (hb hby d17_55) rfl rfl rfl ?_
    show Steps p.tables e below (T6.setTop (mkF m 56 #[.val (.ref r0), .val (.int (1 : Int32)), .val (.int (0 : Int32)), .unset] [(.ref b6), (.ref r0), (.ref b6)])) _
    refine st10 _ ?_
    exact k
  have f13 := (V6.other W10 (Ne.symm (Nat.ne_of_lt (Nat.lt_of_lt_of_le y18.lt (Nat.le_trans (Nat.le_refl _) (Nat.le_of_eq g6.symm))))))
  have f14 := (f8.wr W10)
  have f15 := ((y18.ext E6).other W10 (Or.inr (slot_ne (Or.inl (hw _ (List.mem_of_getElem? (i := 78) rfl))) (Or.inl (hw _ (List.mem_of_getElem? (i := 81) rfl))) (by decide) (t := .int) (t' := (.array (.object "java/lang/Object"))) (by decide) (by decide))))
  have f16 := ((y15.ext E6).other W10 (Or.inr (slot_ne (Or.inl (hw _ (List.mem_of_getElem? (i := 95) rfl))) (Or.inl (hw _ (List.mem_of_getElem? (i := 81) rfl))) (by decide) (t := .int) (t' := (.array (.object "java/lang/Object"))) (by decide) (by decide))))
  obtain ⟨fs, hr, hrun, hended, hW, hsame⟩ := X10.leave (v := some (.ref b6)) (fun h => by rw [Bd.returns] at h; cases h)
  refine ⟨_, _, pre12 _ ?_, hrun, hended, _, _, rfl, ?_, ⟨_, rfl⟩, hW, hsame.mono (by decide) (by decide)⟩
  · show Steps p.tables e below (T10.setTop (mkF m 59 #[.val (.ref r0), .val (.int (1 : Int32)), .val (.int (0 : Int32)), .unset] [(.ref b6)])) _
    exact areturnOut X10 hx rfl Bd.returns rfl (hb hby d17_59) hr
  · show Q17 Z r0 y12 y17 y5 y13 h0 n0 _ T10.heap _
    rw [e10]
    exact ⟨b6, k6, rfl, N10, K11, sz_b6, F10, f13, f14, f15, f16, O6⟩
def Q16 (Z : State) (r0 : Addr) (y5 : Addr) (y13 : ClassId) (y12 : Value) (h0 : Heap) (n0 : Nat) (v : Option Value) (h : Heap) (L : List Loc) : Prop := ∃ (b2_0 : Addr), ∃ (k2_1 : ClassId), v = some (.ref b2_0) ∧ Fr n0 L ∧ Keep h0 h [r0] ∧ h0.size ≤ b2_0 ∧ Exa Z h r0 "java/util/ArrayList" ∧ Fld Z h r0 "java/util/ArrayList" "elementData" "[Ljava/lang/Object;" (.ref b2_0) ∧ Arv Z h b2_0 k2_1 (.object "java/lang/Object") (10 : Int32) [.null, .null, .null, .null, .null, .null, .null, .null, .null, .null] .null ∧ Fld Z h r0 "java/util/AbstractList" "modCount" "I" y12 ∧ Fld Z h r0 "java/util/ArrayList" "size" "I" (.int (0 : Int32)) ∧ Ovr Z k2_1 "java/lang/Object"
theorem ef_16 (m : MethodId) (x0 : Addr) : entryFrame m #[(.ref x0)] 1 = mkF m 0 #[.val (.ref x0)] [] := by first | (simp [entryFrame, mkF, argsToLocals, Value.category]; done) | rfl
set_option maxRecDepth 65536 in
set_option maxHeartbeats 40000000 in
theorem rm16 (l : Launch) (Z : State) (a0 : Array Value) (hw : ∀ d ∈ tables_1, d.before a0 Z = true) (ws : List Jvm.Cond) (r0 : Addr) (y5 : Addr) (y13 : ClassId) (y12 : Value) (h0 : Heap) (n0 : Nat) (Z0 : n0 ≤ h0.size) (y15 : Fld Z h0 r0 "java/util/ArrayList" "size" "I" (.int (0 : Int32))) (y33 : Sta Z Z.heap "java/util/ArrayList" "DEFAULTCAPACITY_EMPTY_ELEMENTDATA" "[Ljava/lang/Object;" (.ref y5)) (y23 : Fld Z h0 r0 "java/util/ArrayList" "elementData" "[Ljava/lang/Object;" (.ref y5)) (y9 : Arv Z h0 y5 y13 (.object "java/lang/Object") (0 : Int32) [] .null) (y18 : Fld Z h0 r0 "java/util/AbstractList" "modCount" "I" y12) (O_ : Old Z n0 h0) (E_r0 : Exa Z h0 r0 "java/util/ArrayList") (g_r0 : n0 ≤ r0) :
    MetFree l (⟨"java/util/ArrayList", "grow", "()[Ljava/lang/Object;"⟩ : MethodName) (head1 (Jvm.Cond.code (⟨"java/util/ArrayList", "grow", "()[Ljava/lang/Object;"⟩ : MethodName) jdk_38_method_7_code 1 (some (.array (.object "java/lang/Object"))) :: ws) ({ frames := 2, cells := 1, slots := 10, locals := 29 } : Room)) (fun a U => a = #[(.ref r0)] ∧ Z.Warmed39 U.vm ∧ U.heap = h0) (fun _ _ _ _ _ => True) (fun _ U o U' => ∃ v L, o = .returned v ∧ Q16 Z r0 y5 y13 y12 h0 n0 v U'.heap L ∧ FrameEnd U o U' L ({ frames := 2, cells := 1, slots := 10, locals := 29 } : Room).cells ({ frames := 2, cells := 1, slots := 10, locals := 29 } : Room).slots) := by
  refine MetFree.of_bodySF (plainFor_of_name pn_5) hisR ?_
  intro p e s m args below meth c s₁ Bd hml0 hP hK
  obtain ⟨rfl, hZ, hh⟩ := hP
  have hx := Bd.exec
  have hby := Bd.bytes
  have hml : c.maxLocals = 1 := hml0
  have hown : s.vm.findClass "java/util/ArrayList" = some m.cls := findClass_of_methodNamed Bd.named
  have hnm := (name_of_methodNamed Bd.named Bd.method).1
  have X0 : Stand p l e ({ frames := 2, cells := 1, slots := 10, locals := 29 } : Room) s m #[(.ref r0)] below meth c s₁ [] 0 0 := Stand.of_body Bd
  have e0 : s₁.heap = h0 := by rw [← hh, Bd.state]; rfl
  have N0 := Fr.nil n0
  have pre0 : ∀ t, Steps p.tables e below (s₁.setTop (mkF m 0 #[.val (.ref r0)] [])) t → Steps p.tables e below (s₁.setTop (entryFrame m #[(.ref r0)] 1)) t := fun t k => castTop (ef_16 m r0) k
  obtain ⟨T1, X1, e1, st1⟩ := getF X0 hx hZ hown (host := "") (Or.inl (hw _ (List.mem_of_getElem? (i := 94) rfl))) Via.refl e0 y15 (g := (mkF m 2 #[.val (.ref r0)] [(.ref r0), (.ref r0)])) rfl rfl (hb hby d16_2)
  obtain ⟨cq2, q2, q2'⟩ := E_r0.cell
  obtain ⟨_, _, ⟨T2, L2, k2, n2⟩, -, X2, ⟨Lc2, hQ2, l2, y2, z2⟩, st2⟩ := X1.privateBack hx (y := (⟨"java/util/ArrayList", "grow", "(I)[Ljava/lang/Object;"⟩ : MethodName)) hown (mvT hZ (hw _ (List.mem_of_getElem? (i := 131) rfl))) (mvT hZ (hw _ (List.mem_of_getElem? (i := 132) rfl))) (mvT hZ (hw _ (List.mem_of_getElem? (i := 134) rfl))) (Cond.privateMethod_at (mvP hZ (hw _ (List.mem_of_getElem? (i := 133) rfl)) (args := #[]))) (mvT hZ (hw _ (List.mem_of_getElem? (i := 135) rfl))) (by decide) (backOf (W := 0) (rm17 l Z a0 hw [] r0 y12 (.int (0 : Int32)) y5 y13 h0 n0 (Nat.le_trans Z0 (Keep.refl h0 [r0]).1) y18 y15 y33 y23 y9 O_ E_r0 g_r0) hZ (hw _ (List.mem_of_getElem? (i := 135) rfl)) (hw _ (List.mem_of_getElem? (i := 60) rfl)) (by decide) (by decide)) (g := (mkF m 7 #[.val (.ref r0)] [(.int (1 : Int32)), (.ref r0)])) rfl (by rw [hml]; rfl) (Steps.refl _) (a := r0) (by rw [e1]; exact q2) q2' (argsL := [(.int (1 : Int32))]) (rest := []) (lenOf pd_8 rfl) rfl (by show 2 * 0 + _ ≤ _; exact Nat.le_of_eq rfl) (hb hby d16_7) (fun _ _ => ⟨rfl, e1, (by decide : 0 + 1 ≤ _), (by decide : 0 + 10 ≤ _)⟩)
  dsimp only [Pt.U, Pt.locs, Pt.cells, Pt.slots] at X2 l2 y2 z2 st2 hQ2
  subst l2 y2 z2
  obtain ⟨b2_0, k2_1, rfl, Nq2, Kq2, sq2_0, f2_0, f2_1, f2_2, f2_3, f2_4, f2_5⟩ := hQ2
  have sz_b2_0 : h0.size ≤ b2_0 := Nat.le_trans (Keep.refl h0 [r0]).1 sq2_0
  have K3 : Keep h0 T2.heap [r0] := (Keep.refl h0 [r0]).trans Kq2 (allS (Or.inl (List.mem_of_getElem? (i := 0) rfl)) all0)
  have N2 := Fr.app N0 Nq2
  have pre4 : ∀ t, Steps p.tables e below (T2.setTop (mkF m 10 #[.val (.ref r0)] [(.ref b2_0)])) t → Steps p.tables e below (s₁.setTop (entryFrame m #[(.ref r0)] 1)) t := by
    intro t k
    refine pre0 _ ?_
    show Steps p.tables e below (s₁.setTop (mkF m 0 #[.val (.ref r0)] [])) _
    refine XS.aloadN X0.here hx rfl (hb hby d16_0) rfl rfl ?_
    refine XS.aloadN X0.here hx rfl (hb hby d16_1) rfl rfl ?_
    show Steps p.tables e below (s₁.setTop (mkF m 2 #[.val (.ref r0)] [(.ref r0), (.ref r0)])) _
    refine st1 _ ?_
    show Steps p.tables e below (T1.setTop (mkF m 5 #[.val (.ref r0)] [(.int (0 : Int32)), (.ref r0)])) _
    refine XS.iconst X1.here hx rfl (hb hby d16_5) ?_
    refine XS.iadd X1.here hx rfl (hb hby d16_6) rfl ?_
    show Steps p.tables e below (T1.setTop (mkF m 7 #[.val (.ref r0)] [(.int (1 : Int32)), (.ref r0)])) _
    refine st2.trans ?_
    exact k
  obtain ⟨fs, hr, hrun, hended, hW, hsame⟩ := X2.leave (v := some (.ref b2_0)) (fun h => by rw [Bd.returns] at h; cases h)
  refine ⟨_, _, pre4 _ ?_, hrun, hended, _, _, rfl, ?_, ⟨_, rfl⟩, hW, hsame.mono (by decide) (by decide)⟩
  · show Steps p.tables e below (T2.setTop (mkF m 10 #[.val (.ref r0)] [(.ref b2_0)])) _
    exact areturnOut X2 hx rfl Bd.returns rfl (hb hby d16_10) hr
  · show Q16 Z r0 y5 y13 y12 h0 n0 _ T2.heap _
    exact ⟨b2_0, k2_1, rfl, N2, K3, sz_b2_0, f2_2, f2_0, f2_1, f2_3, f2_4, f2_5⟩
def Q15 (Z : State) (r0 : Addr) (r1 : Addr) (r2 : Addr) (k_r2 : ClassId) (y5 : Addr) (y13 : ClassId) (y12 : Value) (h0 : Heap) (n0 : Nat) (v : Option Value) (h : Heap) (L : List Loc) : Prop := ∃ (b2_0 : Addr), ∃ (k2_1 : ClassId), v = none ∧ Fr n0 L ∧ Keep h0 h [r0] ∧ h0.size ≤ b2_0 ∧ Exa Z h r0 "java/util/ArrayList" ∧ Fld Z h r0 "java/util/ArrayList" "elementData" "[Ljava/lang/Object;" (.ref b2_0) ∧ Arv Z h b2_0 k2_1 (.object "java/lang/Object") (10 : Int32) [(.ref r1), .null, .null, .null, .null, .null, .null, .null, .null, .null] .null ∧ Fld Z h r0 "java/util/AbstractList" "modCount" "I" y12 ∧ Fld Z h r0 "java/util/ArrayList" "size" "I" (.int (1 : Int32)) ∧ Ovr Z k2_1 "java/lang/Object"
theorem ef_15 (m : MethodId) (x0 : Addr) (x1 : Addr) (x2 : Addr) : entryFrame m #[(.ref x0), (.ref x1), (.ref x2), (.int (0 : Int32))] 4 = mkF m 0 #[.val (.ref x0), .val (.ref x1), .val (.ref x2), .val (.int (0 : Int32))] [] := by first | (simp [entryFrame, mkF, argsToLocals, Value.category]; done) | rfl
set_option maxRecDepth 65536 in
set_option maxHeartbeats 40000000 in
theorem rm15 (l : Launch) (Z : State) (a0 : Array Value) (hw : ∀ d ∈ tables_1, d.before a0 Z = true) (ws : List Jvm.Cond) (r0 : Addr) (r1 : Addr) (r2 : Addr) (k_r2 : ClassId) (y5 : Addr) (y13 : ClassId) (y12 : Value) (h0 : Heap) (n0 : Nat) (Z0 : n0 ≤ h0.size) (V_r2 : Arv Z h0 r2 k_r2 (.object "java/lang/Object") (0 : Int32) [] .null) (y15 : Fld Z h0 r0 "java/util/ArrayList" "size" "I" (.int (0 : Int32))) (y33 : Sta Z Z.heap "java/util/ArrayList" "DEFAULTCAPACITY_EMPTY_ELEMENTDATA" "[Ljava/lang/Object;" (.ref y5)) (y23 : Fld Z h0 r0 "java/util/ArrayList" "elementData" "[Ljava/lang/Object;" (.ref y5)) (y9 : Arv Z h0 y5 y13 (.object "java/lang/Object") (0 : Int32) [] .null) (y18 : Fld Z h0 r0 "java/util/AbstractList" "modCount" "I" y12) (O_ : Old Z n0 h0) (E_r0 : Exa Z h0 r0 "java/util/ArrayList") (g_r0 : n0 ≤ r0) (E_r1 : Exa Z h0 r1 "com/example/fetchwright/fetchwright/service/LoadsInProgress$Load") :
    MetFree l own_y8 (head1 (Jvm.Cond.code own_y8 jdk_38_method_24_code 4 none :: ws) ({ frames := 3, cells := 1, slots := 10, locals := 41 } : Room)) (fun a U => a = #[(.ref r0), (.ref r1), (.ref r2), (.int (0 : Int32))] ∧ Z.Warmed39 U.vm ∧ U.heap = h0) (fun _ _ _ _ _ => True) (fun _ U o U' => ∃ v L, o = .returned v ∧ Q15 Z r0 r1 r2 k_r2 y5 y13 y12 h0 n0 v U'.heap L ∧ FrameEnd U o U' L ({ frames := 3, cells := 1, slots := 10, locals := 41 } : Room).cells ({ frames := 3, cells := 1, slots := 10, locals := 41 } : Room).slots) := by
  refine MetFree.of_bodySF (plainFor_of_name pn_5) hisR ?_
  intro p e s m args below meth c s₁ Bd hml0 hP hK
  obtain ⟨rfl, hZ, hh⟩ := hP
  have hx := Bd.exec
  have hby := Bd.bytes
  have hml : c.maxLocals = 4 := hml0
  have hown : s.vm.findClass "java/util/ArrayList" = some m.cls := findClass_of_methodNamed Bd.named
  have hnm := (name_of_methodNamed Bd.named Bd.method).1
  have X0 : Stand p l e ({ frames := 3, cells := 1, slots := 10, locals := 41 } : Room) s m #[(.ref r0), (.ref r1), (.ref r2), (.int (0 : Int32))] below meth c s₁ [] 0 0 := Stand.of_body Bd
  have e0 : s₁.heap = h0 := by rw [← hh, Bd.state]; rfl
  have N0 := Fr.nil n0
  have pre0 : ∀ t, Steps p.tables e below (s₁.setTop (mkF m 0 #[.val (.ref r0), .val (.ref r1), .val (.ref r2), .val (.int (0 : Int32))] [])) t → Steps p.tables e below (s₁.setTop (entryFrame m #[(.ref r0), (.ref r1), (.ref r2), (.int (0 : Int32))] 4)) t := fun t k => castTop (ef_15 m r0 r1 r2) k
  obtain ⟨cl1, Ar1, -, Sz1, Nn1, -, -⟩ := id V_r2
  obtain ⟨cq2, q2, q2'⟩ := E_r0.cell
  obtain ⟨_, _, ⟨T2, L2, k2, n2⟩, -, X2, ⟨Lc2, hQ2, l2, y2, z2⟩, st2⟩ := X0.privateBack hx (y := (⟨"java/util/ArrayList", "grow", "()[Ljava/lang/Object;"⟩ : MethodName)) hown (mvT hZ (hw _ (List.mem_of_getElem? (i := 126) rfl))) (mvT hZ (hw _ (List.mem_of_getElem? (i := 127) rfl))) (mvT hZ (hw _ (List.mem_of_getElem? (i := 129) rfl))) (Cond.privateMethod_at (mvP hZ (hw _ (List.mem_of_getElem? (i := 128) rfl)) (args := #[]))) (mvT hZ (hw _ (List.mem_of_getElem? (i := 130) rfl))) (by decide) (backOf (W := 0) (rm16 l Z a0 hw [] r0 y5 y13 y12 h0 n0 (Nat.le_trans Z0 (Keep.refl h0 [r0]).1) y15 y33 y23 y9 y18 O_ E_r0 g_r0) hZ (hw _ (List.mem_of_getElem? (i := 130) rfl)) (hw _ (List.mem_of_getElem? (i := 60) rfl)) (by decide) (by decide)) (g := (mkF m 7 #[.val (.ref r0), .val (.ref r1), .val (.ref r2), .val (.int (0 : Int32))] [(.ref r0)])) rfl (by rw [hml]; rfl) (Steps.refl _) (a := r0) (by rw [e0]; exact q2) q2' (argsL := []) (rest := []) (lenOf pd_9 rfl) rfl (by show 2 * 0 + _ ≤ _; exact Nat.le_of_eq rfl) (hb hby d15_7) (fun _ _ => ⟨rfl, e0, (by decide : 0 + 1 ≤ _), (by decide : 0 + 10 ≤ _)⟩)
  dsimp only [Pt.U, Pt.locs, Pt.cells, Pt.slots] at X2 l2 y2 z2 st2 hQ2
  subst l2 y2 z2
  obtain ⟨b2_0, k2_1, rfl, Nq2, Kq2, sq2_0, f2_0, f2_1, f2_2, f2_3, f2_4, f2_5⟩ := hQ2
  have sz_b2_0 : h0.size ≤ b2_0 := Nat.le_trans (Keep.refl h0 [r0]).1 sq2_0
  have K3 : Keep h0 T2.heap [r0] := (Keep.refl h0 [r0]).trans Kq2 (allS (Or.inl (List.mem_of_getElem? (i := 0) rfl)) all0)
  have N2 := Fr.app N0 Nq2
  obtain ⟨cl4, Ar4, Cq4, Sz4, Nn4, Hh4, Gg4⟩ := id f2_2
  have hin4 : ¬ ((0 : Int32) < 0 ∨ cl4.slots.size ≤ ((0 : Int32)).toNatClampNeg) := inb_of Sz4 ⟨by decide, by decide⟩
  have f5 := (E_r1.keep Kq2)
  obtain ⟨T4, h4, X4, e4, W4, st4⟩ := stR X2 hx hZ rfl Ar4 (j := (0 : Int32)) hin4 rfl (Sto.ofV Ar4 Cq4 f2_5 (Ins.of_exa f5 (hw _ (List.mem_of_getElem? (i := 141) rfl)))) (g := (mkF m 14 #[.val (.ref r0), .val (.ref r1), .val (.ref b2_0), .val (.int (0 : Int32))] [(.ref r1), (.int (0 : Int32)), (.ref b2_0)])) rfl rfl (hb hby d15_14)
  have V4 : Arv Z h4 b2_0 k2_1 (.object "java/lang/Object") (10 : Int32) [(.ref r1), .null, .null, .null, .null, .null, .null, .null, .null, .null] .null := Arv.set Ar4 Cq4 Sz4 Nn4 Hh4 Gg4 rfl W4 0 rfl (Nat.le_of_ble_eq_true rfl)
  have N4 := Fr.snoc X4 N2 (Nat.le_trans Z0 sz_b2_0)
  have K6 : Keep h0 h4 [r0] := K3.wr W4 (Or.inr sz_b2_0)
  have f7 := (f2_0.wr W4)
  have f8 := (f2_4.other W4 (Or.inl (Nat.ne_of_lt (Nat.lt_of_lt_of_le y15.lt (Nat.le_trans (Nat.le_refl _) sq2_0)))))
  obtain ⟨T9, h9, X9, e9, W9, st9⟩ := putF X4 hx hZ hown (host := "") (Or.inl (hw _ (List.mem_of_getElem? (i := 94) rfl))) Via.refl e4 f8 f7 (Or.inl (hw _ (List.mem_of_getElem? (i := 95) rfl))) (hw _ (List.mem_of_getElem? (i := 59) rfl)) (ty := .int) (by decide) rfl rfl (g := (mkF m 19 #[.val (.ref r0), .val (.ref r1), .val (.ref b2_0), .val (.int (0 : Int32))] [(.int (1 : Int32)), (.ref r0)])) rfl rfl (hb hby d15_19)
  have N9 := Fr.snoc X9 N4 g_r0
  have K10 : Keep h0 h9 [r0] := K6.wr W9 (Or.inl (List.mem_of_getElem? (i := 0) rfl))
  have F9 := f8.same W9
  have pre11 : ∀ t, Steps p.tables e below (T9.setTop (mkF m 22 #[.val (.ref r0), .val (.ref r1), .val (.ref b2_0), .val (.int (0 : Int32))] [])) t → Steps p.tables e below (s₁.setTop (entryFrame m #[(.ref r0), (.ref r1), (.ref r2), (.int (0 : Int32))] 4)) t := by
    intro t k
    refine pre0 _ ?_
    show Steps p.tables e below (s₁.setTop (mkF m 0 #[.val (.ref r0), .val (.ref r1), .val (.ref r2), .val (.int (0 : Int32))] [])) _
    refine XS.iloadN X0.here hx rfl (hb hby d15_0) rfl ?_
    refine XS.aloadN X0.here hx rfl (hb hby d15_1) rfl rfl ?_
    show Steps p.tables e below (s₁.setTop (mkF m 2 #[.val (.ref r0), .val (.ref r1), .val (.ref r2), .val (.int (0 : Int32))] [(.ref r2), (.int (0 : Int32))])) _
    refine X0.arraylength hx (by rw [e0]; exact Ar1.1) (State.isArrayOf_alike hZ.alike Ar1.2.1) (g := (mkF m 2 #[.val (.ref r0), .val (.ref r1), .val (.ref r2), .val (.int (0 : Int32))] [(.ref r2), (.int (0 : Int32))])) rfl rfl (hb hby d15_2) _ ?_
    rw [len_of Sz1 Nn1]
    show Steps p.tables e below (s₁.setTop (mkF m 3 #[.val (.ref r0), .val (.ref r1), .val (.ref r2), .val (.int (0 : Int32))] [(.int (0 : Int32)), (.int (0 : Int32))])) _
    refine XS.icmpNo X0.here hx rfl (hb hby d15_3) rfl (teq (by decide : (0 : Int32) = (0 : Int32))).2 ?_
    refine XS.aloadN X0.here hx rfl (hb hby d15_6) rfl rfl ?_
    show Steps p.tables e below (s₁.setTop (mkF m 7 #[.val (.ref r0), .val (.ref r1), .val (.ref r2), .val (.int (0 : Int32))] [(.ref r0)])) _
    refine st2.trans ?_
    show Steps p.tables e below (T2.setTop (mkF m 10 #[.val (.ref r0), .val (.ref r1), .val (.ref r2), .val (.int (0 : Int32))] [(.ref b2_0)])) _
    refine XS.astoreN X2.here hx rfl (hb hby d15_10) rfl rfl (l' := #[.val (.ref r0), .val (.ref r1), .val (.ref b2_0), .val (.int (0 : Int32))]) rfl ?_
    refine XS.aloadN X2.here hx rfl (hb hby d15_11) rfl rfl ?_
    show Steps p.tables e below (T2.setTop (mkF m 12 #[.val (.ref r0), .val (.ref r1), .val (.ref b2_0), .val (.int (0 : Int32))] [(.ref b2_0)])) _
    refine XS.iloadN X2.here hx rfl (hb hby d15_12) rfl ?_
    refine XS.aloadN X2.here hx rfl (hb hby d15_13) rfl rfl ?_
    show Steps p.tables e below (T2.setTop (mkF m 14 #[.val (.ref r0), .val (.ref r1), .val (.ref b2_0), .val (.int (0 : Int32))] [(.ref r1), (.int (0 : Int32)), (.ref b2_0)])) _
    refine st4 _ ?_
    show Steps p.tables e below (T4.setTop (mkF m 15 #[.val (.ref r0), .val (.ref r1), .val (.ref b2_0), .val (.int (0 : Int32))] [])) _
    refine XS.aloadN X4.here hx rfl (hb hby d15_15) rfl rfl ?_
    refine XS.iloadN X4.here hx rfl (hb hby d15_16) rfl ?_
    show Steps p.tables e below (T4.setTop (mkF m 17 #[.val (.ref r0), .val (.ref r1), .val (.ref b2_0), .val (.int (0 : Int32))] [(.int (0 : Int32)), (.ref r0)])) _
    refine XS.iconst X4.here hx rfl (hb hby d15_17) ?_
    refine XS.iadd X4.here hx rfl (hb hby d15_18) rfl ?_
    show Steps p.tables e below (T4.setTop (mkF m 19 #[.val (.ref r0), .val (.ref r1), .val (.ref b2_0), .val (.int (0 : Int32))] [(.int (1 : Int32)), (.ref r0)])) _
    refine st9 _ ?_
    exact k
  have f12 := (f7.wr W9)
  have f13 := ((f2_1.other W4 (Or.inl (Nat.ne_of_lt (Nat.lt_of_lt_of_le y15.lt (Nat.le_trans (Nat.le_refl _) sq2_0))))).other W9 (Or.inr (slot_ne (Or.inl (hw _ (List.mem_of_getElem? (i := 81) rfl))) (Or.inl (hw _ (List.mem_of_getElem? (i := 95) rfl))) (by decide) (t := (.array (.object "java/lang/Object"))) (t' := .int) (by decide) (by decide))))
  have f14 := (V4.other W9 (Ne.symm (Nat.ne_of_lt (Nat.lt_of_lt_of_le y15.lt (Nat.le_trans (Nat.le_refl _) sq2_0)))))
  have f15 := ((f2_3.other W4 (Or.inl (Nat.ne_of_lt (Nat.lt_of_lt_of_le y15.lt (Nat.le_trans (Nat.le_refl _) sq2_0))))).other W9 (Or.inr (slot_ne (Or.inl (hw _ (List.mem_of_getElem? (i := 78) rfl))) (Or.inl (hw _ (List.mem_of_getElem? (i := 95) rfl))) (by decide) (t := .int) (t' := .int) (by decide) (by decide))))
  obtain ⟨fs, hr, hrun, hended, hW, hsame⟩ := X9.leave (v := none) (fun _ => rfl)
  refine ⟨_, _, pre11 _ ?_, hrun, hended, _, _, rfl, ?_, ⟨_, rfl⟩, hW, hsame.mono (by decide) (by decide)⟩
  · show Steps p.tables e below (T9.setTop (mkF m 22 #[.val (.ref r0), .val (.ref r1), .val (.ref b2_0), .val (.int (0 : Int32))] [])) _
    exact X9.returnOut hx Bd.returns (hb hby d15_22) hr
  · show Q15 Z r0 r1 r2 k_r2 y5 y13 y12 h0 n0 _ T9.heap _
    rw [e9]
    exact ⟨b2_0, k2_1, rfl, N9, K10, sz_b2_0, f12, f13, f14, f15, F9, f2_5⟩
def Q14 (Z : State) (r0 : Addr) (r1 : Addr) (y5 : Addr) (y13 : ClassId) (h0 : Heap) (n0 : Nat) (v : Option Value) (h : Heap) (L : List Loc) : Prop := ∃ (b12_0 : Addr), ∃ (k12_1 : ClassId), v = some (.int (1 : Int32)) ∧ Fr n0 L ∧ Keep h0 h [r0] ∧ h0.size ≤ b12_0 ∧ Exa Z h r0 "java/util/ArrayList" ∧ Fld Z h r0 "java/util/ArrayList" "elementData" "[Ljava/lang/Object;" (.ref b12_0) ∧ Arv Z h b12_0 k12_1 (.object "java/lang/Object") (10 : Int32) [(.ref r1), .null, .null, .null, .null, .null, .null, .null, .null, .null] .null ∧ Fld Z h r0 "java/util/AbstractList" "modCount" "I" (.int (1 : Int32)) ∧ Fld Z h r0 "java/util/ArrayList" "size" "I" (.int (1 : Int32)) ∧ Ovr Z k12_1 "java/lang/Object"
theorem ef_14 (m : MethodId) (x0 : Addr) (x1 : Addr) : entryFrame m #[(.ref x0), (.ref x1)] 2 = mkF m 0 #[.val (.ref x0), .val (.ref x1)] [] := by first | (simp [entryFrame, mkF, argsToLocals, Value.category]; done) | rfl
set_option maxRecDepth 65536 in
set_option maxHeartbeats 40000000 in
theorem rm14 (l : Launch) (Z : State) (a0 : Array Value) (hw : ∀ d ∈ tables_1, d.before a0 Z = true) (ws : List Jvm.Cond) (r0 : Addr) (r1 : Addr) (y5 : Addr) (y13 : ClassId) (h0 : Heap) (n0 : Nat) (Z0 : n0 ≤ h0.size) (y18 : Fld Z h0 r0 "java/util/AbstractList" "modCount" "I" (.int (0 : Int32))) (E_r0 : Exa Z h0 r0 "java/util/ArrayList") (g_r0 : n0 ≤ r0) (y33 : Sta Z Z.heap "java/util/ArrayList" "DEFAULTCAPACITY_EMPTY_ELEMENTDATA" "[Ljava/lang/Object;" (.ref y5)) (y23 : Fld Z h0 r0 "java/util/ArrayList" "elementData" "[Ljava/lang/Object;" (.ref y5)) (y15 : Fld Z h0 r0 "java/util/ArrayList" "size" "I" (.int (0 : Int32))) (y9 : Arv Z h0 y5 y13 (.object "java/lang/Object") (0 : Int32) [] .null) (y88 : y5 ≠ r0) (O_ : Old Z n0 h0) (E_r1 : Exa Z h0 r1 "com/example/fetchwright/fetchwright/service/LoadsInProgress$Load") :
    MetFree l own_y7 (head1 (Jvm.Cond.code own_y7 jdk_38_method_25_code 2 (some .boolean) :: ws) ({ frames := 4, cells := 1, slots := 10, locals := 56 } : Room)) (fun a U => a = #[(.ref r0), (.ref r1)] ∧ Z.Warmed39 U.vm ∧ U.heap = h0) (fun _ _ _ _ _ => True) (fun _ U o U' => ∃ v L, o = .returned v ∧ Q14 Z r0 r1 y5 y13 h0 n0 v U'.heap L ∧ FrameEnd U o U' L ({ frames := 4, cells := 1, slots := 10, locals := 56 } : Room).cells ({ frames := 4, cells := 1, slots := 10, locals := 56 } : Room).slots) := by
  refine MetFree.of_bodySF (plainFor_of_name pn_5) hisR ?_
  intro p e s m args below meth c s₁ Bd hml0 hP hK
  obtain ⟨rfl, hZ, hh⟩ := hP
  have hx := Bd.exec
  have hby := Bd.bytes
  have hml : c.maxLocals = 2 := hml0
  have hown : s.vm.findClass "java/util/ArrayList" = some m.cls := findClass_of_methodNamed Bd.named
  have hnm := (name_of_methodNamed Bd.named Bd.method).1
  have X0 : Stand p l e ({ frames := 4, cells := 1, slots := 10, locals := 56 } : Room) s m #[(.ref r0), (.ref r1)] below meth c s₁ [] 0 0 := Stand.of_body Bd
  have e0 : s₁.heap = h0 := by rw [← hh, Bd.state]; rfl
  have N0 := Fr.nil n0
  have pre0 : ∀ t, Steps p.tables e below (s₁.setTop (mkF m 0 #[.val (.ref r0), .val (.ref r1)] [])) t → Steps p.tables e below (s₁.setTop (entryFrame m #[(.ref r0), (.ref r1)] 2)) t := fun t k => castTop (ef_14 m r0 r1) k
  obtain ⟨T1, X1, e1, st1⟩ := getF X0 hx hZ hown (host := "") (Or.inl (hw _ (List.mem_of_getElem? (i := 119) rfl))) (Via.of (hw _ (List.mem_of_getElem? (i := 120) rfl))) e0 y18 (g := (mkF m 2 #[.val (.ref r0), .val (.ref r1)] [(.ref r0), (.ref r0)])) rfl rfl (hb hby d14_2)
  obtain ⟨T2, h2, X2, e2, W2, st2⟩ := putF X1 hx hZ hown (host := "") (Or.inl (hw _ (List.mem_of_getElem? (i := 119) rfl))) (Via.of (hw _ (List.mem_of_getElem? (i := 120) rfl))) e1 y18 E_r0 (Or.inl (hw _ (List.mem_of_getElem? (i := 78) rfl))) (hw _ (List.mem_of_getElem? (i := 59) rfl)) (ty := .int) (by decide) rfl rfl (g := (mkF m 7 #[.val (.ref r0), .val (.ref r1)] [(.int (1 : Int32)), (.ref r0)])) rfl rfl (hb hby d14_7)
  have N2 := Fr.snoc X2 N0 g_r0
  have K3 : Keep h0 h2 [r0] := (Keep.refl h0 [r0]).wr W2 (Or.inl (List.mem_of_getElem? (i := 0) rfl))
  have F2 := y18.same W2
  have f4 := (y23.other W2 (Or.inr (slot_ne (Or.inl (hw _ (List.mem_of_getElem? (i := 81) rfl))) (Or.inl (hw _ (List.mem_of_getElem? (i := 78) rfl))) (by decide) (t := (.array (.object "java/lang/Object"))) (t' := .int) (by decide) (by decide))))
  obtain ⟨T5, X5, e5, st5⟩ := getF X2 hx hZ hown (host := "") (Or.inl (hw _ (List.mem_of_getElem? (i := 80) rfl))) Via.refl e2 f4 (g := (mkF m 13 #[.val (.ref r0), .val (.ref r1)] [(.ref r0), (.ref r1), (.ref r0)])) rfl rfl (hb hby d14_13)
  have f6 := (y15.other W2 (Or.inr (slot_ne (Or.inl (hw _ (List.mem_of_getElem? (i := 95) rfl))) (Or.inl (hw _ (List.mem_of_getElem? (i := 78) rfl))) (by decide) (t := .int) (t' := .int) (by decide) (by decide))))
  obtain ⟨T7, X7, e7, st7⟩ := getF X5 hx hZ hown (host := "") (Or.inl (hw _ (List.mem_of_getElem? (i := 94) rfl))) Via.refl e5 f6 (g := (mkF m 17 #[.val (.ref r0), .val (.ref r1)] [(.ref r0), (.ref y5), (.ref r1), (.ref r0)])) rfl rfl (hb hby d14_17)
  have f8 := (y9.other W2 y88)
  have f9 := (O_.wr W2 g_r0)
  have f10 := (E_r0.wr W2)
  have f11 := (E_r1.wr W2)
  obtain ⟨cq12, q12, q12'⟩ := f10.cell
  obtain ⟨_, _, ⟨T12, L12, k12, n12⟩, -, X12, ⟨Lc12, hQ12, l12, y12, z12⟩, st12⟩ := X7.privateBack hx (y := own_y8) hown (mvT hZ (hw _ (List.mem_of_getElem? (i := 121) rfl))) (mvT hZ (hw _ (List.mem_of_getElem? (i := 122) rfl))) (mvT hZ (hw _ (List.mem_of_getElem? (i := 124) rfl))) (Cond.privateMethod_at (mvP hZ (hw _ (List.mem_of_getElem? (i := 123) rfl)) (args := #[]))) (mvT hZ (hw _ (List.mem_of_getElem? (i := 125) rfl))) (by decide) (backOf (W := 0) (rm15 l Z a0 hw [] r0 r1 y5 y13 y5 y13 (.int (1 : Int32)) h2 n0 (Nat.le_trans Z0 K3.1) f8 f6 y33 f4 f8 F2 f9 f10 g_r0 f11) hZ (hw _ (List.mem_of_getElem? (i := 125) rfl)) (hw _ (List.mem_of_getElem? (i := 60) rfl)) (by decide) (by decide)) (g := (mkF m 20 #[.val (.ref r0), .val (.ref r1)] [(.int (0 : Int32)), (.ref y5), (.ref r1), (.ref r0)])) rfl (by rw [hml]; rfl) (Steps.refl _) (a := r0) (by rw [e7]; exact q12) q12' (argsL := [(.ref r1), (.ref y5), (.int (0 : Int32))]) (rest := []) (lenOf pd_10 rfl) rfl (by show 2 * 0 + _ ≤ _; exact Nat.le_of_eq rfl) (hb hby d14_20) (fun _ _ => ⟨rfl, e7, (by decide : 0 + 1 ≤ _), (by decide : 0 + 10 ≤ _)⟩)
  dsimp only [Pt.U, Pt.locs, Pt.cells, Pt.slots] at X12 l12 y12 z12 st12 hQ12
  subst l12 y12 z12
  obtain ⟨b12_0, k12_1, rfl, Nq12, Kq12, sq12_0, f12_0, f12_1, f12_2, f12_3, f12_4, f12_5⟩ := hQ12
  have sz_b12_0 : h0.size ≤ b12_0 := Nat.le_trans K3.1 sq12_0
  have K13 : Keep h0 T12.heap [r0] := K3.trans Kq12 (allS (Or.inl (List.mem_of_getElem? (i := 0) rfl)) all0)
  have N12 := Fr.app N2 Nq12
  have pre14 : ∀ t, Steps p.tables e below (T12.setTop (mkF m 24 #[.val (.ref r0), .val (.ref r1)] [(.int (1 : Int32))])) t → Steps p.tables e below (s₁.setTop (entryFrame m #[(.ref r0), (.ref r1)] 2)) t := by
    intro t k
    refine pre0 _ ?_
    show Steps p.tables e below (s₁.setTop (mkF m 0 #[.val (.ref r0), .val (.ref r1)] [])) _
    refine XS.aloadN X0.here hx rfl (hb hby d14_0) rfl rfl ?_
    refine XS.dup X0.here hx rfl (hb hby d14_1) rfl rfl ?_
    show Steps p.tables e below (s₁.setTop (mkF m 2 #[.val (.ref r0), .val (.ref r1)] [(.ref r0), (.ref r0)])) _
    refine st1 _ ?_
    show Steps p.tables e below (T1.setTop (mkF m 5 #[.val (.ref r0), .val (.ref r1)] [(.int (0 : Int32)), (.ref r0)])) _
    refine XS.iconst X1.here hx rfl (hb hby d14_5) ?_
    refine XS.iadd X1.here hx rfl (hb hby d14_6) rfl ?_
    show Steps p.tables e below (T1.setTop (mkF m 7 #[.val (.ref r0), .val (.ref r1)] [(.int (1 : Int32)), (.ref r0)])) _
    refine st2 _ ?_
    show Steps p.tables e below (T2.setTop (mkF m 10 #[.val (.ref r0), .val (.ref r1)] [])) _
    refine XS.aloadN X2.here hx rfl (hb hby d14_10) rfl rfl ?_
    refine XS.aloadN X2.here hx rfl (hb hby d14_11) rfl rfl ?_
    show Steps p.tables e below (T2.setTop (mkF m 12 #[.val (.ref r0), .val (.ref r1)] [(.ref r1), (.ref r0)])) _
    refine XS.aloadN X2.here hx rfl (hb hby d14_12) rfl rfl ?_
    show Steps p.tables e below (T2.setTop (mkF m 13 #[.val (.ref r0), .val (.ref r1)] [(.ref r0), (.ref r1), (.ref r0)])) _
    refine st5 _ ?_
    show Steps p.tables e below (T5.setTop (mkF m 16 #[.val (.ref r0), .val (.ref r1)] [(.ref y5), (.ref r1), (.ref r0)])) _
    refine XS.aloadN X5.here hx rfl (hb hby d14_16) rfl rfl ?_
    show Steps p.tables e below (T5.setTop (mkF m 17 #[.val (.ref r0), .val (.ref r1)] [(.ref r0), (.ref y5), (.ref r1), (.ref r0)])) _
    refine st7 _ ?_
    show Steps p.tables e below (T7.setTop (mkF m 20 #[.val (.ref r0), .val (.ref r1)] [(.int (0 : Int32)), (.ref y5), (.ref r1), (.ref r0)])) _
    refine st12.trans ?_
    show Steps p.tables e below (T12.setTop (mkF m 23 #[.val (.ref r0), .val (.ref r1)] [])) _
    refine XS.iconst X12.here hx rfl (hb hby d14_23) ?_
    exact k
  obtain ⟨fs, hr, hrun, hended, hW, hsame⟩ := X12.leave (v := some (.int (1 : Int32))) (fun h => by rw [Bd.returns] at h; cases h)
  refine ⟨_, _, pre14 _ ?_, hrun, hended, _, _, rfl, ?_, ⟨_, rfl⟩, hW, hsame.mono (by decide) (by decide)⟩
  · show Steps p.tables e below (T12.setTop (mkF m 24 #[.val (.ref r0), .val (.ref r1)] [(.int (1 : Int32))])) _
    exact retN X12 hx (t := .boolean) Bd.returns (by simp) (hb hby d14_24) hr
  · show Q14 Z r0 r1 y5 y13 h0 n0 _ T12.heap _
    exact ⟨b12_0, k12_1, rfl, N12, K13, sz_b12_0, f12_0, f12_1, f12_2, f12_3, f12_4, f12_5⟩
def Q12 (Z : State) (r0 : Addr) (r1 : Addr) (r2 : Addr) (v3 : Value) (y1 : Addr) (y5 : Addr) (y13 : ClassId) (h0 : Heap) (n0 : Nat) (v : Option Value) (h : Heap) (L : List Loc) : Prop := ∃ (b2 : Addr), ∃ (b12_0 : Addr), ∃ (k12_1 : ClassId), v = none ∧ Fr n0 L ∧ Keep h0 h [y1] ∧ h0.size ≤ b2 ∧ h0.size ≤ b12_0 ∧ Exa Z h b2 "com/example/fetchwright/fetchwright/service/LoadsInProgress$Load" ∧ Fld Z h b2 "com/example/fetchwright/fetchwright/service/LoadsInProgress$Load" "token" "Ljava/lang/Object;" (.ref r1) ∧ Fld Z h b2 "com/example/fetchwright/fetchwright/service/LoadsInProgress$Load" "session" "Ljava/lang/Object;" (.ref r2) ∧ Fld Z h b2 "com/example/fetchwright/fetchwright/service/LoadsInProgress$Load" "secondary" "Lcom/example/fetchwright/fetchwright/service/SecondaryLoad;" v3 ∧ Exa Z h y1 "java/util/ArrayList" ∧ Fld Z h y1 "java/util/ArrayList" "elementData" "[Ljava/lang/Object;" (.ref b12_0) ∧ Arv Z h b12_0 k12_1 (.object "java/lang/Object") (10 : Int32) [(.ref b2), .null, .null, .null, .null, .null, .null, .null, .null, .null] .null ∧ Fld Z h y1 "java/util/AbstractList" "modCount" "I" (.int (1 : Int32)) ∧ Fld Z h y1 "java/util/ArrayList" "size" "I" (.int (1 : Int32)) ∧ b2 ≠ b12_0 ∧ Ovr Z k12_1 "java/lang/Object"
theorem ef_12 (m : MethodId) (x0 : Addr) (x1 : Addr) (x2 : Addr) (x3 : Value) (hx3 : x3.isRef = true) : entryFrame m #[(.ref x0), (.ref x1), (.ref x2), x3] 4 = mkF m 0 #[.val (.ref x0), .val (.ref x1), .val (.ref x2), .val x3] [] := by rcases Jvm.Free.XT.refc hx3 with rfl | ⟨r, rfl⟩ <;> first | (simp [entryFrame, mkF, argsToLocals, Value.category]; done) | rfl
set_option maxRecDepth 65536 in
set_option maxHeartbeats 40000000 in
theorem rm12 (l : Launch) (Z : State) (a0 : Array Value) (hw : ∀ d ∈ tables_1, d.before a0 Z = true) (ws : List Jvm.Cond) (r0 : Addr) (r1 : Addr) (r2 : Addr) (v3 : Value) (y1 : Addr) (y5 : Addr) (y13 : ClassId) (h0 : Heap) (n0 : Nat) (Z0 : n0 ≤ h0.size) (hr_v3 : v3.isRef = true) (y24 : Fld Z h0 r0 "com/example/fetchwright/fetchwright/service/LoadsInProgress" "loads" "Ljava/util/ArrayList;" (.ref y1)) (y20 : Fld Z h0 y1 "java/util/AbstractList" "modCount" "I" (.int (0 : Int32))) (y33 : Sta Z Z.heap "java/util/ArrayList" "DEFAULTCAPACITY_EMPTY_ELEMENTDATA" "[Ljava/lang/Object;" (.ref y5)) (y30 : Fld Z h0 y1 "java/util/ArrayList" "elementData" "[Ljava/lang/Object;" (.ref y5)) (y26 : Fld Z h0 y1 "java/util/ArrayList" "size" "I" (.int (0 : Int32))) (y9 : Arv Z h0 y5 y13 (.object "java/lang/Object") (0 : Int32) [] .null) (y16 : Exa Z h0 y1 "java/util/ArrayList") (y45 : n0 ≤ y1) (y89 : y5 ≠ y1) (O_ : Old Z n0 h0) :
    MetFree l own_y1 (head1 (Jvm.Cond.code own_y1 prog_9_method_2_code 4 none :: ws) ({ frames := 5, cells := 2, slots := 13, locals := 69 } : Room)) (fun a U => a = #[(.ref r0), (.ref r1), (.ref r2), v3] ∧ Z.Warmed39 U.vm ∧ U.heap = h0) (fun _ _ _ _ _ => True) (fun _ U o U' => ∃ v L, o = .returned v ∧ Q12 Z r0 r1 r2 v3 y1 y5 y13 h0 n0 v U'.heap L ∧ FrameEnd U o U' L ({ frames := 5, cells := 2, slots := 13, locals := 69 } : Room).cells ({ frames := 5, cells := 2, slots := 13, locals := 69 } : Room).slots) := by
  refine MetFree.of_bodySF (plainFor_of_name pn_6) hisR ?_
  intro p e s m args below meth c s₁ Bd hml0 hP hK
  obtain ⟨rfl, hZ, hh⟩ := hP
  have hx := Bd.exec
  have hby := Bd.bytes
  have hml : c.maxLocals = 4 := hml0
  have hown : s.vm.findClass "com/example/fetchwright/fetchwright/service/LoadsInProgress" = some m.cls := findClass_of_methodNamed Bd.named
  have hnm := (name_of_methodNamed Bd.named Bd.method).1
  have X0 : Stand p l e ({ frames := 5, cells := 2, slots := 13, locals := 69 } : Room) s m #[(.ref r0), (.ref r1), (.ref r2), v3] below meth c s₁ [] 0 0 := Stand.of_body Bd
  have e0 : s₁.heap = h0 := by rw [← hh, Bd.state]; rfl
  have N0 := Fr.nil n0
  have pre0 : ∀ t, Steps p.tables e below (s₁.setTop (mkF m 0 #[.val (.ref r0), .val (.ref r1), .val (.ref r2), .val v3] [])) t → Steps p.tables e below (s₁.setTop (entryFrame m #[(.ref r0), (.ref r1), (.ref r2), v3] 4)) t := fun t k => castTop (ef_12 m r0 r1 r2 v3 hr_v3) k
  obtain ⟨T1, X1, e1, st1⟩ := getF X0 hx hZ hown (host := "") (Or.inl (hw _ (List.mem_of_getElem? (i := 82) rfl))) Via.refl e0 y24 (g := (mkF m 1 #[.val (.ref r0), .val (.ref r1), .val (.ref r2), .val v3] [(.ref r0)])) rfl rfl (hb hby d12_1)
  obtain ⟨T2, h2, X2, e2, E2, A2, D2, -, st2⟩ := newO X1 hx hZ hown (hw _ (List.mem_of_getElem? (i := 101) rfl)) (hw _ (List.mem_of_getElem? (i := 102) rfl)) (hw _ (List.mem_of_getElem? (i := 103) rfl)) e1 (g := (mkF m 4 #[.val (.ref r0), .val (.ref r1), .val (.ref r2), .val v3] [(.ref y1)])) rfl (hb hby d12_4) (by decide) (by decide)
  obtain ⟨b2, g2⟩ : ∃ z, z = h0.size := ⟨_, rfl⟩
  rw [← g2] at A2 D2 st2
  have sz_b2 : h0.size ≤ b2 := Nat.le_trans (Keep.refl h0 [y1]).1 (Nat.le_of_eq g2.symm)
  have K3 : Keep h0 h2 [y1] := (Keep.refl h0 [y1]).ext E2
  have Ftoken_2 : Fld Z h2 b2 "com/example/fetchwright/fetchwright/service/LoadsInProgress$Load" "token" "Ljava/lang/Object;" .null := D2 (Or.inr (hw _ (List.mem_of_getElem? (i := 109) rfl))) (ty := (.object "java/lang/Object")) (by decide)
  have Fsession_2 : Fld Z h2 b2 "com/example/fetchwright/fetchwright/service/LoadsInProgress$Load" "session" "Ljava/lang/Object;" .null := D2 (Or.inr (hw _ (List.mem_of_getElem? (i := 111) rfl))) (ty := (.object "java/lang/Object")) (by decide)
  have Fsecondary_2 : Fld Z h2 b2 "com/example/fetchwright/fetchwright/service/LoadsInProgress$Load" "secondary" "Lcom/example/fetchwright/fetchwright/service/SecondaryLoad;" .null := D2 (Or.inr (hw _ (List.mem_of_getElem? (i := 113) rfl))) (ty := (.object "com/example/fetchwright/fetchwright/service/SecondaryLoad")) (by decide)
  obtain ⟨_, _, ⟨T4, L4, k4, n4⟩, -, X4, ⟨Lc4, hQ4, l4, y4, z4⟩, st4⟩ := specialRef X2 hx (y := own_y10) rfl hown (mvRef hZ (hw _ (List.mem_of_getElem? (i := 105) rfl)) (by decide) (hw _ (List.mem_of_getElem? (i := 104) rfl))) (mvT hZ (hw _ (List.mem_of_getElem? (i := 105) rfl))) (mvT hZ (hw _ (List.mem_of_getElem? (i := 106) rfl))) (by decide) (backOf (W := 2) (rm13 l Z a0 hw [] b2 r1 r2 v3 (.null) (.null) (.null) h2 n0 (Nat.le_trans Z0 K3.1) hr_v3 A2 Ftoken_2 (Nat.le_trans Z0 sz_b2) Fsession_2 Fsecondary_2) hZ (hw _ (List.mem_of_getElem? (i := 106) rfl)) (hw _ (List.mem_of_getElem? (i := 103) rfl)) (by decide) (by decide)) (g := (mkF m 11 #[.val (.ref r0), .val (.ref r1), .val (.ref r2), .val v3] [v3, (.ref r2), (.ref r1), (.ref b2), (.ref b2), (.ref y1)])) rfl (by rw [hml]; rfl) (Steps.refl _) (a := b2) (argsL := [(.ref r1), (.ref r2), v3]) (rest := [(.ref b2), (.ref y1)]) (lenOf pd_6 rfl) rfl (by show 2 * 0 + _ ≤ _; exact Nat.le_of_eq rfl) (hb hby d12_11) (fun _ _ => ⟨rfl, e2, (by decide : 1 + 0 ≤ _), (by decide : 3 + 0 ≤ _)⟩)
  dsimp only [Pt.U, Pt.locs, Pt.cells, Pt.slots] at X4 l4 y4 z4 st4 hQ4
  subst l4 y4 z4
  obtain ⟨rfl, Nq4, Kq4, f4_0, f4_1, f4_2, f4_3⟩ := hQ4
  have K5 : Keep h0 T4.heap [y1] := K3.trans Kq4 (allS (Or.inr sz_b2) all0)
  have N4 := Fr.app N0 Nq4
  have f6 := ((y20.ext E2).keep Kq4 (ninS (Nat.ne_of_lt (Nat.lt_of_lt_of_le y20.lt (Nat.le_trans (Nat.le_refl _) (Nat.le_of_eq g2.symm)))) nin0))
  have f7 := ((y30.ext E2).keep Kq4 (ninS (Nat.ne_of_lt (Nat.lt_of_lt_of_le y20.lt (Nat.le_trans (Nat.le_refl _) (Nat.le_of_eq g2.symm)))) nin0))
  have f8 := ((y26.ext E2).keep Kq4 (ninS (Nat.ne_of_lt (Nat.lt_of_lt_of_le y20.lt (Nat.le_trans (Nat.le_refl _) (Nat.le_of_eq g2.symm)))) nin0))
  have f9 := ((y9.ext E2).keep Kq4 (ninS (Nat.ne_of_lt (Nat.lt_of_lt_of_le y9.lt (Nat.le_trans (Nat.le_refl _) (Nat.le_of_eq g2.symm)))) nin0))
  have f10 := ((y16.ext E2).keep Kq4)
  have f11 := ((O_.ext E2).keep Kq4 (allS (Nat.le_trans Z0 sz_b2) all0))
  obtain ⟨cq12, kq12, q12a, q12b, q12c⟩ := isOf hZ rfl f10
  obtain ⟨_, _, ⟨T12, L12, k12, n12⟩, -, X12, ⟨Lc12, hQ12, l12, y12, z12⟩, st12⟩ := X4.virtualBack hx (y := own_y7) (z := own_y7) hown (mvT hZ (hw _ (List.mem_of_getElem? (i := 114) rfl))) (mvT hZ (hw _ (List.mem_of_getElem? (i := 115) rfl))) (notFace_of_selects (args := #[]) (mvT hZ (hw _ (List.mem_of_getElem? (i := 117) rfl)))) (mvT hZ (hw _ (List.mem_of_getElem? (i := 117) rfl))) (mvT hZ (hw _ (List.mem_of_getElem? (i := 116) rfl))) (by decide) (backOf (W := 0) (rm14 l Z a0 hw [] y1 b2 y5 y13 T4.heap n0 (Nat.le_trans Z0 K5.1) f6 f10 y45 y33 f7 f8 f9 y89 f11 f4_0) hZ (hw _ (List.mem_of_getElem? (i := 118) rfl)) (hw _ (List.mem_of_getElem? (i := 60) rfl)) (by decide) (by decide)) q12a q12c (g := (mkF m 14 #[.val (.ref r0), .val (.ref r1), .val (.ref r2), .val v3] [(.ref b2), (.ref y1)])) rfl (by rw [hml]; rfl) (Steps.refl _) (argsL := [(.ref b2)]) (rest := []) (lenOf pd_11 rfl) rfl (by show 2 * 0 + _ ≤ _; exact Nat.le_of_eq rfl) (hb hby d12_14) (fun _ _ => ⟨rfl, rfl, (by decide : 1 + 1 ≤ _), (by decide : 3 + 10 ≤ _)⟩)
  dsimp only [Pt.U, Pt.locs, Pt.cells, Pt.slots] at X12 l12 y12 z12 st12 hQ12
  subst l12 y12 z12
  obtain ⟨b12_0, k12_1, rfl, Nq12, Kq12, sq12_0, f12_0, f12_1, f12_2, f12_3, f12_4, f12_5⟩ := hQ12
  have sz_b12_0 : h0.size ≤ b12_0 := Nat.le_trans K5.1 sq12_0
  have K13 : Keep h0 T12.heap [y1] := K5.trans Kq12 (allS (Or.inl (List.mem_of_getElem? (i := 0) rfl)) all0)
  have N12 := Fr.app N4 Nq12
  have pre14 : ∀ t, Steps p.tables e below (T12.setTop (mkF m 18 #[.val (.ref r0), .val (.ref r1), .val (.ref r2), .val v3] [])) t → Steps p.tables e below (s₁.setTop (entryFrame m #[(.ref r0), (.ref r1), (.ref r2), v3] 4)) t := by
    intro t k
    refine pre0 _ ?_
    show Steps p.tables e below (s₁.setTop (mkF m 0 #[.val (.ref r0), .val (.ref r1), .val (.ref r2), .val v3] [])) _
    refine XS.aloadN X0.here hx rfl (hb hby d12_0) rfl rfl ?_
    show Steps p.tables e below (s₁.setTop (mkF m 1 #[.val (.ref r0), .val (.ref r1), .val (.ref r2), .val v3] [(.ref r0)])) _
    refine st1 _ ?_
    show Steps p.tables e below (T1.setTop (mkF m 4 #[.val (.ref r0), .val (.ref r1), .val (.ref r2), .val v3] [(.ref y1)])) _
    refine st2 _ ?_
    show Steps p.tables e below (T2.setTop (mkF m 7 #[.val (.ref r0), .val (.ref r1), .val (.ref r2), .val v3] [(.ref b2), (.ref y1)])) _
    refine XS.dup X2.here hx rfl (hb hby d12_7) rfl rfl ?_
    refine XS.aloadN X2.here hx rfl (hb hby d12_8) rfl rfl ?_
    show Steps p.tables e below (T2.setTop (mkF m 9 #[.val (.ref r0), .val (.ref r1), .val (.ref r2), .val v3] [(.ref r1), (.ref b2), (.ref b2), (.ref y1)])) _
    refine XS.aloadN X2.here hx rfl (hb hby d12_9) rfl rfl ?_
    refine XS.aloadN X2.here hx rfl (hb hby d12_10) rfl hr_v3 ?_
    show Steps p.tables e below (T2.setTop (mkF m 11 #[.val (.ref r0), .val (.ref r1), .val (.ref r2), .val v3] [v3, (.ref r2), (.ref r1), (.ref b2), (.ref b2), (.ref y1)])) _
    refine st4.trans ?_
    show Steps p.tables e below (T4.setTop (mkF m 14 #[.val (.ref r0), .val (.ref r1), .val (.ref r2), .val v3] [(.ref b2), (.ref y1)])) _
    refine st12.trans ?_
    show Steps p.tables e below (T12.setTop (mkF m 17 #[.val (.ref r0), .val (.ref r1), .val (.ref r2), .val v3] [(.int (1 : Int32))])) _
    refine XS.pop X12.here hx rfl (hb hby d12_17) rfl rfl ?_
    exact k
  have f15 := (f4_0.keep Kq12)
  have f16 := (f4_1.keep Kq12 (ninS (Ne.symm (Nat.ne_of_lt (Nat.lt_of_lt_of_le y20.lt (Nat.le_trans (Nat.le_refl _) (Nat.le_of_eq g2.symm))))) nin0))
  have f17 := (f4_2.keep Kq12 (ninS (Ne.symm (Nat.ne_of_lt (Nat.lt_of_lt_of_le y20.lt (Nat.le_trans (Nat.le_refl _) (Nat.le_of_eq g2.symm))))) nin0))
  have f18 := (f4_3.keep Kq12 (ninS (Ne.symm (Nat.ne_of_lt (Nat.lt_of_lt_of_le y20.lt (Nat.le_trans (Nat.le_refl _) (Nat.le_of_eq g2.symm))))) nin0))
  obtain ⟨fs, hr, hrun, hended, hW, hsame⟩ := X12.leave (v := none) (fun _ => rfl)
  refine ⟨_, _, pre14 _ ?_, hrun, hended, _, _, rfl, ?_, ⟨_, rfl⟩, hW, hsame.mono (by decide) (by decide)⟩
  · show Steps p.tables e below (T12.setTop (mkF m 18 #[.val (.ref r0), .val (.ref r1), .val (.ref r2), .val v3] [])) _
    exact X12.returnOut hx Bd.returns (hb hby d12_18) hr
  · show Q12 Z r0 r1 r2 v3 y1 y5 y13 h0 n0 _ T12.heap _
    exact ⟨b2, b12_0, k12_1, rfl, N12, K13, sz_b2, sz_b12_0, f15, f16, f17, f18, f12_0, f12_1, f12_2, f12_3, f12_4, (Nat.ne_of_lt (Nat.lt_of_lt_of_le A2.lt (Nat.le_trans Kq4.1 sq12_0))), f12_5⟩
def Q11a (Z : State) (r0 : Addr) (h0 : Heap) (n0 : Nat) (v : Option Value) (h : Heap) (L : List Loc) : Prop := v = some (.int (1 : Int32)) ∧ Fr n0 L ∧ h = h0
theorem ef_11a (m : MethodId) (x0 : Addr) : entryFrame m #[(.ref x0)] 1 = mkF m 0 #[.val (.ref x0)] [] := by first | (simp [entryFrame, mkF, argsToLocals, Value.category]; done) | rfl
set_option maxRecDepth 65536 in
set_option maxHeartbeats 40000000 in
theorem rm11a (l : Launch) (Z : State) (a0 : Array Value) (hw : ∀ d ∈ tables_1, d.before a0 Z = true) (ws : List Jvm.Cond) (r0 : Addr) (h0 : Heap) (n0 : Nat) (Z0 : n0 ≤ h0.size) (y15 : Fld Z h0 r0 "java/util/ArrayList" "size" "I" (.int (1 : Int32))) :
    MetFree l own_y5 (head1 (Jvm.Cond.code own_y5 jdk_38_method_8_code 1 (some .int) :: ws) ({ frames := 0, cells := 0, slots := 0, locals := 0 } : Room)) (fun a U => a = #[(.ref r0)] ∧ Z.Warmed39 U.vm ∧ U.heap = h0) (fun _ _ _ _ _ => True) (fun _ U o U' => ∃ v L, o = .returned v ∧ Q11a Z r0 h0 n0 v U'.heap L ∧ FrameEnd U o U' L ({ frames := 0, cells := 0, slots := 0, locals := 0 } : Room).cells ({ frames := 0, cells := 0, slots := 0, locals := 0 } : Room).slots) := by
  refine MetFree.of_bodySF (plainFor_of_name pn_5) hisR ?_
  intro p e s m args below meth c s₁ Bd hml0 hP hK
  obtain ⟨rfl, hZ, hh⟩ := hP
  have hx := Bd.exec
  have hby := Bd.bytes
  have hml : c.maxLocals = 1 := hml0
  have hown : s.vm.findClass "java/util/ArrayList" = some m.cls := findClass_of_methodNamed Bd.named
  have hnm := (name_of_methodNamed Bd.named Bd.method).1
  have X0 : Stand p l e ({ frames := 0, cells := 0, slots := 0, locals := 0 } : Room) s m #[(.ref r0)] below meth c s₁ [] 0 0 := Stand.of_body Bd
  have e0 : s₁.heap = h0 := by rw [← hh, Bd.state]; rfl
  have N0 := Fr.nil n0
  have pre0 : ∀ t, Steps p.tables e below (s₁.setTop (mkF m 0 #[.val (.ref r0)] [])) t → Steps p.tables e below (s₁.setTop (entryFrame m #[(.ref r0)] 1)) t := fun t k => castTop (ef_11a m r0) k
  obtain ⟨T1, X1, e1, st1⟩ := getF X0 hx hZ hown (host := "") (Or.inl (hw _ (List.mem_of_getElem? (i := 94) rfl))) Via.refl e0 y15 (g := (mkF m 1 #[.val (.ref r0)] [(.ref r0)])) rfl rfl (hb hby d11_1)
  have pre2 : ∀ t, Steps p.tables e below (T1.setTop (mkF m 4 #[.val (.ref r0)] [(.int (1 : Int32))])) t → Steps p.tables e below (s₁.setTop (entryFrame m #[(.ref r0)] 1)) t := by
    intro t k
    refine pre0 _ ?_
    show Steps p.tables e below (s₁.setTop (mkF m 0 #[.val (.ref r0)] [])) _
    refine XS.aloadN X0.here hx rfl (hb hby d11_0) rfl rfl ?_
    show Steps p.tables e below (s₁.setTop (mkF m 1 #[.val (.ref r0)] [(.ref r0)])) _
    refine st1 _ ?_
    exact k
  obtain ⟨fs, hr, hrun, hended, hW, hsame⟩ := X1.leave (v := some (.int (1 : Int32))) (fun h => by rw [Bd.returns] at h; cases h)
  refine ⟨_, _, pre2 _ ?_, hrun, hended, _, _, rfl, ?_, ⟨_, rfl⟩, hW, hsame.mono (by decide) (by decide)⟩
  · show Steps p.tables e below (T1.setTop (mkF m 4 #[.val (.ref r0)] [(.int (1 : Int32))])) _
    exact retI X1 hx Bd.returns (hb hby d11_4) hr
  · show Q11a Z r0 h0 n0 _ T1.heap _
    rw [e1]
    exact ⟨rfl, N0, rfl⟩
def Q21 (Z : State) (i1 : Int32) (i2 : Int32) (h0 : Heap) (n0 : Nat) (v : Option Value) (h : Heap) (L : List Loc) : Prop := v = some (.int i1) ∧ Fr n0 L ∧ h = h0
theorem ef_21 (m : MethodId) (x0 : Int32) (x1 : Int32) : entryFrame m #[(.int x0), (.int x1), .null] 3 = mkF m 0 #[.val (.int x0), .val (.int x1), .val .null] [] := by first | (simp [entryFrame, mkF, argsToLocals, Value.category]; done) | rfl
set_option maxRecDepth 65536 in
set_option maxHeartbeats 40000000 in
theorem rm21 (l : Launch) (Z : State) (a0 : Array Value) (hw : ∀ d ∈ tables_1, d.before a0 Z = true) (ws : List Jvm.Cond) (i1 : Int32) (i2 : Int32) (h0 : Heap) (n0 : Nat) (Z0 : n0 ≤ h0.size) (hp1_0 : ¬ (i1 < (0 : Int32))) (hp6_1 : i1 < i2) :
    MetFree l (⟨"jdk/internal/util/Preconditions", "checkIndex", "(IILjava/util/function/BiFunction;)I"⟩ : MethodName) (head1 (Jvm.Cond.code (⟨"jdk/internal/util/Preconditions", "checkIndex", "(IILjava/util/function/BiFunction;)I"⟩ : MethodName) jdk_41_method_11_code 3 (some .int) :: ws) ({ frames := 0, cells := 0, slots := 0, locals := 0 } : Room)) (fun a U => a = #[(.int i1), (.int i2), .null] ∧ Z.Warmed39 U.vm ∧ U.heap = h0) (fun _ _ _ _ _ => True) (fun _ U o U' => ∃ v L, o = .returned v ∧ Q21 Z i1 i2 h0 n0 v U'.heap L ∧ FrameEnd U o U' L ({ frames := 0, cells := 0, slots := 0, locals := 0 } : Room).cells ({ frames := 0, cells := 0, slots := 0, locals := 0 } : Room).slots) := by
  refine MetFree.of_bodySF (plainFor_of_name pn_8) hisR ?_
  intro p e s m args below meth c s₁ Bd hml0 hP hK
  obtain ⟨rfl, hZ, hh⟩ := hP
  have hx := Bd.exec
  have hby := Bd.bytes
  have hml : c.maxLocals = 3 := hml0
  have hown : s.vm.findClass "jdk/internal/util/Preconditions" = some m.cls := findClass_of_methodNamed Bd.named
  have hnm := (name_of_methodNamed Bd.named Bd.method).1
  have X0 : Stand p l e ({ frames := 0, cells := 0, slots := 0, locals := 0 } : Room) s m #[(.int i1), (.int i2), .null] below meth c s₁ [] 0 0 := Stand.of_body Bd
  have e0 : s₁.heap = h0 := by rw [← hh, Bd.state]; rfl
  have N0 := Fr.nil n0
  have pre0 : ∀ t, Steps p.tables e below (s₁.setTop (mkF m 0 #[.val (.int i1), .val (.int i2), .val .null] [])) t → Steps p.tables e below (s₁.setTop (entryFrame m #[(.int i1), (.int i2), .null] 3)) t := fun t k => castTop (ef_21 m i1 i2) k
  have pre1 : ∀ t, Steps p.tables e below (s₁.setTop (mkF m 17 #[.val (.int i1), .val (.int i2), .val .null] [(.int i1)])) t → Steps p.tables e below (s₁.setTop (entryFrame m #[(.int i1), (.int i2), .null] 3)) t := by
    intro t k
    refine pre0 _ ?_
    show Steps p.tables e below (s₁.setTop (mkF m 0 #[.val (.int i1), .val (.int i2), .val .null] [])) _
    refine XS.iloadN X0.here hx rfl (hb hby d21_0) rfl ?_
    refine XS.ifNo X0.here hx rfl (hb hby d21_1) rfl ((if0 _ _).trans (flt hp1_0).1) ?_
    show Steps p.tables e below (s₁.setTop (mkF m 4 #[.val (.int i1), .val (.int i2), .val .null] [])) _
    refine XS.iloadN X0.here hx rfl (hb hby d21_4) rfl ?_
    refine XS.iloadN X0.here hx rfl (hb hby d21_5) rfl ?_
    show Steps p.tables e below (s₁.setTop (mkF m 6 #[.val (.int i1), .val (.int i2), .val .null] [(.int i2), (.int i1)])) _
    refine XS.icmpYes X0.here hx rfl (pc0 := 6) (pc' := 16) rfl (hb hby d21_6) rfl (tlt hp6_1).1 (by decide) (by decide) ?_
    refine XS.iloadN X0.here hx rfl (hb hby d21_16) rfl ?_
    exact k
  obtain ⟨fs, hr, hrun, hended, hW, hsame⟩ := X0.leave (v := some (.int i1)) (fun h => by rw [Bd.returns] at h; cases h)
  refine ⟨_, _, pre1 _ ?_, hrun, hended, _, _, rfl, ?_, ⟨_, rfl⟩, hW, hsame.mono (by decide) (by decide)⟩
  · show Steps p.tables e below (s₁.setTop (mkF m 17 #[.val (.int i1), .val (.int i2), .val .null] [(.int i1)])) _
    exact retI X0 hx Bd.returns (hb hby d21_17) hr
  · show Q21 Z i1 i2 h0 n0 _ s₁.heap _
    rw [e0]
    exact ⟨rfl, N0, rfl⟩
def Q20 (Z : State) (i1 : Int32) (i2 : Int32) (h0 : Heap) (n0 : Nat) (v : Option Value) (h : Heap) (L : List Loc) : Prop := v = some (.int i1) ∧ Fr n0 L ∧ h = h0
theorem ef_20 (m : MethodId) (x0 : Int32) (x1 : Int32) : entryFrame m #[(.int x0), (.int x1)] 2 = mkF m 0 #[.val (.int x0), .val (.int x1)] [] := by first | (simp [entryFrame, mkF, argsToLocals, Value.category]; done) | rfl
set_option maxRecDepth 65536 in
set_option maxHeartbeats 40000000 in
theorem rm20 (l : Launch) (Z : State) (a0 : Array Value) (hw : ∀ d ∈ tables_1, d.before a0 Z = true) (ws : List Jvm.Cond) (i1 : Int32) (i2 : Int32) (h0 : Heap) (n0 : Nat) (Z0 : n0 ≤ h0.size) (hp3_0 : ¬ (i1 < (0 : Int32))) (hp3_1 : i1 < i2) :
    MetFree l (⟨"java/util/Objects", "checkIndex", "(II)I"⟩ : MethodName) (head1 (Jvm.Cond.code (⟨"java/util/Objects", "checkIndex", "(II)I"⟩ : MethodName) jdk_31_method_17_code 2 (some .int) :: ws) ({ frames := 1, cells := 0, slots := 0, locals := 14 } : Room)) (fun a U => a = #[(.int i1), (.int i2)] ∧ Z.Warmed39 U.vm ∧ U.heap = h0) (fun _ _ _ _ _ => True) (fun _ U o U' => ∃ v L, o = .returned v ∧ Q20 Z i1 i2 h0 n0 v U'.heap L ∧ FrameEnd U o U' L ({ frames := 1, cells := 0, slots := 0, locals := 14 } : Room).cells ({ frames := 1, cells := 0, slots := 0, locals := 14 } : Room).slots) := by
  refine MetFree.of_bodySF (plainFor_of_name pn_9) hisR ?_
  intro p e s m args below meth c s₁ Bd hml0 hP hK
  obtain ⟨rfl, hZ, hh⟩ := hP
  have hx := Bd.exec
  have hby := Bd.bytes
  have hml : c.maxLocals = 2 := hml0
  have hown : s.vm.findClass "java/util/Objects" = some m.cls := findClass_of_methodNamed Bd.named
  have hnm := (name_of_methodNamed Bd.named Bd.method).1
  have X0 : Stand p l e ({ frames := 1, cells := 0, slots := 0, locals := 14 } : Room) s m #[(.int i1), (.int i2)] below meth c s₁ [] 0 0 := Stand.of_body Bd
  have e0 : s₁.heap = h0 := by rw [← hh, Bd.state]; rfl
  have N0 := Fr.nil n0
  have pre0 : ∀ t, Steps p.tables e below (s₁.setTop (mkF m 0 #[.val (.int i1), .val (.int i2)] [])) t → Steps p.tables e below (s₁.setTop (entryFrame m #[(.int i1), (.int i2)] 2)) t := fun t k => castTop (ef_20 m i1 i2) k
  obtain ⟨_, _, ⟨T1, L1, k1, n1⟩, -, X1, ⟨Lc1, hQ1, l1, y1, z1⟩, st1⟩ := Jvm.LawKit.callS X0 hx (y := (⟨"jdk/internal/util/Preconditions", "checkIndex", "(IILjava/util/function/BiFunction;)I"⟩ : MethodName)) hown (mvT hZ (hw _ (List.mem_of_getElem? (i := 151) rfl))) (mvT hZ (hw _ (List.mem_of_getElem? (i := 152) rfl))) (mvT hZ (hw _ (List.mem_of_getElem? (i := 153) rfl))) (mvT hZ (hw _ (List.mem_of_getElem? (i := 154) rfl))) (by decide) (backOf (W := 0) (rm21 l Z a0 hw [] i1 i2 h0 n0 (Nat.le_trans Z0 (Keep.refl h0 []).1) hp3_0 hp3_1) hZ (hw _ (List.mem_of_getElem? (i := 154) rfl)) (hw _ (List.mem_of_getElem? (i := 153) rfl)) (by decide) (by decide)) (g := (mkF m 3 #[.val (.int i1), .val (.int i2)] [.null, (.int i2), (.int i1)])) rfl (by rw [hml]; rfl) (argsL := [(.int i1), (.int i2), .null]) (rest := []) (lenOf pd_12 rfl) rfl (by show 2 * 0 + _ ≤ _; exact Nat.le_of_eq rfl) (hb hby d20_3) (fun _ _ => ⟨rfl, e0, (by decide : 0 + 0 ≤ _), (by decide : 0 + 0 ≤ _)⟩)
  dsimp only [Pt.U, Pt.locs, Pt.cells, Pt.slots] at X1 l1 y1 z1 st1 hQ1
  subst l1 y1 z1
  obtain ⟨rfl, Nq1, e1⟩ := hQ1
  have N1 := Fr.app N0 Nq1
  have pre2 : ∀ t, Steps p.tables e below (T1.setTop (mkF m 6 #[.val (.int i1), .val (.int i2)] [(.int i1)])) t → Steps p.tables e below (s₁.setTop (entryFrame m #[(.int i1), (.int i2)] 2)) t := by
    intro t k
    refine pre0 _ ?_
    show Steps p.tables e below (s₁.setTop (mkF m 0 #[.val (.int i1), .val (.int i2)] [])) _
    refine XS.iloadN X0.here hx rfl (hb hby d20_0) rfl ?_
    refine XS.iloadN X0.here hx rfl (hb hby d20_1) rfl ?_
    show Steps p.tables e below (s₁.setTop (mkF m 2 #[.val (.int i1), .val (.int i2)] [(.int i2), (.int i1)])) _
    refine XS.aconstNull X0.here hx rfl (hb hby d20_2) ?_
    show Steps p.tables e below (s₁.setTop (mkF m 3 #[.val (.int i1), .val (.int i2)] [.null, (.int i2), (.int i1)])) _
    refine st1 _ ?_
    exact k
  obtain ⟨fs, hr, hrun, hended, hW, hsame⟩ := X1.leave (v := some (.int i1)) (fun h => by rw [Bd.returns] at h; cases h)
  refine ⟨_, _, pre2 _ ?_, hrun, hended, _, _, rfl, ?_, ⟨_, rfl⟩, hW, hsame.mono (by decide) (by decide)⟩
  · show Steps p.tables e below (T1.setTop (mkF m 6 #[.val (.int i1), .val (.int i2)] [(.int i1)])) _
    exact retI X1 hx Bd.returns (hb hby d20_6) hr
  · show Q20 Z i1 i2 h0 n0 _ T1.heap _
    rw [e1]
    exact ⟨rfl, N1, rfl⟩
def Q22 (Z : State) (r0 : Addr) (i1 : Int32) (y7 : Addr) (y36 : Cell) (el_w_elementData_r0_0 : Addr) (h0 : Heap) (n0 : Nat) (v : Option Value) (h : Heap) (L : List Loc) : Prop := v = some (.ref el_w_elementData_r0_0) ∧ Fr n0 L ∧ h = h0
theorem ef_22 (m : MethodId) (x0 : Addr) (x1 : Int32) : entryFrame m #[(.ref x0), (.int x1)] 2 = mkF m 0 #[.val (.ref x0), .val (.int x1)] [] := by first | (simp [entryFrame, mkF, argsToLocals, Value.category]; done) | rfl
set_option maxRecDepth 65536 in
set_option maxHeartbeats 40000000 in
theorem rm22 (l : Launch) (Z : State) (a0 : Array Value) (hw : ∀ d ∈ tables_1, d.before a0 Z = true) (ws : List Jvm.Cond) (r0 : Addr) (i1 : Int32) (y7 : Addr) (y36 : Cell) (el_w_elementData_r0_0 : Addr) (h0 : Heap) (n0 : Nat) (Z0 : n0 ≤ h0.size) (y23 : Fld Z h0 r0 "java/util/ArrayList" "elementData" "[Ljava/lang/Object;" (.ref y7)) (Aa_w_elementData_r0_0 : Arr Z h0 y7 y36 (.object "java/lang/Object") ∧ ¬ (i1 < 0 ∨ y36.slots.size ≤ (i1).toNatClampNeg) ∧ y36.slots[(i1).toNatClampNeg]? = some (.ref el_w_elementData_r0_0)) :
    MetFree l (⟨"java/util/ArrayList", "elementData", "(I)Ljava/lang/Object;"⟩ : MethodName) (head1 (Jvm.Cond.code (⟨"java/util/ArrayList", "elementData", "(I)Ljava/lang/Object;"⟩ : MethodName) jdk_38_method_18_code 2 (some (.object "java/lang/Object")) :: ws) ({ frames := 0, cells := 0, slots := 0, locals := 0 } : Room)) (fun a U => a = #[(.ref r0), (.int i1)] ∧ Z.Warmed39 U.vm ∧ U.heap = h0) (fun _ _ _ _ _ => True) (fun _ U o U' => ∃ v L, o = .returned v ∧ Q22 Z r0 i1 y7 y36 el_w_elementData_r0_0 h0 n0 v U'.heap L ∧ FrameEnd U o U' L ({ frames := 0, cells := 0, slots := 0, locals := 0 } : Room).cells ({ frames := 0, cells := 0, slots := 0, locals := 0 } : Room).slots) := by
  refine MetFree.of_bodySF (plainFor_of_name pn_5) hisR ?_
  intro p e s m args below meth c s₁ Bd hml0 hP hK
  obtain ⟨rfl, hZ, hh⟩ := hP
  have hx := Bd.exec
  have hby := Bd.bytes
  have hml : c.maxLocals = 2 := hml0
  have hown : s.vm.findClass "java/util/ArrayList" = some m.cls := findClass_of_methodNamed Bd.named
  have hnm := (name_of_methodNamed Bd.named Bd.method).1
  have X0 : Stand p l e ({ frames := 0, cells := 0, slots := 0, locals := 0 } : Room) s m #[(.ref r0), (.int i1)] below meth c s₁ [] 0 0 := Stand.of_body Bd
  have e0 : s₁.heap = h0 := by rw [← hh, Bd.state]; rfl
  have N0 := Fr.nil n0
  have pre0 : ∀ t, Steps p.tables e below (s₁.setTop (mkF m 0 #[.val (.ref r0), .val (.int i1)] [])) t → Steps p.tables e below (s₁.setTop (entryFrame m #[(.ref r0), (.int i1)] 2)) t := fun t k => castTop (ef_22 m r0 i1) k
  obtain ⟨T1, X1, e1, st1⟩ := getF X0 hx hZ hown (host := "") (Or.inl (hw _ (List.mem_of_getElem? (i := 80) rfl))) Via.refl e0 y23 (g := (mkF m 1 #[.val (.ref r0), .val (.int i1)] [(.ref r0)])) rfl rfl (hb hby d22_1)
  have pre2 : ∀ t, Steps p.tables e below (T1.setTop (mkF m 6 #[.val (.ref r0), .val (.int i1)] [(.ref el_w_elementData_r0_0)])) t → Steps p.tables e below (s₁.setTop (entryFrame m #[(.ref r0), (.int i1)] 2)) t := by
    intro t k
    refine pre0 _ ?_
    show Steps p.tables e below (s₁.setTop (mkF m 0 #[.val (.ref r0), .val (.int i1)] [])) _
    refine XS.aloadN X0.here hx rfl (hb hby d22_0) rfl rfl ?_
    show Steps p.tables e below (s₁.setTop (mkF m 1 #[.val (.ref r0), .val (.int i1)] [(.ref r0)])) _
    refine st1 _ ?_
    show Steps p.tables e below (T1.setTop (mkF m 4 #[.val (.ref r0), .val (.int i1)] [(.ref y7)])) _
    refine XS.iloadN X1.here hx rfl (hb hby d22_4) rfl ?_
    show Steps p.tables e below (T1.setTop (mkF m 5 #[.val (.ref r0), .val (.int i1)] [(.int i1), (.ref y7)])) _
    refine X1.aaload hx (j := i1) (v := (.ref el_w_elementData_r0_0)) (by rw [e1]; exact Aa_w_elementData_r0_0.1.1) (State.isArrayOf_alike hZ.alike Aa_w_elementData_r0_0.1.2.1) rfl Aa_w_elementData_r0_0.1.2.2 Aa_w_elementData_r0_0.2.1 Aa_w_elementData_r0_0.2.2 (g := (mkF m 5 #[.val (.ref r0), .val (.int i1)] [(.int i1), (.ref y7)])) rfl rfl (hb hby d22_5) _ ?_
    exact k
  obtain ⟨fs, hr, hrun, hended, hW, hsame⟩ := X1.leave (v := some (.ref el_w_elementData_r0_0)) (fun h => by rw [Bd.returns] at h; cases h)
  refine ⟨_, _, pre2 _ ?_, hrun, hended, _, _, rfl, ?_, ⟨_, rfl⟩, hW, hsame.mono (by decide) (by decide)⟩
  · show Steps p.tables e below (T1.setTop (mkF m 6 #[.val (.ref r0), .val (.int i1)] [(.ref el_w_elementData_r0_0)])) _
    exact areturnOut X1 hx rfl Bd.returns rfl (hb hby d22_6) hr
  · show Q22 Z r0 i1 y7 y36 el_w_elementData_r0_0 h0 n0 _ T1.heap _
    rw [e1]
    exact ⟨rfl, N0, rfl⟩
def Q19 (Z : State) (r0 : Addr) (i1 : Int32) (y42 : Int32) (y7 : Addr) (y36 : Cell) (el_w_elementData_r0_0 : Addr) (h0 : Heap) (n0 : Nat) (v : Option Value) (h : Heap) (L : List Loc) : Prop := v = some (.ref el_w_elementData_r0_0) ∧ Fr n0 L ∧ h = h0
theorem ef_19 (m : MethodId) (x0 : Addr) (x1 : Int32) : entryFrame m #[(.ref x0), (.int x1)] 2 = mkF m 0 #[.val (.ref x0), .val (.int x1)] [] := by first | (simp [entryFrame, mkF, argsToLocals, Value.category]; done) | rfl
set_option maxRecDepth 65536 in
set_option maxHeartbeats 40000000 in
theorem rm19 (l : Launch) (Z : State) (a0 : Array Value) (hw : ∀ d ∈ tables_1, d.before a0 Z = true) (ws : List Jvm.Cond) (r0 : Addr) (i1 : Int32) (y42 : Int32) (y7 : Addr) (y36 : Cell) (el_w_elementData_r0_0 : Addr) (h0 : Heap) (n0 : Nat) (Z0 : n0 ≤ h0.size) (y15 : Fld Z h0 r0 "java/util/ArrayList" "size" "I" (.int y42)) (hp5_0 : ¬ (i1 < (0 : Int32))) (hp5_1 : i1 < y42) (y23 : Fld Z h0 r0 "java/util/ArrayList" "elementData" "[Ljava/lang/Object;" (.ref y7)) (Aa_w_elementData_r0_0 : Arr Z h0 y7 y36 (.object "java/lang/Object") ∧ ¬ (i1 < 0 ∨ y36.slots.size ≤ (i1).toNatClampNeg) ∧ y36.slots[(i1).toNatClampNeg]? = some (.ref el_w_elementData_r0_0)) (E_r0 : Exa Z h0 r0 "java/util/ArrayList") :
    MetFree l own_y2 (head1 (Jvm.Cond.code own_y2 jdk_38_method_20_code 2 (some (.object "java/lang/Object")) :: ws) ({ frames := 2, cells := 0, slots := 0, locals := 27 } : Room)) (fun a U => a = #[(.ref r0), (.int i1)] ∧ Z.Warmed39 U.vm ∧ U.heap = h0) (fun _ _ _ _ _ => True) (fun _ U o U' => ∃ v L, o = .returned v ∧ Q19 Z r0 i1 y42 y7 y36 el_w_elementData_r0_0 h0 n0 v U'.heap L ∧ FrameEnd U o U' L ({ frames := 2, cells := 0, slots := 0, locals := 27 } : Room).cells ({ frames := 2, cells := 0, slots := 0, locals := 27 } : Room).slots) := by
  refine MetFree.of_bodySF (plainFor_of_name pn_5) hisR ?_
  intro p e s m args below meth c s₁ Bd hml0 hP hK
  obtain ⟨rfl, hZ, hh⟩ := hP
  have hx := Bd.exec
  have hby := Bd.bytes
  have hml : c.maxLocals = 2 := hml0
  have hown : s.vm.findClass "java/util/ArrayList" = some m.cls := findClass_of_methodNamed Bd.named
  have hnm := (name_of_methodNamed Bd.named Bd.method).1
  have X0 : Stand p l e ({ frames := 2, cells := 0, slots := 0, locals := 27 } : Room) s m #[(.ref r0), (.int i1)] below meth c s₁ [] 0 0 := Stand.of_body Bd
  have e0 : s₁.heap = h0 := by rw [← hh, Bd.state]; rfl
  have N0 := Fr.nil n0
  have pre0 : ∀ t, Steps p.tables e below (s₁.setTop (mkF m 0 #[.val (.ref r0), .val (.int i1)] [])) t → Steps p.tables e below (s₁.setTop (entryFrame m #[(.ref r0), (.int i1)] 2)) t := fun t k => castTop (ef_19 m r0 i1) k
  obtain ⟨T1, X1, e1, st1⟩ := getF X0 hx hZ hown (host := "") (Or.inl (hw _ (List.mem_of_getElem? (i := 94) rfl))) Via.refl e0 y15 (g := (mkF m 2 #[.val (.ref r0), .val (.int i1)] [(.ref r0), (.int i1)])) rfl rfl (hb hby d19_2)
  obtain ⟨_, _, ⟨T2, L2, k2, n2⟩, -, X2, ⟨Lc2, hQ2, l2, y2, z2⟩, st2⟩ := Jvm.LawKit.callS X1 hx (y := (⟨"java/util/Objects", "checkIndex", "(II)I"⟩ : MethodName)) hown (mvT hZ (hw _ (List.mem_of_getElem? (i := 147) rfl))) (mvT hZ (hw _ (List.mem_of_getElem? (i := 148) rfl))) (mvT hZ (hw _ (List.mem_of_getElem? (i := 149) rfl))) (mvT hZ (hw _ (List.mem_of_getElem? (i := 150) rfl))) (by decide) (backOf (W := 0) (rm20 l Z a0 hw [] i1 y42 h0 n0 (Nat.le_trans Z0 (Keep.refl h0 []).1) hp5_0 hp5_1) hZ (hw _ (List.mem_of_getElem? (i := 150) rfl)) (hw _ (List.mem_of_getElem? (i := 149) rfl)) (by decide) (by decide)) (g := (mkF m 5 #[.val (.ref r0), .val (.int i1)] [(.int y42), (.int i1)])) rfl (by rw [hml]; rfl) (argsL := [(.int i1), (.int y42)]) (rest := []) (lenOf pd_7 rfl) rfl (by show 2 * 0 + _ ≤ _; exact Nat.le_of_eq rfl) (hb hby d19_5) (fun _ _ => ⟨rfl, e1, (by decide : 0 + 0 ≤ _), (by decide : 0 + 0 ≤ _)⟩)
  dsimp only [Pt.U, Pt.locs, Pt.cells, Pt.slots] at X2 l2 y2 z2 st2 hQ2
  subst l2 y2 z2
  obtain ⟨rfl, Nq2, e2⟩ := hQ2
  have N2 := Fr.app N0 Nq2
  obtain ⟨cq3, kq3, q3a, q3b, q3c⟩ := isOf hZ e2 E_r0
  obtain ⟨_, _, ⟨T3, L3, k3, n3⟩, -, X3, ⟨Lc3, hQ3, l3, y3, z3⟩, st3⟩ := X2.virtualBack hx (y := (⟨"java/util/ArrayList", "elementData", "(I)Ljava/lang/Object;"⟩ : MethodName)) (z := (⟨"java/util/ArrayList", "elementData", "(I)Ljava/lang/Object;"⟩ : MethodName)) hown (mvT hZ (hw _ (List.mem_of_getElem? (i := 155) rfl))) (mvT hZ (hw _ (List.mem_of_getElem? (i := 156) rfl))) (notFace_of_selects (args := #[]) (mvT hZ (hw _ (List.mem_of_getElem? (i := 158) rfl)))) (mvT hZ (hw _ (List.mem_of_getElem? (i := 158) rfl))) (mvT hZ (hw _ (List.mem_of_getElem? (i := 157) rfl))) (by decide) (backOf (W := 0) (rm22 l Z a0 hw [] r0 i1 y7 y36 el_w_elementData_r0_0 h0 n0 (Nat.le_trans Z0 (Keep.refl h0 []).1) y23 ⟨Aa_w_elementData_r0_0.1, Aa_w_elementData_r0_0.2.1, Aa_w_elementData_r0_0.2.2⟩) hZ (hw _ (List.mem_of_getElem? (i := 159) rfl)) (hw _ (List.mem_of_getElem? (i := 60) rfl)) (by decide) (by decide)) q3a q3c (g := (mkF m 11 #[.val (.ref r0), .val (.int i1)] [(.int i1), (.ref r0)])) rfl (by rw [hml]; rfl) (Steps.refl _) (argsL := [(.int i1)]) (rest := []) (lenOf pd_13 rfl) rfl (by show 2 * 0 + _ ≤ _; exact Nat.le_of_eq rfl) (hb hby d19_11) (fun _ _ => ⟨rfl, e2, (by decide : 0 + 0 ≤ _), (by decide : 0 + 0 ≤ _)⟩)
  dsimp only [Pt.U, Pt.locs, Pt.cells, Pt.slots] at X3 l3 y3 z3 st3 hQ3
  subst l3 y3 z3
  obtain ⟨rfl, Nq3, e3⟩ := hQ3
  have N3 := Fr.app N2 Nq3
  have pre4 : ∀ t, Steps p.tables e below (T3.setTop (mkF m 14 #[.val (.ref r0), .val (.int i1)] [(.ref el_w_elementData_r0_0)])) t → Steps p.tables e below (s₁.setTop (entryFrame m #[(.ref r0), (.int i1)] 2)) t := by
    intro t k
    refine pre0 _ ?_
    show Steps p.tables e below (s₁.setTop (mkF m 0 #[.val (.ref r0), .val (.int i1)] [])) _
    refine XS.iloadN X0.here hx rfl (hb hby d19_0) rfl ?_
    refine XS.aloadN X0.here hx rfl (hb hby d19_1) rfl rfl ?_
    show Steps p.tables e below (s₁.setTop (mkF m 2 #[.val (.ref r0), .val (.int i1)] [(.ref r0), (.int i1)])) _
    refine st1 _ ?_
    show Steps p.tables e below (T1.setTop (mkF m 5 #[.val (.ref r0), .val (.int i1)] [(.int y42), (.int i1)])) _
    refine st2 _ ?_
    show Steps p.tables e below (T2.setTop (mkF m 8 #[.val (.ref r0), .val (.int i1)] [(.int i1)])) _
    refine XS.pop X2.here hx rfl (hb hby d19_8) rfl rfl ?_
    refine XS.aloadN X2.here hx rfl (hb hby d19_9) rfl rfl ?_
    show Steps p.tables e below (T2.setTop (mkF m 10 #[.val (.ref r0), .val (.int i1)] [(.ref r0)])) _
    refine XS.iloadN X2.here hx rfl (hb hby d19_10) rfl ?_
    show Steps p.tables e below (T2.setTop (mkF m 11 #[.val (.ref r0), .val (.int i1)] [(.int i1), (.ref r0)])) _
    refine st3.trans ?_
    exact k
  obtain ⟨fs, hr, hrun, hended, hW, hsame⟩ := X3.leave (v := some (.ref el_w_elementData_r0_0)) (fun h => by rw [Bd.returns] at h; cases h)
  refine ⟨_, _, pre4 _ ?_, hrun, hended, _, _, rfl, ?_, ⟨_, rfl⟩, hW, hsame.mono (by decide) (by decide)⟩
  · show Steps p.tables e below (T3.setTop (mkF m 14 #[.val (.ref r0), .val (.int i1)] [(.ref el_w_elementData_r0_0)])) _
    exact areturnOut X3 hx rfl Bd.returns rfl (hb hby d19_14) hr
  · show Q19 Z r0 i1 y42 y7 y36 el_w_elementData_r0_0 h0 n0 _ T3.heap _
    rw [e3]
    exact ⟨rfl, N3, rfl⟩
def Q23 (Z : State) (r0 : Addr) (y43 : Addr) (h0 : Heap) (n0 : Nat) (v : Option Value) (h : Heap) (L : List Loc) : Prop := v = some (.ref y43) ∧ Fr n0 L ∧ h = h0
theorem ef_23 (m : MethodId) (x0 : Addr) : entryFrame m #[(.ref x0)] 1 = mkF m 0 #[.val (.ref x0)] [] := by first | (simp [entryFrame, mkF, argsToLocals, Value.category]; done) | rfl
set_option maxRecDepth 65536 in
set_option maxHeartbeats 40000000 in
theorem rm23 (l : Launch) (Z : State) (a0 : Array Value) (hw : ∀ d ∈ tables_1, d.before a0 Z = true) (ws : List Jvm.Cond) (r0 : Addr) (y43 : Addr) (h0 : Heap) (n0 : Nat) (Z0 : n0 ≤ h0.size) (y71 : Fld Z h0 r0 "com/example/fetchwright/fetchwright/service/LoadsInProgress$Load" "session" "Ljava/lang/Object;" (.ref y43)) :
    MetFree l own_y3 (head1 (Jvm.Cond.code own_y3 prog_10_method_6_code 1 (some (.object "java/lang/Object")) :: ws) ({ frames := 0, cells := 0, slots := 0, locals := 0 } : Room)) (fun a U => a = #[(.ref r0)] ∧ Z.Warmed39 U.vm ∧ U.heap = h0) (fun _ _ _ _ _ => True) (fun _ U o U' => ∃ v L, o = .returned v ∧ Q23 Z r0 y43 h0 n0 v U'.heap L ∧ FrameEnd U o U' L ({ frames := 0, cells := 0, slots := 0, locals := 0 } : Room).cells ({ frames := 0, cells := 0, slots := 0, locals := 0 } : Room).slots) := by
  refine MetFree.of_bodySF (plainFor_of_name pn_7) hisR ?_
  intro p e s m args below meth c s₁ Bd hml0 hP hK
  obtain ⟨rfl, hZ, hh⟩ := hP
  have hx := Bd.exec
  have hby := Bd.bytes
  have hml : c.maxLocals = 1 := hml0
  have hown : s.vm.findClass "com/example/fetchwright/fetchwright/service/LoadsInProgress$Load" = some m.cls := findClass_of_methodNamed Bd.named
  have hnm := (name_of_methodNamed Bd.named Bd.method).1
  have X0 : Stand p l e ({ frames := 0, cells := 0, slots := 0, locals := 0 } : Room) s m #[(.ref r0)] below meth c s₁ [] 0 0 := Stand.of_body Bd
  have e0 : s₁.heap = h0 := by rw [← hh, Bd.state]; rfl
  have N0 := Fr.nil n0
  have pre0 : ∀ t, Steps p.tables e below (s₁.setTop (mkF m 0 #[.val (.ref r0)] [])) t → Steps p.tables e below (s₁.setTop (entryFrame m #[(.ref r0)] 1)) t := fun t k => castTop (ef_23 m r0) k
  obtain ⟨T1, X1, e1, st1⟩ := getF X0 hx hZ hown (host := "") (Or.inl (hw _ (List.mem_of_getElem? (i := 110) rfl))) Via.refl e0 y71 (g := (mkF m 1 #[.val (.ref r0)] [(.ref r0)])) rfl rfl (hb hby d23_1)
  have pre2 : ∀ t, Steps p.tables e below (T1.setTop (mkF m 4 #[.val (.ref r0)] [(.ref y43)])) t → Steps p.tables e below (s₁.setTop (entryFrame m #[(.ref r0)] 1)) t := by
    intro t k
    refine pre0 _ ?_
    show Steps p.tables e below (s₁.setTop (mkF m 0 #[.val (.ref r0)] [])) _
    refine XS.aloadN X0.here hx rfl (hb hby d23_0) rfl rfl ?_
    show Steps p.tables e below (s₁.setTop (mkF m 1 #[.val (.ref r0)] [(.ref r0)])) _
    refine st1 _ ?_
    exact k
  obtain ⟨fs, hr, hrun, hended, hW, hsame⟩ := X1.leave (v := some (.ref y43)) (fun h => by rw [Bd.returns] at h; cases h)
  refine ⟨_, _, pre2 _ ?_, hrun, hended, _, _, rfl, ?_, ⟨_, rfl⟩, hW, hsame.mono (by decide) (by decide)⟩
  · show Steps p.tables e below (T1.setTop (mkF m 4 #[.val (.ref r0)] [(.ref y43)])) _
    exact areturnOut X1 hx rfl Bd.returns rfl (hb hby d23_4) hr
  · show Q23 Z r0 y43 h0 n0 _ T1.heap _
    rw [e1]
    exact ⟨rfl, N0, rfl⟩
def Q24 (Z : State) (r0 : Addr) (y41 : Value) (h0 : Heap) (n0 : Nat) (v : Option Value) (h : Heap) (L : List Loc) : Prop := v = some y41 ∧ Fr n0 L ∧ h = h0 ∧ y41.isRef = true
theorem ef_24 (m : MethodId) (x0 : Addr) : entryFrame m #[(.ref x0)] 1 = mkF m 0 #[.val (.ref x0)] [] := by first | (simp [entryFrame, mkF, argsToLocals, Value.category]; done) | rfl
set_option maxRecDepth 65536 in
set_option maxHeartbeats 40000000 in
theorem rm24 (l : Launch) (Z : State) (a0 : Array Value) (hw : ∀ d ∈ tables_1, d.before a0 Z = true) (ws : List Jvm.Cond) (r0 : Addr) (y41 : Value) (h0 : Heap) (n0 : Nat) (Z0 : n0 ≤ h0.size) (y79 : y41.isRef = true) (y72 : Fld Z h0 r0 "com/example/fetchwright/fetchwright/service/LoadsInProgress$Load" "secondary" "Lcom/example/fetchwright/fetchwright/service/SecondaryLoad;" y41) :
    MetFree l own_y4 (head1 (Jvm.Cond.code own_y4 prog_10_method_7_code 1 (some (.object "com/example/fetchwright/fetchwright/service/SecondaryLoad")) :: ws) ({ frames := 0, cells := 0, slots := 0, locals := 0 } : Room)) (fun a U => a = #[(.ref r0)] ∧ Z.Warmed39 U.vm ∧ U.heap = h0) (fun _ _ _ _ _ => True) (fun _ U o U' => ∃ v L, o = .returned v ∧ Q24 Z r0 y41 h0 n0 v U'.heap L ∧ FrameEnd U o U' L ({ frames := 0, cells := 0, slots := 0, locals := 0 } : Room).cells ({ frames := 0, cells := 0, slots := 0, locals := 0 } : Room).slots) := by
  refine MetFree.of_bodySF (plainFor_of_name pn_7) hisR ?_
  intro p e s m args below meth c s₁ Bd hml0 hP hK
  obtain ⟨rfl, hZ, hh⟩ := hP
  have hx := Bd.exec
  have hby := Bd.bytes
  have hml : c.maxLocals = 1 := hml0
  have hown : s.vm.findClass "com/example/fetchwright/fetchwright/service/LoadsInProgress$Load" = some m.cls := findClass_of_methodNamed Bd.named
  have hnm := (name_of_methodNamed Bd.named Bd.method).1
  have X0 : Stand p l e ({ frames := 0, cells := 0, slots := 0, locals := 0 } : Room) s m #[(.ref r0)] below meth c s₁ [] 0 0 := Stand.of_body Bd
  have e0 : s₁.heap = h0 := by rw [← hh, Bd.state]; rfl
  have N0 := Fr.nil n0
  have pre0 : ∀ t, Steps p.tables e below (s₁.setTop (mkF m 0 #[.val (.ref r0)] [])) t → Steps p.tables e below (s₁.setTop (entryFrame m #[(.ref r0)] 1)) t := fun t k => castTop (ef_24 m r0) k
  obtain ⟨T1, X1, e1, st1⟩ := getF X0 hx hZ hown (host := "") (Or.inl (hw _ (List.mem_of_getElem? (i := 112) rfl))) Via.refl e0 y72 (g := (mkF m 1 #[.val (.ref r0)] [(.ref r0)])) rfl rfl (hb hby d24_1)
  have pre2 : ∀ t, Steps p.tables e below (T1.setTop (mkF m 4 #[.val (.ref r0)] [y41])) t → Steps p.tables e below (s₁.setTop (entryFrame m #[(.ref r0)] 1)) t := by
    intro t k
    refine pre0 _ ?_
    show Steps p.tables e below (s₁.setTop (mkF m 0 #[.val (.ref r0)] [])) _
    refine XS.aloadN X0.here hx rfl (hb hby d24_0) rfl rfl ?_
    show Steps p.tables e below (s₁.setTop (mkF m 1 #[.val (.ref r0)] [(.ref r0)])) _
    refine st1 _ ?_
    exact k
  obtain ⟨fs, hr, hrun, hended, hW, hsame⟩ := X1.leave (v := some y41) (fun h => by rw [Bd.returns] at h; cases h)
  refine ⟨_, _, pre2 _ ?_, hrun, hended, _, _, rfl, ?_, ⟨_, rfl⟩, hW, hsame.mono (by decide) (by decide)⟩
  · show Steps p.tables e below (T1.setTop (mkF m 4 #[.val (.ref r0)] [y41])) _
    exact areturnOut X1 hx y79 Bd.returns rfl (hb hby d24_4) hr
  · show Q24 Z r0 y41 h0 n0 _ T1.heap _
    rw [e1]
    exact ⟨rfl, N0, rfl, y79⟩
def own_r10a (r1 : Addr) (y2 : Addr) (y3 : Value) : Value := (if y2 = r1 then y3 else Value.null)
def Q10a (Z : State) (r0 : Addr) (r1 : Addr) (y1 : Addr) (y4 : Addr) (y14 : Cell) (el_w_elementData_w_loads_r0_0 : Addr) (y2 : Addr) (y3 : Value) (h0 : Heap) (n0 : Nat) (v : Option Value) (h : Heap) (L : List Loc) : Prop := v = some (own_r10a r1 y2 y3) ∧ Fr n0 L ∧ h = h0 ∧ (own_r10a r1 y2 y3).isRef = true
theorem ef_10a (m : MethodId) (x0 : Addr) (x1 : Addr) : entryFrame m #[(.ref x0), (.ref x1)] 4 = mkF m 0 #[.val (.ref x0), .val (.ref x1), .unset, .unset] [] := by first | (simp [entryFrame, mkF, argsToLocals, Value.category]; done) | rfl
set_option maxRecDepth 65536 in
set_option maxHeartbeats 40000000 in
theorem rm10a (l : Launch) (Z : State) (a0 : Array Value) (hw : ∀ d ∈ tables_1, d.before a0 Z = true) (ws : List Jvm.Cond) (r0 : Addr) (r1 : Addr) (y1 : Addr) (y4 : Addr) (y14 : Cell) (el_w_elementData_w_loads_r0_0 : Addr) (y2 : Addr) (y3 : Value) (h0 : Heap) (n0 : Nat) (Z0 : n0 ≤ h0.size) (y24 : Fld Z h0 r0 "com/example/fetchwright/fetchwright/service/LoadsInProgress" "loads" "Ljava/util/ArrayList;" (.ref y1)) (y26 : Fld Z h0 y1 "java/util/ArrayList" "size" "I" (.int (1 : Int32))) (y16 : Exa Z h0 y1 "java/util/ArrayList") (y30 : Fld Z h0 y1 "java/util/ArrayList" "elementData" "[Ljava/lang/Object;" (.ref y4)) (Aa_w_elementData_w_loads_r0_0 : Arr Z h0 y4 y14 (.object "java/lang/Object") ∧ ¬ ((0 : Int32) < 0 ∨ y14.slots.size ≤ ((0 : Int32)).toNatClampNeg) ∧ y14.slots[((0 : Int32)).toNatClampNeg]? = some (.ref el_w_elementData_w_loads_r0_0)) (y35 : Exa Z h0 el_w_elementData_w_loads_r0_0 "com/example/fetchwright/fetchwright/service/LoadsInProgress$Load") (y46 : Fld Z h0 el_w_elementData_w_loads_r0_0 "com/example/fetchwright/fetchwright/service/LoadsInProgress$Load" "session" "Ljava/lang/Object;" (.ref y2)) (y47 : y3.isRef = true) (y48 : Fld Z h0 el_w_elementData_w_loads_r0_0 "com/example/fetchwright/fetchwright/service/LoadsInProgress$Load" "secondary" "Lcom/example/fetchwright/fetchwright/service/SecondaryLoad;" y3) :
    MetFree l own_y6 (head1 (Jvm.Cond.code own_y6 prog_9_method_4_code 4 (some (.object "com/example/fetchwright/fetchwright/service/SecondaryLoad")) :: ws) ({ frames := 3, cells := 0, slots := 0, locals := 40 } : Room)) (fun a U => a = #[(.ref r0), (.ref r1)] ∧ Z.Warmed39 U.vm ∧ U.heap = h0) (fun _ _ _ _ _ => True) (fun _ U o U' => ∃ v L, o = .returned v ∧ Q10a Z r0 r1 y1 y4 y14 el_w_elementData_w_loads_r0_0 y2 y3 h0 n0 v U'.heap L ∧ FrameEnd U o U' L ({ frames := 3, cells := 0, slots := 0, locals := 40 } : Room).cells ({ frames := 3, cells := 0, slots := 0, locals := 40 } : Room).slots) := by
  refine MetFree.of_bodySF (plainFor_of_name pn_6) hisR ?_
  intro p e s m args below meth c s₁ Bd hml0 hP hK
  obtain ⟨rfl, hZ, hh⟩ := hP
  have hx := Bd.exec
  have hby := Bd.bytes
  have hml : c.maxLocals = 4 := hml0
  have hown : s.vm.findClass "com/example/fetchwright/fetchwright/service/LoadsInProgress" = some m.cls := findClass_of_methodNamed Bd.named
  have hnm := (name_of_methodNamed Bd.named Bd.method).1
  have X0 : Stand p l e ({ frames := 3, cells := 0, slots := 0, locals := 40 } : Room) s m #[(.ref r0), (.ref r1)] below meth c s₁ [] 0 0 := Stand.of_body Bd
  have e0 : s₁.heap = h0 := by rw [← hh, Bd.state]; rfl
  have N0 := Fr.nil n0
  have pre0 : ∀ t, Steps p.tables e below (s₁.setTop (mkF m 0 #[.val (.ref r0), .val (.ref r1), .unset, .unset] [])) t → Steps p.tables e below (s₁.setTop (entryFrame m #[(.ref r0), (.ref r1)] 4)) t := fun t k => castTop (ef_10a m r0 r1) k
  obtain ⟨T1, X1, e1, st1⟩ := getF X0 hx hZ hown (host := "") (Or.inl (hw _ (List.mem_of_getElem? (i := 82) rfl))) Via.refl e0 y24 (g := (mkF m 1 #[.val (.ref r0), .val (.ref r1), .unset, .unset] [(.ref r0)])) rfl rfl (hb hby d10_1)
  obtain ⟨cq2, kq2, q2a, q2b, q2c⟩ := isOf hZ e1 y16
  obtain ⟨_, _, ⟨T2, L2, k2, n2⟩, -, X2, ⟨Lc2, hQ2, l2, y2, z2⟩, st2⟩ := X1.virtualBack hx (y := own_y5) (z := own_y5) hown (mvT hZ (hw _ (List.mem_of_getElem? (i := 89) rfl))) (mvT hZ (hw _ (List.mem_of_getElem? (i := 90) rfl))) (notFace_of_selects (args := #[]) (mvT hZ (hw _ (List.mem_of_getElem? (i := 92) rfl)))) (mvT hZ (hw _ (List.mem_of_getElem? (i := 92) rfl))) (mvT hZ (hw _ (List.mem_of_getElem? (i := 91) rfl))) (by decide) (backOf (W := 0) (rm11a l Z a0 hw [] y1 h0 n0 (Nat.le_trans Z0 (Keep.refl h0 []).1) y26) hZ (hw _ (List.mem_of_getElem? (i := 93) rfl)) (hw _ (List.mem_of_getElem? (i := 60) rfl)) (by decide) (by decide)) q2a q2c (g := (mkF m 4 #[.val (.ref r0), .val (.ref r1), .unset, .unset] [(.ref y1)])) rfl (by rw [hml]; rfl) (Steps.refl _) (argsL := []) (rest := []) (lenOf pd_4 rfl) rfl (by show 2 * 0 + _ ≤ _; exact Nat.le_of_eq rfl) (hb hby d10_4) (fun _ _ => ⟨rfl, e1, (by decide : 0 + 0 ≤ _), (by decide : 0 + 0 ≤ _)⟩)
  dsimp only [Pt.U, Pt.locs, Pt.cells, Pt.slots] at X2 l2 y2 z2 st2 hQ2
  subst l2 y2 z2
  obtain ⟨rfl, Nq2, e2⟩ := hQ2
  have N2 := Fr.app N0 Nq2
  obtain ⟨T3, X3, e3, st3⟩ := getF X2 hx hZ hown (host := "") (Or.inl (hw _ (List.mem_of_getElem? (i := 82) rfl))) Via.refl e2 y24 (g := (mkF m 15 #[.val (.ref r0), .val (.ref r1), .val (.int (0 : Int32)), .unset] [(.ref r0)])) rfl rfl (hb hby d10_15)
  obtain ⟨cq4, kq4, q4a, q4b, q4c⟩ := isOf hZ e3 y16
  obtain ⟨_, _, ⟨T4, L4, k4, n4⟩, -, X4, ⟨Lc4, hQ4, l4, y4, z4⟩, st4⟩ := X3.virtualBack hx (y := own_y2) (z := own_y2) hown (mvT hZ (hw _ (List.mem_of_getElem? (i := 142) rfl))) (mvT hZ (hw _ (List.mem_of_getElem? (i := 143) rfl))) (notFace_of_selects (args := #[]) (mvT hZ (hw _ (List.mem_of_getElem? (i := 145) rfl)))) (mvT hZ (hw _ (List.mem_of_getElem? (i := 145) rfl))) (mvT hZ (hw _ (List.mem_of_getElem? (i := 144) rfl))) (by decide) (backOf (W := 0) (rm19 l Z a0 hw [] y1 (0 : Int32) (1 : Int32) y4 y14 el_w_elementData_w_loads_r0_0 h0 n0 (Nat.le_trans Z0 (Keep.refl h0 []).1) y26 (by decide) (by decide) y30 ⟨Aa_w_elementData_w_loads_r0_0.1, Aa_w_elementData_w_loads_r0_0.2.1, Aa_w_elementData_w_loads_r0_0.2.2⟩ y16) hZ (hw _ (List.mem_of_getElem? (i := 146) rfl)) (hw _ (List.mem_of_getElem? (i := 60) rfl)) (by decide) (by decide)) q4a q4c (g := (mkF m 19 #[.val (.ref r0), .val (.ref r1), .val (.int (0 : Int32)), .unset] [(.int (0 : Int32)), (.ref y1)])) rfl (by rw [hml]; rfl) (Steps.refl _) (argsL := [(.int (0 : Int32))]) (rest := []) (lenOf pd_13 rfl) rfl (by show 2 * 0 + _ ≤ _; exact Nat.le_of_eq rfl) (hb hby d10_19) (fun _ _ => ⟨rfl, e3, (by decide : 0 + 0 ≤ _), (by decide : 0 + 0 ≤ _)⟩)
  dsimp only [Pt.U, Pt.locs, Pt.cells, Pt.slots] at X4 l4 y4 z4 st4 hQ4
  subst l4 y4 z4
  obtain ⟨rfl, Nq4, e4⟩ := hQ4
  have N4 := Fr.app N2 Nq4
  obtain ⟨T5, X5, e5, st5⟩ := castY X4 hx hZ hown (hw _ (List.mem_of_getElem? (i := 101) rfl)) e4 (Ins.self y35) (g := (mkF m 22 #[.val (.ref r0), .val (.ref r1), .val (.int (0 : Int32)), .unset] [(.ref el_w_elementData_w_loads_r0_0)])) rfl rfl (hb hby d10_22)
  obtain ⟨cq6, kq6, q6a, q6b, q6c⟩ := isOf hZ e5 y35
  obtain ⟨_, _, ⟨T6, L6, k6, n6⟩, -, X6, ⟨Lc6, hQ6, l6, y6, z6⟩, st6⟩ := X5.virtualBack hx (y := own_y3) (z := own_y3) hown (mvT hZ (hw _ (List.mem_of_getElem? (i := 161) rfl))) (mvT hZ (hw _ (List.mem_of_getElem? (i := 162) rfl))) (notFace_of_selects (args := #[]) (mvT hZ (hw _ (List.mem_of_getElem? (i := 164) rfl)))) (mvT hZ (hw _ (List.mem_of_getElem? (i := 164) rfl))) (mvT hZ (hw _ (List.mem_of_getElem? (i := 163) rfl))) (by decide) (backOf (W := 0) (rm23 l Z a0 hw [] el_w_elementData_w_loads_r0_0 y2 h0 n0 (Nat.le_trans Z0 (Keep.refl h0 []).1) y46) hZ (hw _ (List.mem_of_getElem? (i := 165) rfl)) (hw _ (List.mem_of_getElem? (i := 103) rfl)) (by decide) (by decide)) q6a q6c (g := (mkF m 27 #[.val (.ref r0), .val (.ref r1), .val (.int (0 : Int32)), .val (.ref el_w_elementData_w_loads_r0_0)] [(.ref el_w_elementData_w_loads_r0_0)])) rfl (by rw [hml]; rfl) (Steps.refl _) (argsL := []) (rest := []) (lenOf pd_14 rfl) rfl (by show 2 * 0 + _ ≤ _; exact Nat.le_of_eq rfl) (hb hby d10_27) (fun _ _ => ⟨rfl, e5, (by decide : 0 + 0 ≤ _), (by decide : 0 + 0 ≤ _)⟩)
  dsimp only [Pt.U, Pt.locs, Pt.cells, Pt.slots] at X6 l6 y6 z6 st6 hQ6
  subst l6 y6 z6
  obtain ⟨rfl, Nq6, e6⟩ := hQ6
  have N6 := Fr.app N4 Nq6
  have pre7 : ∀ t, Steps p.tables e below (T6.setTop (mkF m 31 #[.val (.ref r0), .val (.ref r1), .val (.int (0 : Int32)), .val (.ref el_w_elementData_w_loads_r0_0)] [(.ref r1), (.ref y2)])) t → Steps p.tables e below (s₁.setTop (entryFrame m #[(.ref r0), (.ref r1)] 4)) t := by
    intro t k
    refine pre0 _ ?_
    show Steps p.tables e below (s₁.setTop (mkF m 0 #[.val (.ref r0), .val (.ref r1), .unset, .unset] [])) _
    refine XS.aloadN X0.here hx rfl (hb hby d10_0) rfl rfl ?_
    show Steps p.tables e below (s₁.setTop (mkF m 1 #[.val (.ref r0), .val (.ref r1), .unset, .unset] [(.ref r0)])) _
    refine st1 _ ?_
    show Steps p.tables e below (T1.setTop (mkF m 4 #[.val (.ref r0), .val (.ref r1), .unset, .unset] [(.ref y1)])) _
    refine st2.trans ?_
    show Steps p.tables e below (T2.setTop (mkF m 7 #[.val (.ref r0), .val (.ref r1), .unset, .unset] [(.int (1 : Int32))])) _
    refine XS.iconst X2.here hx rfl (hb hby d10_7) ?_
    refine XS.isub X2.here hx rfl (hb hby d10_8) rfl ?_
    show Steps p.tables e below (T2.setTop (mkF m 9 #[.val (.ref r0), .val (.ref r1), .unset, .unset] [(.int (0 : Int32))])) _
    refine XS.istoreN X2.here hx rfl (hb hby d10_9) rfl (l' := #[.val (.ref r0), .val (.ref r1), .val (.int (0 : Int32)), .unset]) rfl ?_
    refine XS.iloadN X2.here hx rfl (hb hby d10_10) rfl ?_
    show Steps p.tables e below (T2.setTop (mkF m 11 #[.val (.ref r0), .val (.ref r1), .val (.int (0 : Int32)), .unset] [(.int (0 : Int32))])) _
    refine XS.ifNo X2.here hx rfl (hb hby d10_11) rfl ((if0 _ _).trans (flt (by decide : ¬ ((0 : Int32) < (0 : Int32)))).1) ?_
    refine XS.aloadN X2.here hx rfl (hb hby d10_14) rfl rfl ?_
    show Steps p.tables e below (T2.setTop (mkF m 15 #[.val (.ref r0), .val (.ref r1), .val (.int (0 : Int32)), .unset] [(.ref r0)])) _
    refine st3 _ ?_
    show Steps p.tables e below (T3.setTop (mkF m 18 #[.val (.ref r0), .val (.ref r1), .val (.int (0 : Int32)), .unset] [(.ref y1)])) _
    refine XS.iloadN X3.here hx rfl (hb hby d10_18) rfl ?_
    show Steps p.tables e below (T3.setTop (mkF m 19 #[.val (.ref r0), .val (.ref r1), .val (.int (0 : Int32)), .unset] [(.int (0 : Int32)), (.ref y1)])) _
    refine st4.trans ?_
    show Steps p.tables e below (T4.setTop (mkF m 22 #[.val (.ref r0), .val (.ref r1), .val (.int (0 : Int32)), .unset] [(.ref el_w_elementData_w_loads_r0_0)])) _
    refine st5 _ ?_
    show Steps p.tables e below (T5.setTop (mkF m 25 #[.val (.ref r0), .val (.ref r1), .val (.int (0 : Int32)), .unset] [(.ref el_w_elementData_w_loads_r0_0)])) _
    refine XS.astoreN X5.here hx rfl (hb hby d10_25) rfl rfl (l' := #[.val (.ref r0), .val (.ref r1), .val (.int (0 : Int32)), .val (.ref el_w_elementData_w_loads_r0_0)]) rfl ?_
    refine XS.aloadN X5.here hx rfl (hb hby d10_26) rfl rfl ?_
    show Steps p.tables e below (T5.setTop (mkF m 27 #[.val (.ref r0), .val (.ref r1), .val (.int (0 : Int32)), .val (.ref el_w_elementData_w_loads_r0_0)] [(.ref el_w_elementData_w_loads_r0_0)])) _
    refine st6.trans ?_
    show Steps p.tables e below (T6.setTop (mkF m 30 #[.val (.ref r0), .val (.ref r1), .val (.int (0 : Int32)), .val (.ref el_w_elementData_w_loads_r0_0)] [(.ref y2)])) _
    refine XS.aloadN X6.here hx rfl (hb hby d10_30) rfl rfl ?_
    exact k
  by_cases hc31_8 : y2 = r1
  · obtain ⟨cq9, kq9, q9a, q9b, q9c⟩ := isOf hZ e6 y35
    obtain ⟨_, _, ⟨T9, L9, k9, n9⟩, -, X9, ⟨Lc9, hQ9, l9, y9, z9⟩, st9⟩ := X6.virtualBack hx (y := own_y4) (z := own_y4) hown (mvT hZ (hw _ (List.mem_of_getElem? (i := 166) rfl))) (mvT hZ (hw _ (List.mem_of_getElem? (i := 167) rfl))) (notFace_of_selects (args := #[]) (mvT hZ (hw _ (List.mem_of_getElem? (i := 169) rfl)))) (mvT hZ (hw _ (List.mem_of_getElem? (i := 169) rfl))) (mvT hZ (hw _ (List.mem_of_getElem? (i := 168) rfl))) (by decide) (backOf (W := 0) (rm24 l Z a0 hw [] el_w_elementData_w_loads_r0_0 y3 h0 n0 (Nat.le_trans Z0 (Keep.refl h0 []).1) y47 y48) hZ (hw _ (List.mem_of_getElem? (i := 170) rfl)) (hw _ (List.mem_of_getElem? (i := 103) rfl)) (by decide) (by decide)) q9a q9c (g := (mkF m 35 #[.val (.ref r0), .val (.ref r1), .val (.int (0 : Int32)), .val (.ref el_w_elementData_w_loads_r0_0)] [(.ref el_w_elementData_w_loads_r0_0)])) rfl (by rw [hml]; rfl) (Steps.refl _) (argsL := []) (rest := []) (lenOf pd_3 rfl) rfl (by show 2 * 0 + _ ≤ _; exact Nat.le_of_eq rfl) (hb hby d10_35) (fun _ _ => ⟨rfl, e6, (by decide : 0 + 0 ≤ _), (by decide : 0 + 0 ≤ _)⟩)
    dsimp only [Pt.U, Pt.locs, Pt.cells, Pt.slots] at X9 l9 y9 z9 st9 hQ9
    subst l9 y9 z9
    obtain ⟨rfl, Nq9, e9, f9_0⟩ := hQ9
    have N9 := Fr.app N6 Nq9
    have pre10 : ∀ t, Steps p.tables e below (T9.setTop (mkF m 38 #[.val (.ref r0), .val (.ref r1), .val (.int (0 : Int32)), .val (.ref el_w_elementData_w_loads_r0_0)] [y3])) t → Steps p.tables e below (s₁.setTop (entryFrame m #[(.ref r0), (.ref r1)] 4)) t := by
      intro t k
      refine pre7 _ ?_
      show Steps p.tables e below (T6.setTop (mkF m 31 #[.val (.ref r0), .val (.ref r1), .val (.int (0 : Int32)), .val (.ref el_w_elementData_w_loads_r0_0)] [(.ref r1), (.ref y2)])) _
      refine Jvm.RoadKit.acmp (g := (mkF m 31 #[.val (.ref r0), .val (.ref r1), .val (.int (0 : Int32)), .val (.ref el_w_elementData_w_loads_r0_0)] [(.ref r1), (.ref y2)])) X6 hx rfl rfl rfl (pc0 := 31) (pc' := 34) (same := true) rfl (hb hby d10_31) rfl (decide_eq_true (congrArg Value.ref hc31_8)) (by decide) (by decide) ?_
      show Steps p.tables e below (T6.setTop (mkF m 34 #[.val (.ref r0), .val (.ref r1), .val (.int (0 : Int32)), .val (.ref el_w_elementData_w_loads_r0_0)] [])) _
      refine XS.aloadN X6.here hx rfl (hb hby d10_34) rfl rfl ?_
      show Steps p.tables e below (T6.setTop (mkF m 35 #[.val (.ref r0), .val (.ref r1), .val (.int (0 : Int32)), .val (.ref el_w_elementData_w_loads_r0_0)] [(.ref el_w_elementData_w_loads_r0_0)])) _
      refine st9.trans ?_
      exact k
    obtain ⟨fs, hr, hrun, hended, hW, hsame⟩ := X9.leave (v := some y3) (fun h => by rw [Bd.returns] at h; cases h)
    refine ⟨_, _, pre10 _ ?_, hrun, hended, _, _, rfl, ?_, ⟨_, rfl⟩, hW, hsame.mono (by decide) (by decide)⟩
    · show Steps p.tables e below (T9.setTop (mkF m 38 #[.val (.ref r0), .val (.ref r1), .val (.int (0 : Int32)), .val (.ref el_w_elementData_w_loads_r0_0)] [y3])) _
      exact areturnOut X9 hx f9_0 Bd.returns rfl (hb hby d10_38) hr
    · show Q10a Z r0 r1 y1 y4 y14 el_w_elementData_w_loads_r0_0 y2 y3 h0 n0 _ T9.heap _
      rw [e9]
      exact ⟨congrArg some (show (own_r10a r1 y2 y3) = y3 from (if_pos hc31_8)).symm, N9, rfl, (by rw [show (own_r10a r1 y2 y3) = y3 from (if_pos hc31_8)]; exact f9_0)⟩
  · have pre11 : ∀ t, Steps p.tables e below (T6.setTop (mkF m 46 #[.val (.ref r0), .val (.ref r1), .val (.int (-1 : Int32)), .val (.ref el_w_elementData_w_loads_r0_0)] [.null])) t → Steps p.tables e below (s₁.setTop (entryFrame m #[(.ref r0), (.ref r1)] 4)) t := by
      intro t k
      refine pre7 _ ?_
      show Steps p.tables e below (T6.setTop (mkF m 31 #[.val (.ref r0), .val (.ref r1), .val (.int (0 : Int32)), .val (.ref el_w_elementData_w_loads_r0_0)] [(.ref r1), (.ref y2)])) _
      refine Jvm.RoadKit.acmp (g := (mkF m 31 #[.val (.ref r0), .val (.ref r1), .val (.int (0 : Int32)), .val (.ref el_w_elementData_w_loads_r0_0)] [(.ref r1), (.ref y2)])) X6 hx rfl rfl rfl (pc0 := 31) (pc' := 39) (same := false) rfl (hb hby d10_31) rfl (decide_eq_false fun q => hc31_8 (Value.ref.inj q)) (by decide) (by decide) ?_
      show Steps p.tables e below (T6.setTop (mkF m 39 #[.val (.ref r0), .val (.ref r1), .val (.int (0 : Int32)), .val (.ref el_w_elementData_w_loads_r0_0)] [])) _
      refine XS.iinc X6.here hx rfl (hb hby d10_39) rfl (l' := #[.val (.ref r0), .val (.ref r1), .val (.int (-1 : Int32)), .val (.ref el_w_elementData_w_loads_r0_0)]) rfl ?_
      refine XS.goto X6.here hx rfl (pc0 := 42) (pc' := 10) rfl (hb hby d10_42) (by decide) (by decide) ?_
      show Steps p.tables e below (T6.setTop (mkF m 10 #[.val (.ref r0), .val (.ref r1), .val (.int (-1 : Int32)), .val (.ref el_w_elementData_w_loads_r0_0)] [])) _
      refine XS.iloadN X6.here hx rfl (hb hby d10_10) rfl ?_
      refine XS.ifYes X6.here hx rfl (pc0 := 11) (pc' := 45) rfl (hb hby d10_11) rfl ((if0 _ _).trans (tlt (by decide : (-1 : Int32) < (0 : Int32))).1) (by decide) (by decide) ?_
      show Steps p.tables e below (T6.setTop (mkF m 45 #[.val (.ref r0), .val (.ref r1), .val (.int (-1 : Int32)), .val (.ref el_w_elementData_w_loads_r0_0)] [])) _
      refine XS.aconstNull X6.here hx rfl (hb hby d10_45) ?_
      exact k
    obtain ⟨fs, hr, hrun, hended, hW, hsame⟩ := X6.leave (v := some .null) (fun h => by rw [Bd.returns] at h; cases h)
    refine ⟨_, _, pre11 _ ?_, hrun, hended, _, _, rfl, ?_, ⟨_, rfl⟩, hW, hsame.mono (by decide) (by decide)⟩
    · show Steps p.tables e below (T6.setTop (mkF m 46 #[.val (.ref r0), .val (.ref r1), .val (.int (-1 : Int32)), .val (.ref el_w_elementData_w_loads_r0_0)] [.null])) _
      exact areturnOut X6 hx rfl Bd.returns rfl (hb hby d10_46) hr
    · show Q10a Z r0 r1 y1 y4 y14 el_w_elementData_w_loads_r0_0 y2 y3 h0 n0 _ T6.heap _
      rw [e6]
      exact ⟨congrArg some (show (own_r10a r1 y2 y3) = Value.null from (if_neg hc31_8)).symm, N6, rfl, (by rw [show (own_r10a r1 y2 y3) = Value.null from (if_neg hc31_8)]; exact rfl)⟩
def Q15a (Z : State) (r0 : Addr) (r1 : Addr) (r2 : Addr) (y12 : Value) (y22 : Value) (e0_r2 : Addr) (k_r2 : ClassId) (y17 : Value) (h0 : Heap) (n0 : Nat) (v : Option Value) (h : Heap) (L : List Loc) : Prop := v = none ∧ Fr n0 L ∧ Keep h0 h [r2, r0] ∧ Arv Z h r2 k_r2 (.object "java/lang/Object") (10 : Int32) [(.ref e0_r2), (.ref r1), .null, .null, .null, .null, .null, .null, .null, .null] .null ∧ Exa Z h r0 "java/util/ArrayList" ∧ Fld Z h r0 "java/util/ArrayList" "size" "I" (.int (2 : Int32)) ∧ Fld Z h r0 "java/util/AbstractList" "modCount" "I" y12 ∧ Fld Z h r0 "java/util/ArrayList" "elementData" "[Ljava/lang/Object;" y22 ∧ Ovr Z k_r2 "java/lang/Object"
theorem ef_15a (m : MethodId) (x0 : Addr) (x1 : Addr) (x2 : Addr) : entryFrame m #[(.ref x0), (.ref x1), (.ref x2), (.int (1 : Int32))] 4 = mkF m 0 #[.val (.ref x0), .val (.ref x1), .val (.ref x2), .val (.int (1 : Int32))] [] := by first | (simp [entryFrame, mkF, argsToLocals, Value.category]; done) | rfl
set_option maxRecDepth 65536 in
set_option maxHeartbeats 40000000 in
theorem rm15a (l : Launch) (Z : State) (a0 : Array Value) (hw : ∀ d ∈ tables_1, d.before a0 Z = true) (ws : List Jvm.Cond) (r0 : Addr) (r1 : Addr) (r2 : Addr) (y12 : Value) (y22 : Value) (e0_r2 : Addr) (k_r2 : ClassId) (y17 : Value) (h0 : Heap) (n0 : Nat) (Z0 : n0 ≤ h0.size) (y18 : Fld Z h0 r0 "java/util/AbstractList" "modCount" "I" y12) (y23 : Fld Z h0 r0 "java/util/ArrayList" "elementData" "[Ljava/lang/Object;" y22) (O_r2 : Ovr Z k_r2 "java/lang/Object") (V_r2 : Arv Z h0 r2 k_r2 (.object "java/lang/Object") (10 : Int32) [(.ref e0_r2), .null, .null, .null, .null, .null, .null, .null, .null, .null] .null) (E_r1 : Exa Z h0 r1 "com/example/fetchwright/fetchwright/service/LoadsInProgress$Load") (g_r2 : n0 ≤ r2) (E_r0 : Exa Z h0 r0 "java/util/ArrayList") (y15 : Fld Z h0 r0 "java/util/ArrayList" "size" "I" y17) (ne_r0_r2 : r0 ≠ r2) (g_r0 : n0 ≤ r0) :
    MetFree l own_y8 (head1 (Jvm.Cond.code own_y8 jdk_38_method_24_code 4 none :: ws) ({ frames := 0, cells := 0, slots := 0, locals := 0 } : Room)) (fun a U => a = #[(.ref r0), (.ref r1), (.ref r2), (.int (1 : Int32))] ∧ Z.Warmed39 U.vm ∧ U.heap = h0) (fun _ _ _ _ _ => True) (fun _ U o U' => ∃ v L, o = .returned v ∧ Q15a Z r0 r1 r2 y12 y22 e0_r2 k_r2 y17 h0 n0 v U'.heap L ∧ FrameEnd U o U' L ({ frames := 0, cells := 0, slots := 0, locals := 0 } : Room).cells ({ frames := 0, cells := 0, slots := 0, locals := 0 } : Room).slots) := by
  refine MetFree.of_bodySF (plainFor_of_name pn_5) hisR ?_
  intro p e s m args below meth c s₁ Bd hml0 hP hK
  obtain ⟨rfl, hZ, hh⟩ := hP
  have hx := Bd.exec
  have hby := Bd.bytes
  have hml : c.maxLocals = 4 := hml0
  have hown : s.vm.findClass "java/util/ArrayList" = some m.cls := findClass_of_methodNamed Bd.named
  have hnm := (name_of_methodNamed Bd.named Bd.method).1
  have X0 : Stand p l e ({ frames := 0, cells := 0, slots := 0, locals := 0 } : Room) s m #[(.ref r0), (.ref r1), (.ref r2), (.int (1 : Int32))] below meth c s₁ [] 0 0 := Stand.of_body Bd
  have e0 : s₁.heap = h0 := by rw [← hh, Bd.state]; rfl
  have N0 := Fr.nil n0
  have pre0 : ∀ t, Steps p.tables e below (s₁.setTop (mkF m 0 #[.val (.ref r0), .val (.ref r1), .val (.ref r2), .val (.int (1 : Int32))] [])) t → Steps p.tables e below (s₁.setTop (entryFrame m #[(.ref r0), (.ref r1), (.ref r2), (.int (1 : Int32))] 4)) t := fun t k => castTop (ef_15a m r0 r1 r2) k
  obtain ⟨cl1, Ar1, -, Sz1, Nn1, -, -⟩ := id V_r2
  obtain ⟨cl2, Ar2, Cq2, Sz2, Nn2, Hh2, Gg2⟩ := id V_r2
  have hin2 : ¬ ((1 : Int32) < 0 ∨ cl2.slots.size ≤ ((1 : Int32)).toNatClampNeg) := inb_of Sz2 ⟨by decide, by decide⟩
  obtain ⟨T2, h2, X2, e2, W2, st2⟩ := stR X0 hx hZ e0 Ar2 (j := (1 : Int32)) hin2 rfl (Sto.ofV Ar2 Cq2 O_r2 (Ins.of_exa E_r1 (hw _ (List.mem_of_getElem? (i := 141) rfl)))) (g := (mkF m 14 #[.val (.ref r0), .val (.ref r1), .val (.ref r2), .val (.int (1 : Int32))] [(.ref r1), (.int (1 : Int32)), (.ref r2)])) rfl rfl (hb hby d15_14)
  have V2 : Arv Z h2 r2 k_r2 (.object "java/lang/Object") (10 : Int32) [(.ref e0_r2), (.ref r1), .null, .null, .null, .null, .null, .null, .null, .null] .null := Arv.set Ar2 Cq2 Sz2 Nn2 Hh2 Gg2 rfl W2 1 rfl (Nat.le_of_ble_eq_true rfl)
  have N2 := Fr.snoc X2 N0 g_r2
  have K3 : Keep h0 h2 [r2, r0] := (Keep.refl h0 [r2, r0]).wr W2 (Or.inl (List.mem_of_getElem? (i := 0) rfl))
  have f4 := (E_r0.wr W2)
  have f5 := (y15.other W2 (Or.inl ne_r0_r2))
  obtain ⟨T6, h6, X6, e6, W6, st6⟩ := putF X2 hx hZ hown (host := "") (Or.inl (hw _ (List.mem_of_getElem? (i := 94) rfl))) Via.refl e2 f5 f4 (Or.inl (hw _ (List.mem_of_getElem? (i := 95) rfl))) (hw _ (List.mem_of_getElem? (i := 59) rfl)) (ty := .int) (by decide) rfl rfl (g := (mkF m 19 #[.val (.ref r0), .val (.ref r1), .val (.ref r2), .val (.int (1 : Int32))] [(.int (2 : Int32)), (.ref r0)])) rfl rfl (hb hby d15_19)
  have N6 := Fr.snoc X6 N2 g_r0
  have K7 : Keep h0 h6 [r2, r0] := K3.wr W6 (Or.inl (List.mem_of_getElem? (i := 1) rfl))
  have F6 := f5.same W6
  have pre8 : ∀ t, Steps p.tables e below (T6.setTop (mkF m 22 #[.val (.ref r0), .val (.ref r1), .val (.ref r2), .val (.int (1 : Int32))] [])) t → Steps p.tables e below (s₁.setTop (entryFrame m #[(.ref r0), (.ref r1), (.ref r2), (.int (1 : Int32))] 4)) t := by
    intro t k
    refine pre0 _ ?_
    show Steps p.tables e below (s₁.setTop (mkF m 0 #[.val (.ref r0), .val (.ref r1), .val (.ref r2), .val (.int (1 : Int32))] [])) _
    refine XS.iloadN X0.here hx rfl (hb hby d15_0) rfl ?_
    refine XS.aloadN X0.here hx rfl (hb hby d15_1) rfl rfl ?_
    show Steps p.tables e below (s₁.setTop (mkF m 2 #[.val (.ref r0), .val (.ref r1), .val (.ref r2), .val (.int (1 : Int32))] [(.ref r2), (.int (1 : Int32))])) _
    refine X0.arraylength hx (by rw [e0]; exact Ar1.1) (State.isArrayOf_alike hZ.alike Ar1.2.1) (g := (mkF m 2 #[.val (.ref r0), .val (.ref r1), .val (.ref r2), .val (.int (1 : Int32))] [(.ref r2), (.int (1 : Int32))])) rfl rfl (hb hby d15_2) _ ?_
    rw [len_of Sz1 Nn1]
    show Steps p.tables e below (s₁.setTop (mkF m 3 #[.val (.ref r0), .val (.ref r1), .val (.ref r2), .val (.int (1 : Int32))] [(.int (10 : Int32)), (.int (1 : Int32))])) _
    refine XS.icmpYes X0.here hx rfl (pc0 := 3) (pc' := 11) rfl (hb hby d15_3) rfl (feq (by decide : ¬ ((1 : Int32) = (10 : Int32)))).2 (by decide) (by decide) ?_
    refine XS.aloadN X0.here hx rfl (hb hby d15_11) rfl rfl ?_
    show Steps p.tables e below (s₁.setTop (mkF m 12 #[.val (.ref r0), .val (.ref r1), .val (.ref r2), .val (.int (1 : Int32))] [(.ref r2)])) _
    refine XS.iloadN X0.here hx rfl (hb hby d15_12) rfl ?_
    refine XS.aloadN X0.here hx rfl (hb hby d15_13) rfl rfl ?_
    show Steps p.tables e below (s₁.setTop (mkF m 14 #[.val (.ref r0), .val (.ref r1), .val (.ref r2), .val (.int (1 : Int32))] [(.ref r1), (.int (1 : Int32)), (.ref r2)])) _
    refine st2 _ ?_
    show Steps p.tables e below (T2.setTop (mkF m 15 #[.val (.ref r0), .val (.ref r1), .val (.ref r2), .val (.int (1 : Int32))] [])) _
    refine XS.aloadN X2.here hx rfl (hb hby d15_15) rfl rfl ?_
    refine XS.iloadN X2.here hx rfl (hb hby d15_16) rfl ?_
    show Steps p.tables e below (T2.setTop (mkF m 17 #[.val (.ref r0), .val (.ref r1), .val (.ref r2), .val (.int (1 : Int32))] [(.int (1 : Int32)), (.ref r0)])) _
    refine XS.iconst X2.here hx rfl (hb hby d15_17) ?_
    refine XS.iadd X2.here hx rfl (hb hby d15_18) rfl ?_
    show Steps p.tables e below (T2.setTop (mkF m 19 #[.val (.ref r0), .val (.ref r1), .val (.ref r2), .val (.int (1 : Int32))] [(.int (2 : Int32)), (.ref r0)])) _
    refine st6 _ ?_
    exact k
  have f9 := (V2.other W6 (Ne.symm ne_r0_r2))
  have f10 := (f4.wr W6)
  have f11 := ((y18.other W2 (Or.inl ne_r0_r2)).other W6 (Or.inr (slot_ne (Or.inl (hw _ (List.mem_of_getElem? (i := 78) rfl))) (Or.inl (hw _ (List.mem_of_getElem? (i := 95) rfl))) (by decide) (t := .int) (t' := .int) (by decide) (by decide))))
  have f12 := ((y23.other W2 (Or.inl ne_r0_r2)).other W6 (Or.inr (slot_ne (Or.inl (hw _ (List.mem_of_getElem? (i := 81) rfl))) (Or.inl (hw _ (List.mem_of_getElem? (i := 95) rfl))) (by decide) (t := (.array (.object "java/lang/Object"))) (t' := .int) (by decide) (by decide))))
  obtain ⟨fs, hr, hrun, hended, hW, hsame⟩ := X6.leave (v := none) (fun _ => rfl)
  refine ⟨_, _, pre8 _ ?_, hrun, hended, _, _, rfl, ?_, ⟨_, rfl⟩, hW, hsame.mono (by decide) (by decide)⟩
  · show Steps p.tables e below (T6.setTop (mkF m 22 #[.val (.ref r0), .val (.ref r1), .val (.ref r2), .val (.int (1 : Int32))] [])) _
    exact X6.returnOut hx Bd.returns (hb hby d15_22) hr
  · show Q15a Z r0 r1 r2 y12 y22 e0_r2 k_r2 y17 h0 n0 _ T6.heap _
    rw [e6]
    exact ⟨rfl, N6, K7, f9, f10, F6, f11, f12, O_r2⟩
def Q14a (Z : State) (r0 : Addr) (r1 : Addr) (y7 : Addr) (y31 : Addr) (y27 : ClassId) (h0 : Heap) (n0 : Nat) (v : Option Value) (h : Heap) (L : List Loc) : Prop := v = some (.int (1 : Int32)) ∧ Fr n0 L ∧ Keep h0 h [r0, y7] ∧ Exa Z h r0 "java/util/ArrayList" ∧ Arv Z h y7 y27 (.object "java/lang/Object") (10 : Int32) [(.ref y31), (.ref r1), .null, .null, .null, .null, .null, .null, .null, .null] .null ∧ Fld Z h r0 "java/util/ArrayList" "size" "I" (.int (2 : Int32)) ∧ Fld Z h r0 "java/util/AbstractList" "modCount" "I" (.int (2 : Int32)) ∧ Fld Z h r0 "java/util/ArrayList" "elementData" "[Ljava/lang/Object;" (.ref y7) ∧ Ovr Z y27 "java/lang/Object"
theorem ef_14a (m : MethodId) (x0 : Addr) (x1 : Addr) : entryFrame m #[(.ref x0), (.ref x1)] 2 = mkF m 0 #[.val (.ref x0), .val (.ref x1)] [] := by first | (simp [entryFrame, mkF, argsToLocals, Value.category]; done) | rfl
set_option maxRecDepth 65536 in
set_option maxHeartbeats 40000000 in
theorem rm14a (l : Launch) (Z : State) (a0 : Array Value) (hw : ∀ d ∈ tables_1, d.before a0 Z = true) (ws : List Jvm.Cond) (r0 : Addr) (r1 : Addr) (y7 : Addr) (y31 : Addr) (y27 : ClassId) (h0 : Heap) (n0 : Nat) (Z0 : n0 ≤ h0.size) (y18 : Fld Z h0 r0 "java/util/AbstractList" "modCount" "I" (.int (1 : Int32))) (E_r0 : Exa Z h0 r0 "java/util/ArrayList") (g_r0 : n0 ≤ r0) (y23 : Fld Z h0 r0 "java/util/ArrayList" "elementData" "[Ljava/lang/Object;" (.ref y7)) (y15 : Fld Z h0 r0 "java/util/ArrayList" "size" "I" (.int (1 : Int32))) (y52 : Ovr Z y27 "java/lang/Object") (y53 : Arv Z h0 y7 y27 (.object "java/lang/Object") (10 : Int32) [(.ref y31), .null, .null, .null, .null, .null, .null, .null, .null, .null] .null) (y44 : y7 ≠ r0) (E_r1 : Exa Z h0 r1 "com/example/fetchwright/fetchwright/service/LoadsInProgress$Load") (y54 : n0 ≤ y7) :
    MetFree l own_y7 (head1 (Jvm.Cond.code own_y7 jdk_38_method_25_code 2 (some .boolean) :: ws) ({ frames := 1, cells := 0, slots := 0, locals := 15 } : Room)) (fun a U => a = #[(.ref r0), (.ref r1)] ∧ Z.Warmed39 U.vm ∧ U.heap = h0) (fun _ _ _ _ _ => True) (fun _ U o U' => ∃ v L, o = .returned v ∧ Q14a Z r0 r1 y7 y31 y27 h0 n0 v U'.heap L ∧ FrameEnd U o U' L ({ frames := 1, cells := 0, slots := 0, locals := 15 } : Room).cells ({ frames := 1, cells := 0, slots := 0, locals := 15 } : Room).slots) := by
  refine MetFree.of_bodySF (plainFor_of_name pn_5) hisR ?_
  intro p e s m args below meth c s₁ Bd hml0 hP hK
  obtain ⟨rfl, hZ, hh⟩ := hP
  have hx := Bd.exec
  have hby := Bd.bytes
  have hml : c.maxLocals = 2 := hml0
  have hown : s.vm.findClass "java/util/ArrayList" = some m.cls := findClass_of_methodNamed Bd.named
  have hnm := (name_of_methodNamed Bd.named Bd.method).1
  have X0 : Stand p l e ({ frames := 1, cells := 0, slots := 0, locals := 15 } : Room) s m #[(.ref r0), (.ref r1)] below meth c s₁ [] 0 0 := Stand.of_body Bd
  have e0 : s₁.heap = h0 := by rw [← hh, Bd.state]; rfl
  have N0 := Fr.nil n0
  have pre0 : ∀ t, Steps p.tables e below (s₁.setTop (mkF m 0 #[.val (.ref r0), .val (.ref r1)] [])) t → Steps p.tables e below (s₁.setTop (entryFrame m #[(.ref r0), (.ref r1)] 2)) t := fun t k => castTop (ef_14a m r0 r1) k
  obtain ⟨T1, X1, e1, st1⟩ := getF X0 hx hZ hown (host := "") (Or.inl (hw _ (List.mem_of_getElem? (i := 119) rfl))) (Via.of (hw _ (List.mem_of_getElem? (i := 120) rfl))) e0 y18 (g := (mkF m 2 #[.val (.ref r0), .val (.ref r1)] [(.ref r0), (.ref r0)])) rfl rfl (hb hby d14_2)
  obtain ⟨T2, h2, X2, e2, W2, st2⟩ := putF X1 hx hZ hown (host := "") (Or.inl (hw _ (List.mem_of_getElem? (i := 119) rfl))) (Via.of (hw _ (List.mem_of_getElem? (i := 120) rfl))) e1 y18 E_r0 (Or.inl (hw _ (List.mem_of_getElem? (i := 78) rfl))) (hw _ (List.mem_of_getElem? (i := 59) rfl)) (ty := .int) (by decide) rfl rfl (g := (mkF m 7 #[.val (.ref r0), .val (.ref r1)] [(.int (2 : Int32)), (.ref r0)])) rfl rfl (hb hby d14_7)
  have N2 := Fr.snoc X2 N0 g_r0
  have K3 : Keep h0 h2 [r0, y7] := (Keep.refl h0 [r0, y7]).wr W2 (Or.inl (List.mem_of_getElem? (i := 0) rfl))
  have F2 := y18.same W2
  have f4 := (y23.other W2 (Or.inr (slot_ne (Or.inl (hw _ (List.mem_of_getElem? (i := 81) rfl))) (Or.inl (hw _ (List.mem_of_getElem? (i := 78) rfl))) (by decide) (t := (.array (.object "java/lang/Object"))) (t' := .int) (by decide) (by decide))))
  obtain ⟨T5, X5, e5, st5⟩ := getF X2 hx hZ hown (host := "") (Or.inl (hw _ (List.mem_of_getElem? (i := 80) rfl))) Via.refl e2 f4 (g := (mkF m 13 #[.val (.ref r0), .val (.ref r1)] [(.ref r0), (.ref r1), (.ref r0)])) rfl rfl (hb hby d14_13)
  have f6 := (y15.other W2 (Or.inr (slot_ne (Or.inl (hw _ (List.mem_of_getElem? (i := 95) rfl))) (Or.inl (hw _ (List.mem_of_getElem? (i := 78) rfl))) (by decide) (t := .int) (t' := .int) (by decide) (by decide))))
  obtain ⟨T7, X7, e7, st7⟩ := getF X5 hx hZ hown (host := "") (Or.inl (hw _ (List.mem_of_getElem? (i := 94) rfl))) Via.refl e5 f6 (g := (mkF m 17 #[.val (.ref r0), .val (.ref r1)] [(.ref r0), (.ref y7), (.ref r1), (.ref r0)])) rfl rfl (hb hby d14_17)
  have f8 := (y53.other W2 y44)
  have f9 := (E_r1.wr W2)
  have f10 := (E_r0.wr W2)
  obtain ⟨cq11, q11, q11'⟩ := f10.cell
  obtain ⟨_, _, ⟨T11, L11, k11, n11⟩, -, X11, ⟨Lc11, hQ11, l11, y11, z11⟩, st11⟩ := X7.privateBack hx (y := own_y8) hown (mvT hZ (hw _ (List.mem_of_getElem? (i := 121) rfl))) (mvT hZ (hw _ (List.mem_of_getElem? (i := 122) rfl))) (mvT hZ (hw _ (List.mem_of_getElem? (i := 124) rfl))) (Cond.privateMethod_at (mvP hZ (hw _ (List.mem_of_getElem? (i := 123) rfl)) (args := #[]))) (mvT hZ (hw _ (List.mem_of_getElem? (i := 125) rfl))) (by decide) (backOf (W := 0) (rm15a l Z a0 hw [] r0 r1 y7 (.int (2 : Int32)) (.ref y7) y31 y27 (.int (1 : Int32)) h2 n0 (Nat.le_trans Z0 K3.1) F2 f4 y52 f8 f9 y54 f10 f6 (Ne.symm y44) g_r0) hZ (hw _ (List.mem_of_getElem? (i := 125) rfl)) (hw _ (List.mem_of_getElem? (i := 60) rfl)) (by decide) (by decide)) (g := (mkF m 20 #[.val (.ref r0), .val (.ref r1)] [(.int (1 : Int32)), (.ref y7), (.ref r1), (.ref r0)])) rfl (by rw [hml]; rfl) (Steps.refl _) (a := r0) (by rw [e7]; exact q11) q11' (argsL := [(.ref r1), (.ref y7), (.int (1 : Int32))]) (rest := []) (lenOf pd_10 rfl) rfl (by show 2 * 0 + _ ≤ _; exact Nat.le_of_eq rfl) (hb hby d14_20) (fun _ _ => ⟨rfl, e7, (by decide : 0 + 0 ≤ _), (by decide : 0 + 0 ≤ _)⟩)
  dsimp only [Pt.U, Pt.locs, Pt.cells, Pt.slots] at X11 l11 y11 z11 st11 hQ11
  subst l11 y11 z11
  obtain ⟨rfl, Nq11, Kq11, f11_0, f11_1, f11_2, f11_3, f11_4, f11_5⟩ := hQ11
  have K12 : Keep h0 T11.heap [r0, y7] := K3.trans Kq11 (allS (Or.inl (List.mem_of_getElem? (i := 1) rfl)) (allS (Or.inl (List.mem_of_getElem? (i := 0) rfl)) all0))
  have N11 := Fr.app N2 Nq11
  have pre13 : ∀ t, Steps p.tables e below (T11.setTop (mkF m 24 #[.val (.ref r0), .val (.ref r1)] [(.int (1 : Int32))])) t → Steps p.tables e below (s₁.setTop (entryFrame m #[(.ref r0), (.ref r1)] 2)) t := by
    intro t k
    refine pre0 _ ?_
    show Steps p.tables e below (s₁.setTop (mkF m 0 #[.val (.ref r0), .val (.ref r1)] [])) _
    refine XS.aloadN X0.here hx rfl (hb hby d14_0) rfl rfl ?_
    refine XS.dup X0.here hx rfl (hb hby d14_1) rfl rfl ?_
    show Steps p.tables e below (s₁.setTop (mkF m 2 #[.val (.ref r0), .val (.ref r1)] [(.ref r0), (.ref r0)])) _
    refine st1 _ ?_
    show Steps p.tables e below (T1.setTop (mkF m 5 #[.val (.ref r0), .val (.ref r1)] [(.int (1 : Int32)), (.ref r0)])) _
    refine XS.iconst X1.here hx rfl (hb hby d14_5) ?_
    refine XS.iadd X1.here hx rfl (hb hby d14_6) rfl ?_
    show Steps p.tables e below (T1.setTop (mkF m 7 #[.val (.ref r0), .val (.ref r1)] [(.int (2 : Int32)), (.ref r0)])) _
    refine st2 _ ?_
    show Steps p.tables e below (T2.setTop (mkF m 10 #[.val (.ref r0), .val (.ref r1)] [])) _
    refine XS.aloadN X2.here hx rfl (hb hby d14_10) rfl rfl ?_
    refine XS.aloadN X2.here hx rfl (hb hby d14_11) rfl rfl ?_
    show Steps p.tables e below (T2.setTop (mkF m 12 #[.val (.ref r0), .val (.ref r1)] [(.ref r1), (.ref r0)])) _
    refine XS.aloadN X2.here hx rfl (hb hby d14_12) rfl rfl ?_
    show Steps p.tables e below (T2.setTop (mkF m 13 #[.val (.ref r0), .val (.ref r1)] [(.ref r0), (.ref r1), (.ref r0)])) _
    refine st5 _ ?_
    show Steps p.tables e below (T5.setTop (mkF m 16 #[.val (.ref r0), .val (.ref r1)] [(.ref y7), (.ref r1), (.ref r0)])) _
    refine XS.aloadN X5.here hx rfl (hb hby d14_16) rfl rfl ?_
    show Steps p.tables e below (T5.setTop (mkF m 17 #[.val (.ref r0), .val (.ref r1)] [(.ref r0), (.ref y7), (.ref r1), (.ref r0)])) _
    refine st7 _ ?_
    show Steps p.tables e below (T7.setTop (mkF m 20 #[.val (.ref r0), .val (.ref r1)] [(.int (1 : Int32)), (.ref y7), (.ref r1), (.ref r0)])) _
    refine st11.trans ?_
    show Steps p.tables e below (T11.setTop (mkF m 23 #[.val (.ref r0), .val (.ref r1)] [])) _
    refine XS.iconst X11.here hx rfl (hb hby d14_23) ?_
    exact k
  obtain ⟨fs, hr, hrun, hended, hW, hsame⟩ := X11.leave (v := some (.int (1 : Int32))) (fun h => by rw [Bd.returns] at h; cases h)
  refine ⟨_, _, pre13 _ ?_, hrun, hended, _, _, rfl, ?_, ⟨_, rfl⟩, hW, hsame.mono (by decide) (by decide)⟩
  · show Steps p.tables e below (T11.setTop (mkF m 24 #[.val (.ref r0), .val (.ref r1)] [(.int (1 : Int32))])) _
    exact retN X11 hx (t := .boolean) Bd.returns (by simp) (hb hby d14_24) hr
  · show Q14a Z r0 r1 y7 y31 y27 h0 n0 _ T11.heap _
    exact ⟨rfl, N11, K12, f11_1, f11_0, f11_2, f11_3, f11_4, f11_5⟩
def Q12a (Z : State) (r0 : Addr) (r1 : Addr) (r2 : Addr) (v3 : Value) (y1 : Addr) (y4 : Addr) (y32 : Addr) (y28 : ClassId) (h0 : Heap) (n0 : Nat) (v : Option Value) (h : Heap) (L : List Loc) : Prop := ∃ (b2 : Addr), v = none ∧ Fr n0 L ∧ Keep h0 h [y4, y1] ∧ h0.size ≤ b2 ∧ Exa Z h b2 "com/example/fetchwright/fetchwright/service/LoadsInProgress$Load" ∧ Fld Z h b2 "com/example/fetchwright/fetchwright/service/LoadsInProgress$Load" "token" "Ljava/lang/Object;" (.ref r1) ∧ Fld Z h b2 "com/example/fetchwright/fetchwright/service/LoadsInProgress$Load" "session" "Ljava/lang/Object;" (.ref r2) ∧ Fld Z h b2 "com/example/fetchwright/fetchwright/service/LoadsInProgress$Load" "secondary" "Lcom/example/fetchwright/fetchwright/service/SecondaryLoad;" v3 ∧ Exa Z h y1 "java/util/ArrayList" ∧ Arv Z h y4 y28 (.object "java/lang/Object") (10 : Int32) [(.ref y32), (.ref b2), .null, .null, .null, .null, .null, .null, .null, .null] .null ∧ Fld Z h y1 "java/util/ArrayList" "size" "I" (.int (2 : Int32)) ∧ Fld Z h y1 "java/util/AbstractList" "modCount" "I" (.int (2 : Int32)) ∧ Fld Z h y1 "java/util/ArrayList" "elementData" "[Ljava/lang/Object;" (.ref y4) ∧ Ovr Z y28 "java/lang/Object"
theorem ef_12a (m : MethodId) (x0 : Addr) (x1 : Addr) (x2 : Addr) (x3 : Value) (hx3 : x3.isRef = true) : entryFrame m #[(.ref x0), (.ref x1), (.ref x2), x3] 4 = mkF m 0 #[.val (.ref x0), .val (.ref x1), .val (.ref x2), .val x3] [] := by rcases Jvm.Free.XT.refc hx3 with rfl | ⟨r, rfl⟩ <;> first | (simp [entryFrame, mkF, argsToLocals, Value.category]; done) | rfl
set_option maxRecDepth 65536 in
set_option maxHeartbeats 40000000 in
theorem rm12a (l : Launch) (Z : State) (a0 : Array Value) (hw : ∀ d ∈ tables_1, d.before a0 Z = true) (ws : List Jvm.Cond) (r0 : Addr) (r1 : Addr) (r2 : Addr) (v3 : Value) (y1 : Addr) (y4 : Addr) (y32 : Addr) (y28 : ClassId) (h0 : Heap) (n0 : Nat) (Z0 : n0 ≤ h0.size) (hr_v3 : v3.isRef = true) (y24 : Fld Z h0 r0 "com/example/fetchwright/fetchwright/service/LoadsInProgress" "loads" "Ljava/util/ArrayList;" (.ref y1)) (y20 : Fld Z h0 y1 "java/util/AbstractList" "modCount" "I" (.int (1 : Int32))) (y30 : Fld Z h0 y1 "java/util/ArrayList" "elementData" "[Ljava/lang/Object;" (.ref y4)) (y26 : Fld Z h0 y1 "java/util/ArrayList" "size" "I" (.int (1 : Int32))) (y55 : Ovr Z y28 "java/lang/Object") (y34 : Arv Z h0 y4 y28 (.object "java/lang/Object") (10 : Int32) [(.ref y32), .null, .null, .null, .null, .null, .null, .null, .null, .null] .null) (y16 : Exa Z h0 y1 "java/util/ArrayList") (y45 : n0 ≤ y1) (y56 : y4 ≠ y1) (y57 : n0 ≤ y4) :
    MetFree l own_y1 (head1 (Jvm.Cond.code own_y1 prog_9_method_2_code 4 none :: ws) ({ frames := 3, cells := 1, slots := 3, locals := 41 } : Room)) (fun a U => a = #[(.ref r0), (.ref r1), (.ref r2), v3] ∧ Z.Warmed39 U.vm ∧ U.heap = h0) (fun _ _ _ _ _ => True) (fun _ U o U' => ∃ v L, o = .returned v ∧ Q12a Z r0 r1 r2 v3 y1 y4 y32 y28 h0 n0 v U'.heap L ∧ FrameEnd U o U' L ({ frames := 3, cells := 1, slots := 3, locals := 41 } : Room).cells ({ frames := 3, cells := 1, slots := 3, locals := 41 } : Room).slots) := by
  refine MetFree.of_bodySF (plainFor_of_name pn_6) hisR ?_
  intro p e s m args below meth c s₁ Bd hml0 hP hK
  obtain ⟨rfl, hZ, hh⟩ := hP
  have hx := Bd.exec
  have hby := Bd.bytes
  have hml : c.maxLocals = 4 := hml0
  have hown : s.vm.findClass "com/example/fetchwright/fetchwright/service/LoadsInProgress" = some m.cls := findClass_of_methodNamed Bd.named
  have hnm := (name_of_methodNamed Bd.named Bd.method).1
  have X0 : Stand p l e ({ frames := 3, cells := 1, slots := 3, locals := 41 } : Room) s m #[(.ref r0), (.ref r1), (.ref r2), v3] below meth c s₁ [] 0 0 := Stand.of_body Bd
  have e0 : s₁.heap = h0 := by rw [← hh, Bd.state]; rfl
  have N0 := Fr.nil n0
  have pre0 : ∀ t, Steps p.tables e below (s₁.setTop (mkF m 0 #[.val (.ref r0), .val (.ref r1), .val (.ref r2), .val v3] [])) t → Steps p.tables e below (s₁.setTop (entryFrame m #[(.ref r0), (.ref r1), (.ref r2), v3] 4)) t := fun t k => castTop (ef_12a m r0 r1 r2 v3 hr_v3) k
  obtain ⟨T1, X1, e1, st1⟩ := getF X0 hx hZ hown (host := "") (Or.inl (hw _ (List.mem_of_getElem? (i := 82) rfl))) Via.refl e0 y24 (g := (mkF m 1 #[.val (.ref r0), .val (.ref r1), .val (.ref r2), .val v3] [(.ref r0)])) rfl rfl (hb hby d12_1)
  obtain ⟨T2, h2, X2, e2, E2, A2, D2, -, st2⟩ := newO X1 hx hZ hown (hw _ (List.mem_of_getElem? (i := 101) rfl)) (hw _ (List.mem_of_getElem? (i := 102) rfl)) (hw _ (List.mem_of_getElem? (i := 103) rfl)) e1 (g := (mkF m 4 #[.val (.ref r0), .val (.ref r1), .val (.ref r2), .val v3] [(.ref y1)])) rfl (hb hby d12_4) (by decide) (by decide)
  obtain ⟨b2, g2⟩ : ∃ z, z = h0.size := ⟨_, rfl⟩
  rw [← g2] at A2 D2 st2
  have sz_b2 : h0.size ≤ b2 := Nat.le_trans (Keep.refl h0 [y4, y1]).1 (Nat.le_of_eq g2.symm)
  have K3 : Keep h0 h2 [y4, y1] := (Keep.refl h0 [y4, y1]).ext E2
  have Ftoken_2 : Fld Z h2 b2 "com/example/fetchwright/fetchwright/service/LoadsInProgress$Load" "token" "Ljava/lang/Object;" .null := D2 (Or.inr (hw _ (List.mem_of_getElem? (i := 109) rfl))) (ty := (.object "java/lang/Object")) (by decide)
  have Fsession_2 : Fld Z h2 b2 "com/example/fetchwright/fetchwright/service/LoadsInProgress$Load" "session" "Ljava/lang/Object;" .null := D2 (Or.inr (hw _ (List.mem_of_getElem? (i := 111) rfl))) (ty := (.object "java/lang/Object")) (by decide)
  have Fsecondary_2 : Fld Z h2 b2 "com/example/fetchwright/fetchwright/service/LoadsInProgress$Load" "secondary" "Lcom/example/fetchwright/fetchwright/service/SecondaryLoad;" .null := D2 (Or.inr (hw _ (List.mem_of_getElem? (i := 113) rfl))) (ty := (.object "com/example/fetchwright/fetchwright/service/SecondaryLoad")) (by decide)
  obtain ⟨_, _, ⟨T4, L4, k4, n4⟩, -, X4, ⟨Lc4, hQ4, l4, y4, z4⟩, st4⟩ := specialRef X2 hx (y := own_y10) rfl hown (mvRef hZ (hw _ (List.mem_of_getElem? (i := 105) rfl)) (by decide) (hw _ (List.mem_of_getElem? (i := 104) rfl))) (mvT hZ (hw _ (List.mem_of_getElem? (i := 105) rfl))) (mvT hZ (hw _ (List.mem_of_getElem? (i := 106) rfl))) (by decide) (backOf (W := 2) (rm13 l Z a0 hw [] b2 r1 r2 v3 (.null) (.null) (.null) h2 n0 (Nat.le_trans Z0 K3.1) hr_v3 A2 Ftoken_2 (Nat.le_trans Z0 sz_b2) Fsession_2 Fsecondary_2) hZ (hw _ (List.mem_of_getElem? (i := 106) rfl)) (hw _ (List.mem_of_getElem? (i := 103) rfl)) (by decide) (by decide)) (g := (mkF m 11 #[.val (.ref r0), .val (.ref r1), .val (.ref r2), .val v3] [v3, (.ref r2), (.ref r1), (.ref b2), (.ref b2), (.ref y1)])) rfl (by rw [hml]; rfl) (Steps.refl _) (a := b2) (argsL := [(.ref r1), (.ref r2), v3]) (rest := [(.ref b2), (.ref y1)]) (lenOf pd_6 rfl) rfl (by show 2 * 0 + _ ≤ _; exact Nat.le_of_eq rfl) (hb hby d12_11) (fun _ _ => ⟨rfl, e2, (by decide : 1 + 0 ≤ _), (by decide : 3 + 0 ≤ _)⟩)
  dsimp only [Pt.U, Pt.locs, Pt.cells, Pt.slots] at X4 l4 y4 z4 st4 hQ4
  subst l4 y4 z4
  obtain ⟨rfl, Nq4, Kq4, f4_0, f4_1, f4_2, f4_3⟩ := hQ4
  have K5 : Keep h0 T4.heap [y4, y1] := K3.trans Kq4 (allS (Or.inr sz_b2) all0)
  have N4 := Fr.app N0 Nq4
  have f6 := ((y20.ext E2).keep Kq4 (ninS (Nat.ne_of_lt (Nat.lt_of_lt_of_le y20.lt (Nat.le_trans (Nat.le_refl _) (Nat.le_of_eq g2.symm)))) nin0))
  have f7 := ((y30.ext E2).keep Kq4 (ninS (Nat.ne_of_lt (Nat.lt_of_lt_of_le y20.lt (Nat.le_trans (Nat.le_refl _) (Nat.le_of_eq g2.symm)))) nin0))
  have f8 := ((y26.ext E2).keep Kq4 (ninS (Nat.ne_of_lt (Nat.lt_of_lt_of_le y20.lt (Nat.le_trans (Nat.le_refl _) (Nat.le_of_eq g2.symm)))) nin0))
  have f9 := ((y34.ext E2).keep Kq4 (ninS (Nat.ne_of_lt (Nat.lt_of_lt_of_le y34.lt (Nat.le_trans (Nat.le_refl _) (Nat.le_of_eq g2.symm)))) nin0))
  have f10 := ((y16.ext E2).keep Kq4)
  obtain ⟨cq11, kq11, q11a, q11b, q11c⟩ := isOf hZ rfl f10
  obtain ⟨_, _, ⟨T11, L11, k11, n11⟩, -, X11, ⟨Lc11, hQ11, l11, y11, z11⟩, st11⟩ := X4.virtualBack hx (y := own_y7) (z := own_y7) hown (mvT hZ (hw _ (List.mem_of_getElem? (i := 114) rfl))) (mvT hZ (hw _ (List.mem_of_getElem? (i := 115) rfl))) (notFace_of_selects (args := #[]) (mvT hZ (hw _ (List.mem_of_getElem? (i := 117) rfl)))) (mvT hZ (hw _ (List.mem_of_getElem? (i := 117) rfl))) (mvT hZ (hw _ (List.mem_of_getElem? (i := 116) rfl))) (by decide) (backOf (W := 0) (rm14a l Z a0 hw [] y1 b2 y4 y32 y28 T4.heap n0 (Nat.le_trans Z0 K5.1) f6 f10 y45 f7 f8 y55 f9 y56 f4_0 y57) hZ (hw _ (List.mem_of_getElem? (i := 118) rfl)) (hw _ (List.mem_of_getElem? (i := 60) rfl)) (by decide) (by decide)) q11a q11c (g := (mkF m 14 #[.val (.ref r0), .val (.ref r1), .val (.ref r2), .val v3] [(.ref b2), (.ref y1)])) rfl (by rw [hml]; rfl) (Steps.refl _) (argsL := [(.ref b2)]) (rest := []) (lenOf pd_11 rfl) rfl (by show 2 * 0 + _ ≤ _; exact Nat.le_of_eq rfl) (hb hby d12_14) (fun _ _ => ⟨rfl, rfl, (by decide : 1 + 0 ≤ _), (by decide : 3 + 0 ≤ _)⟩)
  dsimp only [Pt.U, Pt.locs, Pt.cells, Pt.slots] at X11 l11 y11 z11 st11 hQ11
  subst l11 y11 z11
  obtain ⟨rfl, Nq11, Kq11, f11_0, f11_1, f11_2, f11_3, f11_4, f11_5⟩ := hQ11
  have K12 : Keep h0 T11.heap [y4, y1] := K5.trans Kq11 (allS (Or.inl (List.mem_of_getElem? (i := 1) rfl)) (allS (Or.inl (List.mem_of_getElem? (i := 0) rfl)) all0))
  have N11 := Fr.app N4 Nq11
  have pre13 : ∀ t, Steps p.tables e below (T11.setTop (mkF m 18 #[.val (.ref r0), .val (.ref r1), .val (.ref r2), .val v3] [])) t → Steps p.tables e below (s₁.setTop (entryFrame m #[(.ref r0), (.ref r1), (.ref r2), v3] 4)) t := by
    intro t k
    refine pre0 _ ?_
    show Steps p.tables e below (s₁.setTop (mkF m 0 #[.val (.ref r0), .val (.ref r1), .val (.ref r2), .val v3] [])) _
    refine XS.aloadN X0.here hx rfl (hb hby d12_0) rfl rfl ?_
    show Steps p.tables e below (s₁.setTop (mkF m 1 #[.val (.ref r0), .val (.ref r1), .val (.ref r2), .val v3] [(.ref r0)])) _
    refine st1 _ ?_
    show Steps p.tables e below (T1.setTop (mkF m 4 #[.val (.ref r0), .val (.ref r1), .val (.ref r2), .val v3] [(.ref y1)])) _
    refine st2 _ ?_
    show Steps p.tables e below (T2.setTop (mkF m 7 #[.val (.ref r0), .val (.ref r1), .val (.ref r2), .val v3] [(.ref b2), (.ref y1)])) _
    refine XS.dup X2.here hx rfl (hb hby d12_7) rfl rfl ?_
    refine XS.aloadN X2.here hx rfl (hb hby d12_8) rfl rfl ?_
    show Steps p.tables e below (T2.setTop (mkF m 9 #[.val (.ref r0), .val (.ref r1), .val (.ref r2), .val v3] [(.ref r1), (.ref b2), (.ref b2), (.ref y1)])) _
    refine XS.aloadN X2.here hx rfl (hb hby d12_9) rfl rfl ?_
    refine XS.aloadN X2.here hx rfl (hb hby d12_10) rfl hr_v3 ?_
    show Steps p.tables e below (T2.setTop (mkF m 11 #[.val (.ref r0), .val (.ref r1), .val (.ref r2), .val v3] [v3, (.ref r2), (.ref r1), (.ref b2), (.ref b2), (.ref y1)])) _
    refine st4.trans ?_
    show Steps p.tables e below (T4.setTop (mkF m 14 #[.val (.ref r0), .val (.ref r1), .val (.ref r2), .val v3] [(.ref b2), (.ref y1)])) _
    refine st11.trans ?_
    show Steps p.tables e below (T11.setTop (mkF m 17 #[.val (.ref r0), .val (.ref r1), .val (.ref r2), .val v3] [(.int (1 : Int32))])) _
    refine XS.pop X11.here hx rfl (hb hby d12_17) rfl rfl ?_
    exact k
  have f14 := (f4_0.keep Kq11)
  have f15 := (f4_1.keep Kq11 (ninS (Ne.symm (Nat.ne_of_lt (Nat.lt_of_lt_of_le y20.lt (Nat.le_trans (Nat.le_refl _) (Nat.le_of_eq g2.symm))))) (ninS (Ne.symm (Nat.ne_of_lt (Nat.lt_of_lt_of_le y34.lt (Nat.le_trans (Nat.le_refl _) (Nat.le_of_eq g2.symm))))) nin0)))
  have f16 := (f4_2.keep Kq11 (ninS (Ne.symm (Nat.ne_of_lt (Nat.lt_of_lt_of_le y20.lt (Nat.le_trans (Nat.le_refl _) (Nat.le_of_eq g2.symm))))) (ninS (Ne.symm (Nat.ne_of_lt (Nat.lt_of_lt_of_le y34.lt (Nat.le_trans (Nat.le_refl _) (Nat.le_of_eq g2.symm))))) nin0)))
  have f17 := (f4_3.keep Kq11 (ninS (Ne.symm (Nat.ne_of_lt (Nat.lt_of_lt_of_le y20.lt (Nat.le_trans (Nat.le_refl _) (Nat.le_of_eq g2.symm))))) (ninS (Ne.symm (Nat.ne_of_lt (Nat.lt_of_lt_of_le y34.lt (Nat.le_trans (Nat.le_refl _) (Nat.le_of_eq g2.symm))))) nin0)))
  obtain ⟨fs, hr, hrun, hended, hW, hsame⟩ := X11.leave (v := none) (fun _ => rfl)
  refine ⟨_, _, pre13 _ ?_, hrun, hended, _, _, rfl, ?_, ⟨_, rfl⟩, hW, hsame.mono (by decide) (by decide)⟩
  · show Steps p.tables e below (T11.setTop (mkF m 18 #[.val (.ref r0), .val (.ref r1), .val (.ref r2), .val v3] [])) _
    exact X11.returnOut hx Bd.returns (hb hby d12_18) hr
  · show Q12a Z r0 r1 r2 v3 y1 y4 y32 y28 h0 n0 _ T11.heap _
    exact ⟨b2, rfl, N11, K12, sz_b2, f14, f15, f16, f17, f11_0, f11_1, f11_2, f11_3, f11_4, f11_5⟩
def Q11b (Z : State) (r0 : Addr) (h0 : Heap) (n0 : Nat) (v : Option Value) (h : Heap) (L : List Loc) : Prop := v = some (.int (2 : Int32)) ∧ Fr n0 L ∧ h = h0
theorem ef_11b (m : MethodId) (x0 : Addr) : entryFrame m #[(.ref x0)] 1 = mkF m 0 #[.val (.ref x0)] [] := by first | (simp [entryFrame, mkF, argsToLocals, Value.category]; done) | rfl
set_option maxRecDepth 65536 in
set_option maxHeartbeats 40000000 in
theorem rm11b (l : Launch) (Z : State) (a0 : Array Value) (hw : ∀ d ∈ tables_1, d.before a0 Z = true) (ws : List Jvm.Cond) (r0 : Addr) (h0 : Heap) (n0 : Nat) (Z0 : n0 ≤ h0.size) (y15 : Fld Z h0 r0 "java/util/ArrayList" "size" "I" (.int (2 : Int32))) :
    MetFree l own_y5 (head1 (Jvm.Cond.code own_y5 jdk_38_method_8_code 1 (some .int) :: ws) ({ frames := 0, cells := 0, slots := 0, locals := 0 } : Room)) (fun a U => a = #[(.ref r0)] ∧ Z.Warmed39 U.vm ∧ U.heap = h0) (fun _ _ _ _ _ => True) (fun _ U o U' => ∃ v L, o = .returned v ∧ Q11b Z r0 h0 n0 v U'.heap L ∧ FrameEnd U o U' L ({ frames := 0, cells := 0, slots := 0, locals := 0 } : Room).cells ({ frames := 0, cells := 0, slots := 0, locals := 0 } : Room).slots) := by
  refine MetFree.of_bodySF (plainFor_of_name pn_5) hisR ?_
  intro p e s m args below meth c s₁ Bd hml0 hP hK
  obtain ⟨rfl, hZ, hh⟩ := hP
  have hx := Bd.exec
  have hby := Bd.bytes
  have hml : c.maxLocals = 1 := hml0
  have hown : s.vm.findClass "java/util/ArrayList" = some m.cls := findClass_of_methodNamed Bd.named
  have hnm := (name_of_methodNamed Bd.named Bd.method).1
  have X0 : Stand p l e ({ frames := 0, cells := 0, slots := 0, locals := 0 } : Room) s m #[(.ref r0)] below meth c s₁ [] 0 0 := Stand.of_body Bd
  have e0 : s₁.heap = h0 := by rw [← hh, Bd.state]; rfl
  have N0 := Fr.nil n0
  have pre0 : ∀ t, Steps p.tables e below (s₁.setTop (mkF m 0 #[.val (.ref r0)] [])) t → Steps p.tables e below (s₁.setTop (entryFrame m #[(.ref r0)] 1)) t := fun t k => castTop (ef_11b m r0) k
  obtain ⟨T1, X1, e1, st1⟩ := getF X0 hx hZ hown (host := "") (Or.inl (hw _ (List.mem_of_getElem? (i := 94) rfl))) Via.refl e0 y15 (g := (mkF m 1 #[.val (.ref r0)] [(.ref r0)])) rfl rfl (hb hby d11_1)
  have pre2 : ∀ t, Steps p.tables e below (T1.setTop (mkF m 4 #[.val (.ref r0)] [(.int (2 : Int32))])) t → Steps p.tables e below (s₁.setTop (entryFrame m #[(.ref r0)] 1)) t := by
    intro t k
    refine pre0 _ ?_
    show Steps p.tables e below (s₁.setTop (mkF m 0 #[.val (.ref r0)] [])) _
    refine XS.aloadN X0.here hx rfl (hb hby d11_0) rfl rfl ?_
    show Steps p.tables e below (s₁.setTop (mkF m 1 #[.val (.ref r0)] [(.ref r0)])) _
    refine st1 _ ?_
    exact k
  obtain ⟨fs, hr, hrun, hended, hW, hsame⟩ := X1.leave (v := some (.int (2 : Int32))) (fun h => by rw [Bd.returns] at h; cases h)
  refine ⟨_, _, pre2 _ ?_, hrun, hended, _, _, rfl, ?_, ⟨_, rfl⟩, hW, hsame.mono (by decide) (by decide)⟩
  · show Steps p.tables e below (T1.setTop (mkF m 4 #[.val (.ref r0)] [(.int (2 : Int32))])) _
    exact retI X1 hx Bd.returns (hb hby d11_4) hr
  · show Q11b Z r0 h0 n0 _ T1.heap _
    rw [e1]
    exact ⟨rfl, N0, rfl⟩
def own_r10b (r1 : Addr) (y2 : Addr) (y3 : Value) (y6 : Addr) (y8 : Value) : Value := (if y2 = r1 then y3 else (if y6 = r1 then y8 else Value.null))
def Q10b (Z : State) (r0 : Addr) (r1 : Addr) (y1 : Addr) (y4 : Addr) (y14 : Cell) (el_w_elementData_w_loads_r0_0 : Addr) (y2 : Addr) (y3 : Value) (y19 : Cell) (el_w_elementData_w_loads_r0_1 : Addr) (y6 : Addr) (y8 : Value) (h0 : Heap) (n0 : Nat) (v : Option Value) (h : Heap) (L : List Loc) : Prop := v = some (own_r10b r1 y2 y3 y6 y8) ∧ Fr n0 L ∧ h = h0 ∧ (own_r10b r1 y2 y3 y6 y8).isRef = true
theorem ef_10b (m : MethodId) (x0 : Addr) (x1 : Addr) : entryFrame m #[(.ref x0), (.ref x1)] 4 = mkF m 0 #[.val (.ref x0), .val (.ref x1), .unset, .unset] [] := by first | (simp [entryFrame, mkF, argsToLocals, Value.category]; done) | rfl
set_option maxRecDepth 65536 in
set_option maxHeartbeats 40000000 in
theorem rm10b (l : Launch) (Z : State) (a0 : Array Value) (hw : ∀ d ∈ tables_1, d.before a0 Z = true) (ws : List Jvm.Cond) (r0 : Addr) (r1 : Addr) (y1 : Addr) (y4 : Addr) (y14 : Cell) (el_w_elementData_w_loads_r0_0 : Addr) (y2 : Addr) (y3 : Value) (y19 : Cell) (el_w_elementData_w_loads_r0_1 : Addr) (y6 : Addr) (y8 : Value) (h0 : Heap) (n0 : Nat) (Z0 : n0 ≤ h0.size) (y24 : Fld Z h0 r0 "com/example/fetchwright/fetchwright/service/LoadsInProgress" "loads" "Ljava/util/ArrayList;" (.ref y1)) (y26 : Fld Z h0 y1 "java/util/ArrayList" "size" "I" (.int (2 : Int32))) (y16 : Exa Z h0 y1 "java/util/ArrayList") (y30 : Fld Z h0 y1 "java/util/ArrayList" "elementData" "[Ljava/lang/Object;" (.ref y4)) (Aa_w_elementData_w_loads_r0_0 : Arr Z h0 y4 y14 (.object "java/lang/Object") ∧ ¬ ((1 : Int32) < 0 ∨ y14.slots.size ≤ ((1 : Int32)).toNatClampNeg) ∧ y14.slots[((1 : Int32)).toNatClampNeg]? = some (.ref el_w_elementData_w_loads_r0_0)) (y35 : Exa Z h0 el_w_elementData_w_loads_r0_0 "com/example/fetchwright/fetchwright/service/LoadsInProgress$Load") (y46 : Fld Z h0 el_w_elementData_w_loads_r0_0 "com/example/fetchwright/fetchwright/service/LoadsInProgress$Load" "session" "Ljava/lang/Object;" (.ref y2)) (y47 : y3.isRef = true) (y48 : Fld Z h0 el_w_elementData_w_loads_r0_0 "com/example/fetchwright/fetchwright/service/LoadsInProgress$Load" "secondary" "Lcom/example/fetchwright/fetchwright/service/SecondaryLoad;" y3) (Aa_w_elementData_w_loads_r0_1 : Arr Z h0 y4 y19 (.object "java/lang/Object") ∧ ¬ ((0 : Int32) < 0 ∨ y19.slots.size ≤ ((0 : Int32)).toNatClampNeg) ∧ y19.slots[((0 : Int32)).toNatClampNeg]? = some (.ref el_w_elementData_w_loads_r0_1)) (y39 : Exa Z h0 el_w_elementData_w_loads_r0_1 "com/example/fetchwright/fetchwright/service/LoadsInProgress$Load") (y58 : Fld Z h0 el_w_elementData_w_loads_r0_1 "com/example/fetchwright/fetchwright/service/LoadsInProgress$Load" "session" "Ljava/lang/Object;" (.ref y6)) (y59 : y8.isRef = true) (y60 : Fld Z h0 el_w_elementData_w_loads_r0_1 "com/example/fetchwright/fetchwright/service/LoadsInProgress$Load" "secondary" "Lcom/example/fetchwright/fetchwright/service/SecondaryLoad;" y8) :
    MetFree l own_y6 (head1 (Jvm.Cond.code own_y6 prog_9_method_4_code 4 (some (.object "com/example/fetchwright/fetchwright/service/SecondaryLoad")) :: ws) ({ frames := 3, cells := 0, slots := 0, locals := 40 } : Room)) (fun a U => a = #[(.ref r0), (.ref r1)] ∧ Z.Warmed39 U.vm ∧ U.heap = h0) (fun _ _ _ _ _ => True) (fun _ U o U' => ∃ v L, o = .returned v ∧ Q10b Z r0 r1 y1 y4 y14 el_w_elementData_w_loads_r0_0 y2 y3 y19 el_w_elementData_w_loads_r0_1 y6 y8 h0 n0 v U'.heap L ∧ FrameEnd U o U' L ({ frames := 3, cells := 0, slots := 0, locals := 40 } : Room).cells ({ frames := 3, cells := 0, slots := 0, locals := 40 } : Room).slots) := by
  refine MetFree.of_bodySF (plainFor_of_name pn_6) hisR ?_
  intro p e s m args below meth c s₁ Bd hml0 hP hK
  obtain ⟨rfl, hZ, hh⟩ := hP
  have hx := Bd.exec
  have hby := Bd.bytes
  have hml : c.maxLocals = 4 := hml0
  have hown : s.vm.findClass "com/example/fetchwright/fetchwright/service/LoadsInProgress" = some m.cls := findClass_of_methodNamed Bd.named
  have hnm := (name_of_methodNamed Bd.named Bd.method).1
  have X0 : Stand p l e ({ frames := 3, cells := 0, slots := 0, locals := 40 } : Room) s m #[(.ref r0), (.ref r1)] below meth c s₁ [] 0 0 := Stand.of_body Bd
  have e0 : s₁.heap = h0 := by rw [← hh, Bd.state]; rfl
  have N0 := Fr.nil n0
  have pre0 : ∀ t, Steps p.tables e below (s₁.setTop (mkF m 0 #[.val (.ref r0), .val (.ref r1), .unset, .unset] [])) t → Steps p.tables e below (s₁.setTop (entryFrame m #[(.ref r0), (.ref r1)] 4)) t := fun t k => castTop (ef_10b m r0 r1) k
  obtain ⟨T1, X1, e1, st1⟩ := getF X0 hx hZ hown (host := "") (Or.inl (hw _ (List.mem_of_getElem? (i := 82) rfl))) Via.refl e0 y24 (g := (mkF m 1 #[.val (.ref r0), .val (.ref r1), .unset, .unset] [(.ref r0)])) rfl rfl (hb hby d10_1)
  obtain ⟨cq2, kq2, q2a, q2b, q2c⟩ := isOf hZ e1 y16
  obtain ⟨_, _, ⟨T2, L2, k2, n2⟩, -, X2, ⟨Lc2, hQ2, l2, y2, z2⟩, st2⟩ := X1.virtualBack hx (y := own_y5) (z := own_y5) hown (mvT hZ (hw _ (List.mem_of_getElem? (i := 89) rfl))) (mvT hZ (hw _ (List.mem_of_getElem? (i := 90) rfl))) (notFace_of_selects (args := #[]) (mvT hZ (hw _ (List.mem_of_getElem? (i := 92) rfl)))) (mvT hZ (hw _ (List.mem_of_getElem? (i := 92) rfl))) (mvT hZ (hw _ (List.mem_of_getElem? (i := 91) rfl))) (by decide) (backOf (W := 0) (rm11b l Z a0 hw [] y1 h0 n0 (Nat.le_trans Z0 (Keep.refl h0 []).1) y26) hZ (hw _ (List.mem_of_getElem? (i := 93) rfl)) (hw _ (List.mem_of_getElem? (i := 60) rfl)) (by decide) (by decide)) q2a q2c (g := (mkF m 4 #[.val (.ref r0), .val (.ref r1), .unset, .unset] [(.ref y1)])) rfl (by rw [hml]; rfl) (Steps.refl _) (argsL := []) (rest := []) (lenOf pd_4 rfl) rfl (by show 2 * 0 + _ ≤ _; exact Nat.le_of_eq rfl) (hb hby d10_4) (fun _ _ => ⟨rfl, e1, (by decide : 0 + 0 ≤ _), (by decide : 0 + 0 ≤ _)⟩)
  dsimp only [Pt.U, Pt.locs, Pt.cells, Pt.slots] at X2 l2 y2 z2 st2 hQ2
  subst l2 y2 z2
  obtain ⟨rfl, Nq2, e2⟩ := hQ2
  have N2 := Fr.app N0 Nq2
  obtain ⟨T3, X3, e3, st3⟩ := getF X2 hx hZ hown (host := "") (Or.inl (hw _ (List.mem_of_getElem? (i := 82) rfl))) Via.refl e2 y24 (g := (mkF m 15 #[.val (.ref r0), .val (.ref r1), .val (.int (1 : Int32)), .unset] [(.ref r0)])) rfl rfl (hb hby d10_15)
  obtain ⟨cq4, kq4, q4a, q4b, q4c⟩ := isOf hZ e3 y16
  obtain ⟨_, _, ⟨T4, L4, k4, n4⟩, -, X4, ⟨Lc4, hQ4, l4, y4, z4⟩, st4⟩ := X3.virtualBack hx (y := own_y2) (z := own_y2) hown (mvT hZ (hw _ (List.mem_of_getElem? (i := 142) rfl))) (mvT hZ (hw _ (List.mem_of_getElem? (i := 143) rfl))) (notFace_of_selects (args := #[]) (mvT hZ (hw _ (List.mem_of_getElem? (i := 145) rfl)))) (mvT hZ (hw _ (List.mem_of_getElem? (i := 145) rfl))) (mvT hZ (hw _ (List.mem_of_getElem? (i := 144) rfl))) (by decide) (backOf (W := 0) (rm19 l Z a0 hw [] y1 (1 : Int32) (2 : Int32) y4 y14 el_w_elementData_w_loads_r0_0 h0 n0 (Nat.le_trans Z0 (Keep.refl h0 []).1) y26 (by decide) (by decide) y30 ⟨Aa_w_elementData_w_loads_r0_0.1, Aa_w_elementData_w_loads_r0_0.2.1, Aa_w_elementData_w_loads_r0_0.2.2⟩ y16) hZ (hw _ (List.mem_of_getElem? (i := 146) rfl)) (hw _ (List.mem_of_getElem? (i := 60) rfl)) (by decide) (by decide)) q4a q4c (g := (mkF m 19 #[.val (.ref r0), .val (.ref r1), .val (.int (1 : Int32)), .unset] [(.int (1 : Int32)), (.ref y1)])) rfl (by rw [hml]; rfl) (Steps.refl _) (argsL := [(.int (1 : Int32))]) (rest := []) (lenOf pd_13 rfl) rfl (by show 2 * 0 + _ ≤ _; exact Nat.le_of_eq rfl) (hb hby d10_19) (fun _ _ => ⟨rfl, e3, (by decide : 0 + 0 ≤ _), (by decide : 0 + 0 ≤ _)⟩)
  dsimp only [Pt.U, Pt.locs, Pt.cells, Pt.slots] at X4 l4 y4 z4 st4 hQ4
  subst l4 y4 z4
  obtain ⟨rfl, Nq4, e4⟩ := hQ4
  have N4 := Fr.app N2 Nq4
  obtain ⟨T5, X5, e5, st5⟩ := castY X4 hx hZ hown (hw _ (List.mem_of_getElem? (i := 101) rfl)) e4 (Ins.self y35) (g := (mkF m 22 #[.val (.ref r0), .val (.ref r1), .val (.int (1 : Int32)), .unset] [(.ref el_w_elementData_w_loads_r0_0)])) rfl rfl (hb hby d10_22)
  obtain ⟨cq6, kq6, q6a, q6b, q6c⟩ := isOf hZ e5 y35
  obtain ⟨_, _, ⟨T6, L6, k6, n6⟩, -, X6, ⟨Lc6, hQ6, l6, y6, z6⟩, st6⟩ := X5.virtualBack hx (y := own_y3) (z := own_y3) hown (mvT hZ (hw _ (List.mem_of_getElem? (i := 161) rfl))) (mvT hZ (hw _ (List.mem_of_getElem? (i := 162) rfl))) (notFace_of_selects (args := #[]) (mvT hZ (hw _ (List.mem_of_getElem? (i := 164) rfl)))) (mvT hZ (hw _ (List.mem_of_getElem? (i := 164) rfl))) (mvT hZ (hw _ (List.mem_of_getElem? (i := 163) rfl))) (by decide) (backOf (W := 0) (rm23 l Z a0 hw [] el_w_elementData_w_loads_r0_0 y2 h0 n0 (Nat.le_trans Z0 (Keep.refl h0 []).1) y46) hZ (hw _ (List.mem_of_getElem? (i := 165) rfl)) (hw _ (List.mem_of_getElem? (i := 103) rfl)) (by decide) (by decide)) q6a q6c (g := (mkF m 27 #[.val (.ref r0), .val (.ref r1), .val (.int (1 : Int32)), .val (.ref el_w_elementData_w_loads_r0_0)] [(.ref el_w_elementData_w_loads_r0_0)])) rfl (by rw [hml]; rfl) (Steps.refl _) (argsL := []) (rest := []) (lenOf pd_14 rfl) rfl (by show 2 * 0 + _ ≤ _; exact Nat.le_of_eq rfl) (hb hby d10_27) (fun _ _ => ⟨rfl, e5, (by decide : 0 + 0 ≤ _), (by decide : 0 + 0 ≤ _)⟩)
  dsimp only [Pt.U, Pt.locs, Pt.cells, Pt.slots] at X6 l6 y6 z6 st6 hQ6
  subst l6 y6 z6
  obtain ⟨rfl, Nq6, e6⟩ := hQ6
  have N6 := Fr.app N4 Nq6
  have pre7 : ∀ t, Steps p.tables e below (T6.setTop (mkF m 31 #[.val (.ref r0), .val (.ref r1), .val (.int (1 : Int32)), .val (.ref el_w_elementData_w_loads_r0_0)] [(.ref r1), (.ref y2)])) t → Steps p.tables e below (s₁.setTop (entryFrame m #[(.ref r0), (.ref r1)] 4)) t := by
    intro t k
    refine pre0 _ ?_
    show Steps p.tables e below (s₁.setTop (mkF m 0 #[.val (.ref r0), .val (.ref r1), .unset, .unset] [])) _
    refine XS.aloadN X0.here hx rfl (hb hby d10_0) rfl rfl ?_
    show Steps p.tables e below (s₁.setTop (mkF m 1 #[.val (.ref r0), .val (.ref r1), .unset, .unset] [(.ref r0)])) _
    refine st1 _ ?_
    show Steps p.tables e below (T1.setTop (mkF m 4 #[.val (.ref r0), .val (.ref r1), .unset, .unset] [(.ref y1)])) _
    refine st2.trans ?_
    show Steps p.tables e below (T2.setTop (mkF m 7 #[.val (.ref r0), .val (.ref r1), .unset, .unset] [(.int (2 : Int32))])) _
    refine XS.iconst X2.here hx rfl (hb hby d10_7) ?_
    refine XS.isub X2.here hx rfl (hb hby d10_8) rfl ?_
    show Steps p.tables e below (T2.setTop (mkF m 9 #[.val (.ref r0), .val (.ref r1), .unset, .unset] [(.int (1 : Int32))])) _
    refine XS.istoreN X2.here hx rfl (hb hby d10_9) rfl (l' := #[.val (.ref r0), .val (.ref r1), .val (.int (1 : Int32)), .unset]) rfl ?_
    refine XS.iloadN X2.here hx rfl (hb hby d10_10) rfl ?_
    show Steps p.tables e below (T2.setTop (mkF m 11 #[.val (.ref r0), .val (.ref r1), .val (.int (1 : Int32)), .unset] [(.int (1 : Int32))])) _
    refine XS.ifNo X2.here hx rfl (hb hby d10_11) rfl ((if0 _ _).trans (flt (by decide : ¬ ((1 : Int32) < (0 : Int32)))).1) ?_
    refine XS.aloadN X2.here hx rfl (hb hby d10_14) rfl rfl ?_
    show Steps p.tables e below (T2.setTop (mkF m 15 #[.val (.ref r0), .val (.ref r1), .val (.int (1 : Int32)), .unset] [(.ref r0)])) _
    refine st3 _ ?_
    show Steps p.tables e below (T3.setTop (mkF m 18 #[.val (.ref r0), .val (.ref r1), .val (.int (1 : Int32)), .unset] [(.ref y1)])) _
    refine XS.iloadN X3.here hx rfl (hb hby d10_18) rfl ?_
    show Steps p.tables e below (T3.setTop (mkF m 19 #[.val (.ref r0), .val (.ref r1), .val (.int (1 : Int32)), .unset] [(.int (1 : Int32)), (.ref y1)])) _
    refine st4.trans ?_
    show Steps p.tables e below (T4.setTop (mkF m 22 #[.val (.ref r0), .val (.ref r1), .val (.int (1 : Int32)), .unset] [(.ref el_w_elementData_w_loads_r0_0)])) _
    refine st5 _ ?_
    show Steps p.tables e below (T5.setTop (mkF m 25 #[.val (.ref r0), .val (.ref r1), .val (.int (1 : Int32)), .unset] [(.ref el_w_elementData_w_loads_r0_0)])) _
    refine XS.astoreN X5.here hx rfl (hb hby d10_25) rfl rfl (l' := #[.val (.ref r0), .val (.ref r1), .val (.int (1 : Int32)), .val (.ref el_w_elementData_w_loads_r0_0)]) rfl ?_
    refine XS.aloadN X5.here hx rfl (hb hby d10_26) rfl rfl ?_
    show Steps p.tables e below (T5.setTop (mkF m 27 #[.val (.ref r0), .val (.ref r1), .val (.int (1 : Int32)), .val (.ref el_w_elementData_w_loads_r0_0)] [(.ref el_w_elementData_w_loads_r0_0)])) _
    refine st6.trans ?_
    show Steps p.tables e below (T6.setTop (mkF m 30 #[.val (.ref r0), .val (.ref r1), .val (.int (1 : Int32)), .val (.ref el_w_elementData_w_loads_r0_0)] [(.ref y2)])) _
    refine XS.aloadN X6.here hx rfl (hb hby d10_30) rfl rfl ?_
    exact k
  by_cases hc31_8 : y2 = r1
  · obtain ⟨cq9, kq9, q9a, q9b, q9c⟩ := isOf hZ e6 y35
    obtain ⟨_, _, ⟨T9, L9, k9, n9⟩, -, X9, ⟨Lc9, hQ9, l9, y9, z9⟩, st9⟩ := X6.virtualBack hx (y := own_y4) (z := own_y4) hown (mvT hZ (hw _ (List.mem_of_getElem? (i := 166) rfl))) (mvT hZ (hw _ (List.mem_of_getElem? (i := 167) rfl))) (notFace_of_selects (args := #[]) (mvT hZ (hw _ (List.mem_of_getElem? (i := 169) rfl)))) (mvT hZ (hw _ (List.mem_of_getElem? (i := 169) rfl))) (mvT hZ (hw _ (List.mem_of_getElem? (i := 168) rfl))) (by decide) (backOf (W := 0) (rm24 l Z a0 hw [] el_w_elementData_w_loads_r0_0 y3 h0 n0 (Nat.le_trans Z0 (Keep.refl h0 []).1) y47 y48) hZ (hw _ (List.mem_of_getElem? (i := 170) rfl)) (hw _ (List.mem_of_getElem? (i := 103) rfl)) (by decide) (by decide)) q9a q9c (g := (mkF m 35 #[.val (.ref r0), .val (.ref r1), .val (.int (1 : Int32)), .val (.ref el_w_elementData_w_loads_r0_0)] [(.ref el_w_elementData_w_loads_r0_0)])) rfl (by rw [hml]; rfl) (Steps.refl _) (argsL := []) (rest := []) (lenOf pd_3 rfl) rfl (by show 2 * 0 + _ ≤ _; exact Nat.le_of_eq rfl) (hb hby d10_35) (fun _ _ => ⟨rfl, e6, (by decide : 0 + 0 ≤ _), (by decide : 0 + 0 ≤ _)⟩)
    dsimp only [Pt.U, Pt.locs, Pt.cells, Pt.slots] at X9 l9 y9 z9 st9 hQ9
    subst l9 y9 z9
    obtain ⟨rfl, Nq9, e9, f9_0⟩ := hQ9
    have N9 := Fr.app N6 Nq9
    have pre10 : ∀ t, Steps p.tables e below (T9.setTop (mkF m 38 #[.val (.ref r0), .val (.ref r1), .val (.int (1 : Int32)), .val (.ref el_w_elementData_w_loads_r0_0)] [y3])) t → Steps p.tables e below (s₁.setTop (entryFrame m #[(.ref r0), (.ref r1)] 4)) t := by
      intro t k
      refine pre7 _ ?_
      show Steps p.tables e below (T6.setTop (mkF m 31 #[.val (.ref r0), .val (.ref r1), .val (.int (1 : Int32)), .val (.ref el_w_elementData_w_loads_r0_0)] [(.ref r1), (.ref y2)])) _
      refine Jvm.RoadKit.acmp (g := (mkF m 31 #[.val (.ref r0), .val (.ref r1), .val (.int (1 : Int32)), .val (.ref el_w_elementData_w_loads_r0_0)] [(.ref r1), (.ref y2)])) X6 hx rfl rfl rfl (pc0 := 31) (pc' := 34) (same := true) rfl (hb hby d10_31) rfl (decide_eq_true (congrArg Value.ref hc31_8)) (by decide) (by decide) ?_
      show Steps p.tables e below (T6.setTop (mkF m 34 #[.val (.ref r0), .val (.ref r1), .val (.int (1 : Int32)), .val (.ref el_w_elementData_w_loads_r0_0)] [])) _
      refine XS.aloadN X6.here hx rfl (hb hby d10_34) rfl rfl ?_
      show Steps p.tables e below (T6.setTop (mkF m 35 #[.val (.ref r0), .val (.ref r1), .val (.int (1 : Int32)), .val (.ref el_w_elementData_w_loads_r0_0)] [(.ref el_w_elementData_w_loads_r0_0)])) _
      refine st9.trans ?_
      exact k
    obtain ⟨fs, hr, hrun, hended, hW, hsame⟩ := X9.leave (v := some y3) (fun h => by rw [Bd.returns] at h; cases h)
    refine ⟨_, _, pre10 _ ?_, hrun, hended, _, _, rfl, ?_, ⟨_, rfl⟩, hW, hsame.mono (by decide) (by decide)⟩
    · show Steps p.tables e below (T9.setTop (mkF m 38 #[.val (.ref r0), .val (.ref r1), .val (.int (1 : Int32)), .val (.ref el_w_elementData_w_loads_r0_0)] [y3])) _
      exact areturnOut X9 hx f9_0 Bd.returns rfl (hb hby d10_38) hr
    · show Q10b Z r0 r1 y1 y4 y14 el_w_elementData_w_loads_r0_0 y2 y3 y19 el_w_elementData_w_loads_r0_1 y6 y8 h0 n0 _ T9.heap _
      rw [e9]
      exact ⟨congrArg some (show (own_r10b r1 y2 y3 y6 y8) = y3 from (if_pos hc31_8)).symm, N9, rfl, (by rw [show (own_r10b r1 y2 y3 y6 y8) = y3 from (if_pos hc31_8)]; exact f9_0)⟩
  · obtain ⟨T11, X11, e11, st11⟩ := getF X6 hx hZ hown (host := "") (Or.inl (hw _ (List.mem_of_getElem? (i := 82) rfl))) Via.refl e6 y24 (g := (mkF m 15 #[.val (.ref r0), .val (.ref r1), .val (.int (0 : Int32)), .val (.ref el_w_elementData_w_loads_r0_0)] [(.ref r0)])) rfl rfl (hb hby d10_15)
    obtain ⟨cq12, kq12, q12a, q12b, q12c⟩ := isOf hZ e11 y16
    obtain ⟨_, _, ⟨T12, L12, k12, n12⟩, -, X12, ⟨Lc12, hQ12, l12, y12, z12⟩, st12⟩ := X11.virtualBack hx (y := own_y2) (z := own_y2) hown (mvT hZ (hw _ (List.mem_of_getElem? (i := 142) rfl))) (mvT hZ (hw _ (List.mem_of_getElem? (i := 143) rfl))) (notFace_of_selects (args := #[]) (mvT hZ (hw _ (List.mem_of_getElem? (i := 145) rfl)))) (mvT hZ (hw _ (List.mem_of_getElem? (i := 145) rfl))) (mvT hZ (hw _ (List.mem_of_getElem? (i := 144) rfl))) (by decide) (backOf (W := 0) (rm19 l Z a0 hw [] y1 (0 : Int32) (2 : Int32) y4 y19 el_w_elementData_w_loads_r0_1 h0 n0 (Nat.le_trans Z0 (Keep.refl h0 []).1) y26 (by decide) (by decide) y30 ⟨Aa_w_elementData_w_loads_r0_1.1, Aa_w_elementData_w_loads_r0_1.2.1, Aa_w_elementData_w_loads_r0_1.2.2⟩ y16) hZ (hw _ (List.mem_of_getElem? (i := 146) rfl)) (hw _ (List.mem_of_getElem? (i := 60) rfl)) (by decide) (by decide)) q12a q12c (g := (mkF m 19 #[.val (.ref r0), .val (.ref r1), .val (.int (0 : Int32)), .val (.ref el_w_elementData_w_loads_r0_0)] [(.int (0 : Int32)), (.ref y1)])) rfl (by rw [hml]; rfl) (Steps.refl _) (argsL := [(.int (0 : Int32))]) (rest := []) (lenOf pd_13 rfl) rfl (by show 2 * 0 + _ ≤ _; exact Nat.le_of_eq rfl) (hb hby d10_19) (fun _ _ => ⟨rfl, e11, (by decide : 0 + 0 ≤ _), (by decide : 0 + 0 ≤ _)⟩)
    dsimp only [Pt.U, Pt.locs, Pt.cells, Pt.slots] at X12 l12 y12 z12 st12 hQ12
    subst l12 y12 z12
    obtain ⟨rfl, Nq12, e12⟩ := hQ12
    have N12 := Fr.app N6 Nq12
    obtain ⟨T13, X13, e13, st13⟩ := castY X12 hx hZ hown (hw _ (List.mem_of_getElem? (i := 101) rfl)) e12 (Ins.self y39) (g := (mkF m 22 #[.val (.ref r0), .val (.ref r1), .val (.int (0 : Int32)), .val (.ref el_w_elementData_w_loads_r0_0)] [(.ref el_w_elementData_w_loads_r0_1)])) rfl rfl (hb hby d10_22)
    obtain ⟨cq14, kq14, q14a, q14b, q14c⟩ := isOf hZ e13 y39
    obtain ⟨_, _, ⟨T14, L14, k14, n14⟩, -, X14, ⟨Lc14, hQ14, l14, y14, z14⟩, st14⟩ := X13.virtualBack hx (y := own_y3) (z := own_y3) hown (mvT hZ (hw _ (List.mem_of_getElem? (i := 161) rfl))) (mvT hZ (hw _ (List.mem_of_getElem? (i := 162) rfl))) (notFace_of_selects (args := #[]) (mvT hZ (hw _ (List.mem_of_getElem? (i := 164) rfl)))) (mvT hZ (hw _ (List.mem_of_getElem? (i := 164) rfl))) (mvT hZ (hw _ (List.mem_of_getElem? (i := 163) rfl))) (by decide) (backOf (W := 0) (rm23 l Z a0 hw [] el_w_elementData_w_loads_r0_1 y6 h0 n0 (Nat.le_trans Z0 (Keep.refl h0 []).1) y58) hZ (hw _ (List.mem_of_getElem? (i := 165) rfl)) (hw _ (List.mem_of_getElem? (i := 103) rfl)) (by decide) (by decide)) q14a q14c (g := (mkF m 27 #[.val (.ref r0), .val (.ref r1), .val (.int (0 : Int32)), .val (.ref el_w_elementData_w_loads_r0_1)] [(.ref el_w_elementData_w_loads_r0_1)])) rfl (by rw [hml]; rfl) (Steps.refl _) (argsL := []) (rest := []) (lenOf pd_14 rfl) rfl (by show 2 * 0 + _ ≤ _; exact Nat.le_of_eq rfl) (hb hby d10_27) (fun _ _ => ⟨rfl, e13, (by decide : 0 + 0 ≤ _), (by decide : 0 + 0 ≤ _)⟩)
    dsimp only [Pt.U, Pt.locs, Pt.cells, Pt.slots] at X14 l14 y14 z14 st14 hQ14
    subst l14 y14 z14
    obtain ⟨rfl, Nq14, e14⟩ := hQ14
    have N14 := Fr.app N12 Nq14
    have pre15 : ∀ t, Steps p.tables e below (T14.setTop (mkF m 31 #[.val (.ref r0), .val (.ref r1), .val (.int (0 : Int32)), .val (.ref el_w_elementData_w_loads_r0_1)] [(.ref r1), (.ref y6)])) t → Steps p.tables e below (s₁.setTop (entryFrame m #[(.ref r0), (.ref r1)] 4)) t := by
      intro t k
      refine pre7 _ ?_
      show Steps p.tables e below (T6.setTop (mkF m 31 #[.val (.ref r0), .val (.ref r1), .val (.int (1 : Int32)), .val (.ref el_w_elementData_w_loads_r0_0)] [(.ref r1), (.ref y2)])) _
      refine Jvm.RoadKit.acmp (g := (mkF m 31 #[.val (.ref r0), .val (.ref r1), .val (.int (1 : Int32)), .val (.ref el_w_elementData_w_loads_r0_0)] [(.ref r1), (.ref y2)])) X6 hx rfl rfl rfl (pc0 := 31) (pc' := 39) (same := false) rfl (hb hby d10_31) rfl (decide_eq_false fun q => hc31_8 (Value.ref.inj q)) (by decide) (by decide) ?_
      show Steps p.tables e below (T6.setTop (mkF m 39 #[.val (.ref r0), .val (.ref r1), .val (.int (1 : Int32)), .val (.ref el_w_elementData_w_loads_r0_0)] [])) _
      refine XS.iinc X6.here hx rfl (hb hby d10_39) rfl (l' := #[.val (.ref r0), .val (.ref r1), .val (.int (0 : Int32)), .val (.ref el_w_elementData_w_loads_r0_0)]) rfl ?_
      refine XS.goto X6.here hx rfl (pc0 := 42) (pc' := 10) rfl (hb hby d10_42) (by decide) (by decide) ?_
      show Steps p.tables e below (T6.setTop (mkF m 10 #[.val (.ref r0), .val (.ref r1), .val (.int (0 : Int32)), .val (.ref el_w_elementData_w_loads_r0_0)] [])) _
      refine XS.iloadN X6.here hx rfl (hb hby d10_10) rfl ?_
      refine XS.ifNo X6.here hx rfl (hb hby d10_11) rfl ((if0 _ _).trans (flt (by decide : ¬ ((0 : Int32) < (0 : Int32)))).1) ?_
      show Steps p.tables e below (T6.setTop (mkF m 14 #[.val (.ref r0), .val (.ref r1), .val (.int (0 : Int32)), .val (.ref el_w_elementData_w_loads_r0_0)] [])) _
      refine XS.aloadN X6.here hx rfl (hb hby d10_14) rfl rfl ?_
      show Steps p.tables e below (T6.setTop (mkF m 15 #[.val (.ref r0), .val (.ref r1), .val (.int (0 : Int32)), .val (.ref el_w_elementData_w_loads_r0_0)] [(.ref r0)])) _
      refine st11 _ ?_
      show Steps p.tables e below (T11.setTop (mkF m 18 #[.val (.ref r0), .val (.ref r1), .val (.int (0 : Int32)), .val (.ref el_w_elementData_w_loads_r0_0)] [(.ref y1)])) _
      refine XS.iloadN X11.here hx rfl (hb hby d10_18) rfl ?_
      show Steps p.tables e below (T11.setTop (mkF m 19 #[.val (.ref r0), .val (.ref r1), .val (.int (0 : Int32)), .val (.ref el_w_elementData_w_loads_r0_0)] [(.int (0 : Int32)), (.ref y1)])) _
      refine st12.trans ?_
      show Steps p.tables e below (T12.setTop (mkF m 22 #[.val (.ref r0), .val (.ref r1), .val (.int (0 : Int32)), .val (.ref el_w_elementData_w_loads_r0_0)] [(.ref el_w_elementData_w_loads_r0_1)])) _
      refine st13 _ ?_
      show Steps p.tables e below (T13.setTop (mkF m 25 #[.val (.ref r0), .val (.ref r1), .val (.int (0 : Int32)), .val (.ref el_w_elementData_w_loads_r0_0)] [(.ref el_w_elementData_w_loads_r0_1)])) _
      refine XS.astoreN X13.here hx rfl (hb hby d10_25) rfl rfl (l' := #[.val (.ref r0), .val (.ref r1), .val (.int (0 : Int32)), .val (.ref el_w_elementData_w_loads_r0_1)]) rfl ?_
      refine XS.aloadN X13.here hx rfl (hb hby d10_26) rfl rfl ?_
      show Steps p.tables e below (T13.setTop (mkF m 27 #[.val (.ref r0), .val (.ref r1), .val (.int (0 : Int32)), .val (.ref el_w_elementData_w_loads_r0_1)] [(.ref el_w_elementData_w_loads_r0_1)])) _
      refine st14.trans ?_
      show Steps p.tables e below (T14.setTop (mkF m 30 #[.val (.ref r0), .val (.ref r1), .val (.int (0 : Int32)), .val (.ref el_w_elementData_w_loads_r0_1)] [(.ref y6)])) _
      refine XS.aloadN X14.here hx rfl (hb hby d10_30) rfl rfl ?_
      exact k
    by_cases hc31_16 : y6 = r1
    · obtain ⟨cq17, kq17, q17a, q17b, q17c⟩ := isOf hZ e14 y39
      obtain ⟨_, _, ⟨T17, L17, k17, n17⟩, -, X17, ⟨Lc17, hQ17, l17, y17, z17⟩, st17⟩ := X14.virtualBack hx (y := own_y4) (z := own_y4) hown (mvT hZ (hw _ (List.mem_of_getElem? (i := 166) rfl))) (mvT hZ (hw _ (List.mem_of_getElem? (i := 167) rfl))) (notFace_of_selects (args := #[]) (mvT hZ (hw _ (List.mem_of_getElem? (i := 169) rfl)))) (mvT hZ (hw _ (List.mem_of_getElem? (i := 169) rfl))) (mvT hZ (hw _ (List.mem_of_getElem? (i := 168) rfl))) (by decide) (backOf (W := 0) (rm24 l Z a0 hw [] el_w_elementData_w_loads_r0_1 y8 h0 n0 (Nat.le_trans Z0 (Keep.refl h0 []).1) y59 y60) hZ (hw _ (List.mem_of_getElem? (i := 170) rfl)) (hw _ (List.mem_of_getElem? (i := 103) rfl)) (by decide) (by decide)) q17a q17c (g := (mkF m 35 #[.val (.ref r0), .val (.ref r1), .val (.int (0 : Int32)), .val (.ref el_w_elementData_w_loads_r0_1)] [(.ref el_w_elementData_w_loads_r0_1)])) rfl (by rw [hml]; rfl) (Steps.refl _) (argsL := []) (rest := []) (lenOf pd_3 rfl) rfl (by show 2 * 0 + _ ≤ _; exact Nat.le_of_eq rfl) (hb hby d10_35) (fun _ _ => ⟨rfl, e14, (by decide : 0 + 0 ≤ _), (by decide : 0 + 0 ≤ _)⟩)
      dsimp only [Pt.U, Pt.locs, Pt.cells, Pt.slots] at X17 l17 y17 z17 st17 hQ17
      subst l17 y17 z17
      obtain ⟨rfl, Nq17, e17, f17_0⟩ := hQ17
      have N17 := Fr.app N14 Nq17
      have pre18 : ∀ t, Steps p.tables e below (T17.setTop (mkF m 38 #[.val (.ref r0), .val (.ref r1), .val (.int (0 : Int32)), .val (.ref el_w_elementData_w_loads_r0_1)] [y8])) t → Steps p.tables e below (s₁.setTop (entryFrame m #[(.ref r0), (.ref r1)] 4)) t := by
        intro t k
        refine pre15 _ ?_
        show Steps p.tables e below (T14.setTop (mkF m 31 #[.val (.ref r0), .val (.ref r1), .val (.int (0 : Int32)), .val (.ref el_w_elementData_w_loads_r0_1)] [(.ref r1), (.ref y6)])) _
        refine Jvm.RoadKit.acmp (g := (mkF m 31 #[.val (.ref r0), .val (.ref r1), .val (.int (0 : Int32)), .val (.ref el_w_elementData_w_loads_r0_1)] [(.ref r1), (.ref y6)])) X14 hx rfl rfl rfl (pc0 := 31) (pc' := 34) (same := true) rfl (hb hby d10_31) rfl (decide_eq_true (congrArg Value.ref hc31_16)) (by decide) (by decide) ?_
        show Steps p.tables e below (T14.setTop (mkF m 34 #[.val (.ref r0), .val (.ref r1), .val (.int (0 : Int32)), .val (.ref el_w_elementData_w_loads_r0_1)] [])) _
        refine XS.aloadN X14.here hx rfl (hb hby d10_34) rfl rfl ?_
        show Steps p.tables e below (T14.setTop (mkF m 35 #[.val (.ref r0), .val (.ref r1), .val (.int (0 : Int32)), .val (.ref el_w_elementData_w_loads_r0_1)] [(.ref el_w_elementData_w_loads_r0_1)])) _
        refine st17.trans ?_
        exact k
      obtain ⟨fs, hr, hrun, hended, hW, hsame⟩ := X17.leave (v := some y8) (fun h => by rw [Bd.returns] at h; cases h)
      refine ⟨_, _, pre18 _ ?_, hrun, hended, _, _, rfl, ?_, ⟨_, rfl⟩, hW, hsame.mono (by decide) (by decide)⟩
      · show Steps p.tables e below (T17.setTop (mkF m 38 #[.val (.ref r0), .val (.ref r1), .val (.int (0 : Int32)), .val (.ref el_w_elementData_w_loads_r0_1)] [y8])) _
        exact areturnOut X17 hx f17_0 Bd.returns rfl (hb hby d10_38) hr
      · show Q10b Z r0 r1 y1 y4 y14 el_w_elementData_w_loads_r0_0 y2 y3 y19 el_w_elementData_w_loads_r0_1 y6 y8 h0 n0 _ T17.heap _
        rw [e17]
        exact ⟨congrArg some (show (own_r10b r1 y2 y3 y6 y8) = y8 from ((if_neg hc31_8).trans (if_pos hc31_16))).symm, N17, rfl, (by rw [show (own_r10b r1 y2 y3 y6 y8) = y8 from ((if_neg hc31_8).trans (if_pos hc31_16))]; exact f17_0)⟩
    · have pre19 : ∀ t, Steps p.tables e below (T14.setTop (mkF m 46 #[.val (.ref r0), .val (.ref r1), .val (.int (-1 : Int32)), .val (.ref el_w_elementData_w_loads_r0_1)] [.null])) t → Steps p.tables e below (s₁.setTop (entryFrame m #[(.ref r0), (.ref r1)] 4)) t := by
        intro t k
        refine pre15 _ ?_
        show Steps p.tables e below (T14.setTop (mkF m 31 #[.val (.ref r0), .val (.ref r1), .val (.int (0 : Int32)), .val (.ref el_w_elementData_w_loads_r0_1)] [(.ref r1), (.ref y6)])) _
        refine Jvm.RoadKit.acmp (g := (mkF m 31 #[.val (.ref r0), .val (.ref r1), .val (.int (0 : Int32)), .val (.ref el_w_elementData_w_loads_r0_1)] [(.ref r1), (.ref y6)])) X14 hx rfl rfl rfl (pc0 := 31) (pc' := 39) (same := false) rfl (hb hby d10_31) rfl (decide_eq_false fun q => hc31_16 (Value.ref.inj q)) (by decide) (by decide) ?_
        show Steps p.tables e below (T14.setTop (mkF m 39 #[.val (.ref r0), .val (.ref r1), .val (.int (0 : Int32)), .val (.ref el_w_elementData_w_loads_r0_1)] [])) _
        refine XS.iinc X14.here hx rfl (hb hby d10_39) rfl (l' := #[.val (.ref r0), .val (.ref r1), .val (.int (-1 : Int32)), .val (.ref el_w_elementData_w_loads_r0_1)]) rfl ?_
        refine XS.goto X14.here hx rfl (pc0 := 42) (pc' := 10) rfl (hb hby d10_42) (by decide) (by decide) ?_
        show Steps p.tables e below (T14.setTop (mkF m 10 #[.val (.ref r0), .val (.ref r1), .val (.int (-1 : Int32)), .val (.ref el_w_elementData_w_loads_r0_1)] [])) _
        refine XS.iloadN X14.here hx rfl (hb hby d10_10) rfl ?_
        refine XS.ifYes X14.here hx rfl (pc0 := 11) (pc' := 45) rfl (hb hby d10_11) rfl ((if0 _ _).trans (tlt (by decide : (-1 : Int32) < (0 : Int32))).1) (by decide) (by decide) ?_
        show Steps p.tables e below (T14.setTop (mkF m 45 #[.val (.ref r0), .val (.ref r1), .val (.int (-1 : Int32)), .val (.ref el_w_elementData_w_loads_r0_1)] [])) _
        refine XS.aconstNull X14.here hx rfl (hb hby d10_45) ?_
        exact k
      obtain ⟨fs, hr, hrun, hended, hW, hsame⟩ := X14.leave (v := some .null) (fun h => by rw [Bd.returns] at h; cases h)
      refine ⟨_, _, pre19 _ ?_, hrun, hended, _, _, rfl, ?_, ⟨_, rfl⟩, hW, hsame.mono (by decide) (by decide)⟩
      · show Steps p.tables e below (T14.setTop (mkF m 46 #[.val (.ref r0), .val (.ref r1), .val (.int (-1 : Int32)), .val (.ref el_w_elementData_w_loads_r0_1)] [.null])) _
        exact areturnOut X14 hx rfl Bd.returns rfl (hb hby d10_46) hr
      · show Q10b Z r0 r1 y1 y4 y14 el_w_elementData_w_loads_r0_0 y2 y3 y19 el_w_elementData_w_loads_r0_1 y6 y8 h0 n0 _ T14.heap _
        rw [e14]
        exact ⟨congrArg some (show (own_r10b r1 y2 y3 y6 y8) = Value.null from ((if_neg hc31_8).trans (if_neg hc31_16))).symm, N14, rfl, (by rw [show (own_r10b r1 y2 y3 y6 y8) = Value.null from ((if_neg hc31_8).trans (if_neg hc31_16))]; exact rfl)⟩
def Q15b (Z : State) (r0 : Addr) (r1 : Addr) (r2 : Addr) (y12 : Value) (y22 : Value) (e0_r2 : Addr) (e1_r2 : Addr) (k_r2 : ClassId) (y17 : Value) (h0 : Heap) (n0 : Nat) (v : Option Value) (h : Heap) (L : List Loc) : Prop := v = none ∧ Fr n0 L ∧ Keep h0 h [r2, r0] ∧ Arv Z h r2 k_r2 (.object "java/lang/Object") (10 : Int32) [(.ref e0_r2), (.ref e1_r2), (.ref r1), .null, .null, .null, .null, .null, .null, .null] .null ∧ Exa Z h r0 "java/util/ArrayList" ∧ Fld Z h r0 "java/util/ArrayList" "size" "I" (.int (3 : Int32)) ∧ Fld Z h r0 "java/util/AbstractList" "modCount" "I" y12 ∧ Fld Z h r0 "java/util/ArrayList" "elementData" "[Ljava/lang/Object;" y22 ∧ Ovr Z k_r2 "java/lang/Object"
theorem ef_15b (m : MethodId) (x0 : Addr) (x1 : Addr) (x2 : Addr) : entryFrame m #[(.ref x0), (.ref x1), (.ref x2), (.int (2 : Int32))] 4 = mkF m 0 #[.val (.ref x0), .val (.ref x1), .val (.ref x2), .val (.int (2 : Int32))] [] := by first | (simp [entryFrame, mkF, argsToLocals, Value.category]; done) | rfl
set_option maxRecDepth 65536 in
set_option maxHeartbeats 40000000 in
theorem rm15b (l : Launch) (Z : State) (a0 : Array Value) (hw : ∀ d ∈ tables_1, d.before a0 Z = true) (ws : List Jvm.Cond) (r0 : Addr) (r1 : Addr) (r2 : Addr) (y12 : Value) (y22 : Value) (e0_r2 : Addr) (e1_r2 : Addr) (k_r2 : ClassId) (y17 : Value) (h0 : Heap) (n0 : Nat) (Z0 : n0 ≤ h0.size) (y18 : Fld Z h0 r0 "java/util/AbstractList" "modCount" "I" y12) (y23 : Fld Z h0 r0 "java/util/ArrayList" "elementData" "[Ljava/lang/Object;" y22) (O_r2 : Ovr Z k_r2 "java/lang/Object") (V_r2 : Arv Z h0 r2 k_r2 (.object "java/lang/Object") (10 : Int32) [(.ref e0_r2), (.ref e1_r2), .null, .null, .null, .null, .null, .null, .null, .null] .null) (E_r1 : Exa Z h0 r1 "com/example/fetchwright/fetchwright/service/LoadsInProgress$Load") (g_r2 : n0 ≤ r2) (E_r0 : Exa Z h0 r0 "java/util/ArrayList") (y15 : Fld Z h0 r0 "java/util/ArrayList" "size" "I" y17) (ne_r0_r2 : r0 ≠ r2) (g_r0 : n0 ≤ r0) :
    MetFree l own_y8 (head1 (Jvm.Cond.code own_y8 jdk_38_method_24_code 4 none :: ws) ({ frames := 0, cells := 0, slots := 0, locals := 0 } : Room)) (fun a U => a = #[(.ref r0), (.ref r1), (.ref r2), (.int (2 : Int32))] ∧ Z.Warmed39 U.vm ∧ U.heap = h0) (fun _ _ _ _ _ => True) (fun _ U o U' => ∃ v L, o = .returned v ∧ Q15b Z r0 r1 r2 y12 y22 e0_r2 e1_r2 k_r2 y17 h0 n0 v U'.heap L ∧ FrameEnd U o U' L ({ frames := 0, cells := 0, slots := 0, locals := 0 } : Room).cells ({ frames := 0, cells := 0, slots := 0, locals := 0 } : Room).slots) := by
  refine MetFree.of_bodySF (plainFor_of_name pn_5) hisR ?_
  intro p e s m args below meth c s₁ Bd hml0 hP hK
  obtain ⟨rfl, hZ, hh⟩ := hP
  have hx := Bd.exec
  have hby := Bd.bytes
  have hml : c.maxLocals = 4 := hml0
  have hown : s.vm.findClass "java/util/ArrayList" = some m.cls := findClass_of_methodNamed Bd.named
  have hnm := (name_of_methodNamed Bd.named Bd.method).1
  have X0 : Stand p l e ({ frames := 0, cells := 0, slots := 0, locals := 0 } : Room) s m #[(.ref r0), (.ref r1), (.ref r2), (.int (2 : Int32))] below meth c s₁ [] 0 0 := Stand.of_body Bd
  have e0 : s₁.heap = h0 := by rw [← hh, Bd.state]; rfl
  have N0 := Fr.nil n0
  have pre0 : ∀ t, Steps p.tables e below (s₁.setTop (mkF m 0 #[.val (.ref r0), .val (.ref r1), .val (.ref r2), .val (.int (2 : Int32))] [])) t → Steps p.tables e below (s₁.setTop (entryFrame m #[(.ref r0), (.ref r1), (.ref r2), (.int (2 : Int32))] 4)) t := fun t k => castTop (ef_15b m r0 r1 r2) k
  obtain ⟨cl1, Ar1, -, Sz1, Nn1, -, -⟩ := id V_r2
  obtain ⟨cl2, Ar2, Cq2, Sz2, Nn2, Hh2, Gg2⟩ := id V_r2
  have hin2 : ¬ ((2 : Int32) < 0 ∨ cl2.slots.size ≤ ((2 : Int32)).toNatClampNeg) := inb_of Sz2 ⟨by decide, by decide⟩
  obtain ⟨T2, h2, X2, e2, W2, st2⟩ := stR X0 hx hZ e0 Ar2 (j := (2 : Int32)) hin2 rfl (Sto.ofV Ar2 Cq2 O_r2 (Ins.of_exa E_r1 (hw _ (List.mem_of_getElem? (i := 141) rfl)))) (g := (mkF m 14 #[.val (.ref r0), .val (.ref r1), .val (.ref r2), .val (.int (2 : Int32))] [(.ref r1), (.int (2 : Int32)), (.ref r2)])) rfl rfl (hb hby d15_14)
  have V2 : Arv Z h2 r2 k_r2 (.object "java/lang/Object") (10 : Int32) [(.ref e0_r2), (.ref e1_r2), (.ref r1), .null, .null, .null, .null, .null, .null, .null] .null := Arv.set Ar2 Cq2 Sz2 Nn2 Hh2 Gg2 rfl W2 2 rfl (Nat.le_of_ble_eq_true rfl)
  have N2 := Fr.snoc X2 N0 g_r2
  have K3 : Keep h0 h2 [r2, r0] := (Keep.refl h0 [r2, r0]).wr W2 (Or.inl (List.mem_of_getElem? (i := 0) rfl))
  have f4 := (E_r0.wr W2)
  have f5 := (y15.other W2 (Or.inl ne_r0_r2))
  obtain ⟨T6, h6, X6, e6, W6, st6⟩ := putF X2 hx hZ hown (host := "") (Or.inl (hw _ (List.mem_of_getElem? (i := 94) rfl))) Via.refl e2 f5 f4 (Or.inl (hw _ (List.mem_of_getElem? (i := 95) rfl))) (hw _ (List.mem_of_getElem? (i := 59) rfl)) (ty := .int) (by decide) rfl rfl (g := (mkF m 19 #[.val (.ref r0), .val (.ref r1), .val (.ref r2), .val (.int (2 : Int32))] [(.int (3 : Int32)), (.ref r0)])) rfl rfl (hb hby d15_19)
  have N6 := Fr.snoc X6 N2 g_r0
  have K7 : Keep h0 h6 [r2, r0] := K3.wr W6 (Or.inl (List.mem_of_getElem? (i := 1) rfl))
  have F6 := f5.same W6
  have pre8 : ∀ t, Steps p.tables e below (T6.setTop (mkF m 22 #[.val (.ref r0), .val (.ref r1), .val (.ref r2), .val (.int (2 : Int32))] [])) t → Steps p.tables e below (s₁.setTop (entryFrame m #[(.ref r0), (.ref r1), (.ref r2), (.int (2 : Int32))] 4)) t := by
    intro t k
    refine pre0 _ ?_
    show Steps p.tables e below (s₁.setTop (mkF m 0 #[.val (.ref r0), .val (.ref r1), .val (.ref r2), .val (.int (2 : Int32))] [])) _
    refine XS.iloadN X0.here hx rfl (hb hby d15_0) rfl ?_
    refine XS.aloadN X0.here hx rfl (hb hby d15_1) rfl rfl ?_
    show Steps p.tables e below (s₁.setTop (mkF m 2 #[.val (.ref r0), .val (.ref r1), .val (.ref r2), .val (.int (2 : Int32))] [(.ref r2), (.int (2 : Int32))])) _
    refine X0.arraylength hx (by rw [e0]; exact Ar1.1) (State.isArrayOf_alike hZ.alike Ar1.2.1) (g := (mkF m 2 #[.val (.ref r0), .val (.ref r1), .val (.ref r2), .val (.int (2 : Int32))] [(.ref r2), (.int (2 : Int32))])) rfl rfl (hb hby d15_2) _ ?_
    rw [len_of Sz1 Nn1]
    show Steps p.tables e below (s₁.setTop (mkF m 3 #[.val (.ref r0), .val (.ref r1), .val (.ref r2), .val (.int (2 : Int32))] [(.int (10 : Int32)), (.int (2 : Int32))])) _
    refine XS.icmpYes X0.here hx rfl (pc0 := 3) (pc' := 11) rfl (hb hby d15_3) rfl (feq (by decide : ¬ ((2 : Int32) = (10 : Int32)))).2 (by decide) (by decide) ?_
    refine XS.aloadN X0.here hx rfl (hb hby d15_11) rfl rfl ?_
    show Steps p.tables e below (s₁.setTop (mkF m 12 #[.val (.ref r0), .val (.ref r1), .val (.ref r2), .val (.int (2 : Int32))] [(.ref r2)])) _
    refine XS.iloadN X0.here hx rfl (hb hby d15_12) rfl ?_
    refine XS.aloadN X0.here hx rfl (hb hby d15_13) rfl rfl ?_
    show Steps p.tables e below (s₁.setTop (mkF m 14 #[.val (.ref r0), .val (.ref r1), .val (.ref r2), .val (.int (2 : Int32))] [(.ref r1), (.int (2 : Int32)), (.ref r2)])) _
    refine st2 _ ?_
    show Steps p.tables e below (T2.setTop (mkF m 15 #[.val (.ref r0), .val (.ref r1), .val (.ref r2), .val (.int (2 : Int32))] [])) _
    refine XS.aloadN X2.here hx rfl (hb hby d15_15) rfl rfl ?_
    refine XS.iloadN X2.here hx rfl (hb hby d15_16) rfl ?_
    show Steps p.tables e below (T2.setTop (mkF m 17 #[.val (.ref r0), .val (.ref r1), .val (.ref r2), .val (.int (2 : Int32))] [(.int (2 : Int32)), (.ref r0)])) _
    refine XS.iconst X2.here hx rfl (hb hby d15_17) ?_
    refine XS.iadd X2.here hx rfl (hb hby d15_18) rfl ?_
    show Steps p.tables e below (T2.setTop (mkF m 19 #[.val (.ref r0), .val (.ref r1), .val (.ref r2), .val (.int (2 : Int32))] [(.int (3 : Int32)), (.ref r0)])) _
    refine st6 _ ?_
    exact k
  have f9 := (V2.other W6 (Ne.symm ne_r0_r2))
  have f10 := (f4.wr W6)
  have f11 := ((y18.other W2 (Or.inl ne_r0_r2)).other W6 (Or.inr (slot_ne (Or.inl (hw _ (List.mem_of_getElem? (i := 78) rfl))) (Or.inl (hw _ (List.mem_of_getElem? (i := 95) rfl))) (by decide) (t := .int) (t' := .int) (by decide) (by decide))))
  have f12 := ((y23.other W2 (Or.inl ne_r0_r2)).other W6 (Or.inr (slot_ne (Or.inl (hw _ (List.mem_of_getElem? (i := 81) rfl))) (Or.inl (hw _ (List.mem_of_getElem? (i := 95) rfl))) (by decide) (t := (.array (.object "java/lang/Object"))) (t' := .int) (by decide) (by decide))))
  obtain ⟨fs, hr, hrun, hended, hW, hsame⟩ := X6.leave (v := none) (fun _ => rfl)
  refine ⟨_, _, pre8 _ ?_, hrun, hended, _, _, rfl, ?_, ⟨_, rfl⟩, hW, hsame.mono (by decide) (by decide)⟩
  · show Steps p.tables e below (T6.setTop (mkF m 22 #[.val (.ref r0), .val (.ref r1), .val (.ref r2), .val (.int (2 : Int32))] [])) _
    exact X6.returnOut hx Bd.returns (hb hby d15_22) hr
  · show Q15b Z r0 r1 r2 y12 y22 e0_r2 e1_r2 k_r2 y17 h0 n0 _ T6.heap _
    rw [e6]
    exact ⟨rfl, N6, K7, f9, f10, F6, f11, f12, O_r2⟩
def Q14b (Z : State) (r0 : Addr) (r1 : Addr) (y7 : Addr) (y31 : Addr) (y37 : Addr) (y27 : ClassId) (h0 : Heap) (n0 : Nat) (v : Option Value) (h : Heap) (L : List Loc) : Prop := v = some (.int (1 : Int32)) ∧ Fr n0 L ∧ Keep h0 h [r0, y7] ∧ Exa Z h r0 "java/util/ArrayList" ∧ Arv Z h y7 y27 (.object "java/lang/Object") (10 : Int32) [(.ref y31), (.ref y37), (.ref r1), .null, .null, .null, .null, .null, .null, .null] .null ∧ Fld Z h r0 "java/util/ArrayList" "size" "I" (.int (3 : Int32)) ∧ Fld Z h r0 "java/util/AbstractList" "modCount" "I" (.int (3 : Int32)) ∧ Fld Z h r0 "java/util/ArrayList" "elementData" "[Ljava/lang/Object;" (.ref y7) ∧ Ovr Z y27 "java/lang/Object"
theorem ef_14b (m : MethodId) (x0 : Addr) (x1 : Addr) : entryFrame m #[(.ref x0), (.ref x1)] 2 = mkF m 0 #[.val (.ref x0), .val (.ref x1)] [] := by first | (simp [entryFrame, mkF, argsToLocals, Value.category]; done) | rfl
set_option maxRecDepth 65536 in
set_option maxHeartbeats 40000000 in
theorem rm14b (l : Launch) (Z : State) (a0 : Array Value) (hw : ∀ d ∈ tables_1, d.before a0 Z = true) (ws : List Jvm.Cond) (r0 : Addr) (r1 : Addr) (y7 : Addr) (y31 : Addr) (y37 : Addr) (y27 : ClassId) (h0 : Heap) (n0 : Nat) (Z0 : n0 ≤ h0.size) (y18 : Fld Z h0 r0 "java/util/AbstractList" "modCount" "I" (.int (2 : Int32))) (E_r0 : Exa Z h0 r0 "java/util/ArrayList") (g_r0 : n0 ≤ r0) (y23 : Fld Z h0 r0 "java/util/ArrayList" "elementData" "[Ljava/lang/Object;" (.ref y7)) (y15 : Fld Z h0 r0 "java/util/ArrayList" "size" "I" (.int (2 : Int32))) (y52 : Ovr Z y27 "java/lang/Object") (y53 : Arv Z h0 y7 y27 (.object "java/lang/Object") (10 : Int32) [(.ref y31), (.ref y37), .null, .null, .null, .null, .null, .null, .null, .null] .null) (y44 : y7 ≠ r0) (E_r1 : Exa Z h0 r1 "com/example/fetchwright/fetchwright/service/LoadsInProgress$Load") (y54 : n0 ≤ y7) :
    MetFree l own_y7 (head1 (Jvm.Cond.code own_y7 jdk_38_method_25_code 2 (some .boolean) :: ws) ({ frames := 1, cells := 0, slots := 0, locals := 15 } : Room)) (fun a U => a = #[(.ref r0), (.ref r1)] ∧ Z.Warmed39 U.vm ∧ U.heap = h0) (fun _ _ _ _ _ => True) (fun _ U o U' => ∃ v L, o = .returned v ∧ Q14b Z r0 r1 y7 y31 y37 y27 h0 n0 v U'.heap L ∧ FrameEnd U o U' L ({ frames := 1, cells := 0, slots := 0, locals := 15 } : Room).cells ({ frames := 1, cells := 0, slots := 0, locals := 15 } : Room).slots) := by
  refine MetFree.of_bodySF (plainFor_of_name pn_5) hisR ?_
  intro p e s m args below meth c s₁ Bd hml0 hP hK
  obtain ⟨rfl, hZ, hh⟩ := hP
  have hx := Bd.exec
  have hby := Bd.bytes
  have hml : c.maxLocals = 2 := hml0
  have hown : s.vm.findClass "java/util/ArrayList" = some m.cls := findClass_of_methodNamed Bd.named
  have hnm := (name_of_methodNamed Bd.named Bd.method).1
  have X0 : Stand p l e ({ frames := 1, cells := 0, slots := 0, locals := 15 } : Room) s m #[(.ref r0), (.ref r1)] below meth c s₁ [] 0 0 := Stand.of_body Bd
  have e0 : s₁.heap = h0 := by rw [← hh, Bd.state]; rfl
  have N0 := Fr.nil n0
  have pre0 : ∀ t, Steps p.tables e below (s₁.setTop (mkF m 0 #[.val (.ref r0), .val (.ref r1)] [])) t → Steps p.tables e below (s₁.setTop (entryFrame m #[(.ref r0), (.ref r1)] 2)) t := fun t k => castTop (ef_14b m r0 r1) k
  obtain ⟨T1, X1, e1, st1⟩ := getF X0 hx hZ hown (host := "") (Or.inl (hw _ (List.mem_of_getElem? (i := 119) rfl))) (Via.of (hw _ (List.mem_of_getElem? (i := 120) rfl))) e0 y18 (g := (mkF m 2 #[.val (.ref r0), .val (.ref r1)] [(.ref r0), (.ref r0)])) rfl rfl (hb hby d14_2)
  obtain ⟨T2, h2, X2, e2, W2, st2⟩ := putF X1 hx hZ hown (host := "") (Or.inl (hw _ (List.mem_of_getElem? (i := 119) rfl))) (Via.of (hw _ (List.mem_of_getElem? (i := 120) rfl))) e1 y18 E_r0 (Or.inl (hw _ (List.mem_of_getElem? (i := 78) rfl))) (hw _ (List.mem_of_getElem? (i := 59) rfl)) (ty := .int) (by decide) rfl rfl (g := (mkF m 7 #[.val (.ref r0), .val (.ref r1)] [(.int (3 : Int32)), (.ref r0)])) rfl rfl (hb hby d14_7)
  have N2 := Fr.snoc X2 N0 g_r0
  have K3 : Keep h0 h2 [r0, y7] := (Keep.refl h0 [r0, y7]).wr W2 (Or.inl (List.mem_of_getElem? (i := 0) rfl))
  have F2 := y18.same W2
  have f4 := (y23.other W2 (Or.inr (slot_ne (Or.inl (hw _ (List.mem_of_getElem? (i := 81) rfl))) (Or.inl (hw _ (List.mem_of_getElem? (i := 78) rfl))) (by decide) (t := (.array (.object "java/lang/Object"))) (t' := .int) (by decide) (by decide))))
  obtain ⟨T5, X5, e5, st5⟩ := getF X2 hx hZ hown (host := "") (Or.inl (hw _ (List.mem_of_getElem? (i := 80) rfl))) Via.refl e2 f4 (g := (mkF m 13 #[.val (.ref r0), .val (.ref r1)] [(.ref r0), (.ref r1), (.ref r0)])) rfl rfl (hb hby d14_13)
  have f6 := (y15.other W2 (Or.inr (slot_ne (Or.inl (hw _ (List.mem_of_getElem? (i := 95) rfl))) (Or.inl (hw _ (List.mem_of_getElem? (i := 78) rfl))) (by decide) (t := .int) (t' := .int) (by decide) (by decide))))
  obtain ⟨T7, X7, e7, st7⟩ := getF X5 hx hZ hown (host := "") (Or.inl (hw _ (List.mem_of_getElem? (i := 94) rfl))) Via.refl e5 f6 (g := (mkF m 17 #[.val (.ref r0), .val (.ref r1)] [(.ref r0), (.ref y7), (.ref r1), (.ref r0)])) rfl rfl (hb hby d14_17)
  have f8 := (y53.other W2 y44)
  have f9 := (E_r1.wr W2)
  have f10 := (E_r0.wr W2)
  obtain ⟨cq11, q11, q11'⟩ := f10.cell
  obtain ⟨_, _, ⟨T11, L11, k11, n11⟩, -, X11, ⟨Lc11, hQ11, l11, y11, z11⟩, st11⟩ := X7.privateBack hx (y := own_y8) hown (mvT hZ (hw _ (List.mem_of_getElem? (i := 121) rfl))) (mvT hZ (hw _ (List.mem_of_getElem? (i := 122) rfl))) (mvT hZ (hw _ (List.mem_of_getElem? (i := 124) rfl))) (Cond.privateMethod_at (mvP hZ (hw _ (List.mem_of_getElem? (i := 123) rfl)) (args := #[]))) (mvT hZ (hw _ (List.mem_of_getElem? (i := 125) rfl))) (by decide) (backOf (W := 0) (rm15b l Z a0 hw [] r0 r1 y7 (.int (3 : Int32)) (.ref y7) y31 y37 y27 (.int (2 : Int32)) h2 n0 (Nat.le_trans Z0 K3.1) F2 f4 y52 f8 f9 y54 f10 f6 (Ne.symm y44) g_r0) hZ (hw _ (List.mem_of_getElem? (i := 125) rfl)) (hw _ (List.mem_of_getElem? (i := 60) rfl)) (by decide) (by decide)) (g := (mkF m 20 #[.val (.ref r0), .val (.ref r1)] [(.int (2 : Int32)), (.ref y7), (.ref r1), (.ref r0)])) rfl (by rw [hml]; rfl) (Steps.refl _) (a := r0) (by rw [e7]; exact q11) q11' (argsL := [(.ref r1), (.ref y7), (.int (2 : Int32))]) (rest := []) (lenOf pd_10 rfl) rfl (by show 2 * 0 + _ ≤ _; exact Nat.le_of_eq rfl) (hb hby d14_20) (fun _ _ => ⟨rfl, e7, (by decide : 0 + 0 ≤ _), (by decide : 0 + 0 ≤ _)⟩)
  dsimp only [Pt.U, Pt.locs, Pt.cells, Pt.slots] at X11 l11 y11 z11 st11 hQ11
  subst l11 y11 z11
  obtain ⟨rfl, Nq11, Kq11, f11_0, f11_1, f11_2, f11_3, f11_4, f11_5⟩ := hQ11
  have K12 : Keep h0 T11.heap [r0, y7] := K3.trans Kq11 (allS (Or.inl (List.mem_of_getElem? (i := 1) rfl)) (allS (Or.inl (List.mem_of_getElem? (i := 0) rfl)) all0))
  have N11 := Fr.app N2 Nq11
  have pre13 : ∀ t, Steps p.tables e below (T11.setTop (mkF m 24 #[.val (.ref r0), .val (.ref r1)] [(.int (1 : Int32))])) t → Steps p.tables e below (s₁.setTop (entryFrame m #[(.ref r0), (.ref r1)] 2)) t := by
    intro t k
    refine pre0 _ ?_
    show Steps p.tables e below (s₁.setTop (mkF m 0 #[.val (.ref r0), .val (.ref r1)] [])) _
    refine XS.aloadN X0.here hx rfl (hb hby d14_0) rfl rfl ?_
    refine XS.dup X0.here hx rfl (hb hby d14_1) rfl rfl ?_
    show Steps p.tables e below (s₁.setTop (mkF m 2 #[.val (.ref r0), .val (.ref r1)] [(.ref r0), (.ref r0)])) _
    refine st1 _ ?_
    show Steps p.tables e below (T1.setTop (mkF m 5 #[.val (.ref r0), .val (.ref r1)] [(.int (2 : Int32)), (.ref r0)])) _
    refine XS.iconst X1.here hx rfl (hb hby d14_5) ?_
    refine XS.iadd X1.here hx rfl (hb hby d14_6) rfl ?_
    show Steps p.tables e below (T1.setTop (mkF m 7 #[.val (.ref r0), .val (.ref r1)] [(.int (3 : Int32)), (.ref r0)])) _
    refine st2 _ ?_
    show Steps p.tables e below (T2.setTop (mkF m 10 #[.val (.ref r0), .val (.ref r1)] [])) _
    refine XS.aloadN X2.here hx rfl (hb hby d14_10) rfl rfl ?_
    refine XS.aloadN X2.here hx rfl (hb hby d14_11) rfl rfl ?_
    show Steps p.tables e below (T2.setTop (mkF m 12 #[.val (.ref r0), .val (.ref r1)] [(.ref r1), (.ref r0)])) _
    refine XS.aloadN X2.here hx rfl (hb hby d14_12) rfl rfl ?_
    show Steps p.tables e below (T2.setTop (mkF m 13 #[.val (.ref r0), .val (.ref r1)] [(.ref r0), (.ref r1), (.ref r0)])) _
    refine st5 _ ?_
    show Steps p.tables e below (T5.setTop (mkF m 16 #[.val (.ref r0), .val (.ref r1)] [(.ref y7), (.ref r1), (.ref r0)])) _
    refine XS.aloadN X5.here hx rfl (hb hby d14_16) rfl rfl ?_
    show Steps p.tables e below (T5.setTop (mkF m 17 #[.val (.ref r0), .val (.ref r1)] [(.ref r0), (.ref y7), (.ref r1), (.ref r0)])) _
    refine st7 _ ?_
    show Steps p.tables e below (T7.setTop (mkF m 20 #[.val (.ref r0), .val (.ref r1)] [(.int (2 : Int32)), (.ref y7), (.ref r1), (.ref r0)])) _
    refine st11.trans ?_
    show Steps p.tables e below (T11.setTop (mkF m 23 #[.val (.ref r0), .val (.ref r1)] [])) _
    refine XS.iconst X11.here hx rfl (hb hby d14_23) ?_
    exact k
  obtain ⟨fs, hr, hrun, hended, hW, hsame⟩ := X11.leave (v := some (.int (1 : Int32))) (fun h => by rw [Bd.returns] at h; cases h)
  refine ⟨_, _, pre13 _ ?_, hrun, hended, _, _, rfl, ?_, ⟨_, rfl⟩, hW, hsame.mono (by decide) (by decide)⟩
  · show Steps p.tables e below (T11.setTop (mkF m 24 #[.val (.ref r0), .val (.ref r1)] [(.int (1 : Int32))])) _
    exact retN X11 hx (t := .boolean) Bd.returns (by simp) (hb hby d14_24) hr
  · show Q14b Z r0 r1 y7 y31 y37 y27 h0 n0 _ T11.heap _
    exact ⟨rfl, N11, K12, f11_1, f11_0, f11_2, f11_3, f11_4, f11_5⟩
def Q12b (Z : State) (r0 : Addr) (r1 : Addr) (r2 : Addr) (v3 : Value) (y1 : Addr) (y4 : Addr) (y32 : Addr) (y38 : Addr) (y28 : ClassId) (h0 : Heap) (n0 : Nat) (v : Option Value) (h : Heap) (L : List Loc) : Prop := ∃ (b2 : Addr), v = none ∧ Fr n0 L ∧ Keep h0 h [y4, y1] ∧ h0.size ≤ b2 ∧ Exa Z h b2 "com/example/fetchwright/fetchwright/service/LoadsInProgress$Load" ∧ Fld Z h b2 "com/example/fetchwright/fetchwright/service/LoadsInProgress$Load" "token" "Ljava/lang/Object;" (.ref r1) ∧ Fld Z h b2 "com/example/fetchwright/fetchwright/service/LoadsInProgress$Load" "session" "Ljava/lang/Object;" (.ref r2) ∧ Fld Z h b2 "com/example/fetchwright/fetchwright/service/LoadsInProgress$Load" "secondary" "Lcom/example/fetchwright/fetchwright/service/SecondaryLoad;" v3 ∧ Exa Z h y1 "java/util/ArrayList" ∧ Arv Z h y4 y28 (.object "java/lang/Object") (10 : Int32) [(.ref y32), (.ref y38), (.ref b2), .null, .null, .null, .null, .null, .null, .null] .null ∧ Fld Z h y1 "java/util/ArrayList" "size" "I" (.int (3 : Int32)) ∧ Fld Z h y1 "java/util/AbstractList" "modCount" "I" (.int (3 : Int32)) ∧ Fld Z h y1 "java/util/ArrayList" "elementData" "[Ljava/lang/Object;" (.ref y4) ∧ Ovr Z y28 "java/lang/Object"
theorem ef_12b (m : MethodId) (x0 : Addr) (x1 : Addr) (x2 : Addr) (x3 : Value) (hx3 : x3.isRef = true) : entryFrame m #[(.ref x0), (.ref x1), (.ref x2), x3] 4 = mkF m 0 #[.val (.ref x0), .val (.ref x1), .val (.ref x2), .val x3] [] := by rcases Jvm.Free.XT.refc hx3 with rfl | ⟨r, rfl⟩ <;> first | (simp [entryFrame, mkF, argsToLocals, Value.category]; done) | rfl
set_option maxRecDepth 65536 in
set_option maxHeartbeats 40000000 in
theorem rm12b (l : Launch) (Z : State) (a0 : Array Value) (hw : ∀ d ∈ tables_1, d.before a0 Z = true) (ws : List Jvm.Cond) (r0 : Addr) (r1 : Addr) (r2 : Addr) (v3 : Value) (y1 : Addr) (y4 : Addr) (y32 : Addr) (y38 : Addr) (y28 : ClassId) (h0 : Heap) (n0 : Nat) (Z0 : n0 ≤ h0.size) (hr_v3 : v3.isRef = true) (y24 : Fld Z h0 r0 "com/example/fetchwright/fetchwright/service/LoadsInProgress" "loads" "Ljava/util/ArrayList;" (.ref y1)) (y20 : Fld Z h0 y1 "java/util/AbstractList" "modCount" "I" (.int (2 : Int32))) (y30 : Fld Z h0 y1 "java/util/ArrayList" "elementData" "[Ljava/lang/Object;" (.ref y4)) (y26 : Fld Z h0 y1 "java/util/ArrayList" "size" "I" (.int (2 : Int32))) (y55 : Ovr Z y28 "java/lang/Object") (y34 : Arv Z h0 y4 y28 (.object "java/lang/Object") (10 : Int32) [(.ref y32), (.ref y38), .null, .null, .null, .null, .null, .null, .null, .null] .null) (y16 : Exa Z h0 y1 "java/util/ArrayList") (y45 : n0 ≤ y1) (y56 : y4 ≠ y1) (y57 : n0 ≤ y4) :
    MetFree l own_y1 (head1 (Jvm.Cond.code own_y1 prog_9_method_2_code 4 none :: ws) ({ frames := 3, cells := 1, slots := 3, locals := 41 } : Room)) (fun a U => a = #[(.ref r0), (.ref r1), (.ref r2), v3] ∧ Z.Warmed39 U.vm ∧ U.heap = h0) (fun _ _ _ _ _ => True) (fun _ U o U' => ∃ v L, o = .returned v ∧ Q12b Z r0 r1 r2 v3 y1 y4 y32 y38 y28 h0 n0 v U'.heap L ∧ FrameEnd U o U' L ({ frames := 3, cells := 1, slots := 3, locals := 41 } : Room).cells ({ frames := 3, cells := 1, slots := 3, locals := 41 } : Room).slots) := by
  refine MetFree.of_bodySF (plainFor_of_name pn_6) hisR ?_
  intro p e s m args below meth c s₁ Bd hml0 hP hK
  obtain ⟨rfl, hZ, hh⟩ := hP
  have hx := Bd.exec
  have hby := Bd.bytes
  have hml : c.maxLocals = 4 := hml0
  have hown : s.vm.findClass "com/example/fetchwright/fetchwright/service/LoadsInProgress" = some m.cls := findClass_of_methodNamed Bd.named
  have hnm := (name_of_methodNamed Bd.named Bd.method).1
  have X0 : Stand p l e ({ frames := 3, cells := 1, slots := 3, locals := 41 } : Room) s m #[(.ref r0), (.ref r1), (.ref r2), v3] below meth c s₁ [] 0 0 := Stand.of_body Bd
  have e0 : s₁.heap = h0 := by rw [← hh, Bd.state]; rfl
  have N0 := Fr.nil n0
  have pre0 : ∀ t, Steps p.tables e below (s₁.setTop (mkF m 0 #[.val (.ref r0), .val (.ref r1), .val (.ref r2), .val v3] [])) t → Steps p.tables e below (s₁.setTop (entryFrame m #[(.ref r0), (.ref r1), (.ref r2), v3] 4)) t := fun t k => castTop (ef_12b m r0 r1 r2 v3 hr_v3) k
  obtain ⟨T1, X1, e1, st1⟩ := getF X0 hx hZ hown (host := "") (Or.inl (hw _ (List.mem_of_getElem? (i := 82) rfl))) Via.refl e0 y24 (g := (mkF m 1 #[.val (.ref r0), .val (.ref r1), .val (.ref r2), .val v3] [(.ref r0)])) rfl rfl (hb hby d12_1)
  obtain ⟨T2, h2, X2, e2, E2, A2, D2, -, st2⟩ := newO X1 hx hZ hown (hw _ (List.mem_of_getElem? (i := 101) rfl)) (hw _ (List.mem_of_getElem? (i := 102) rfl)) (hw _ (List.mem_of_getElem? (i := 103) rfl)) e1 (g := (mkF m 4 #[.val (.ref r0), .val (.ref r1), .val (.ref r2), .val v3] [(.ref y1)])) rfl (hb hby d12_4) (by decide) (by decide)
  obtain ⟨b2, g2⟩ : ∃ z, z = h0.size := ⟨_, rfl⟩
  rw [← g2] at A2 D2 st2
  have sz_b2 : h0.size ≤ b2 := Nat.le_trans (Keep.refl h0 [y4, y1]).1 (Nat.le_of_eq g2.symm)
  have K3 : Keep h0 h2 [y4, y1] := (Keep.refl h0 [y4, y1]).ext E2
  have Ftoken_2 : Fld Z h2 b2 "com/example/fetchwright/fetchwright/service/LoadsInProgress$Load" "token" "Ljava/lang/Object;" .null := D2 (Or.inr (hw _ (List.mem_of_getElem? (i := 109) rfl))) (ty := (.object "java/lang/Object")) (by decide)
  have Fsession_2 : Fld Z h2 b2 "com/example/fetchwright/fetchwright/service/LoadsInProgress$Load" "session" "Ljava/lang/Object;" .null := D2 (Or.inr (hw _ (List.mem_of_getElem? (i := 111) rfl))) (ty := (.object "java/lang/Object")) (by decide)
  have Fsecondary_2 : Fld Z h2 b2 "com/example/fetchwright/fetchwright/service/LoadsInProgress$Load" "secondary" "Lcom/example/fetchwright/fetchwright/service/SecondaryLoad;" .null := D2 (Or.inr (hw _ (List.mem_of_getElem? (i := 113) rfl))) (ty := (.object "com/example/fetchwright/fetchwright/service/SecondaryLoad")) (by decide)
  obtain ⟨_, _, ⟨T4, L4, k4, n4⟩, -, X4, ⟨Lc4, hQ4, l4, y4, z4⟩, st4⟩ := specialRef X2 hx (y := own_y10) rfl hown (mvRef hZ (hw _ (List.mem_of_getElem? (i := 105) rfl)) (by decide) (hw _ (List.mem_of_getElem? (i := 104) rfl))) (mvT hZ (hw _ (List.mem_of_getElem? (i := 105) rfl))) (mvT hZ (hw _ (List.mem_of_getElem? (i := 106) rfl))) (by decide) (backOf (W := 2) (rm13 l Z a0 hw [] b2 r1 r2 v3 (.null) (.null) (.null) h2 n0 (Nat.le_trans Z0 K3.1) hr_v3 A2 Ftoken_2 (Nat.le_trans Z0 sz_b2) Fsession_2 Fsecondary_2) hZ (hw _ (List.mem_of_getElem? (i := 106) rfl)) (hw _ (List.mem_of_getElem? (i := 103) rfl)) (by decide) (by decide)) (g := (mkF m 11 #[.val (.ref r0), .val (.ref r1), .val (.ref r2), .val v3] [v3, (.ref r2), (.ref r1), (.ref b2), (.ref b2), (.ref y1)])) rfl (by rw [hml]; rfl) (Steps.refl _) (a := b2) (argsL := [(.ref r1), (.ref r2), v3]) (rest := [(.ref b2), (.ref y1)]) (lenOf pd_6 rfl) rfl (by show 2 * 0 + _ ≤ _; exact Nat.le_of_eq rfl) (hb hby d12_11) (fun _ _ => ⟨rfl, e2, (by decide : 1 + 0 ≤ _), (by decide : 3 + 0 ≤ _)⟩)
  dsimp only [Pt.U, Pt.locs, Pt.cells, Pt.slots] at X4 l4 y4 z4 st4 hQ4
  subst l4 y4 z4
  obtain ⟨rfl, Nq4, Kq4, f4_0, f4_1, f4_2, f4_3⟩ := hQ4
  have K5 : Keep h0 T4.heap [y4, y1] := K3.trans Kq4 (allS (Or.inr sz_b2) all0)
  have N4 := Fr.app N0 Nq4
  have f6 := ((y20.ext E2).keep Kq4 (ninS (Nat.ne_of_lt (Nat.lt_of_lt_of_le y20.lt (Nat.le_trans (Nat.le_refl _) (Nat.le_of_eq g2.symm)))) nin0))
  have f7 := ((y30.ext E2).keep Kq4 (ninS (Nat.ne_of_lt (Nat.lt_of_lt_of_le y20.lt (Nat.le_trans (Nat.le_refl _) (Nat.le_of_eq g2.symm)))) nin0))
  have f8 := ((y26.ext E2).keep Kq4 (ninS (Nat.ne_of_lt (Nat.lt_of_lt_of_le y20.lt (Nat.le_trans (Nat.le_refl _) (Nat.le_of_eq g2.symm)))) nin0))
  have f9 := ((y34.ext E2).keep Kq4 (ninS (Nat.ne_of_lt (Nat.lt_of_lt_of_le y34.lt (Nat.le_trans (Nat.le_refl _) (Nat.le_of_eq g2.symm)))) nin0))
  have f10 := ((y16.ext E2).keep Kq4)
  obtain ⟨cq11, kq11, q11a, q11b, q11c⟩ := isOf hZ rfl f10
  obtain ⟨_, _, ⟨T11, L11, k11, n11⟩, -, X11, ⟨Lc11, hQ11, l11, y11, z11⟩, st11⟩ := X4.virtualBack hx (y := own_y7) (z := own_y7) hown (mvT hZ (hw _ (List.mem_of_getElem? (i := 114) rfl))) (mvT hZ (hw _ (List.mem_of_getElem? (i := 115) rfl))) (notFace_of_selects (args := #[]) (mvT hZ (hw _ (List.mem_of_getElem? (i := 117) rfl)))) (mvT hZ (hw _ (List.mem_of_getElem? (i := 117) rfl))) (mvT hZ (hw _ (List.mem_of_getElem? (i := 116) rfl))) (by decide) (backOf (W := 0) (rm14b l Z a0 hw [] y1 b2 y4 y32 y38 y28 T4.heap n0 (Nat.le_trans Z0 K5.1) f6 f10 y45 f7 f8 y55 f9 y56 f4_0 y57) hZ (hw _ (List.mem_of_getElem? (i := 118) rfl)) (hw _ (List.mem_of_getElem? (i := 60) rfl)) (by decide) (by decide)) q11a q11c (g := (mkF m 14 #[.val (.ref r0), .val (.ref r1), .val (.ref r2), .val v3] [(.ref b2), (.ref y1)])) rfl (by rw [hml]; rfl) (Steps.refl _) (argsL := [(.ref b2)]) (rest := []) (lenOf pd_11 rfl) rfl (by show 2 * 0 + _ ≤ _; exact Nat.le_of_eq rfl) (hb hby d12_14) (fun _ _ => ⟨rfl, rfl, (by decide : 1 + 0 ≤ _), (by decide : 3 + 0 ≤ _)⟩)
  dsimp only [Pt.U, Pt.locs, Pt.cells, Pt.slots] at X11 l11 y11 z11 st11 hQ11
  subst l11 y11 z11
  obtain ⟨rfl, Nq11, Kq11, f11_0, f11_1, f11_2, f11_3, f11_4, f11_5⟩ := hQ11
  have K12 : Keep h0 T11.heap [y4, y1] := K5.trans Kq11 (allS (Or.inl (List.mem_of_getElem? (i := 1) rfl)) (allS (Or.inl (List.mem_of_getElem? (i := 0) rfl)) all0))
  have N11 := Fr.app N4 Nq11
  have pre13 : ∀ t, Steps p.tables e below (T11.setTop (mkF m 18 #[.val (.ref r0), .val (.ref r1), .val (.ref r2), .val v3] [])) t → Steps p.tables e below (s₁.setTop (entryFrame m #[(.ref r0), (.ref r1), (.ref r2), v3] 4)) t := by
    intro t k
    refine pre0 _ ?_
    show Steps p.tables e below (s₁.setTop (mkF m 0 #[.val (.ref r0), .val (.ref r1), .val (.ref r2), .val v3] [])) _
    refine XS.aloadN X0.here hx rfl (hb hby d12_0) rfl rfl ?_
    show Steps p.tables e below (s₁.setTop (mkF m 1 #[.val (.ref r0), .val (.ref r1), .val (.ref r2), .val v3] [(.ref r0)])) _
    refine st1 _ ?_
    show Steps p.tables e below (T1.setTop (mkF m 4 #[.val (.ref r0), .val (.ref r1), .val (.ref r2), .val v3] [(.ref y1)])) _
    refine st2 _ ?_
    show Steps p.tables e below (T2.setTop (mkF m 7 #[.val (.ref r0), .val (.ref r1), .val (.ref r2), .val v3] [(.ref b2), (.ref y1)])) _
    refine XS.dup X2.here hx rfl (hb hby d12_7) rfl rfl ?_
    refine XS.aloadN X2.here hx rfl (hb hby d12_8) rfl rfl ?_
    show Steps p.tables e below (T2.setTop (mkF m 9 #[.val (.ref r0), .val (.ref r1), .val (.ref r2), .val v3] [(.ref r1), (.ref b2), (.ref b2), (.ref y1)])) _
    refine XS.aloadN X2.here hx rfl (hb hby d12_9) rfl rfl ?_
    refine XS.aloadN X2.here hx rfl (hb hby d12_10) rfl hr_v3 ?_
    show Steps p.tables e below (T2.setTop (mkF m 11 #[.val (.ref r0), .val (.ref r1), .val (.ref r2), .val v3] [v3, (.ref r2), (.ref r1), (.ref b2), (.ref b2), (.ref y1)])) _
    refine st4.trans ?_
    show Steps p.tables e below (T4.setTop (mkF m 14 #[.val (.ref r0), .val (.ref r1), .val (.ref r2), .val v3] [(.ref b2), (.ref y1)])) _
    refine st11.trans ?_
    show Steps p.tables e below (T11.setTop (mkF m 17 #[.val (.ref r0), .val (.ref r1), .val (.ref r2), .val v3] [(.int (1 : Int32))])) _
    refine XS.pop X11.here hx rfl (hb hby d12_17) rfl rfl ?_
    exact k
  have f14 := (f4_0.keep Kq11)
  have f15 := (f4_1.keep Kq11 (ninS (Ne.symm (Nat.ne_of_lt (Nat.lt_of_lt_of_le y20.lt (Nat.le_trans (Nat.le_refl _) (Nat.le_of_eq g2.symm))))) (ninS (Ne.symm (Nat.ne_of_lt (Nat.lt_of_lt_of_le y34.lt (Nat.le_trans (Nat.le_refl _) (Nat.le_of_eq g2.symm))))) nin0)))
  have f16 := (f4_2.keep Kq11 (ninS (Ne.symm (Nat.ne_of_lt (Nat.lt_of_lt_of_le y20.lt (Nat.le_trans (Nat.le_refl _) (Nat.le_of_eq g2.symm))))) (ninS (Ne.symm (Nat.ne_of_lt (Nat.lt_of_lt_of_le y34.lt (Nat.le_trans (Nat.le_refl _) (Nat.le_of_eq g2.symm))))) nin0)))
  have f17 := (f4_3.keep Kq11 (ninS (Ne.symm (Nat.ne_of_lt (Nat.lt_of_lt_of_le y20.lt (Nat.le_trans (Nat.le_refl _) (Nat.le_of_eq g2.symm))))) (ninS (Ne.symm (Nat.ne_of_lt (Nat.lt_of_lt_of_le y34.lt (Nat.le_trans (Nat.le_refl _) (Nat.le_of_eq g2.symm))))) nin0)))
  obtain ⟨fs, hr, hrun, hended, hW, hsame⟩ := X11.leave (v := none) (fun _ => rfl)
  refine ⟨_, _, pre13 _ ?_, hrun, hended, _, _, rfl, ?_, ⟨_, rfl⟩, hW, hsame.mono (by decide) (by decide)⟩
  · show Steps p.tables e below (T11.setTop (mkF m 18 #[.val (.ref r0), .val (.ref r1), .val (.ref r2), .val v3] [])) _
    exact X11.returnOut hx Bd.returns (hb hby d12_18) hr
  · show Q12b Z r0 r1 r2 v3 y1 y4 y32 y38 y28 h0 n0 _ T11.heap _
    exact ⟨b2, rfl, N11, K12, sz_b2, f14, f15, f16, f17, f11_0, f11_1, f11_2, f11_3, f11_4, f11_5⟩
def Q11c (Z : State) (r0 : Addr) (h0 : Heap) (n0 : Nat) (v : Option Value) (h : Heap) (L : List Loc) : Prop := v = some (.int (3 : Int32)) ∧ Fr n0 L ∧ h = h0
theorem ef_11c (m : MethodId) (x0 : Addr) : entryFrame m #[(.ref x0)] 1 = mkF m 0 #[.val (.ref x0)] [] := by first | (simp [entryFrame, mkF, argsToLocals, Value.category]; done) | rfl
set_option maxRecDepth 65536 in
set_option maxHeartbeats 40000000 in
theorem rm11c (l : Launch) (Z : State) (a0 : Array Value) (hw : ∀ d ∈ tables_1, d.before a0 Z = true) (ws : List Jvm.Cond) (r0 : Addr) (h0 : Heap) (n0 : Nat) (Z0 : n0 ≤ h0.size) (y15 : Fld Z h0 r0 "java/util/ArrayList" "size" "I" (.int (3 : Int32))) :
    MetFree l own_y5 (head1 (Jvm.Cond.code own_y5 jdk_38_method_8_code 1 (some .int) :: ws) ({ frames := 0, cells := 0, slots := 0, locals := 0 } : Room)) (fun a U => a = #[(.ref r0)] ∧ Z.Warmed39 U.vm ∧ U.heap = h0) (fun _ _ _ _ _ => True) (fun _ U o U' => ∃ v L, o = .returned v ∧ Q11c Z r0 h0 n0 v U'.heap L ∧ FrameEnd U o U' L ({ frames := 0, cells := 0, slots := 0, locals := 0 } : Room).cells ({ frames := 0, cells := 0, slots := 0, locals := 0 } : Room).slots) := by
  refine MetFree.of_bodySF (plainFor_of_name pn_5) hisR ?_
  intro p e s m args below meth c s₁ Bd hml0 hP hK
  obtain ⟨rfl, hZ, hh⟩ := hP
  have hx := Bd.exec
  have hby := Bd.bytes
  have hml : c.maxLocals = 1 := hml0
  have hown : s.vm.findClass "java/util/ArrayList" = some m.cls := findClass_of_methodNamed Bd.named
  have hnm := (name_of_methodNamed Bd.named Bd.method).1
  have X0 : Stand p l e ({ frames := 0, cells := 0, slots := 0, locals := 0 } : Room) s m #[(.ref r0)] below meth c s₁ [] 0 0 := Stand.of_body Bd
  have e0 : s₁.heap = h0 := by rw [← hh, Bd.state]; rfl
  have N0 := Fr.nil n0
  have pre0 : ∀ t, Steps p.tables e below (s₁.setTop (mkF m 0 #[.val (.ref r0)] [])) t → Steps p.tables e below (s₁.setTop (entryFrame m #[(.ref r0)] 1)) t := fun t k => castTop (ef_11c m r0) k
  obtain ⟨T1, X1, e1, st1⟩ := getF X0 hx hZ hown (host := "") (Or.inl (hw _ (List.mem_of_getElem? (i := 94) rfl))) Via.refl e0 y15 (g := (mkF m 1 #[.val (.ref r0)] [(.ref r0)])) rfl rfl (hb hby d11_1)
  have pre2 : ∀ t, Steps p.tables e below (T1.setTop (mkF m 4 #[.val (.ref r0)] [(.int (3 : Int32))])) t → Steps p.tables e below (s₁.setTop (entryFrame m #[(.ref r0)] 1)) t := by
    intro t k
    refine pre0 _ ?_
    show Steps p.tables e below (s₁.setTop (mkF m 0 #[.val (.ref r0)] [])) _
    refine XS.aloadN X0.here hx rfl (hb hby d11_0) rfl rfl ?_
    show Steps p.tables e below (s₁.setTop (mkF m 1 #[.val (.ref r0)] [(.ref r0)])) _
    refine st1 _ ?_
    exact k
  obtain ⟨fs, hr, hrun, hended, hW, hsame⟩ := X1.leave (v := some (.int (3 : Int32))) (fun h => by rw [Bd.returns] at h; cases h)
  refine ⟨_, _, pre2 _ ?_, hrun, hended, _, _, rfl, ?_, ⟨_, rfl⟩, hW, hsame.mono (by decide) (by decide)⟩
  · show Steps p.tables e below (T1.setTop (mkF m 4 #[.val (.ref r0)] [(.int (3 : Int32))])) _
    exact retI X1 hx Bd.returns (hb hby d11_4) hr
  · show Q11c Z r0 h0 n0 _ T1.heap _
    rw [e1]
    exact ⟨rfl, N0, rfl⟩
def own_r10c (r1 : Addr) (y2 : Addr) (y3 : Value) (y6 : Addr) (y8 : Value) (y10 : Addr) (y11 : Value) : Value := (if y2 = r1 then y3 else (if y6 = r1 then y8 else (if y10 = r1 then y11 else Value.null)))
def Q10c (Z : State) (r0 : Addr) (r1 : Addr) (y1 : Addr) (y4 : Addr) (y14 : Cell) (el_w_elementData_w_loads_r0_0 : Addr) (y2 : Addr) (y3 : Value) (y19 : Cell) (el_w_elementData_w_loads_r0_1 : Addr) (y6 : Addr) (y8 : Value) (y29 : Cell) (el_w_elementData_w_loads_r0_2 : Addr) (y10 : Addr) (y11 : Value) (h0 : Heap) (n0 : Nat) (v : Option Value) (h : Heap) (L : List Loc) : Prop := v = some (own_r10c r1 y2 y3 y6 y8 y10 y11) ∧ Fr n0 L ∧ h = h0 ∧ (own_r10c r1 y2 y3 y6 y8 y10 y11).isRef = true
theorem ef_10c (m : MethodId) (x0 : Addr) (x1 : Addr) : entryFrame m #[(.ref x0), (.ref x1)] 4 = mkF m 0 #[.val (.ref x0), .val (.ref x1), .unset, .unset] [] := by first | (simp [entryFrame, mkF, argsToLocals, Value.category]; done) | rfl
set_option maxRecDepth 65536 in
set_option maxHeartbeats 40000000 in
theorem rm10c (l : Launch) (Z : State) (a0 : Array Value) (hw : ∀ d ∈ tables_1, d.before a0 Z = true) (ws : List Jvm.Cond) (r0 : Addr) (r1 : Addr) (y1 : Addr) (y4 : Addr) (y14 : Cell) (el_w_elementData_w_loads_r0_0 : Addr) (y2 : Addr) (y3 : Value) (y19 : Cell) (el_w_elementData_w_loads_r0_1 : Addr) (y6 : Addr) (y8 : Value) (y29 : Cell) (el_w_elementData_w_loads_r0_2 : Addr) (y10 : Addr) (y11 : Value) (h0 : Heap) (n0 : Nat) (Z0 : n0 ≤ h0.size) (y24 : Fld Z h0 r0 "com/example/fetchwright/fetchwright/service/LoadsInProgress" "loads" "Ljava/util/ArrayList;" (.ref y1)) (y26 : Fld Z h0 y1 "java/util/ArrayList" "size" "I" (.int (3 : Int32))) (y16 : Exa Z h0 y1 "java/util/ArrayList") (y30 : Fld Z h0 y1 "java/util/ArrayList" "elementData" "[Ljava/lang/Object;" (.ref y4)) (Aa_w_elementData_w_loads_r0_0 : Arr Z h0 y4 y14 (.object "java/lang/Object") ∧ ¬ ((2 : Int32) < 0 ∨ y14.slots.size ≤ ((2 : Int32)).toNatClampNeg) ∧ y14.slots[((2 : Int32)).toNatClampNeg]? = some (.ref el_w_elementData_w_loads_r0_0)) (y35 : Exa Z h0 el_w_elementData_w_loads_r0_0 "com/example/fetchwright/fetchwright/service/LoadsInProgress$Load") (y46 : Fld Z h0 el_w_elementData_w_loads_r0_0 "com/example/fetchwright/fetchwright/service/LoadsInProgress$Load" "session" "Ljava/lang/Object;" (.ref y2)) (y47 : y3.isRef = true) (y48 : Fld Z h0 el_w_elementData_w_loads_r0_0 "com/example/fetchwright/fetchwright/service/LoadsInProgress$Load" "secondary" "Lcom/example/fetchwright/fetchwright/service/SecondaryLoad;" y3) (Aa_w_elementData_w_loads_r0_1 : Arr Z h0 y4 y19 (.object "java/lang/Object") ∧ ¬ ((1 : Int32) < 0 ∨ y19.slots.size ≤ ((1 : Int32)).toNatClampNeg) ∧ y19.slots[((1 : Int32)).toNatClampNeg]? = some (.ref el_w_elementData_w_loads_r0_1)) (y39 : Exa Z h0 el_w_elementData_w_loads_r0_1 "com/example/fetchwright/fetchwright/service/LoadsInProgress$Load") (y58 : Fld Z h0 el_w_elementData_w_loads_r0_1 "com/example/fetchwright/fetchwright/service/LoadsInProgress$Load" "session" "Ljava/lang/Object;" (.ref y6)) (y59 : y8.isRef = true) (y60 : Fld Z h0 el_w_elementData_w_loads_r0_1 "com/example/fetchwright/fetchwright/service/LoadsInProgress$Load" "secondary" "Lcom/example/fetchwright/fetchwright/service/SecondaryLoad;" y8) (Aa_w_elementData_w_loads_r0_2 : Arr Z h0 y4 y29 (.object "java/lang/Object") ∧ ¬ ((0 : Int32) < 0 ∨ y29.slots.size ≤ ((0 : Int32)).toNatClampNeg) ∧ y29.slots[((0 : Int32)).toNatClampNeg]? = some (.ref el_w_elementData_w_loads_r0_2)) (y49 : Exa Z h0 el_w_elementData_w_loads_r0_2 "com/example/fetchwright/fetchwright/service/LoadsInProgress$Load") (y73 : Fld Z h0 el_w_elementData_w_loads_r0_2 "com/example/fetchwright/fetchwright/service/LoadsInProgress$Load" "session" "Ljava/lang/Object;" (.ref y10)) (y74 : y11.isRef = true) (y75 : Fld Z h0 el_w_elementData_w_loads_r0_2 "com/example/fetchwright/fetchwright/service/LoadsInProgress$Load" "secondary" "Lcom/example/fetchwright/fetchwright/service/SecondaryLoad;" y11) :
    MetFree l own_y6 (head1 (Jvm.Cond.code own_y6 prog_9_method_4_code 4 (some (.object "com/example/fetchwright/fetchwright/service/SecondaryLoad")) :: ws) ({ frames := 3, cells := 0, slots := 0, locals := 40 } : Room)) (fun a U => a = #[(.ref r0), (.ref r1)] ∧ Z.Warmed39 U.vm ∧ U.heap = h0) (fun _ _ _ _ _ => True) (fun _ U o U' => ∃ v L, o = .returned v ∧ Q10c Z r0 r1 y1 y4 y14 el_w_elementData_w_loads_r0_0 y2 y3 y19 el_w_elementData_w_loads_r0_1 y6 y8 y29 el_w_elementData_w_loads_r0_2 y10 y11 h0 n0 v U'.heap L ∧ FrameEnd U o U' L ({ frames := 3, cells := 0, slots := 0, locals := 40 } : Room).cells ({ frames := 3, cells := 0, slots := 0, locals := 40 } : Room).slots) := by
  refine MetFree.of_bodySF (plainFor_of_name pn_6) hisR ?_
  intro p e s m args below meth c s₁ Bd hml0 hP hK
  obtain ⟨rfl, hZ, hh⟩ := hP
  have hx := Bd.exec
  have hby := Bd.bytes
  have hml : c.maxLocals = 4 := hml0
  have hown : s.vm.findClass "com/example/fetchwright/fetchwright/service/LoadsInProgress" = some m.cls := findClass_of_methodNamed Bd.named
  have hnm := (name_of_methodNamed Bd.named Bd.method).1
  have X0 : Stand p l e ({ frames := 3, cells := 0, slots := 0, locals := 40 } : Room) s m #[(.ref r0), (.ref r1)] below meth c s₁ [] 0 0 := Stand.of_body Bd
  have e0 : s₁.heap = h0 := by rw [← hh, Bd.state]; rfl
  have N0 := Fr.nil n0
  have pre0 : ∀ t, Steps p.tables e below (s₁.setTop (mkF m 0 #[.val (.ref r0), .val (.ref r1), .unset, .unset] [])) t → Steps p.tables e below (s₁.setTop (entryFrame m #[(.ref r0), (.ref r1)] 4)) t := fun t k => castTop (ef_10c m r0 r1) k
  obtain ⟨T1, X1, e1, st1⟩ := getF X0 hx hZ hown (host := "") (Or.inl (hw _ (List.mem_of_getElem? (i := 82) rfl))) Via.refl e0 y24 (g := (mkF m 1 #[.val (.ref r0), .val (.ref r1), .unset, .unset] [(.ref r0)])) rfl rfl (hb hby d10_1)
  obtain ⟨cq2, kq2, q2a, q2b, q2c⟩ := isOf hZ e1 y16
  obtain ⟨_, _, ⟨T2, L2, k2, n2⟩, -, X2, ⟨Lc2, hQ2, l2, y2, z2⟩, st2⟩ := X1.virtualBack hx (y := own_y5) (z := own_y5) hown (mvT hZ (hw _ (List.mem_of_getElem? (i := 89) rfl))) (mvT hZ (hw _ (List.mem_of_getElem? (i := 90) rfl))) (notFace_of_selects (args := #[]) (mvT hZ (hw _ (List.mem_of_getElem? (i := 92) rfl)))) (mvT hZ (hw _ (List.mem_of_getElem? (i := 92) rfl))) (mvT hZ (hw _ (List.mem_of_getElem? (i := 91) rfl))) (by decide) (backOf (W := 0) (rm11c l Z a0 hw [] y1 h0 n0 (Nat.le_trans Z0 (Keep.refl h0 []).1) y26) hZ (hw _ (List.mem_of_getElem? (i := 93) rfl)) (hw _ (List.mem_of_getElem? (i := 60) rfl)) (by decide) (by decide)) q2a q2c (g := (mkF m 4 #[.val (.ref r0), .val (.ref r1), .unset, .unset] [(.ref y1)])) rfl (by rw [hml]; rfl) (Steps.refl _) (argsL := []) (rest := []) (lenOf pd_4 rfl) rfl (by show 2 * 0 + _ ≤ _; exact Nat.le_of_eq rfl) (hb hby d10_4) (fun _ _ => ⟨rfl, e1, (by decide : 0 + 0 ≤ _), (by decide : 0 + 0 ≤ _)⟩)
  dsimp only [Pt.U, Pt.locs, Pt.cells, Pt.slots] at X2 l2 y2 z2 st2 hQ2
  subst l2 y2 z2
  obtain ⟨rfl, Nq2, e2⟩ := hQ2
  have N2 := Fr.app N0 Nq2
  obtain ⟨T3, X3, e3, st3⟩ := getF X2 hx hZ hown (host := "") (Or.inl (hw _ (List.mem_of_getElem? (i := 82) rfl))) Via.refl e2 y24 (g := (mkF m 15 #[.val (.ref r0), .val (.ref r1), .val (.int (2 : Int32)), .unset] [(.ref r0)])) rfl rfl (hb hby d10_15)
  obtain ⟨cq4, kq4, q4a, q4b, q4c⟩ := isOf hZ e3 y16
  obtain ⟨_, _, ⟨T4, L4, k4, n4⟩, -, X4, ⟨Lc4, hQ4, l4, y4, z4⟩, st4⟩ := X3.virtualBack hx (y := own_y2) (z := own_y2) hown (mvT hZ (hw _ (List.mem_of_getElem? (i := 142) rfl))) (mvT hZ (hw _ (List.mem_of_getElem? (i := 143) rfl))) (notFace_of_selects (args := #[]) (mvT hZ (hw _ (List.mem_of_getElem? (i := 145) rfl)))) (mvT hZ (hw _ (List.mem_of_getElem? (i := 145) rfl))) (mvT hZ (hw _ (List.mem_of_getElem? (i := 144) rfl))) (by decide) (backOf (W := 0) (rm19 l Z a0 hw [] y1 (2 : Int32) (3 : Int32) y4 y14 el_w_elementData_w_loads_r0_0 h0 n0 (Nat.le_trans Z0 (Keep.refl h0 []).1) y26 (by decide) (by decide) y30 ⟨Aa_w_elementData_w_loads_r0_0.1, Aa_w_elementData_w_loads_r0_0.2.1, Aa_w_elementData_w_loads_r0_0.2.2⟩ y16) hZ (hw _ (List.mem_of_getElem? (i := 146) rfl)) (hw _ (List.mem_of_getElem? (i := 60) rfl)) (by decide) (by decide)) q4a q4c (g := (mkF m 19 #[.val (.ref r0), .val (.ref r1), .val (.int (2 : Int32)), .unset] [(.int (2 : Int32)), (.ref y1)])) rfl (by rw [hml]; rfl) (Steps.refl _) (argsL := [(.int (2 : Int32))]) (rest := []) (lenOf pd_13 rfl) rfl (by show 2 * 0 + _ ≤ _; exact Nat.le_of_eq rfl) (hb hby d10_19) (fun _ _ => ⟨rfl, e3, (by decide : 0 + 0 ≤ _), (by decide : 0 + 0 ≤ _)⟩)
  dsimp only [Pt.U, Pt.locs, Pt.cells, Pt.slots] at X4 l4 y4 z4 st4 hQ4
  subst l4 y4 z4
  obtain ⟨rfl, Nq4, e4⟩ := hQ4
  have N4 := Fr.app N2 Nq4
  obtain ⟨T5, X5, e5, st5⟩ := castY X4 hx hZ hown (hw _ (List.mem_of_getElem? (i := 101) rfl)) e4 (Ins.self y35) (g := (mkF m 22 #[.val (.ref r0), .val (.ref r1), .val (.int (2 : Int32)), .unset] [(.ref el_w_elementData_w_loads_r0_0)])) rfl rfl (hb hby d10_22)
  obtain ⟨cq6, kq6, q6a, q6b, q6c⟩ := isOf hZ e5 y35
  obtain ⟨_, _, ⟨T6, L6, k6, n6⟩, -, X6, ⟨Lc6, hQ6, l6, y6, z6⟩, st6⟩ := X5.virtualBack hx (y := own_y3) (z := own_y3) hown (mvT hZ (hw _ (List.mem_of_getElem? (i := 161) rfl))) (mvT hZ (hw _ (List.mem_of_getElem? (i := 162) rfl))) (notFace_of_selects (args := #[]) (mvT hZ (hw _ (List.mem_of_getElem? (i := 164) rfl)))) (mvT hZ (hw _ (List.mem_of_getElem? (i := 164) rfl))) (mvT hZ (hw _ (List.mem_of_getElem? (i := 163) rfl))) (by decide) (backOf (W := 0) (rm23 l Z a0 hw [] el_w_elementData_w_loads_r0_0 y2 h0 n0 (Nat.le_trans Z0 (Keep.refl h0 []).1) y46) hZ (hw _ (List.mem_of_getElem? (i := 165) rfl)) (hw _ (List.mem_of_getElem? (i := 103) rfl)) (by decide) (by decide)) q6a q6c (g := (mkF m 27 #[.val (.ref r0), .val (.ref r1), .val (.int (2 : Int32)), .val (.ref el_w_elementData_w_loads_r0_0)] [(.ref el_w_elementData_w_loads_r0_0)])) rfl (by rw [hml]; rfl) (Steps.refl _) (argsL := []) (rest := []) (lenOf pd_14 rfl) rfl (by show 2 * 0 + _ ≤ _; exact Nat.le_of_eq rfl) (hb hby d10_27) (fun _ _ => ⟨rfl, e5, (by decide : 0 + 0 ≤ _), (by decide : 0 + 0 ≤ _)⟩)
  dsimp only [Pt.U, Pt.locs, Pt.cells, Pt.slots] at X6 l6 y6 z6 st6 hQ6
  subst l6 y6 z6
  obtain ⟨rfl, Nq6, e6⟩ := hQ6
  have N6 := Fr.app N4 Nq6
  have pre7 : ∀ t, Steps p.tables e below (T6.setTop (mkF m 31 #[.val (.ref r0), .val (.ref r1), .val (.int (2 : Int32)), .val (.ref el_w_elementData_w_loads_r0_0)] [(.ref r1), (.ref y2)])) t → Steps p.tables e below (s₁.setTop (entryFrame m #[(.ref r0), (.ref r1)] 4)) t := by
    intro t k
    refine pre0 _ ?_
    show Steps p.tables e below (s₁.setTop (mkF m 0 #[.val (.ref r0), .val (.ref r1), .unset, .unset] [])) _
    refine XS.aloadN X0.here hx rfl (hb hby d10_0) rfl rfl ?_
    show Steps p.tables e below (s₁.setTop (mkF m 1 #[.val (.ref r0), .val (.ref r1), .unset, .unset] [(.ref r0)])) _
    refine st1 _ ?_
    show Steps p.tables e below (T1.setTop (mkF m 4 #[.val (.ref r0), .val (.ref r1), .unset, .unset] [(.ref y1)])) _
    refine st2.trans ?_
    show Steps p.tables e below (T2.setTop (mkF m 7 #[.val (.ref r0), .val (.ref r1), .unset, .unset] [(.int (3 : Int32))])) _
    refine XS.iconst X2.here hx rfl (hb hby d10_7) ?_
    refine XS.isub X2.here hx rfl (hb hby d10_8) rfl ?_
    show Steps p.tables e below (T2.setTop (mkF m 9 #[.val (.ref r0), .val (.ref r1), .unset, .unset] [(.int (2 : Int32))])) _
    refine XS.istoreN X2.here hx rfl (hb hby d10_9) rfl (l' := #[.val (.ref r0), .val (.ref r1), .val (.int (2 : Int32)), .unset]) rfl ?_
    refine XS.iloadN X2.here hx rfl (hb hby d10_10) rfl ?_
    show Steps p.tables e below (T2.setTop (mkF m 11 #[.val (.ref r0), .val (.ref r1), .val (.int (2 : Int32)), .unset] [(.int (2 : Int32))])) _
    refine XS.ifNo X2.here hx rfl (hb hby d10_11) rfl ((if0 _ _).trans (flt (by decide : ¬ ((2 : Int32) < (0 : Int32)))).1) ?_
    refine XS.aloadN X2.here hx rfl (hb hby d10_14) rfl rfl ?_
    show Steps p.tables e below (T2.setTop (mkF m 15 #[.val (.ref r0), .val (.ref r1), .val (.int (2 : Int32)), .unset] [(.ref r0)])) _
    refine st3 _ ?_
    show Steps p.tables e below (T3.setTop (mkF m 18 #[.val (.ref r0), .val (.ref r1), .val (.int (2 : Int32)), .unset] [(.ref y1)])) _
    refine XS.iloadN X3.here hx rfl (hb hby d10_18) rfl ?_
    show Steps p.tables e below (T3.setTop (mkF m 19 #[.val (.ref r0), .val (.ref r1), .val (.int (2 : Int32)), .unset] [(.int (2 : Int32)), (.ref y1)])) _
    refine st4.trans ?_
    show Steps p.tables e below (T4.setTop (mkF m 22 #[.val (.ref r0), .val (.ref r1), .val (.int (2 : Int32)), .unset] [(.ref el_w_elementData_w_loads_r0_0)])) _
    refine st5 _ ?_
    show Steps p.tables e below (T5.setTop (mkF m 25 #[.val (.ref r0), .val (.ref r1), .val (.int (2 : Int32)), .unset] [(.ref el_w_elementData_w_loads_r0_0)])) _
    refine XS.astoreN X5.here hx rfl (hb hby d10_25) rfl rfl (l' := #[.val (.ref r0), .val (.ref r1), .val (.int (2 : Int32)), .val (.ref el_w_elementData_w_loads_r0_0)]) rfl ?_
    refine XS.aloadN X5.here hx rfl (hb hby d10_26) rfl rfl ?_
    show Steps p.tables e below (T5.setTop (mkF m 27 #[.val (.ref r0), .val (.ref r1), .val (.int (2 : Int32)), .val (.ref el_w_elementData_w_loads_r0_0)] [(.ref el_w_elementData_w_loads_r0_0)])) _
    refine st6.trans ?_
    show Steps p.tables e below (T6.setTop (mkF m 30 #[.val (.ref r0), .val (.ref r1), .val (.int (2 : Int32)), .val (.ref el_w_elementData_w_loads_r0_0)] [(.ref y2)])) _
    refine XS.aloadN X6.here hx rfl (hb hby d10_30) rfl rfl ?_
    exact k
  by_cases hc31_8 : y2 = r1
  · obtain ⟨cq9, kq9, q9a, q9b, q9c⟩ := isOf hZ e6 y35
    obtain ⟨_, _, ⟨T9, L9, k9, n9⟩, -, X9, ⟨Lc9, hQ9, l9, y9, z9⟩, st9⟩ := X6.virtualBack hx (y := own_y4) (z := own_y4) hown (mvT hZ (hw _ (List.mem_of_getElem? (i := 166) rfl))) (mvT hZ (hw _ (List.mem_of_getElem? (i := 167) rfl))) (notFace_of_selects (args := #[]) (mvT hZ (hw _ (List.mem_of_getElem? (i := 169) rfl)))) (mvT hZ (hw _ (List.mem_of_getElem? (i := 169) rfl))) (mvT hZ (hw _ (List.mem_of_getElem? (i := 168) rfl))) (by decide) (backOf (W := 0) (rm24 l Z a0 hw [] el_w_elementData_w_loads_r0_0 y3 h0 n0 (Nat.le_trans Z0 (Keep.refl h0 []).1) y47 y48) hZ (hw _ (List.mem_of_getElem? (i := 170) rfl)) (hw _ (List.mem_of_getElem? (i := 103) rfl)) (by decide) (by decide)) q9a q9c (g := (mkF m 35 #[.val (.ref r0), .val (.ref r1), .val (.int (2 : Int32)), .val (.ref el_w_elementData_w_loads_r0_0)] [(.ref el_w_elementData_w_loads_r0_0)])) rfl (by rw [hml]; rfl) (Steps.refl _) (argsL := []) (rest := []) (lenOf pd_3 rfl) rfl (by show 2 * 0 + _ ≤ _; exact Nat.le_of_eq rfl) (hb hby d10_35) (fun _ _ => ⟨rfl, e6, (by decide : 0 + 0 ≤ _), (by decide : 0 + 0 ≤ _)⟩)
    dsimp only [Pt.U, Pt.locs, Pt.cells, Pt.slots] at X9 l9 y9 z9 st9 hQ9
    subst l9 y9 z9
    obtain ⟨rfl, Nq9, e9, f9_0⟩ := hQ9
    have N9 := Fr.app N6 Nq9
    have pre10 : ∀ t, Steps p.tables e below (T9.setTop (mkF m 38 #[.val (.ref r0), .val (.ref r1), .val (.int (2 : Int32)), .val (.ref el_w_elementData_w_loads_r0_0)] [y3])) t → Steps p.tables e below (s₁.setTop (entryFrame m #[(.ref r0), (.ref r1)] 4)) t := by
      intro t k
      refine pre7 _ ?_
      show Steps p.tables e below (T6.setTop (mkF m 31 #[.val (.ref r0), .val (.ref r1), .val (.int (2 : Int32)), .val (.ref el_w_elementData_w_loads_r0_0)] [(.ref r1), (.ref y2)])) _
      refine Jvm.RoadKit.acmp (g := (mkF m 31 #[.val (.ref r0), .val (.ref r1), .val (.int (2 : Int32)), .val (.ref el_w_elementData_w_loads_r0_0)] [(.ref r1), (.ref y2)])) X6 hx rfl rfl rfl (pc0 := 31) (pc' := 34) (same := true) rfl (hb hby d10_31) rfl (decide_eq_true (congrArg Value.ref hc31_8)) (by decide) (by decide) ?_
      show Steps p.tables e below (T6.setTop (mkF m 34 #[.val (.ref r0), .val (.ref r1), .val (.int (2 : Int32)), .val (.ref el_w_elementData_w_loads_r0_0)] [])) _
      refine XS.aloadN X6.here hx rfl (hb hby d10_34) rfl rfl ?_
      show Steps p.tables e below (T6.setTop (mkF m 35 #[.val (.ref r0), .val (.ref r1), .val (.int (2 : Int32)), .val (.ref el_w_elementData_w_loads_r0_0)] [(.ref el_w_elementData_w_loads_r0_0)])) _
      refine st9.trans ?_
      exact k
    obtain ⟨fs, hr, hrun, hended, hW, hsame⟩ := X9.leave (v := some y3) (fun h => by rw [Bd.returns] at h; cases h)
    refine ⟨_, _, pre10 _ ?_, hrun, hended, _, _, rfl, ?_, ⟨_, rfl⟩, hW, hsame.mono (by decide) (by decide)⟩
    · show Steps p.tables e below (T9.setTop (mkF m 38 #[.val (.ref r0), .val (.ref r1), .val (.int (2 : Int32)), .val (.ref el_w_elementData_w_loads_r0_0)] [y3])) _
      exact areturnOut X9 hx f9_0 Bd.returns rfl (hb hby d10_38) hr
    · show Q10c Z r0 r1 y1 y4 y14 el_w_elementData_w_loads_r0_0 y2 y3 y19 el_w_elementData_w_loads_r0_1 y6 y8 y29 el_w_elementData_w_loads_r0_2 y10 y11 h0 n0 _ T9.heap _
      rw [e9]
      exact ⟨congrArg some (show (own_r10c r1 y2 y3 y6 y8 y10 y11) = y3 from (if_pos hc31_8)).symm, N9, rfl, (by rw [show (own_r10c r1 y2 y3 y6 y8 y10 y11) = y3 from (if_pos hc31_8)]; exact f9_0)⟩
  · obtain ⟨T11, X11, e11, st11⟩ := getF X6 hx hZ hown (host := "") (Or.inl (hw _ (List.mem_of_getElem? (i := 82) rfl))) Via.refl e6 y24 (g := (mkF m 15 #[.val (.ref r0), .val (.ref r1), .val (.int (1 : Int32)), .val (.ref el_w_elementData_w_loads_r0_0)] [(.ref r0)])) rfl rfl (hb hby d10_15)
    obtain ⟨cq12, kq12, q12a, q12b, q12c⟩ := isOf hZ e11 y16
    obtain ⟨_, _, ⟨T12, L12, k12, n12⟩, -, X12, ⟨Lc12, hQ12, l12, y12, z12⟩, st12⟩ := X11.virtualBack hx (y := own_y2) (z := own_y2) hown (mvT hZ (hw _ (List.mem_of_getElem? (i := 142) rfl))) (mvT hZ (hw _ (List.mem_of_getElem? (i := 143) rfl))) (notFace_of_selects (args := #[]) (mvT hZ (hw _ (List.mem_of_getElem? (i := 145) rfl)))) (mvT hZ (hw _ (List.mem_of_getElem? (i := 145) rfl))) (mvT hZ (hw _ (List.mem_of_getElem? (i := 144) rfl))) (by decide) (backOf (W := 0) (rm19 l Z a0 hw [] y1 (1 : Int32) (3 : Int32) y4 y19 el_w_elementData_w_loads_r0_1 h0 n0 (Nat.le_trans Z0 (Keep.refl h0 []).1) y26 (by decide) (by decide) y30 ⟨Aa_w_elementData_w_loads_r0_1.1, Aa_w_elementData_w_loads_r0_1.2.1, Aa_w_elementData_w_loads_r0_1.2.2⟩ y16) hZ (hw _ (List.mem_of_getElem? (i := 146) rfl)) (hw _ (List.mem_of_getElem? (i := 60) rfl)) (by decide) (by decide)) q12a q12c (g := (mkF m 19 #[.val (.ref r0), .val (.ref r1), .val (.int (1 : Int32)), .val (.ref el_w_elementData_w_loads_r0_0)] [(.int (1 : Int32)), (.ref y1)])) rfl (by rw [hml]; rfl) (Steps.refl _) (argsL := [(.int (1 : Int32))]) (rest := []) (lenOf pd_13 rfl) rfl (by show 2 * 0 + _ ≤ _; exact Nat.le_of_eq rfl) (hb hby d10_19) (fun _ _ => ⟨rfl, e11, (by decide : 0 + 0 ≤ _), (by decide : 0 + 0 ≤ _)⟩)
    dsimp only [Pt.U, Pt.locs, Pt.cells, Pt.slots] at X12 l12 y12 z12 st12 hQ12
    subst l12 y12 z12
    obtain ⟨rfl, Nq12, e12⟩ := hQ12
    have N12 := Fr.app N6 Nq12
    obtain ⟨T13, X13, e13, st13⟩ := castY X12 hx hZ hown (hw _ (List.mem_of_getElem? (i := 101) rfl)) e12 (Ins.self y39) (g := (mkF m 22 #[.val (.ref r0), .val (.ref r1), .val (.int (1 : Int32)), .val (.ref el_w_elementData_w_loads_r0_0)] [(.ref el_w_elementData_w_loads_r0_1)])) rfl rfl (hb hby d10_22)
    obtain ⟨cq14, kq14, q14a, q14b, q14c⟩ := isOf hZ e13 y39
    obtain ⟨_, _, ⟨T14, L14, k14, n14⟩, -, X14, ⟨Lc14, hQ14, l14, y14, z14⟩, st14⟩ := X13.virtualBack hx (y := own_y3) (z := own_y3) hown (mvT hZ (hw _ (List.mem_of_getElem? (i := 161) rfl))) (mvT hZ (hw _ (List.mem_of_getElem? (i := 162) rfl))) (notFace_of_selects (args := #[]) (mvT hZ (hw _ (List.mem_of_getElem? (i := 164) rfl)))) (mvT hZ (hw _ (List.mem_of_getElem? (i := 164) rfl))) (mvT hZ (hw _ (List.mem_of_getElem? (i := 163) rfl))) (by decide) (backOf (W := 0) (rm23 l Z a0 hw [] el_w_elementData_w_loads_r0_1 y6 h0 n0 (Nat.le_trans Z0 (Keep.refl h0 []).1) y58) hZ (hw _ (List.mem_of_getElem? (i := 165) rfl)) (hw _ (List.mem_of_getElem? (i := 103) rfl)) (by decide) (by decide)) q14a q14c (g := (mkF m 27 #[.val (.ref r0), .val (.ref r1), .val (.int (1 : Int32)), .val (.ref el_w_elementData_w_loads_r0_1)] [(.ref el_w_elementData_w_loads_r0_1)])) rfl (by rw [hml]; rfl) (Steps.refl _) (argsL := []) (rest := []) (lenOf pd_14 rfl) rfl (by show 2 * 0 + _ ≤ _; exact Nat.le_of_eq rfl) (hb hby d10_27) (fun _ _ => ⟨rfl, e13, (by decide : 0 + 0 ≤ _), (by decide : 0 + 0 ≤ _)⟩)
    dsimp only [Pt.U, Pt.locs, Pt.cells, Pt.slots] at X14 l14 y14 z14 st14 hQ14
    subst l14 y14 z14
    obtain ⟨rfl, Nq14, e14⟩ := hQ14
    have N14 := Fr.app N12 Nq14
    have pre15 : ∀ t, Steps p.tables e below (T14.setTop (mkF m 31 #[.val (.ref r0), .val (.ref r1), .val (.int (1 : Int32)), .val (.ref el_w_elementData_w_loads_r0_1)] [(.ref r1), (.ref y6)])) t → Steps p.tables e below (s₁.setTop (entryFrame m #[(.ref r0), (.ref r1)] 4)) t := by
      intro t k
      refine pre7 _ ?_
      show Steps p.tables e below (T6.setTop (mkF m 31 #[.val (.ref r0), .val (.ref r1), .val (.int (2 : Int32)), .val (.ref el_w_elementData_w_loads_r0_0)] [(.ref r1), (.ref y2)])) _
      refine Jvm.RoadKit.acmp (g := (mkF m 31 #[.val (.ref r0), .val (.ref r1), .val (.int (2 : Int32)), .val (.ref el_w_elementData_w_loads_r0_0)] [(.ref r1), (.ref y2)])) X6 hx rfl rfl rfl (pc0 := 31) (pc' := 39) (same := false) rfl (hb hby d10_31) rfl (decide_eq_false fun q => hc31_8 (Value.ref.inj q)) (by decide) (by decide) ?_
      show Steps p.tables e below (T6.setTop (mkF m 39 #[.val (.ref r0), .val (.ref r1), .val (.int (2 : Int32)), .val (.ref el_w_elementData_w_loads_r0_0)] [])) _
      refine XS.iinc X6.here hx rfl (hb hby d10_39) rfl (l' := #[.val (.ref r0), .val (.ref r1), .val (.int (1 : Int32)), .val (.ref el_w_elementData_w_loads_r0_0)]) rfl ?_
      refine XS.goto X6.here hx rfl (pc0 := 42) (pc' := 10) rfl (hb hby d10_42) (by decide) (by decide) ?_
      show Steps p.tables e below (T6.setTop (mkF m 10 #[.val (.ref r0), .val (.ref r1), .val (.int (1 : Int32)), .val (.ref el_w_elementData_w_loads_r0_0)] [])) _
      refine XS.iloadN X6.here hx rfl (hb hby d10_10) rfl ?_
      refine XS.ifNo X6.here hx rfl (hb hby d10_11) rfl ((if0 _ _).trans (flt (by decide : ¬ ((1 : Int32) < (0 : Int32)))).1) ?_
      show Steps p.tables e below (T6.setTop (mkF m 14 #[.val (.ref r0), .val (.ref r1), .val (.int (1 : Int32)), .val (.ref el_w_elementData_w_loads_r0_0)] [])) _
      refine XS.aloadN X6.here hx rfl (hb hby d10_14) rfl rfl ?_
      show Steps p.tables e below (T6.setTop (mkF m 15 #[.val (.ref r0), .val (.ref r1), .val (.int (1 : Int32)), .val (.ref el_w_elementData_w_loads_r0_0)] [(.ref r0)])) _
      refine st11 _ ?_
      show Steps p.tables e below (T11.setTop (mkF m 18 #[.val (.ref r0), .val (.ref r1), .val (.int (1 : Int32)), .val (.ref el_w_elementData_w_loads_r0_0)] [(.ref y1)])) _
      refine XS.iloadN X11.here hx rfl (hb hby d10_18) rfl ?_
      show Steps p.tables e below (T11.setTop (mkF m 19 #[.val (.ref r0), .val (.ref r1), .val (.int (1 : Int32)), .val (.ref el_w_elementData_w_loads_r0_0)] [(.int (1 : Int32)), (.ref y1)])) _
      refine st12.trans ?_
      show Steps p.tables e below (T12.setTop (mkF m 22 #[.val (.ref r0), .val (.ref r1), .val (.int (1 : Int32)), .val (.ref el_w_elementData_w_loads_r0_0)] [(.ref el_w_elementData_w_loads_r0_1)])) _
      refine st13 _ ?_
      show Steps p.tables e below (T13.setTop (mkF m 25 #[.val (.ref r0), .val (.ref r1), .val (.int (1 : Int32)), .val (.ref el_w_elementData_w_loads_r0_0)] [(.ref el_w_elementData_w_loads_r0_1)])) _
      refine XS.astoreN X13.here hx rfl (hb hby d10_25) rfl rfl (l' := #[.val (.ref r0), .val (.ref r1), .val (.int (1 : Int32)), .val (.ref el_w_elementData_w_loads_r0_1)]) rfl ?_
      refine XS.aloadN X13.here hx rfl (hb hby d10_26) rfl rfl ?_
      show Steps p.tables e below (T13.setTop (mkF m 27 #[.val (.ref r0), .val (.ref r1), .val (.int (1 : Int32)), .val (.ref el_w_elementData_w_loads_r0_1)] [(.ref el_w_elementData_w_loads_r0_1)])) _
      refine st14.trans ?_
      show Steps p.tables e below (T14.setTop (mkF m 30 #[.val (.ref r0), .val (.ref r1), .val (.int (1 : Int32)), .val (.ref el_w_elementData_w_loads_r0_1)] [(.ref y6)])) _
      refine XS.aloadN X14.here hx rfl (hb hby d10_30) rfl rfl ?_
      exact k
    by_cases hc31_16 : y6 = r1
    · obtain ⟨cq17, kq17, q17a, q17b, q17c⟩ := isOf hZ e14 y39
      obtain ⟨_, _, ⟨T17, L17, k17, n17⟩, -, X17, ⟨Lc17, hQ17, l17, y17, z17⟩, st17⟩ := X14.virtualBack hx (y := own_y4) (z := own_y4) hown (mvT hZ (hw _ (List.mem_of_getElem? (i := 166) rfl))) (mvT hZ (hw _ (List.mem_of_getElem? (i := 167) rfl))) (notFace_of_selects (args := #[]) (mvT hZ (hw _ (List.mem_of_getElem? (i := 169) rfl)))) (mvT hZ (hw _ (List.mem_of_getElem? (i := 169) rfl))) (mvT hZ (hw _ (List.mem_of_getElem? (i := 168) rfl))) (by decide) (backOf (W := 0) (rm24 l Z a0 hw [] el_w_elementData_w_loads_r0_1 y8 h0 n0 (Nat.le_trans Z0 (Keep.refl h0 []).1) y59 y60) hZ (hw _ (List.mem_of_getElem? (i := 170) rfl)) (hw _ (List.mem_of_getElem? (i := 103) rfl)) (by decide) (by decide)) q17a q17c (g := (mkF m 35 #[.val (.ref r0), .val (.ref r1), .val (.int (1 : Int32)), .val (.ref el_w_elementData_w_loads_r0_1)] [(.ref el_w_elementData_w_loads_r0_1)])) rfl (by rw [hml]; rfl) (Steps.refl _) (argsL := []) (rest := []) (lenOf pd_3 rfl) rfl (by show 2 * 0 + _ ≤ _; exact Nat.le_of_eq rfl) (hb hby d10_35) (fun _ _ => ⟨rfl, e14, (by decide : 0 + 0 ≤ _), (by decide : 0 + 0 ≤ _)⟩)
      dsimp only [Pt.U, Pt.locs, Pt.cells, Pt.slots] at X17 l17 y17 z17 st17 hQ17
      subst l17 y17 z17
      obtain ⟨rfl, Nq17, e17, f17_0⟩ := hQ17
      have N17 := Fr.app N14 Nq17
      have pre18 : ∀ t, Steps p.tables e below (T17.setTop (mkF m 38 #[.val (.ref r0), .val (.ref r1), .val (.int (1 : Int32)), .val (.ref el_w_elementData_w_loads_r0_1)] [y8])) t → Steps p.tables e below (s₁.setTop (entryFrame m #[(.ref r0), (.ref r1)] 4)) t := by
        intro t k
        refine pre15 _ ?_
        show Steps p.tables e below (T14.setTop (mkF m 31 #[.val (.ref r0), .val (.ref r1), .val (.int (1 : Int32)), .val (.ref el_w_elementData_w_loads_r0_1)] [(.ref r1), (.ref y6)])) _
        refine Jvm.RoadKit.acmp (g := (mkF m 31 #[.val (.ref r0), .val (.ref r1), .val (.int (1 : Int32)), .val (.ref el_w_elementData_w_loads_r0_1)] [(.ref r1), (.ref y6)])) X14 hx rfl rfl rfl (pc0 := 31) (pc' := 34) (same := true) rfl (hb hby d10_31) rfl (decide_eq_true (congrArg Value.ref hc31_16)) (by decide) (by decide) ?_
        show Steps p.tables e below (T14.setTop (mkF m 34 #[.val (.ref r0), .val (.ref r1), .val (.int (1 : Int32)), .val (.ref el_w_elementData_w_loads_r0_1)] [])) _
        refine XS.aloadN X14.here hx rfl (hb hby d10_34) rfl rfl ?_
        show Steps p.tables e below (T14.setTop (mkF m 35 #[.val (.ref r0), .val (.ref r1), .val (.int (1 : Int32)), .val (.ref el_w_elementData_w_loads_r0_1)] [(.ref el_w_elementData_w_loads_r0_1)])) _
        refine st17.trans ?_
        exact k
      obtain ⟨fs, hr, hrun, hended, hW, hsame⟩ := X17.leave (v := some y8) (fun h => by rw [Bd.returns] at h; cases h)
      refine ⟨_, _, pre18 _ ?_, hrun, hended, _, _, rfl, ?_, ⟨_, rfl⟩, hW, hsame.mono (by decide) (by decide)⟩
      · show Steps p.tables e below (T17.setTop (mkF m 38 #[.val (.ref r0), .val (.ref r1), .val (.int (1 : Int32)), .val (.ref el_w_elementData_w_loads_r0_1)] [y8])) _
        exact areturnOut X17 hx f17_0 Bd.returns rfl (hb hby d10_38) hr
      · show Q10c Z r0 r1 y1 y4 y14 el_w_elementData_w_loads_r0_0 y2 y3 y19 el_w_elementData_w_loads_r0_1 y6 y8 y29 el_w_elementData_w_loads_r0_2 y10 y11 h0 n0 _ T17.heap _
        rw [e17]
        exact ⟨congrArg some (show (own_r10c r1 y2 y3 y6 y8 y10 y11) = y8 from ((if_neg hc31_8).trans (if_pos hc31_16))).symm, N17, rfl, (by rw [show (own_r10c r1 y2 y3 y6 y8 y10 y11) = y8 from ((if_neg hc31_8).trans (if_pos hc31_16))]; exact f17_0)⟩
    · obtain ⟨T19, X19, e19, st19⟩ := getF X14 hx hZ hown (host := "") (Or.inl (hw _ (List.mem_of_getElem? (i := 82) rfl))) Via.refl e14 y24 (g := (mkF m 15 #[.val (.ref r0), .val (.ref r1), .val (.int (0 : Int32)), .val (.ref el_w_elementData_w_loads_r0_1)] [(.ref r0)])) rfl rfl (hb hby d10_15)
      obtain ⟨cq20, kq20, q20a, q20b, q20c⟩ := isOf hZ e19 y16
      obtain ⟨_, _, ⟨T20, L20, k20, n20⟩, -, X20, ⟨Lc20, hQ20, l20, y20, z20⟩, st20⟩ := X19.virtualBack hx (y := own_y2) (z := own_y2) hown (mvT hZ (hw _ (List.mem_of_getElem? (i := 142) rfl))) (mvT hZ (hw _ (List.mem_of_getElem? (i := 143) rfl))) (notFace_of_selects (args := #[]) (mvT hZ (hw _ (List.mem_of_getElem? (i := 145) rfl)))) (mvT hZ (hw _ (List.mem_of_getElem? (i := 145) rfl))) (mvT hZ (hw _ (List.mem_of_getElem? (i := 144) rfl))) (by decide) (backOf (W := 0) (rm19 l Z a0 hw [] y1 (0 : Int32) (3 : Int32) y4 y29 el_w_elementData_w_loads_r0_2 h0 n0 (Nat.le_trans Z0 (Keep.refl h0 []).1) y26 (by decide) (by decide) y30 ⟨Aa_w_elementData_w_loads_r0_2.1, Aa_w_elementData_w_loads_r0_2.2.1, Aa_w_elementData_w_loads_r0_2.2.2⟩ y16) hZ (hw _ (List.mem_of_getElem? (i := 146) rfl)) (hw _ (List.mem_of_getElem? (i := 60) rfl)) (by decide) (by decide)) q20a q20c (g := (mkF m 19 #[.val (.ref r0), .val (.ref r1), .val (.int (0 : Int32)), .val (.ref el_w_elementData_w_loads_r0_1)] [(.int (0 : Int32)), (.ref y1)])) rfl (by rw [hml]; rfl) (Steps.refl _) (argsL := [(.int (0 : Int32))]) (rest := []) (lenOf pd_13 rfl) rfl (by show 2 * 0 + _ ≤ _; exact Nat.le_of_eq rfl) (hb hby d10_19) (fun _ _ => ⟨rfl, e19, (by decide : 0 + 0 ≤ _), (by decide : 0 + 0 ≤ _)⟩)
      dsimp only [Pt.U, Pt.locs, Pt.cells, Pt.slots] at X20 l20 y20 z20 st20 hQ20
      subst l20 y20 z20
      obtain ⟨rfl, Nq20, e20⟩ := hQ20
      have N20 := Fr.app N14 Nq20
      obtain ⟨T21, X21, e21, st21⟩ := castY X20 hx hZ hown (hw _ (List.mem_of_getElem? (i := 101) rfl)) e20 (Ins.self y49) (g := (mkF m 22 #[.val (.ref r0), .val (.ref r1), .val (.int (0 : Int32)), .val (.ref el_w_elementData_w_loads_r0_1)] [(.ref el_w_elementData_w_loads_r0_2)])) rfl rfl (hb hby d10_22)
      obtain ⟨cq22, kq22, q22a, q22b, q22c⟩ := isOf hZ e21 y49
      obtain ⟨_, _, ⟨T22, L22, k22, n22⟩, -, X22, ⟨Lc22, hQ22, l22, y22, z22⟩, st22⟩ := X21.virtualBack hx (y := own_y3) (z := own_y3) hown (mvT hZ (hw _ (List.mem_of_getElem? (i := 161) rfl))) (mvT hZ (hw _ (List.mem_of_getElem? (i := 162) rfl))) (notFace_of_selects (args := #[]) (mvT hZ (hw _ (List.mem_of_getElem? (i := 164) rfl)))) (mvT hZ (hw _ (List.mem_of_getElem? (i := 164) rfl))) (mvT hZ (hw _ (List.mem_of_getElem? (i := 163) rfl))) (by decide) (backOf (W := 0) (rm23 l Z a0 hw [] el_w_elementData_w_loads_r0_2 y10 h0 n0 (Nat.le_trans Z0 (Keep.refl h0 []).1) y73) hZ (hw _ (List.mem_of_getElem? (i := 165) rfl)) (hw _ (List.mem_of_getElem? (i := 103) rfl)) (by decide) (by decide)) q22a q22c (g := (mkF m 27 #[.val (.ref r0), .val (.ref r1), .val (.int (0 : Int32)), .val (.ref el_w_elementData_w_loads_r0_2)] [(.ref el_w_elementData_w_loads_r0_2)])) rfl (by rw [hml]; rfl) (Steps.refl _) (argsL := []) (rest := []) (lenOf pd_14 rfl) rfl (by show 2 * 0 + _ ≤ _; exact Nat.le_of_eq rfl) (hb hby d10_27) (fun _ _ => ⟨rfl, e21, (by decide : 0 + 0 ≤ _), (by decide : 0 + 0 ≤ _)⟩)
      dsimp only [Pt.U, Pt.locs, Pt.cells, Pt.slots] at X22 l22 y22 z22 st22 hQ22
      subst l22 y22 z22
      obtain ⟨rfl, Nq22, e22⟩ := hQ22
      have N22 := Fr.app N20 Nq22
      have pre23 : ∀ t, Steps p.tables e below (T22.setTop (mkF m 31 #[.val (.ref r0), .val (.ref r1), .val (.int (0 : Int32)), .val (.ref el_w_elementData_w_loads_r0_2)] [(.ref r1), (.ref y10)])) t → Steps p.tables e below (s₁.setTop (entryFrame m #[(.ref r0), (.ref r1)] 4)) t := by
        intro t k
        refine pre15 _ ?_
        show Steps p.tables e below (T14.setTop (mkF m 31 #[.val (.ref r0), .val (.ref r1), .val (.int (1 : Int32)), .val (.ref el_w_elementData_w_loads_r0_1)] [(.ref r1), (.ref y6)])) _
        refine Jvm.RoadKit.acmp (g := (mkF m 31 #[.val (.ref r0), .val (.ref r1), .val (.int (1 : Int32)), .val (.ref el_w_elementData_w_loads_r0_1)] [(.ref r1), (.ref y6)])) X14 hx rfl rfl rfl (pc0 := 31) (pc' := 39) (same := false) rfl (hb hby d10_31) rfl (decide_eq_false fun q => hc31_16 (Value.ref.inj q)) (by decide) (by decide) ?_
        show Steps p.tables e below (T14.setTop (mkF m 39 #[.val (.ref r0), .val (.ref r1), .val (.int (1 : Int32)), .val (.ref el_w_elementData_w_loads_r0_1)] [])) _
        refine XS.iinc X14.here hx rfl (hb hby d10_39) rfl (l' := #[.val (.ref r0), .val (.ref r1), .val (.int (0 : Int32)), .val (.ref el_w_elementData_w_loads_r0_1)]) rfl ?_
        refine XS.goto X14.here hx rfl (pc0 := 42) (pc' := 10) rfl (hb hby d10_42) (by decide) (by decide) ?_
        show Steps p.tables e below (T14.setTop (mkF m 10 #[.val (.ref r0), .val (.ref r1), .val (.int (0 : Int32)), .val (.ref el_w_elementData_w_loads_r0_1)] [])) _
        refine XS.iloadN X14.here hx rfl (hb hby d10_10) rfl ?_
        refine XS.ifNo X14.here hx rfl (hb hby d10_11) rfl ((if0 _ _).trans (flt (by decide : ¬ ((0 : Int32) < (0 : Int32)))).1) ?_
        show Steps p.tables e below (T14.setTop (mkF m 14 #[.val (.ref r0), .val (.ref r1), .val (.int (0 : Int32)), .val (.ref el_w_elementData_w_loads_r0_1)] [])) _
        refine XS.aloadN X14.here hx rfl (hb hby d10_14) rfl rfl ?_
        show Steps p.tables e below (T14.setTop (mkF m 15 #[.val (.ref r0), .val (.ref r1), .val (.int (0 : Int32)), .val (.ref el_w_elementData_w_loads_r0_1)] [(.ref r0)])) _
        refine st19 _ ?_
        show Steps p.tables e below (T19.setTop (mkF m 18 #[.val (.ref r0), .val (.ref r1), .val (.int (0 : Int32)), .val (.ref el_w_elementData_w_loads_r0_1)] [(.ref y1)])) _
        refine XS.iloadN X19.here hx rfl (hb hby d10_18) rfl ?_
        show Steps p.tables e below (T19.setTop (mkF m 19 #[.val (.ref r0), .val (.ref r1), .val (.int (0 : Int32)), .val (.ref el_w_elementData_w_loads_r0_1)] [(.int (0 : Int32)), (.ref y1)])) _
        refine st20.trans ?_
        show Steps p.tables e below (T20.setTop (mkF m 22 #[.val (.ref r0), .val (.ref r1), .val (.int (0 : Int32)), .val (.ref el_w_elementData_w_loads_r0_1)] [(.ref el_w_elementData_w_loads_r0_2)])) _
        refine st21 _ ?_
        show Steps p.tables e below (T21.setTop (mkF m 25 #[.val (.ref r0), .val (.ref r1), .val (.int (0 : Int32)), .val (.ref el_w_elementData_w_loads_r0_1)] [(.ref el_w_elementData_w_loads_r0_2)])) _
        refine XS.astoreN X21.here hx rfl (hb hby d10_25) rfl rfl (l' := #[.val (.ref r0), .val (.ref r1), .val (.int (0 : Int32)), .val (.ref el_w_elementData_w_loads_r0_2)]) rfl ?_
        refine XS.aloadN X21.here hx rfl (hb hby d10_26) rfl rfl ?_
        show Steps p.tables e below (T21.setTop (mkF m 27 #[.val (.ref r0), .val (.ref r1), .val (.int (0 : Int32)), .val (.ref el_w_elementData_w_loads_r0_2)] [(.ref el_w_elementData_w_loads_r0_2)])) _
        refine st22.trans ?_
        show Steps p.tables e below (T22.setTop (mkF m 30 #[.val (.ref r0), .val (.ref r1), .val (.int (0 : Int32)), .val (.ref el_w_elementData_w_loads_r0_2)] [(.ref y10)])) _
        refine XS.aloadN X22.here hx rfl (hb hby d10_30) rfl rfl ?_
        exact k
      by_cases hc31_24 : y10 = r1
      · obtain ⟨cq25, kq25, q25a, q25b, q25c⟩ := isOf hZ e22 y49
        obtain ⟨_, _, ⟨T25, L25, k25, n25⟩, -, X25, ⟨Lc25, hQ25, l25, y25, z25⟩, st25⟩ := X22.virtualBack hx (y := own_y4) (z := own_y4) hown (mvT hZ (hw _ (List.mem_of_getElem? (i := 166) rfl))) (mvT hZ (hw _ (List.mem_of_getElem? (i := 167) rfl))) (notFace_of_selects (args := #[]) (mvT hZ (hw _ (List.mem_of_getElem? (i := 169) rfl)))) (mvT hZ (hw _ (List.mem_of_getElem? (i := 169) rfl))) (mvT hZ (hw _ (List.mem_of_getElem? (i := 168) rfl))) (by decide) (backOf (W := 0) (rm24 l Z a0 hw [] el_w_elementData_w_loads_r0_2 y11 h0 n0 (Nat.le_trans Z0 (Keep.refl h0 []).1) y74 y75) hZ (hw _ (List.mem_of_getElem? (i := 170) rfl)) (hw _ (List.mem_of_getElem? (i := 103) rfl)) (by decide) (by decide)) q25a q25c (g := (mkF m 35 #[.val (.ref r0), .val (.ref r1), .val (.int (0 : Int32)), .val (.ref el_w_elementData_w_loads_r0_2)] [(.ref el_w_elementData_w_loads_r0_2)])) rfl (by rw [hml]; rfl) (Steps.refl _) (argsL := []) (rest := []) (lenOf pd_3 rfl) rfl (by show 2 * 0 + _ ≤ _; exact Nat.le_of_eq rfl) (hb hby d10_35) (fun _ _ => ⟨rfl, e22, (by decide : 0 + 0 ≤ _), (by decide : 0 + 0 ≤ _)⟩)
        dsimp only [Pt.U, Pt.locs, Pt.cells, Pt.slots] at X25 l25 y25 z25 st25 hQ25
        subst l25 y25 z25
        obtain ⟨rfl, Nq25, e25, f25_0⟩ := hQ25
        have N25 := Fr.app N22 Nq25
        have pre26 : ∀ t, Steps p.tables e below (T25.setTop (mkF m 38 #[.val (.ref r0), .val (.ref r1), .val (.int (0 : Int32)), .val (.ref el_w_elementData_w_loads_r0_2)] [y11])) t → Steps p.tables e below (s₁.setTop (entryFrame m #[(.ref r0), (.ref r1)] 4)) t := by
          intro t k
          refine pre23 _ ?_
          show Steps p.tables e below (T22.setTop (mkF m 31 #[.val (.ref r0), .val (.ref r1), .val (.int (0 : Int32)), .val (.ref el_w_elementData_w_loads_r0_2)] [(.ref r1), (.ref y10)])) _
          refine Jvm.RoadKit.acmp (g := (mkF m 31 #[.val (.ref r0), .val (.ref r1), .val (.int (0 : Int32)), .val (.ref el_w_elementData_w_loads_r0_2)] [(.ref r1), (.ref y10)])) X22 hx rfl rfl rfl (pc0 := 31) (pc' := 34) (same := true) rfl (hb hby d10_31) rfl (decide_eq_true (congrArg Value.ref hc31_24)) (by decide) (by decide) ?_
          show Steps p.tables e below (T22.setTop (mkF m 34 #[.val (.ref r0), .val (.ref r1), .val (.int (0 : Int32)), .val (.ref el_w_elementData_w_loads_r0_2)] [])) _
          refine XS.aloadN X22.here hx rfl (hb hby d10_34) rfl rfl ?_
          show Steps p.tables e below (T22.setTop (mkF m 35 #[.val (.ref r0), .val (.ref r1), .val (.int (0 : Int32)), .val (.ref el_w_elementData_w_loads_r0_2)] [(.ref el_w_elementData_w_loads_r0_2)])) _
          refine st25.trans ?_
          exact k
        obtain ⟨fs, hr, hrun, hended, hW, hsame⟩ := X25.leave (v := some y11) (fun h => by rw [Bd.returns] at h; cases h)
        refine ⟨_, _, pre26 _ ?_, hrun, hended, _, _, rfl, ?_, ⟨_, rfl⟩, hW, hsame.mono (by decide) (by decide)⟩
        · show Steps p.tables e below (T25.setTop (mkF m 38 #[.val (.ref r0), .val (.ref r1), .val (.int (0 : Int32)), .val (.ref el_w_elementData_w_loads_r0_2)] [y11])) _
          exact areturnOut X25 hx f25_0 Bd.returns rfl (hb hby d10_38) hr
        · show Q10c Z r0 r1 y1 y4 y14 el_w_elementData_w_loads_r0_0 y2 y3 y19 el_w_elementData_w_loads_r0_1 y6 y8 y29 el_w_elementData_w_loads_r0_2 y10 y11 h0 n0 _ T25.heap _
          rw [e25]
          exact ⟨congrArg some (show (own_r10c r1 y2 y3 y6 y8 y10 y11) = y11 from ((if_neg hc31_8).trans ((if_neg hc31_16).trans (if_pos hc31_24)))).symm, N25, rfl, (by rw [show (own_r10c r1 y2 y3 y6 y8 y10 y11) = y11 from ((if_neg hc31_8).trans ((if_neg hc31_16).trans (if_pos hc31_24)))]; exact f25_0)⟩
      · have pre27 : ∀ t, Steps p.tables e below (T22.setTop (mkF m 46 #[.val (.ref r0), .val (.ref r1), .val (.int (-1 : Int32)), .val (.ref el_w_elementData_w_loads_r0_2)] [.null])) t → Steps p.tables e below (s₁.setTop (entryFrame m #[(.ref r0), (.ref r1)] 4)) t := by
          intro t k
          refine pre23 _ ?_
          show Steps p.tables e below (T22.setTop (mkF m 31 #[.val (.ref r0), .val (.ref r1), .val (.int (0 : Int32)), .val (.ref el_w_elementData_w_loads_r0_2)] [(.ref r1), (.ref y10)])) _
          refine Jvm.RoadKit.acmp (g := (mkF m 31 #[.val (.ref r0), .val (.ref r1), .val (.int (0 : Int32)), .val (.ref el_w_elementData_w_loads_r0_2)] [(.ref r1), (.ref y10)])) X22 hx rfl rfl rfl (pc0 := 31) (pc' := 39) (same := false) rfl (hb hby d10_31) rfl (decide_eq_false fun q => hc31_24 (Value.ref.inj q)) (by decide) (by decide) ?_
          show Steps p.tables e below (T22.setTop (mkF m 39 #[.val (.ref r0), .val (.ref r1), .val (.int (0 : Int32)), .val (.ref el_w_elementData_w_loads_r0_2)] [])) _
          refine XS.iinc X22.here hx rfl (hb hby d10_39) rfl (l' := #[.val (.ref r0), .val (.ref r1), .val (.int (-1 : Int32)), .val (.ref el_w_elementData_w_loads_r0_2)]) rfl ?_
          refine XS.goto X22.here hx rfl (pc0 := 42) (pc' := 10) rfl (hb hby d10_42) (by decide) (by decide) ?_
          show Steps p.tables e below (T22.setTop (mkF m 10 #[.val (.ref r0), .val (.ref r1), .val (.int (-1 : Int32)), .val (.ref el_w_elementData_w_loads_r0_2)] [])) _
          refine XS.iloadN X22.here hx rfl (hb hby d10_10) rfl ?_
          refine XS.ifYes X22.here hx rfl (pc0 := 11) (pc' := 45) rfl (hb hby d10_11) rfl ((if0 _ _).trans (tlt (by decide : (-1 : Int32) < (0 : Int32))).1) (by decide) (by decide) ?_
          show Steps p.tables e below (T22.setTop (mkF m 45 #[.val (.ref r0), .val (.ref r1), .val (.int (-1 : Int32)), .val (.ref el_w_elementData_w_loads_r0_2)] [])) _
          refine XS.aconstNull X22.here hx rfl (hb hby d10_45) ?_
          exact k
        obtain ⟨fs, hr, hrun, hended, hW, hsame⟩ := X22.leave (v := some .null) (fun h => by rw [Bd.returns] at h; cases h)
        refine ⟨_, _, pre27 _ ?_, hrun, hended, _, _, rfl, ?_, ⟨_, rfl⟩, hW, hsame.mono (by decide) (by decide)⟩
        · show Steps p.tables e below (T22.setTop (mkF m 46 #[.val (.ref r0), .val (.ref r1), .val (.int (-1 : Int32)), .val (.ref el_w_elementData_w_loads_r0_2)] [.null])) _
          exact areturnOut X22 hx rfl Bd.returns rfl (hb hby d10_46) hr
        · show Q10c Z r0 r1 y1 y4 y14 el_w_elementData_w_loads_r0_0 y2 y3 y19 el_w_elementData_w_loads_r0_1 y6 y8 y29 el_w_elementData_w_loads_r0_2 y10 y11 h0 n0 _ T22.heap _
          rw [e22]
          exact ⟨congrArg some (show (own_r10c r1 y2 y3 y6 y8 y10 y11) = Value.null from ((if_neg hc31_8).trans ((if_neg hc31_16).trans (if_neg hc31_24)))).symm, N22, rfl, (by rw [show (own_r10c r1 y2 y3 y6 y8 y10 y11) = Value.null from ((if_neg hc31_8).trans ((if_neg hc31_16).trans (if_neg hc31_24)))]; exact rfl)⟩
def Q15c (Z : State) (r0 : Addr) (r1 : Addr) (r2 : Addr) (y12 : Value) (y22 : Value) (e0_r2 : Addr) (e1_r2 : Addr) (e2_r2 : Addr) (k_r2 : ClassId) (y17 : Value) (h0 : Heap) (n0 : Nat) (v : Option Value) (h : Heap) (L : List Loc) : Prop := v = none ∧ Fr n0 L ∧ Keep h0 h [r2, r0] ∧ Arv Z h r2 k_r2 (.object "java/lang/Object") (10 : Int32) [(.ref e0_r2), (.ref e1_r2), (.ref e2_r2), (.ref r1), .null, .null, .null, .null, .null, .null] .null ∧ Exa Z h r0 "java/util/ArrayList" ∧ Fld Z h r0 "java/util/ArrayList" "size" "I" (.int (4 : Int32)) ∧ Fld Z h r0 "java/util/AbstractList" "modCount" "I" y12 ∧ Fld Z h r0 "java/util/ArrayList" "elementData" "[Ljava/lang/Object;" y22 ∧ Ovr Z k_r2 "java/lang/Object"
theorem ef_15c (m : MethodId) (x0 : Addr) (x1 : Addr) (x2 : Addr) : entryFrame m #[(.ref x0), (.ref x1), (.ref x2), (.int (3 : Int32))] 4 = mkF m 0 #[.val (.ref x0), .val (.ref x1), .val (.ref x2), .val (.int (3 : Int32))] [] := by first | (simp [entryFrame, mkF, argsToLocals, Value.category]; done) | rfl
set_option maxRecDepth 65536 in
set_option maxHeartbeats 40000000 in
theorem rm15c (l : Launch) (Z : State) (a0 : Array Value) (hw : ∀ d ∈ tables_1, d.before a0 Z = true) (ws : List Jvm.Cond) (r0 : Addr) (r1 : Addr) (r2 : Addr) (y12 : Value) (y22 : Value) (e0_r2 : Addr) (e1_r2 : Addr) (e2_r2 : Addr) (k_r2 : ClassId) (y17 : Value) (h0 : Heap) (n0 : Nat) (Z0 : n0 ≤ h0.size) (y18 : Fld Z h0 r0 "java/util/AbstractList" "modCount" "I" y12) (y23 : Fld Z h0 r0 "java/util/ArrayList" "elementData" "[Ljava/lang/Object;" y22) (O_r2 : Ovr Z k_r2 "java/lang/Object") (V_r2 : Arv Z h0 r2 k_r2 (.object "java/lang/Object") (10 : Int32) [(.ref e0_r2), (.ref e1_r2), (.ref e2_r2), .null, .null, .null, .null, .null, .null, .null] .null) (E_r1 : Exa Z h0 r1 "com/example/fetchwright/fetchwright/service/LoadsInProgress$Load") (g_r2 : n0 ≤ r2) (E_r0 : Exa Z h0 r0 "java/util/ArrayList") (y15 : Fld Z h0 r0 "java/util/ArrayList" "size" "I" y17) (ne_r0_r2 : r0 ≠ r2) (g_r0 : n0 ≤ r0) :
    MetFree l own_y8 (head1 (Jvm.Cond.code own_y8 jdk_38_method_24_code 4 none :: ws) ({ frames := 0, cells := 0, slots := 0, locals := 0 } : Room)) (fun a U => a = #[(.ref r0), (.ref r1), (.ref r2), (.int (3 : Int32))] ∧ Z.Warmed39 U.vm ∧ U.heap = h0) (fun _ _ _ _ _ => True) (fun _ U o U' => ∃ v L, o = .returned v ∧ Q15c Z r0 r1 r2 y12 y22 e0_r2 e1_r2 e2_r2 k_r2 y17 h0 n0 v U'.heap L ∧ FrameEnd U o U' L ({ frames := 0, cells := 0, slots := 0, locals := 0 } : Room).cells ({ frames := 0, cells := 0, slots := 0, locals := 0 } : Room).slots) := by
  refine MetFree.of_bodySF (plainFor_of_name pn_5) hisR ?_
  intro p e s m args below meth c s₁ Bd hml0 hP hK
  obtain ⟨rfl, hZ, hh⟩ := hP
  have hx := Bd.exec
  have hby := Bd.bytes
  have hml : c.maxLocals = 4 := hml0
  have hown : s.vm.findClass "java/util/ArrayList" = some m.cls := findClass_of_methodNamed Bd.named
  have hnm := (name_of_methodNamed Bd.named Bd.method).1
  have X0 : Stand p l e ({ frames := 0, cells := 0, slots := 0, locals := 0 } : Room) s m #[(.ref r0), (.ref r1), (.ref r2), (.int (3 : Int32))] below meth c s₁ [] 0 0 := Stand.of_body Bd
  have e0 : s₁.heap = h0 := by rw [← hh, Bd.state]; rfl
  have N0 := Fr.nil n0
  have pre0 : ∀ t, Steps p.tables e below (s₁.setTop (mkF m 0 #[.val (.ref r0), .val (.ref r1), .val (.ref r2), .val (.int (3 : Int32))] [])) t → Steps p.tables e below (s₁.setTop (entryFrame m #[(.ref r0), (.ref r1), (.ref r2), (.int (3 : Int32))] 4)) t := fun t k => castTop (ef_15c m r0 r1 r2) k
  obtain ⟨cl1, Ar1, -, Sz1, Nn1, -, -⟩ := id V_r2
  obtain ⟨cl2, Ar2, Cq2, Sz2, Nn2, Hh2, Gg2⟩ := id V_r2
  have hin2 : ¬ ((3 : Int32) < 0 ∨ cl2.slots.size ≤ ((3 : Int32)).toNatClampNeg) := inb_of Sz2 ⟨by decide, by decide⟩
  obtain ⟨T2, h2, X2, e2, W2, st2⟩ := stR X0 hx hZ e0 Ar2 (j := (3 : Int32)) hin2 rfl (Sto.ofV Ar2 Cq2 O_r2 (Ins.of_exa E_r1 (hw _ (List.mem_of_getElem? (i := 141) rfl)))) (g := (mkF m 14 #[.val (.ref r0), .val (.ref r1), .val (.ref r2), .val (.int (3 : Int32))] [(.ref r1), (.int (3 : Int32)), (.ref r2)])) rfl rfl (hb hby d15_14)
  have V2 : Arv Z h2 r2 k_r2 (.object "java/lang/Object") (10 : Int32) [(.ref e0_r2), (.ref e1_r2), (.ref e2_r2), (.ref r1), .null, .null, .null, .null, .null, .null] .null := Arv.set Ar2 Cq2 Sz2 Nn2 Hh2 Gg2 rfl W2 3 rfl (Nat.le_of_ble_eq_true rfl)
  have N2 := Fr.snoc X2 N0 g_r2
  have K3 : Keep h0 h2 [r2, r0] := (Keep.refl h0 [r2, r0]).wr W2 (Or.inl (List.mem_of_getElem? (i := 0) rfl))
  have f4 := (E_r0.wr W2)
  have f5 := (y15.other W2 (Or.inl ne_r0_r2))
  obtain ⟨T6, h6, X6, e6, W6, st6⟩ := putF X2 hx hZ hown (host := "") (Or.inl (hw _ (List.mem_of_getElem? (i := 94) rfl))) Via.refl e2 f5 f4 (Or.inl (hw _ (List.mem_of_getElem? (i := 95) rfl))) (hw _ (List.mem_of_getElem? (i := 59) rfl)) (ty := .int) (by decide) rfl rfl (g := (mkF m 19 #[.val (.ref r0), .val (.ref r1), .val (.ref r2), .val (.int (3 : Int32))] [(.int (4 : Int32)), (.ref r0)])) rfl rfl (hb hby d15_19)
  have N6 := Fr.snoc X6 N2 g_r0
  have K7 : Keep h0 h6 [r2, r0] := K3.wr W6 (Or.inl (List.mem_of_getElem? (i := 1) rfl))
  have F6 := f5.same W6
  have pre8 : ∀ t, Steps p.tables e below (T6.setTop (mkF m 22 #[.val (.ref r0), .val (.ref r1), .val (.ref r2), .val (.int (3 : Int32))] [])) t → Steps p.tables e below (s₁.setTop (entryFrame m #[(.ref r0), (.ref r1), (.ref r2), (.int (3 : Int32))] 4)) t := by
    intro t k
    refine pre0 _ ?_
    show Steps p.tables e below (s₁.setTop (mkF m 0 #[.val (.ref r0), .val (.ref r1), .val (.ref r2), .val (.int (3 : Int32))] [])) _
    refine XS.iloadN X0.here hx rfl (hb hby d15_0) rfl ?_
    refine XS.aloadN X0.here hx rfl (hb hby d15_1) rfl rfl ?_
    show Steps p.tables e below (s₁.setTop (mkF m 2 #[.val (.ref r0), .val (.ref r1), .val (.ref r2), .val (.int (3 : Int32))] [(.ref r2), (.int (3 : Int32))])) _
    refine X0.arraylength hx (by rw [e0]; exact Ar1.1) (State.isArrayOf_alike hZ.alike Ar1.2.1) (g := (mkF m 2 #[.val (.ref r0), .val (.ref r1), .val (.ref r2), .val (.int (3 : Int32))] [(.ref r2), (.int (3 : Int32))])) rfl rfl (hb hby d15_2) _ ?_
    rw [len_of Sz1 Nn1]
    show Steps p.tables e below (s₁.setTop (mkF m 3 #[.val (.ref r0), .val (.ref r1), .val (.ref r2), .val (.int (3 : Int32))] [(.int (10 : Int32)), (.int (3 : Int32))])) _
    refine XS.icmpYes X0.here hx rfl (pc0 := 3) (pc' := 11) rfl (hb hby d15_3) rfl (feq (by decide : ¬ ((3 : Int32) = (10 : Int32)))).2 (by decide) (by decide) ?_
    refine XS.aloadN X0.here hx rfl (hb hby d15_11) rfl rfl ?_
    show Steps p.tables e below (s₁.setTop (mkF m 12 #[.val (.ref r0), .val (.ref r1), .val (.ref r2), .val (.int (3 : Int32))] [(.ref r2)])) _
    refine XS.iloadN X0.here hx rfl (hb hby d15_12) rfl ?_
    refine XS.aloadN X0.here hx rfl (hb hby d15_13) rfl rfl ?_
    show Steps p.tables e below (s₁.setTop (mkF m 14 #[.val (.ref r0), .val (.ref r1), .val (.ref r2), .val (.int (3 : Int32))] [(.ref r1), (.int (3 : Int32)), (.ref r2)])) _
    refine st2 _ ?_
    show Steps p.tables e below (T2.setTop (mkF m 15 #[.val (.ref r0), .val (.ref r1), .val (.ref r2), .val (.int (3 : Int32))] [])) _
    refine XS.aloadN X2.here hx rfl (hb hby d15_15) rfl rfl ?_
    refine XS.iloadN X2.here hx rfl (hb hby d15_16) rfl ?_
    show Steps p.tables e below (T2.setTop (mkF m 17 #[.val (.ref r0), .val (.ref r1), .val (.ref r2), .val (.int (3 : Int32))] [(.int (3 : Int32)), (.ref r0)])) _
    refine XS.iconst X2.here hx rfl (hb hby d15_17) ?_
    refine XS.iadd X2.here hx rfl (hb hby d15_18) rfl ?_
    show Steps p.tables e below (T2.setTop (mkF m 19 #[.val (.ref r0), .val (.ref r1), .val (.ref r2), .val (.int (3 : Int32))] [(.int (4 : Int32)), (.ref r0)])) _
    refine st6 _ ?_
    exact k
  have f9 := (V2.other W6 (Ne.symm ne_r0_r2))
  have f10 := (f4.wr W6)
  have f11 := ((y18.other W2 (Or.inl ne_r0_r2)).other W6 (Or.inr (slot_ne (Or.inl (hw _ (List.mem_of_getElem? (i := 78) rfl))) (Or.inl (hw _ (List.mem_of_getElem? (i := 95) rfl))) (by decide) (t := .int) (t' := .int) (by decide) (by decide))))
  have f12 := ((y23.other W2 (Or.inl ne_r0_r2)).other W6 (Or.inr (slot_ne (Or.inl (hw _ (List.mem_of_getElem? (i := 81) rfl))) (Or.inl (hw _ (List.mem_of_getElem? (i := 95) rfl))) (by decide) (t := (.array (.object "java/lang/Object"))) (t' := .int) (by decide) (by decide))))
  obtain ⟨fs, hr, hrun, hended, hW, hsame⟩ := X6.leave (v := none) (fun _ => rfl)
  refine ⟨_, _, pre8 _ ?_, hrun, hended, _, _, rfl, ?_, ⟨_, rfl⟩, hW, hsame.mono (by decide) (by decide)⟩
  · show Steps p.tables e below (T6.setTop (mkF m 22 #[.val (.ref r0), .val (.ref r1), .val (.ref r2), .val (.int (3 : Int32))] [])) _
    exact X6.returnOut hx Bd.returns (hb hby d15_22) hr
  · show Q15c Z r0 r1 r2 y12 y22 e0_r2 e1_r2 e2_r2 k_r2 y17 h0 n0 _ T6.heap _
    rw [e6]
    exact ⟨rfl, N6, K7, f9, f10, F6, f11, f12, O_r2⟩
def Q14c (Z : State) (r0 : Addr) (r1 : Addr) (y7 : Addr) (y31 : Addr) (y37 : Addr) (y50 : Addr) (y27 : ClassId) (h0 : Heap) (n0 : Nat) (v : Option Value) (h : Heap) (L : List Loc) : Prop := v = some (.int (1 : Int32)) ∧ Fr n0 L ∧ Keep h0 h [r0, y7] ∧ Exa Z h r0 "java/util/ArrayList" ∧ Arv Z h y7 y27 (.object "java/lang/Object") (10 : Int32) [(.ref y31), (.ref y37), (.ref y50), (.ref r1), .null, .null, .null, .null, .null, .null] .null ∧ Fld Z h r0 "java/util/ArrayList" "size" "I" (.int (4 : Int32)) ∧ Fld Z h r0 "java/util/AbstractList" "modCount" "I" (.int (4 : Int32)) ∧ Fld Z h r0 "java/util/ArrayList" "elementData" "[Ljava/lang/Object;" (.ref y7) ∧ Ovr Z y27 "java/lang/Object"
theorem ef_14c (m : MethodId) (x0 : Addr) (x1 : Addr) : entryFrame m #[(.ref x0), (.ref x1)] 2 = mkF m 0 #[.val (.ref x0), .val (.ref x1)] [] := by first | (simp [entryFrame, mkF, argsToLocals, Value.category]; done) | rfl
set_option maxRecDepth 65536 in
set_option maxHeartbeats 40000000 in
theorem rm14c (l : Launch) (Z : State) (a0 : Array Value) (hw : ∀ d ∈ tables_1, d.before a0 Z = true) (ws : List Jvm.Cond) (r0 : Addr) (r1 : Addr) (y7 : Addr) (y31 : Addr) (y37 : Addr) (y50 : Addr) (y27 : ClassId) (h0 : Heap) (n0 : Nat) (Z0 : n0 ≤ h0.size) (y18 : Fld Z h0 r0 "java/util/AbstractList" "modCount" "I" (.int (3 : Int32))) (E_r0 : Exa Z h0 r0 "java/util/ArrayList") (g_r0 : n0 ≤ r0) (y23 : Fld Z h0 r0 "java/util/ArrayList" "elementData" "[Ljava/lang/Object;" (.ref y7)) (y15 : Fld Z h0 r0 "java/util/ArrayList" "size" "I" (.int (3 : Int32))) (y52 : Ovr Z y27 "java/lang/Object") (y53 : Arv Z h0 y7 y27 (.object "java/lang/Object") (10 : Int32) [(.ref y31), (.ref y37), (.ref y50), .null, .null, .null, .null, .null, .null, .null] .null) (y44 : y7 ≠ r0) (E_r1 : Exa Z h0 r1 "com/example/fetchwright/fetchwright/service/LoadsInProgress$Load") (y54 : n0 ≤ y7) :
    MetFree l own_y7 (head1 (Jvm.Cond.code own_y7 jdk_38_method_25_code 2 (some .boolean) :: ws) ({ frames := 1, cells := 0, slots := 0, locals := 15 } : Room)) (fun a U => a = #[(.ref r0), (.ref r1)] ∧ Z.Warmed39 U.vm ∧ U.heap = h0) (fun _ _ _ _ _ => True) (fun _ U o U' => ∃ v L, o = .returned v ∧ Q14c Z r0 r1 y7 y31 y37 y50 y27 h0 n0 v U'.heap L ∧ FrameEnd U o U' L ({ frames := 1, cells := 0, slots := 0, locals := 15 } : Room).cells ({ frames := 1, cells := 0, slots := 0, locals := 15 } : Room).slots) := by
  refine MetFree.of_bodySF (plainFor_of_name pn_5) hisR ?_
  intro p e s m args below meth c s₁ Bd hml0 hP hK
  obtain ⟨rfl, hZ, hh⟩ := hP
  have hx := Bd.exec
  have hby := Bd.bytes
  have hml : c.maxLocals = 2 := hml0
  have hown : s.vm.findClass "java/util/ArrayList" = some m.cls := findClass_of_methodNamed Bd.named
  have hnm := (name_of_methodNamed Bd.named Bd.method).1
  have X0 : Stand p l e ({ frames := 1, cells := 0, slots := 0, locals := 15 } : Room) s m #[(.ref r0), (.ref r1)] below meth c s₁ [] 0 0 := Stand.of_body Bd
  have e0 : s₁.heap = h0 := by rw [← hh, Bd.state]; rfl
  have N0 := Fr.nil n0
  have pre0 : ∀ t, Steps p.tables e below (s₁.setTop (mkF m 0 #[.val (.ref r0), .val (.ref r1)] [])) t → Steps p.tables e below (s₁.setTop (entryFrame m #[(.ref r0), (.ref r1)] 2)) t := fun t k => castTop (ef_14c m r0 r1) k
  obtain ⟨T1, X1, e1, st1⟩ := getF X0 hx hZ hown (host := "") (Or.inl (hw _ (List.mem_of_getElem? (i := 119) rfl))) (Via.of (hw _ (List.mem_of_getElem? (i := 120) rfl))) e0 y18 (g := (mkF m 2 #[.val (.ref r0), .val (.ref r1)] [(.ref r0), (.ref r0)])) rfl rfl (hb hby d14_2)
  obtain ⟨T2, h2, X2, e2, W2, st2⟩ := putF X1 hx hZ hown (host := "") (Or.inl (hw _ (List.mem_of_getElem? (i := 119) rfl))) (Via.of (hw _ (List.mem_of_getElem? (i := 120) rfl))) e1 y18 E_r0 (Or.inl (hw _ (List.mem_of_getElem? (i := 78) rfl))) (hw _ (List.mem_of_getElem? (i := 59) rfl)) (ty := .int) (by decide) rfl rfl (g := (mkF m 7 #[.val (.ref r0), .val (.ref r1)] [(.int (4 : Int32)), (.ref r0)])) rfl rfl (hb hby d14_7)
  have N2 := Fr.snoc X2 N0 g_r0
  have K3 : Keep h0 h2 [r0, y7] := (Keep.refl h0 [r0, y7]).wr W2 (Or.inl (List.mem_of_getElem? (i := 0) rfl))
  have F2 := y18.same W2
  have f4 := (y23.other W2 (Or.inr (slot_ne (Or.inl (hw _ (List.mem_of_getElem? (i := 81) rfl))) (Or.inl (hw _ (List.mem_of_getElem? (i := 78) rfl))) (by decide) (t := (.array (.object "java/lang/Object"))) (t' := .int) (by decide) (by decide))))
  obtain ⟨T5, X5, e5, st5⟩ := getF X2 hx hZ hown (host := "") (Or.inl (hw _ (List.mem_of_getElem? (i := 80) rfl))) Via.refl e2 f4 (g := (mkF m 13 #[.val (.ref r0), .val (.ref r1)] [(.ref r0), (.ref r1), (.ref r0)])) rfl rfl (hb hby d14_13)
  have f6 := (y15.other W2 (Or.inr (slot_ne (Or.inl (hw _ (List.mem_of_getElem? (i := 95) rfl))) (Or.inl (hw _ (List.mem_of_getElem? (i := 78) rfl))) (by decide) (t := .int) (t' := .int) (by decide) (by decide))))
  obtain ⟨T7, X7, e7, st7⟩ := getF X5 hx hZ hown (host := "") (Or.inl (hw _ (List.mem_of_getElem? (i := 94) rfl))) Via.refl e5 f6 (g := (mkF m 17 #[.val (.ref r0), .val (.ref r1)] [(.ref r0), (.ref y7), (.ref r1), (.ref r0)])) rfl rfl (hb hby d14_17)
  have f8 := (y53.other W2 y44)
  have f9 := (E_r1.wr W2)
  have f10 := (E_r0.wr W2)
  obtain ⟨cq11, q11, q11'⟩ := f10.cell
  obtain ⟨_, _, ⟨T11, L11, k11, n11⟩, -, X11, ⟨Lc11, hQ11, l11, y11, z11⟩, st11⟩ := X7.privateBack hx (y := own_y8) hown (mvT hZ (hw _ (List.mem_of_getElem? (i := 121) rfl))) (mvT hZ (hw _ (List.mem_of_getElem? (i := 122) rfl))) (mvT hZ (hw _ (List.mem_of_getElem? (i := 124) rfl))) (Cond.privateMethod_at (mvP hZ (hw _ (List.mem_of_getElem? (i := 123) rfl)) (args := #[]))) (mvT hZ (hw _ (List.mem_of_getElem? (i := 125) rfl))) (by decide) (backOf (W := 0) (rm15c l Z a0 hw [] r0 r1 y7 (.int (4 : Int32)) (.ref y7) y31 y37 y50 y27 (.int (3 : Int32)) h2 n0 (Nat.le_trans Z0 K3.1) F2 f4 y52 f8 f9 y54 f10 f6 (Ne.symm y44) g_r0) hZ (hw _ (List.mem_of_getElem? (i := 125) rfl)) (hw _ (List.mem_of_getElem? (i := 60) rfl)) (by decide) (by decide)) (g := (mkF m 20 #[.val (.ref r0), .val (.ref r1)] [(.int (3 : Int32)), (.ref y7), (.ref r1), (.ref r0)])) rfl (by rw [hml]; rfl) (Steps.refl _) (a := r0) (by rw [e7]; exact q11) q11' (argsL := [(.ref r1), (.ref y7), (.int (3 : Int32))]) (rest := []) (lenOf pd_10 rfl) rfl (by show 2 * 0 + _ ≤ _; exact Nat.le_of_eq rfl) (hb hby d14_20) (fun _ _ => ⟨rfl, e7, (by decide : 0 + 0 ≤ _), (by decide : 0 + 0 ≤ _)⟩)
  dsimp only [Pt.U, Pt.locs, Pt.cells, Pt.slots] at X11 l11 y11 z11 st11 hQ11
  subst l11 y11 z11
  obtain ⟨rfl, Nq11, Kq11, f11_0, f11_1, f11_2, f11_3, f11_4, f11_5⟩ := hQ11
  have K12 : Keep h0 T11.heap [r0, y7] := K3.trans Kq11 (allS (Or.inl (List.mem_of_getElem? (i := 1) rfl)) (allS (Or.inl (List.mem_of_getElem? (i := 0) rfl)) all0))
  have N11 := Fr.app N2 Nq11
  have pre13 : ∀ t, Steps p.tables e below (T11.setTop (mkF m 24 #[.val (.ref r0), .val (.ref r1)] [(.int (1 : Int32))])) t → Steps p.tables e below (s₁.setTop (entryFrame m #[(.ref r0), (.ref r1)] 2)) t := by
    intro t k
    refine pre0 _ ?_
    show Steps p.tables e below (s₁.setTop (mkF m 0 #[.val (.ref r0), .val (.ref r1)] [])) _
    refine XS.aloadN X0.here hx rfl (hb hby d14_0) rfl rfl ?_
    refine XS.dup X0.here hx rfl (hb hby d14_1) rfl rfl ?_
    show Steps p.tables e below (s₁.setTop (mkF m 2 #[.val (.ref r0), .val (.ref r1)] [(.ref r0), (.ref r0)])) _
    refine st1 _ ?_
    show Steps p.tables e below (T1.setTop (mkF m 5 #[.val (.ref r0), .val (.ref r1)] [(.int (3 : Int32)), (.ref r0)])) _
    refine XS.iconst X1.here hx rfl (hb hby d14_5) ?_
    refine XS.iadd X1.here hx rfl (hb hby d14_6) rfl ?_
    show Steps p.tables e below (T1.setTop (mkF m 7 #[.val (.ref r0), .val (.ref r1)] [(.int (4 : Int32)), (.ref r0)])) _
    refine st2 _ ?_
    show Steps p.tables e below (T2.setTop (mkF m 10 #[.val (.ref r0), .val (.ref r1)] [])) _
    refine XS.aloadN X2.here hx rfl (hb hby d14_10) rfl rfl ?_
    refine XS.aloadN X2.here hx rfl (hb hby d14_11) rfl rfl ?_
    show Steps p.tables e below (T2.setTop (mkF m 12 #[.val (.ref r0), .val (.ref r1)] [(.ref r1), (.ref r0)])) _
    refine XS.aloadN X2.here hx rfl (hb hby d14_12) rfl rfl ?_
    show Steps p.tables e below (T2.setTop (mkF m 13 #[.val (.ref r0), .val (.ref r1)] [(.ref r0), (.ref r1), (.ref r0)])) _
    refine st5 _ ?_
    show Steps p.tables e below (T5.setTop (mkF m 16 #[.val (.ref r0), .val (.ref r1)] [(.ref y7), (.ref r1), (.ref r0)])) _
    refine XS.aloadN X5.here hx rfl (hb hby d14_16) rfl rfl ?_
    show Steps p.tables e below (T5.setTop (mkF m 17 #[.val (.ref r0), .val (.ref r1)] [(.ref r0), (.ref y7), (.ref r1), (.ref r0)])) _
    refine st7 _ ?_
    show Steps p.tables e below (T7.setTop (mkF m 20 #[.val (.ref r0), .val (.ref r1)] [(.int (3 : Int32)), (.ref y7), (.ref r1), (.ref r0)])) _
    refine st11.trans ?_
    show Steps p.tables e below (T11.setTop (mkF m 23 #[.val (.ref r0), .val (.ref r1)] [])) _
    refine XS.iconst X11.here hx rfl (hb hby d14_23) ?_
    exact k
  obtain ⟨fs, hr, hrun, hended, hW, hsame⟩ := X11.leave (v := some (.int (1 : Int32))) (fun h => by rw [Bd.returns] at h; cases h)
  refine ⟨_, _, pre13 _ ?_, hrun, hended, _, _, rfl, ?_, ⟨_, rfl⟩, hW, hsame.mono (by decide) (by decide)⟩
  · show Steps p.tables e below (T11.setTop (mkF m 24 #[.val (.ref r0), .val (.ref r1)] [(.int (1 : Int32))])) _
    exact retN X11 hx (t := .boolean) Bd.returns (by simp) (hb hby d14_24) hr
  · show Q14c Z r0 r1 y7 y31 y37 y50 y27 h0 n0 _ T11.heap _
    exact ⟨rfl, N11, K12, f11_1, f11_0, f11_2, f11_3, f11_4, f11_5⟩
def Q12c (Z : State) (r0 : Addr) (r1 : Addr) (r2 : Addr) (v3 : Value) (y1 : Addr) (y4 : Addr) (y32 : Addr) (y38 : Addr) (y51 : Addr) (y28 : ClassId) (h0 : Heap) (n0 : Nat) (v : Option Value) (h : Heap) (L : List Loc) : Prop := ∃ (b2 : Addr), v = none ∧ Fr n0 L ∧ Keep h0 h [y4, y1] ∧ h0.size ≤ b2 ∧ Exa Z h b2 "com/example/fetchwright/fetchwright/service/LoadsInProgress$Load" ∧ Fld Z h b2 "com/example/fetchwright/fetchwright/service/LoadsInProgress$Load" "token" "Ljava/lang/Object;" (.ref r1) ∧ Fld Z h b2 "com/example/fetchwright/fetchwright/service/LoadsInProgress$Load" "session" "Ljava/lang/Object;" (.ref r2) ∧ Fld Z h b2 "com/example/fetchwright/fetchwright/service/LoadsInProgress$Load" "secondary" "Lcom/example/fetchwright/fetchwright/service/SecondaryLoad;" v3 ∧ Exa Z h y1 "java/util/ArrayList" ∧ Arv Z h y4 y28 (.object "java/lang/Object") (10 : Int32) [(.ref y32), (.ref y38), (.ref y51), (.ref b2), .null, .null, .null, .null, .null, .null] .null ∧ Fld Z h y1 "java/util/ArrayList" "size" "I" (.int (4 : Int32)) ∧ Fld Z h y1 "java/util/AbstractList" "modCount" "I" (.int (4 : Int32)) ∧ Fld Z h y1 "java/util/ArrayList" "elementData" "[Ljava/lang/Object;" (.ref y4) ∧ Ovr Z y28 "java/lang/Object"
theorem ef_12c (m : MethodId) (x0 : Addr) (x1 : Addr) (x2 : Addr) (x3 : Value) (hx3 : x3.isRef = true) : entryFrame m #[(.ref x0), (.ref x1), (.ref x2), x3] 4 = mkF m 0 #[.val (.ref x0), .val (.ref x1), .val (.ref x2), .val x3] [] := by rcases Jvm.Free.XT.refc hx3 with rfl | ⟨r, rfl⟩ <;> first | (simp [entryFrame, mkF, argsToLocals, Value.category]; done) | rfl
set_option maxRecDepth 65536 in
set_option maxHeartbeats 40000000 in
theorem rm12c (l : Launch) (Z : State) (a0 : Array Value) (hw : ∀ d ∈ tables_1, d.before a0 Z = true) (ws : List Jvm.Cond) (r0 : Addr) (r1 : Addr) (r2 : Addr) (v3 : Value) (y1 : Addr) (y4 : Addr) (y32 : Addr) (y38 : Addr) (y51 : Addr) (y28 : ClassId) (h0 : Heap) (n0 : Nat) (Z0 : n0 ≤ h0.size) (hr_v3 : v3.isRef = true) (y24 : Fld Z h0 r0 "com/example/fetchwright/fetchwright/service/LoadsInProgress" "loads" "Ljava/util/ArrayList;" (.ref y1)) (y20 : Fld Z h0 y1 "java/util/AbstractList" "modCount" "I" (.int (3 : Int32))) (y30 : Fld Z h0 y1 "java/util/ArrayList" "elementData" "[Ljava/lang/Object;" (.ref y4)) (y26 : Fld Z h0 y1 "java/util/ArrayList" "size" "I" (.int (3 : Int32))) (y55 : Ovr Z y28 "java/lang/Object") (y34 : Arv Z h0 y4 y28 (.object "java/lang/Object") (10 : Int32) [(.ref y32), (.ref y38), (.ref y51), .null, .null, .null, .null, .null, .null, .null] .null) (y16 : Exa Z h0 y1 "java/util/ArrayList") (y45 : n0 ≤ y1) (y56 : y4 ≠ y1) (y57 : n0 ≤ y4) :
    MetFree l own_y1 (head1 (Jvm.Cond.code own_y1 prog_9_method_2_code 4 none :: ws) ({ frames := 3, cells := 1, slots := 3, locals := 41 } : Room)) (fun a U => a = #[(.ref r0), (.ref r1), (.ref r2), v3] ∧ Z.Warmed39 U.vm ∧ U.heap = h0) (fun _ _ _ _ _ => True) (fun _ U o U' => ∃ v L, o = .returned v ∧ Q12c Z r0 r1 r2 v3 y1 y4 y32 y38 y51 y28 h0 n0 v U'.heap L ∧ FrameEnd U o U' L ({ frames := 3, cells := 1, slots := 3, locals := 41 } : Room).cells ({ frames := 3, cells := 1, slots := 3, locals := 41 } : Room).slots) := by
  refine MetFree.of_bodySF (plainFor_of_name pn_6) hisR ?_
  intro p e s m args below meth c s₁ Bd hml0 hP hK
  obtain ⟨rfl, hZ, hh⟩ := hP
  have hx := Bd.exec
  have hby := Bd.bytes
  have hml : c.maxLocals = 4 := hml0
  have hown : s.vm.findClass "com/example/fetchwright/fetchwright/service/LoadsInProgress" = some m.cls := findClass_of_methodNamed Bd.named
  have hnm := (name_of_methodNamed Bd.named Bd.method).1
  have X0 : Stand p l e ({ frames := 3, cells := 1, slots := 3, locals := 41 } : Room) s m #[(.ref r0), (.ref r1), (.ref r2), v3] below meth c s₁ [] 0 0 := Stand.of_body Bd
  have e0 : s₁.heap = h0 := by rw [← hh, Bd.state]; rfl
  have N0 := Fr.nil n0
  have pre0 : ∀ t, Steps p.tables e below (s₁.setTop (mkF m 0 #[.val (.ref r0), .val (.ref r1), .val (.ref r2), .val v3] [])) t → Steps p.tables e below (s₁.setTop (entryFrame m #[(.ref r0), (.ref r1), (.ref r2), v3] 4)) t := fun t k => castTop (ef_12c m r0 r1 r2 v3 hr_v3) k
  obtain ⟨T1, X1, e1, st1⟩ := getF X0 hx hZ hown (host := "") (Or.inl (hw _ (List.mem_of_getElem? (i := 82) rfl))) Via.refl e0 y24 (g := (mkF m 1 #[.val (.ref r0), .val (.ref r1), .val (.ref r2), .val v3] [(.ref r0)])) rfl rfl (hb hby d12_1)
  obtain ⟨T2, h2, X2, e2, E2, A2, D2, -, st2⟩ := newO X1 hx hZ hown (hw _ (List.mem_of_getElem? (i := 101) rfl)) (hw _ (List.mem_of_getElem? (i := 102) rfl)) (hw _ (List.mem_of_getElem? (i := 103) rfl)) e1 (g := (mkF m 4 #[.val (.ref r0), .val (.ref r1), .val (.ref r2), .val v3] [(.ref y1)])) rfl (hb hby d12_4) (by decide) (by decide)
  obtain ⟨b2, g2⟩ : ∃ z, z = h0.size := ⟨_, rfl⟩
  rw [← g2] at A2 D2 st2
  have sz_b2 : h0.size ≤ b2 := Nat.le_trans (Keep.refl h0 [y4, y1]).1 (Nat.le_of_eq g2.symm)
  have K3 : Keep h0 h2 [y4, y1] := (Keep.refl h0 [y4, y1]).ext E2
  have Ftoken_2 : Fld Z h2 b2 "com/example/fetchwright/fetchwright/service/LoadsInProgress$Load" "token" "Ljava/lang/Object;" .null := D2 (Or.inr (hw _ (List.mem_of_getElem? (i := 109) rfl))) (ty := (.object "java/lang/Object")) (by decide)
  have Fsession_2 : Fld Z h2 b2 "com/example/fetchwright/fetchwright/service/LoadsInProgress$Load" "session" "Ljava/lang/Object;" .null := D2 (Or.inr (hw _ (List.mem_of_getElem? (i := 111) rfl))) (ty := (.object "java/lang/Object")) (by decide)
  have Fsecondary_2 : Fld Z h2 b2 "com/example/fetchwright/fetchwright/service/LoadsInProgress$Load" "secondary" "Lcom/example/fetchwright/fetchwright/service/SecondaryLoad;" .null := D2 (Or.inr (hw _ (List.mem_of_getElem? (i := 113) rfl))) (ty := (.object "com/example/fetchwright/fetchwright/service/SecondaryLoad")) (by decide)
  obtain ⟨_, _, ⟨T4, L4, k4, n4⟩, -, X4, ⟨Lc4, hQ4, l4, y4, z4⟩, st4⟩ := specialRef X2 hx (y := own_y10) rfl hown (mvRef hZ (hw _ (List.mem_of_getElem? (i := 105) rfl)) (by decide) (hw _ (List.mem_of_getElem? (i := 104) rfl))) (mvT hZ (hw _ (List.mem_of_getElem? (i := 105) rfl))) (mvT hZ (hw _ (List.mem_of_getElem? (i := 106) rfl))) (by decide) (backOf (W := 2) (rm13 l Z a0 hw [] b2 r1 r2 v3 (.null) (.null) (.null) h2 n0 (Nat.le_trans Z0 K3.1) hr_v3 A2 Ftoken_2 (Nat.le_trans Z0 sz_b2) Fsession_2 Fsecondary_2) hZ (hw _ (List.mem_of_getElem? (i := 106) rfl)) (hw _ (List.mem_of_getElem? (i := 103) rfl)) (by decide) (by decide)) (g := (mkF m 11 #[.val (.ref r0), .val (.ref r1), .val (.ref r2), .val v3] [v3, (.ref r2), (.ref r1), (.ref b2), (.ref b2), (.ref y1)])) rfl (by rw [hml]; rfl) (Steps.refl _) (a := b2) (argsL := [(.ref r1), (.ref r2), v3]) (rest := [(.ref b2), (.ref y1)]) (lenOf pd_6 rfl) rfl (by show 2 * 0 + _ ≤ _; exact Nat.le_of_eq rfl) (hb hby d12_11) (fun _ _ => ⟨rfl, e2, (by decide : 1 + 0 ≤ _), (by decide : 3 + 0 ≤ _)⟩)
  dsimp only [Pt.U, Pt.locs, Pt.cells, Pt.slots] at X4 l4 y4 z4 st4 hQ4
  subst l4 y4 z4
  obtain ⟨rfl, Nq4, Kq4, f4_0, f4_1, f4_2, f4_3⟩ := hQ4
  have K5 : Keep h0 T4.heap [y4, y1] := K3.trans Kq4 (allS (Or.inr sz_b2) all0)
  have N4 := Fr.app N0 Nq4
  have f6 := ((y20.ext E2).keep Kq4 (ninS (Nat.ne_of_lt (Nat.lt_of_lt_of_le y20.lt (Nat.le_trans (Nat.le_refl _) (Nat.le_of_eq g2.symm)))) nin0))
  have f7 := ((y30.ext E2).keep Kq4 (ninS (Nat.ne_of_lt (Nat.lt_of_lt_of_le y20.lt (Nat.le_trans (Nat.le_refl _) (Nat.le_of_eq g2.symm)))) nin0))
  have f8 := ((y26.ext E2).keep Kq4 (ninS (Nat.ne_of_lt (Nat.lt_of_lt_of_le y20.lt (Nat.le_trans (Nat.le_refl _) (Nat.le_of_eq g2.symm)))) nin0))
  have f9 := ((y34.ext E2).keep Kq4 (ninS (Nat.ne_of_lt (Nat.lt_of_lt_of_le y34.lt (Nat.le_trans (Nat.le_refl _) (Nat.le_of_eq g2.symm)))) nin0))
  have f10 := ((y16.ext E2).keep Kq4)
  obtain ⟨cq11, kq11, q11a, q11b, q11c⟩ := isOf hZ rfl f10
  obtain ⟨_, _, ⟨T11, L11, k11, n11⟩, -, X11, ⟨Lc11, hQ11, l11, y11, z11⟩, st11⟩ := X4.virtualBack hx (y := own_y7) (z := own_y7) hown (mvT hZ (hw _ (List.mem_of_getElem? (i := 114) rfl))) (mvT hZ (hw _ (List.mem_of_getElem? (i := 115) rfl))) (notFace_of_selects (args := #[]) (mvT hZ (hw _ (List.mem_of_getElem? (i := 117) rfl)))) (mvT hZ (hw _ (List.mem_of_getElem? (i := 117) rfl))) (mvT hZ (hw _ (List.mem_of_getElem? (i := 116) rfl))) (by decide) (backOf (W := 0) (rm14c l Z a0 hw [] y1 b2 y4 y32 y38 y51 y28 T4.heap n0 (Nat.le_trans Z0 K5.1) f6 f10 y45 f7 f8 y55 f9 y56 f4_0 y57) hZ (hw _ (List.mem_of_getElem? (i := 118) rfl)) (hw _ (List.mem_of_getElem? (i := 60) rfl)) (by decide) (by decide)) q11a q11c (g := (mkF m 14 #[.val (.ref r0), .val (.ref r1), .val (.ref r2), .val v3] [(.ref b2), (.ref y1)])) rfl (by rw [hml]; rfl) (Steps.refl _) (argsL := [(.ref b2)]) (rest := []) (lenOf pd_11 rfl) rfl (by show 2 * 0 + _ ≤ _; exact Nat.le_of_eq rfl) (hb hby d12_14) (fun _ _ => ⟨rfl, rfl, (by decide : 1 + 0 ≤ _), (by decide : 3 + 0 ≤ _)⟩)
  dsimp only [Pt.U, Pt.locs, Pt.cells, Pt.slots] at X11 l11 y11 z11 st11 hQ11
  subst l11 y11 z11
  obtain ⟨rfl, Nq11, Kq11, f11_0, f11_1, f11_2, f11_3, f11_4, f11_5⟩ := hQ11
  have K12 : Keep h0 T11.heap [y4, y1] := K5.trans Kq11 (allS (Or.inl (List.mem_of_getElem? (i := 1) rfl)) (allS (Or.inl (List.mem_of_getElem? (i := 0) rfl)) all0))
  have N11 := Fr.app N4 Nq11
  have pre13 : ∀ t, Steps p.tables e below (T11.setTop (mkF m 18 #[.val (.ref r0), .val (.ref r1), .val (.ref r2), .val v3] [])) t → Steps p.tables e below (s₁.setTop (entryFrame m #[(.ref r0), (.ref r1), (.ref r2), v3] 4)) t := by
    intro t k
    refine pre0 _ ?_
    show Steps p.tables e below (s₁.setTop (mkF m 0 #[.val (.ref r0), .val (.ref r1), .val (.ref r2), .val v3] [])) _
    refine XS.aloadN X0.here hx rfl (hb hby d12_0) rfl rfl ?_
    show Steps p.tables e below (s₁.setTop (mkF m 1 #[.val (.ref r0), .val (.ref r1), .val (.ref r2), .val v3] [(.ref r0)])) _
    refine st1 _ ?_
    show Steps p.tables e below (T1.setTop (mkF m 4 #[.val (.ref r0), .val (.ref r1), .val (.ref r2), .val v3] [(.ref y1)])) _
    refine st2 _ ?_
    show Steps p.tables e below (T2.setTop (mkF m 7 #[.val (.ref r0), .val (.ref r1), .val (.ref r2), .val v3] [(.ref b2), (.ref y1)])) _
    refine XS.dup X2.here hx rfl (hb hby d12_7) rfl rfl ?_
    refine XS.aloadN X2.here hx rfl (hb hby d12_8) rfl rfl ?_
    show Steps p.tables e below (T2.setTop (mkF m 9 #[.val (.ref r0), .val (.ref r1), .val (.ref r2), .val v3] [(.ref r1), (.ref b2), (.ref b2), (.ref y1)])) _
    refine XS.aloadN X2.here hx rfl (hb hby d12_9) rfl rfl ?_
    refine XS.aloadN X2.here hx rfl (hb hby d12_10) rfl hr_v3 ?_
    show Steps p.tables e below (T2.setTop (mkF m 11 #[.val (.ref r0), .val (.ref r1), .val (.ref r2), .val v3] [v3, (.ref r2), (.ref r1), (.ref b2), (.ref b2), (.ref y1)])) _
    refine st4.trans ?_
    show Steps p.tables e below (T4.setTop (mkF m 14 #[.val (.ref r0), .val (.ref r1), .val (.ref r2), .val v3] [(.ref b2), (.ref y1)])) _
    refine st11.trans ?_
    show Steps p.tables e below (T11.setTop (mkF m 17 #[.val (.ref r0), .val (.ref r1), .val (.ref r2), .val v3] [(.int (1 : Int32))])) _
    refine XS.pop X11.here hx rfl (hb hby d12_17) rfl rfl ?_
    exact k
  have f14 := (f4_0.keep Kq11)
  have f15 := (f4_1.keep Kq11 (ninS (Ne.symm (Nat.ne_of_lt (Nat.lt_of_lt_of_le y20.lt (Nat.le_trans (Nat.le_refl _) (Nat.le_of_eq g2.symm))))) (ninS (Ne.symm (Nat.ne_of_lt (Nat.lt_of_lt_of_le y34.lt (Nat.le_trans (Nat.le_refl _) (Nat.le_of_eq g2.symm))))) nin0)))
  have f16 := (f4_2.keep Kq11 (ninS (Ne.symm (Nat.ne_of_lt (Nat.lt_of_lt_of_le y20.lt (Nat.le_trans (Nat.le_refl _) (Nat.le_of_eq g2.symm))))) (ninS (Ne.symm (Nat.ne_of_lt (Nat.lt_of_lt_of_le y34.lt (Nat.le_trans (Nat.le_refl _) (Nat.le_of_eq g2.symm))))) nin0)))
  have f17 := (f4_3.keep Kq11 (ninS (Ne.symm (Nat.ne_of_lt (Nat.lt_of_lt_of_le y20.lt (Nat.le_trans (Nat.le_refl _) (Nat.le_of_eq g2.symm))))) (ninS (Ne.symm (Nat.ne_of_lt (Nat.lt_of_lt_of_le y34.lt (Nat.le_trans (Nat.le_refl _) (Nat.le_of_eq g2.symm))))) nin0)))
  obtain ⟨fs, hr, hrun, hended, hW, hsame⟩ := X11.leave (v := none) (fun _ => rfl)
  refine ⟨_, _, pre13 _ ?_, hrun, hended, _, _, rfl, ?_, ⟨_, rfl⟩, hW, hsame.mono (by decide) (by decide)⟩
  · show Steps p.tables e below (T11.setTop (mkF m 18 #[.val (.ref r0), .val (.ref r1), .val (.ref r2), .val v3] [])) _
    exact X11.returnOut hx Bd.returns (hb hby d12_18) hr
  · show Q12c Z r0 r1 r2 v3 y1 y4 y32 y38 y51 y28 h0 n0 _ T11.heap _
    exact ⟨b2, rfl, N11, K12, sz_b2, f14, f15, f16, f17, f11_0, f11_1, f11_2, f11_3, f11_4, f11_5⟩
def Q11d (Z : State) (r0 : Addr) (h0 : Heap) (n0 : Nat) (v : Option Value) (h : Heap) (L : List Loc) : Prop := v = some (.int (4 : Int32)) ∧ Fr n0 L ∧ h = h0
theorem ef_11d (m : MethodId) (x0 : Addr) : entryFrame m #[(.ref x0)] 1 = mkF m 0 #[.val (.ref x0)] [] := by first | (simp [entryFrame, mkF, argsToLocals, Value.category]; done) | rfl
set_option maxRecDepth 65536 in
set_option maxHeartbeats 40000000 in
theorem rm11d (l : Launch) (Z : State) (a0 : Array Value) (hw : ∀ d ∈ tables_1, d.before a0 Z = true) (ws : List Jvm.Cond) (r0 : Addr) (h0 : Heap) (n0 : Nat) (Z0 : n0 ≤ h0.size) (y15 : Fld Z h0 r0 "java/util/ArrayList" "size" "I" (.int (4 : Int32))) :
    MetFree l own_y5 (head1 (Jvm.Cond.code own_y5 jdk_38_method_8_code 1 (some .int) :: ws) ({ frames := 0, cells := 0, slots := 0, locals := 0 } : Room)) (fun a U => a = #[(.ref r0)] ∧ Z.Warmed39 U.vm ∧ U.heap = h0) (fun _ _ _ _ _ => True) (fun _ U o U' => ∃ v L, o = .returned v ∧ Q11d Z r0 h0 n0 v U'.heap L ∧ FrameEnd U o U' L ({ frames := 0, cells := 0, slots := 0, locals := 0 } : Room).cells ({ frames := 0, cells := 0, slots := 0, locals := 0 } : Room).slots) := by
  refine MetFree.of_bodySF (plainFor_of_name pn_5) hisR ?_
  intro p e s m args below meth c s₁ Bd hml0 hP hK
  obtain ⟨rfl, hZ, hh⟩ := hP
  have hx := Bd.exec
  have hby := Bd.bytes
  have hml : c.maxLocals = 1 := hml0
  have hown : s.vm.findClass "java/util/ArrayList" = some m.cls := findClass_of_methodNamed Bd.named
  have hnm := (name_of_methodNamed Bd.named Bd.method).1
  have X0 : Stand p l e ({ frames := 0, cells := 0, slots := 0, locals := 0 } : Room) s m #[(.ref r0)] below meth c s₁ [] 0 0 := Stand.of_body Bd
  have e0 : s₁.heap = h0 := by rw [← hh, Bd.state]; rfl
  have N0 := Fr.nil n0
  have pre0 : ∀ t, Steps p.tables e below (s₁.setTop (mkF m 0 #[.val (.ref r0)] [])) t → Steps p.tables e below (s₁.setTop (entryFrame m #[(.ref r0)] 1)) t := fun t k => castTop (ef_11d m r0) k
  obtain ⟨T1, X1, e1, st1⟩ := getF X0 hx hZ hown (host := "") (Or.inl (hw _ (List.mem_of_getElem? (i := 94) rfl))) Via.refl e0 y15 (g := (mkF m 1 #[.val (.ref r0)] [(.ref r0)])) rfl rfl (hb hby d11_1)
  have pre2 : ∀ t, Steps p.tables e below (T1.setTop (mkF m 4 #[.val (.ref r0)] [(.int (4 : Int32))])) t → Steps p.tables e below (s₁.setTop (entryFrame m #[(.ref r0)] 1)) t := by
    intro t k
    refine pre0 _ ?_
    show Steps p.tables e below (s₁.setTop (mkF m 0 #[.val (.ref r0)] [])) _
    refine XS.aloadN X0.here hx rfl (hb hby d11_0) rfl rfl ?_
    show Steps p.tables e below (s₁.setTop (mkF m 1 #[.val (.ref r0)] [(.ref r0)])) _
    refine st1 _ ?_
    exact k
  obtain ⟨fs, hr, hrun, hended, hW, hsame⟩ := X1.leave (v := some (.int (4 : Int32))) (fun h => by rw [Bd.returns] at h; cases h)
  refine ⟨_, _, pre2 _ ?_, hrun, hended, _, _, rfl, ?_, ⟨_, rfl⟩, hW, hsame.mono (by decide) (by decide)⟩
  · show Steps p.tables e below (T1.setTop (mkF m 4 #[.val (.ref r0)] [(.int (4 : Int32))])) _
    exact retI X1 hx Bd.returns (hb hby d11_4) hr
  · show Q11d Z r0 h0 n0 _ T1.heap _
    rw [e1]
    exact ⟨rfl, N0, rfl⟩
def own_r10d (r1 : Addr) (y2 : Addr) (y3 : Value) (y6 : Addr) (y8 : Value) (y10 : Addr) (y11 : Value) (y21 : Addr) (y25 : Value) : Value := (if y2 = r1 then y3 else (if y6 = r1 then y8 else (if y10 = r1 then y11 else (if y21 = r1 then y25 else Value.null))))
def Q10d (Z : State) (r0 : Addr) (r1 : Addr) (y1 : Addr) (y4 : Addr) (y14 : Cell) (el_w_elementData_w_loads_r0_0 : Addr) (y2 : Addr) (y3 : Value) (y19 : Cell) (el_w_elementData_w_loads_r0_1 : Addr) (y6 : Addr) (y8 : Value) (y29 : Cell) (el_w_elementData_w_loads_r0_2 : Addr) (y10 : Addr) (y11 : Value) (y40 : Cell) (el_w_elementData_w_loads_r0_3 : Addr) (y21 : Addr) (y25 : Value) (h0 : Heap) (n0 : Nat) (v : Option Value) (h : Heap) (L : List Loc) : Prop := v = some (own_r10d r1 y2 y3 y6 y8 y10 y11 y21 y25) ∧ Fr n0 L ∧ h = h0 ∧ (own_r10d r1 y2 y3 y6 y8 y10 y11 y21 y25).isRef = true
theorem ef_10d (m : MethodId) (x0 : Addr) (x1 : Addr) : entryFrame m #[(.ref x0), (.ref x1)] 4 = mkF m 0 #[.val (.ref x0), .val (.ref x1), .unset, .unset] [] := by first | (simp [entryFrame, mkF, argsToLocals, Value.category]; done) | rfl
set_option maxRecDepth 65536 in
set_option maxHeartbeats 40000000 in
theorem rm10d (l : Launch) (Z : State) (a0 : Array Value) (hw : ∀ d ∈ tables_1, d.before a0 Z = true) (ws : List Jvm.Cond) (r0 : Addr) (r1 : Addr) (y1 : Addr) (y4 : Addr) (y14 : Cell) (el_w_elementData_w_loads_r0_0 : Addr) (y2 : Addr) (y3 : Value) (y19 : Cell) (el_w_elementData_w_loads_r0_1 : Addr) (y6 : Addr) (y8 : Value) (y29 : Cell) (el_w_elementData_w_loads_r0_2 : Addr) (y10 : Addr) (y11 : Value) (y40 : Cell) (el_w_elementData_w_loads_r0_3 : Addr) (y21 : Addr) (y25 : Value) (h0 : Heap) (n0 : Nat) (Z0 : n0 ≤ h0.size) (y24 : Fld Z h0 r0 "com/example/fetchwright/fetchwright/service/LoadsInProgress" "loads" "Ljava/util/ArrayList;" (.ref y1)) (y26 : Fld Z h0 y1 "java/util/ArrayList" "size" "I" (.int (4 : Int32))) (y16 : Exa Z h0 y1 "java/util/ArrayList") (y30 : Fld Z h0 y1 "java/util/ArrayList" "elementData" "[Ljava/lang/Object;" (.ref y4)) (Aa_w_elementData_w_loads_r0_0 : Arr Z h0 y4 y14 (.object "java/lang/Object") ∧ ¬ ((3 : Int32) < 0 ∨ y14.slots.size ≤ ((3 : Int32)).toNatClampNeg) ∧ y14.slots[((3 : Int32)).toNatClampNeg]? = some (.ref el_w_elementData_w_loads_r0_0)) (y35 : Exa Z h0 el_w_elementData_w_loads_r0_0 "com/example/fetchwright/fetchwright/service/LoadsInProgress$Load") (y46 : Fld Z h0 el_w_elementData_w_loads_r0_0 "com/example/fetchwright/fetchwright/service/LoadsInProgress$Load" "session" "Ljava/lang/Object;" (.ref y2)) (y47 : y3.isRef = true) (y48 : Fld Z h0 el_w_elementData_w_loads_r0_0 "com/example/fetchwright/fetchwright/service/LoadsInProgress$Load" "secondary" "Lcom/example/fetchwright/fetchwright/service/SecondaryLoad;" y3) (Aa_w_elementData_w_loads_r0_1 : Arr Z h0 y4 y19 (.object "java/lang/Object") ∧ ¬ ((2 : Int32) < 0 ∨ y19.slots.size ≤ ((2 : Int32)).toNatClampNeg) ∧ y19.slots[((2 : Int32)).toNatClampNeg]? = some (.ref el_w_elementData_w_loads_r0_1)) (y39 : Exa Z h0 el_w_elementData_w_loads_r0_1 "com/example/fetchwright/fetchwright/service/LoadsInProgress$Load") (y58 : Fld Z h0 el_w_elementData_w_loads_r0_1 "com/example/fetchwright/fetchwright/service/LoadsInProgress$Load" "session" "Ljava/lang/Object;" (.ref y6)) (y59 : y8.isRef = true) (y60 : Fld Z h0 el_w_elementData_w_loads_r0_1 "com/example/fetchwright/fetchwright/service/LoadsInProgress$Load" "secondary" "Lcom/example/fetchwright/fetchwright/service/SecondaryLoad;" y8) (Aa_w_elementData_w_loads_r0_2 : Arr Z h0 y4 y29 (.object "java/lang/Object") ∧ ¬ ((1 : Int32) < 0 ∨ y29.slots.size ≤ ((1 : Int32)).toNatClampNeg) ∧ y29.slots[((1 : Int32)).toNatClampNeg]? = some (.ref el_w_elementData_w_loads_r0_2)) (y49 : Exa Z h0 el_w_elementData_w_loads_r0_2 "com/example/fetchwright/fetchwright/service/LoadsInProgress$Load") (y73 : Fld Z h0 el_w_elementData_w_loads_r0_2 "com/example/fetchwright/fetchwright/service/LoadsInProgress$Load" "session" "Ljava/lang/Object;" (.ref y10)) (y74 : y11.isRef = true) (y75 : Fld Z h0 el_w_elementData_w_loads_r0_2 "com/example/fetchwright/fetchwright/service/LoadsInProgress$Load" "secondary" "Lcom/example/fetchwright/fetchwright/service/SecondaryLoad;" y11) (Aa_w_elementData_w_loads_r0_3 : Arr Z h0 y4 y40 (.object "java/lang/Object") ∧ ¬ ((0 : Int32) < 0 ∨ y40.slots.size ≤ ((0 : Int32)).toNatClampNeg) ∧ y40.slots[((0 : Int32)).toNatClampNeg]? = some (.ref el_w_elementData_w_loads_r0_3)) (y76 : Exa Z h0 el_w_elementData_w_loads_r0_3 "com/example/fetchwright/fetchwright/service/LoadsInProgress$Load") (y90 : Fld Z h0 el_w_elementData_w_loads_r0_3 "com/example/fetchwright/fetchwright/service/LoadsInProgress$Load" "session" "Ljava/lang/Object;" (.ref y21)) (y91 : y25.isRef = true) (y92 : Fld Z h0 el_w_elementData_w_loads_r0_3 "com/example/fetchwright/fetchwright/service/LoadsInProgress$Load" "secondary" "Lcom/example/fetchwright/fetchwright/service/SecondaryLoad;" y25) :
    MetFree l own_y6 (head1 (Jvm.Cond.code own_y6 prog_9_method_4_code 4 (some (.object "com/example/fetchwright/fetchwright/service/SecondaryLoad")) :: ws) ({ frames := 3, cells := 0, slots := 0, locals := 40 } : Room)) (fun a U => a = #[(.ref r0), (.ref r1)] ∧ Z.Warmed39 U.vm ∧ U.heap = h0) (fun _ _ _ _ _ => True) (fun _ U o U' => ∃ v L, o = .returned v ∧ Q10d Z r0 r1 y1 y4 y14 el_w_elementData_w_loads_r0_0 y2 y3 y19 el_w_elementData_w_loads_r0_1 y6 y8 y29 el_w_elementData_w_loads_r0_2 y10 y11 y40 el_w_elementData_w_loads_r0_3 y21 y25 h0 n0 v U'.heap L ∧ FrameEnd U o U' L ({ frames := 3, cells := 0, slots := 0, locals := 40 } : Room).cells ({ frames := 3, cells := 0, slots := 0, locals := 40 } : Room).slots) := by
  refine MetFree.of_bodySF (plainFor_of_name pn_6) hisR ?_
  intro p e s m args below meth c s₁ Bd hml0 hP hK
  obtain ⟨rfl, hZ, hh⟩ := hP
  have hx := Bd.exec
  have hby := Bd.bytes
  have hml : c.maxLocals = 4 := hml0
  have hown : s.vm.findClass "com/example/fetchwright/fetchwright/service/LoadsInProgress" = some m.cls := findClass_of_methodNamed Bd.named
  have hnm := (name_of_methodNamed Bd.named Bd.method).1
  have X0 : Stand p l e ({ frames := 3, cells := 0, slots := 0, locals := 40 } : Room) s m #[(.ref r0), (.ref r1)] below meth c s₁ [] 0 0 := Stand.of_body Bd
  have e0 : s₁.heap = h0 := by rw [← hh, Bd.state]; rfl
  have N0 := Fr.nil n0
  have pre0 : ∀ t, Steps p.tables e below (s₁.setTop (mkF m 0 #[.val (.ref r0), .val (.ref r1), .unset, .unset] [])) t → Steps p.tables e below (s₁.setTop (entryFrame m #[(.ref r0), (.ref r1)] 4)) t := fun t k => castTop (ef_10d m r0 r1) k
  obtain ⟨T1, X1, e1, st1⟩ := getF X0 hx hZ hown (host := "") (Or.inl (hw _ (List.mem_of_getElem? (i := 82) rfl))) Via.refl e0 y24 (g := (mkF m 1 #[.val (.ref r0), .val (.ref r1), .unset, .unset] [(.ref r0)])) rfl rfl (hb hby d10_1)
  obtain ⟨cq2, kq2, q2a, q2b, q2c⟩ := isOf hZ e1 y16
  obtain ⟨_, _, ⟨T2, L2, k2, n2⟩, -, X2, ⟨Lc2, hQ2, l2, y2, z2⟩, st2⟩ := X1.virtualBack hx (y := own_y5) (z := own_y5) hown (mvT hZ (hw _ (List.mem_of_getElem? (i := 89) rfl))) (mvT hZ (hw _ (List.mem_of_getElem? (i := 90) rfl))) (notFace_of_selects (args := #[]) (mvT hZ (hw _ (List.mem_of_getElem? (i := 92) rfl)))) (mvT hZ (hw _ (List.mem_of_getElem? (i := 92) rfl))) (mvT hZ (hw _ (List.mem_of_getElem? (i := 91) rfl))) (by decide) (backOf (W := 0) (rm11d l Z a0 hw [] y1 h0 n0 (Nat.le_trans Z0 (Keep.refl h0 []).1) y26) hZ (hw _ (List.mem_of_getElem? (i := 93) rfl)) (hw _ (List.mem_of_getElem? (i := 60) rfl)) (by decide) (by decide)) q2a q2c (g := (mkF m 4 #[.val (.ref r0), .val (.ref r1), .unset, .unset] [(.ref y1)])) rfl (by rw [hml]; rfl) (Steps.refl _) (argsL := []) (rest := []) (lenOf pd_4 rfl) rfl (by show 2 * 0 + _ ≤ _; exact Nat.le_of_eq rfl) (hb hby d10_4) (fun _ _ => ⟨rfl, e1, (by decide : 0 + 0 ≤ _), (by decide : 0 + 0 ≤ _)⟩)
  dsimp only [Pt.U, Pt.locs, Pt.cells, Pt.slots] at X2 l2 y2 z2 st2 hQ2
  subst l2 y2 z2
  obtain ⟨rfl, Nq2, e2⟩ := hQ2
  have N2 := Fr.app N0 Nq2
  obtain ⟨T3, X3, e3, st3⟩ := getF X2 hx hZ hown (host := "") (Or.inl (hw _ (List.mem_of_getElem? (i := 82) rfl))) Via.refl e2 y24 (g := (mkF m 15 #[.val (.ref r0), .val (.ref r1), .val (.int (3 : Int32)), .unset] [(.ref r0)])) rfl rfl (hb hby d10_15)
  obtain ⟨cq4, kq4, q4a, q4b, q4c⟩ := isOf hZ e3 y16
  obtain ⟨_, _, ⟨T4, L4, k4, n4⟩, -, X4, ⟨Lc4, hQ4, l4, y4, z4⟩, st4⟩ := X3.virtualBack hx (y := own_y2) (z := own_y2) hown (mvT hZ (hw _ (List.mem_of_getElem? (i := 142) rfl))) (mvT hZ (hw _ (List.mem_of_getElem? (i := 143) rfl))) (notFace_of_selects (args := #[]) (mvT hZ (hw _ (List.mem_of_getElem? (i := 145) rfl)))) (mvT hZ (hw _ (List.mem_of_getElem? (i := 145) rfl))) (mvT hZ (hw _ (List.mem_of_getElem? (i := 144) rfl))) (by decide) (backOf (W := 0) (rm19 l Z a0 hw [] y1 (3 : Int32) (4 : Int32) y4 y14 el_w_elementData_w_loads_r0_0 h0 n0 (Nat.le_trans Z0 (Keep.refl h0 []).1) y26 (by decide) (by decide) y30 ⟨Aa_w_elementData_w_loads_r0_0.1, Aa_w_elementData_w_loads_r0_0.2.1, Aa_w_elementData_w_loads_r0_0.2.2⟩ y16) hZ (hw _ (List.mem_of_getElem? (i := 146) rfl)) (hw _ (List.mem_of_getElem? (i := 60) rfl)) (by decide) (by decide)) q4a q4c (g := (mkF m 19 #[.val (.ref r0), .val (.ref r1), .val (.int (3 : Int32)), .unset] [(.int (3 : Int32)), (.ref y1)])) rfl (by rw [hml]; rfl) (Steps.refl _) (argsL := [(.int (3 : Int32))]) (rest := []) (lenOf pd_13 rfl) rfl (by show 2 * 0 + _ ≤ _; exact Nat.le_of_eq rfl) (hb hby d10_19) (fun _ _ => ⟨rfl, e3, (by decide : 0 + 0 ≤ _), (by decide : 0 + 0 ≤ _)⟩)
  dsimp only [Pt.U, Pt.locs, Pt.cells, Pt.slots] at X4 l4 y4 z4 st4 hQ4
  subst l4 y4 z4
  obtain ⟨rfl, Nq4, e4⟩ := hQ4
  have N4 := Fr.app N2 Nq4
  obtain ⟨T5, X5, e5, st5⟩ := castY X4 hx hZ hown (hw _ (List.mem_of_getElem? (i := 101) rfl)) e4 (Ins.self y35) (g := (mkF m 22 #[.val (.ref r0), .val (.ref r1), .val (.int (3 : Int32)), .unset] [(.ref el_w_elementData_w_loads_r0_0)])) rfl rfl (hb hby d10_22)
  obtain ⟨cq6, kq6, q6a, q6b, q6c⟩ := isOf hZ e5 y35
  obtain ⟨_, _, ⟨T6, L6, k6, n6⟩, -, X6, ⟨Lc6, hQ6, l6, y6, z6⟩, st6⟩ := X5.virtualBack hx (y := own_y3) (z := own_y3) hown (mvT hZ (hw _ (List.mem_of_getElem? (i := 161) rfl))) (mvT hZ (hw _ (List.mem_of_getElem? (i := 162) rfl))) (notFace_of_selects (args := #[]) (mvT hZ (hw _ (List.mem_of_getElem? (i := 164) rfl)))) (mvT hZ (hw _ (List.mem_of_getElem? (i := 164) rfl))) (mvT hZ (hw _ (List.mem_of_getElem? (i := 163) rfl))) (by decide) (backOf (W := 0) (rm23 l Z a0 hw [] el_w_elementData_w_loads_r0_0 y2 h0 n0 (Nat.le_trans Z0 (Keep.refl h0 []).1) y46) hZ (hw _ (List.mem_of_getElem? (i := 165) rfl)) (hw _ (List.mem_of_getElem? (i := 103) rfl)) (by decide) (by decide)) q6a q6c (g := (mkF m 27 #[.val (.ref r0), .val (.ref r1), .val (.int (3 : Int32)), .val (.ref el_w_elementData_w_loads_r0_0)] [(.ref el_w_elementData_w_loads_r0_0)])) rfl (by rw [hml]; rfl) (Steps.refl _) (argsL := []) (rest := []) (lenOf pd_14 rfl) rfl (by show 2 * 0 + _ ≤ _; exact Nat.le_of_eq rfl) (hb hby d10_27) (fun _ _ => ⟨rfl, e5, (by decide : 0 + 0 ≤ _), (by decide : 0 + 0 ≤ _)⟩)
  dsimp only [Pt.U, Pt.locs, Pt.cells, Pt.slots] at X6 l6 y6 z6 st6 hQ6
  subst l6 y6 z6
  obtain ⟨rfl, Nq6, e6⟩ := hQ6
  have N6 := Fr.app N4 Nq6
  have pre7 : ∀ t, Steps p.tables e below (T6.setTop (mkF m 31 #[.val (.ref r0), .val (.ref r1), .val (.int (3 : Int32)), .val (.ref el_w_elementData_w_loads_r0_0)] [(.ref r1), (.ref y2)])) t → Steps p.tables e below (s₁.setTop (entryFrame m #[(.ref r0), (.ref r1)] 4)) t := by
    intro t k
    refine pre0 _ ?_
    show Steps p.tables e below (s₁.setTop (mkF m 0 #[.val (.ref r0), .val (.ref r1), .unset, .unset] [])) _
    refine XS.aloadN X0.here hx rfl (hb hby d10_0) rfl rfl ?_
    show Steps p.tables e below (s₁.setTop (mkF m 1 #[.val (.ref r0), .val (.ref r1), .unset, .unset] [(.ref r0)])) _
    refine st1 _ ?_
    show Steps p.tables e below (T1.setTop (mkF m 4 #[.val (.ref r0), .val (.ref r1), .unset, .unset] [(.ref y1)])) _
    refine st2.trans ?_
    show Steps p.tables e below (T2.setTop (mkF m 7 #[.val (.ref r0), .val (.ref r1), .unset, .unset] [(.int (4 : Int32))])) _
    refine XS.iconst X2.here hx rfl (hb hby d10_7) ?_
    refine XS.isub X2.here hx rfl (hb hby d10_8) rfl ?_
    show Steps p.tables e below (T2.setTop (mkF m 9 #[.val (.ref r0), .val (.ref r1), .unset, .unset] [(.int (3 : Int32))])) _
    refine XS.istoreN X2.here hx rfl (hb hby d10_9) rfl (l' := #[.val (.ref r0), .val (.ref r1), .val (.int (3 : Int32)), .unset]) rfl ?_
    refine XS.iloadN X2.here hx rfl (hb hby d10_10) rfl ?_
    show Steps p.tables e below (T2.setTop (mkF m 11 #[.val (.ref r0), .val (.ref r1), .val (.int (3 : Int32)), .unset] [(.int (3 : Int32))])) _
    refine XS.ifNo X2.here hx rfl (hb hby d10_11) rfl ((if0 _ _).trans (flt (by decide : ¬ ((3 : Int32) < (0 : Int32)))).1) ?_
    refine XS.aloadN X2.here hx rfl (hb hby d10_14) rfl rfl ?_
    show Steps p.tables e below (T2.setTop (mkF m 15 #[.val (.ref r0), .val (.ref r1), .val (.int (3 : Int32)), .unset] [(.ref r0)])) _
    refine st3 _ ?_
    show Steps p.tables e below (T3.setTop (mkF m 18 #[.val (.ref r0), .val (.ref r1), .val (.int (3 : Int32)), .unset] [(.ref y1)])) _
    refine XS.iloadN X3.here hx rfl (hb hby d10_18) rfl ?_
    show Steps p.tables e below (T3.setTop (mkF m 19 #[.val (.ref r0), .val (.ref r1), .val (.int (3 : Int32)), .unset] [(.int (3 : Int32)), (.ref y1)])) _
    refine st4.trans ?_
    show Steps p.tables e below (T4.setTop (mkF m 22 #[.val (.ref r0), .val (.ref r1), .val (.int (3 : Int32)), .unset] [(.ref el_w_elementData_w_loads_r0_0)])) _
    refine st5 _ ?_
    show Steps p.tables e below (T5.setTop (mkF m 25 #[.val (.ref r0), .val (.ref r1), .val (.int (3 : Int32)), .unset] [(.ref el_w_elementData_w_loads_r0_0)])) _
    refine XS.astoreN X5.here hx rfl (hb hby d10_25) rfl rfl (l' := #[.val (.ref r0), .val (.ref r1), .val (.int (3 : Int32)), .val (.ref el_w_elementData_w_loads_r0_0)]) rfl ?_
    refine XS.aloadN X5.here hx rfl (hb hby d10_26) rfl rfl ?_
    show Steps p.tables e below (T5.setTop (mkF m 27 #[.val (.ref r0), .val (.ref r1), .val (.int (3 : Int32)), .val (.ref el_w_elementData_w_loads_r0_0)] [(.ref el_w_elementData_w_loads_r0_0)])) _
    refine st6.trans ?_
    show Steps p.tables e below (T6.setTop (mkF m 30 #[.val (.ref r0), .val (.ref r1), .val (.int (3 : Int32)), .val (.ref el_w_elementData_w_loads_r0_0)] [(.ref y2)])) _
    refine XS.aloadN X6.here hx rfl (hb hby d10_30) rfl rfl ?_
    exact k
  by_cases hc31_8 : y2 = r1
  · obtain ⟨cq9, kq9, q9a, q9b, q9c⟩ := isOf hZ e6 y35
    obtain ⟨_, _, ⟨T9, L9, k9, n9⟩, -, X9, ⟨Lc9, hQ9, l9, y9, z9⟩, st9⟩ := X6.virtualBack hx (y := own_y4) (z := own_y4) hown (mvT hZ (hw _ (List.mem_of_getElem? (i := 166) rfl))) (mvT hZ (hw _ (List.mem_of_getElem? (i := 167) rfl))) (notFace_of_selects (args := #[]) (mvT hZ (hw _ (List.mem_of_getElem? (i := 169) rfl)))) (mvT hZ (hw _ (List.mem_of_getElem? (i := 169) rfl))) (mvT hZ (hw _ (List.mem_of_getElem? (i := 168) rfl))) (by decide) (backOf (W := 0) (rm24 l Z a0 hw [] el_w_elementData_w_loads_r0_0 y3 h0 n0 (Nat.le_trans Z0 (Keep.refl h0 []).1) y47 y48) hZ (hw _ (List.mem_of_getElem? (i := 170) rfl)) (hw _ (List.mem_of_getElem? (i := 103) rfl)) (by decide) (by decide)) q9a q9c (g := (mkF m 35 #[.val (.ref r0), .val (.ref r1), .val (.int (3 : Int32)), .val (.ref el_w_elementData_w_loads_r0_0)] [(.ref el_w_elementData_w_loads_r0_0)])) rfl (by rw [hml]; rfl) (Steps.refl _) (argsL := []) (rest := []) (lenOf pd_3 rfl) rfl (by show 2 * 0 + _ ≤ _; exact Nat.le_of_eq rfl) (hb hby d10_35) (fun _ _ => ⟨rfl, e6, (by decide : 0 + 0 ≤ _), (by decide : 0 + 0 ≤ _)⟩)
    dsimp only [Pt.U, Pt.locs, Pt.cells, Pt.slots] at X9 l9 y9 z9 st9 hQ9
    subst l9 y9 z9
    obtain ⟨rfl, Nq9, e9, f9_0⟩ := hQ9
    have N9 := Fr.app N6 Nq9
    have pre10 : ∀ t, Steps p.tables e below (T9.setTop (mkF m 38 #[.val (.ref r0), .val (.ref r1), .val (.int (3 : Int32)), .val (.ref el_w_elementData_w_loads_r0_0)] [y3])) t → Steps p.tables e below (s₁.setTop (entryFrame m #[(.ref r0), (.ref r1)] 4)) t := by
      intro t k
      refine pre7 _ ?_
      show Steps p.tables e below (T6.setTop (mkF m 31 #[.val (.ref r0), .val (.ref r1), .val (.int (3 : Int32)), .val (.ref el_w_elementData_w_loads_r0_0)] [(.ref r1), (.ref y2)])) _
      refine Jvm.RoadKit.acmp (g := (mkF m 31 #[.val (.ref r0), .val (.ref r1), .val (.int (3 : Int32)), .val (.ref el_w_elementData_w_loads_r0_0)] [(.ref r1), (.ref y2)])) X6 hx rfl rfl rfl (pc0 := 31) (pc' := 34) (same := true) rfl (hb hby d10_31) rfl (decide_eq_true (congrArg Value.ref hc31_8)) (by decide) (by decide) ?_
      show Steps p.tables e below (T6.setTop (mkF m 34 #[.val (.ref r0), .val (.ref r1), .val (.int (3 : Int32)), .val (.ref el_w_elementData_w_loads_r0_0)] [])) _
      refine XS.aloadN X6.here hx rfl (hb hby d10_34) rfl rfl ?_
      show Steps p.tables e below (T6.setTop (mkF m 35 #[.val (.ref r0), .val (.ref r1), .val (.int (3 : Int32)), .val (.ref el_w_elementData_w_loads_r0_0)] [(.ref el_w_elementData_w_loads_r0_0)])) _
      refine st9.trans ?_
      exact k
    obtain ⟨fs, hr, hrun, hended, hW, hsame⟩ := X9.leave (v := some y3) (fun h => by rw [Bd.returns] at h; cases h)
    refine ⟨_, _, pre10 _ ?_, hrun, hended, _, _, rfl, ?_, ⟨_, rfl⟩, hW, hsame.mono (by decide) (by decide)⟩
    · show Steps p.tables e below (T9.setTop (mkF m 38 #[.val (.ref r0), .val (.ref r1), .val (.int (3 : Int32)), .val (.ref el_w_elementData_w_loads_r0_0)] [y3])) _
      exact areturnOut X9 hx f9_0 Bd.returns rfl (hb hby d10_38) hr
    · show Q10d Z r0 r1 y1 y4 y14 el_w_elementData_w_loads_r0_0 y2 y3 y19 el_w_elementData_w_loads_r0_1 y6 y8 y29 el_w_elementData_w_loads_r0_2 y10 y11 y40 el_w_elementData_w_loads_r0_3 y21 y25 h0 n0 _ T9.heap _
      rw [e9]
      exact ⟨congrArg some (show (own_r10d r1 y2 y3 y6 y8 y10 y11 y21 y25) = y3 from (if_pos hc31_8)).symm, N9, rfl, (by rw [show (own_r10d r1 y2 y3 y6 y8 y10 y11 y21 y25) = y3 from (if_pos hc31_8)]; exact f9_0)⟩
  · obtain ⟨T11, X11, e11, st11⟩ := getF X6 hx hZ hown (host := "") (Or.inl (hw _ (List.mem_of_getElem? (i := 82) rfl))) Via.refl e6 y24 (g := (mkF m 15 #[.val (.ref r0), .val (.ref r1), .val (.int (2 : Int32)), .val (.ref el_w_elementData_w_loads_r0_0)] [(.ref r0)])) rfl rfl (hb hby d10_15)
    obtain ⟨cq12, kq12, q12a, q12b, q12c⟩ := isOf hZ e11 y16
    obtain ⟨_, _, ⟨T12, L12, k12, n12⟩, -, X12, ⟨Lc12, hQ12, l12, y12, z12⟩, st12⟩ := X11.virtualBack hx (y := own_y2) (z := own_y2) hown (mvT hZ (hw _ (List.mem_of_getElem? (i := 142) rfl))) (mvT hZ (hw _ (List.mem_of_getElem? (i := 143) rfl))) (notFace_of_selects (args := #[]) (mvT hZ (hw _ (List.mem_of_getElem? (i := 145) rfl)))) (mvT hZ (hw _ (List.mem_of_getElem? (i := 145) rfl))) (mvT hZ (hw _ (List.mem_of_getElem? (i := 144) rfl))) (by decide) (backOf (W := 0) (rm19 l Z a0 hw [] y1 (2 : Int32) (4 : Int32) y4 y19 el_w_elementData_w_loads_r0_1 h0 n0 (Nat.le_trans Z0 (Keep.refl h0 []).1) y26 (by decide) (by decide) y30 ⟨Aa_w_elementData_w_loads_r0_1.1, Aa_w_elementData_w_loads_r0_1.2.1, Aa_w_elementData_w_loads_r0_1.2.2⟩ y16) hZ (hw _ (List.mem_of_getElem? (i := 146) rfl)) (hw _ (List.mem_of_getElem? (i := 60) rfl)) (by decide) (by decide)) q12a q12c (g := (mkF m 19 #[.val (.ref r0), .val (.ref r1), .val (.int (2 : Int32)), .val (.ref el_w_elementData_w_loads_r0_0)] [(.int (2 : Int32)), (.ref y1)])) rfl (by rw [hml]; rfl) (Steps.refl _) (argsL := [(.int (2 : Int32))]) (rest := []) (lenOf pd_13 rfl) rfl (by show 2 * 0 + _ ≤ _; exact Nat.le_of_eq rfl) (hb hby d10_19) (fun _ _ => ⟨rfl, e11, (by decide : 0 + 0 ≤ _), (by decide : 0 + 0 ≤ _)⟩)
    dsimp only [Pt.U, Pt.locs, Pt.cells, Pt.slots] at X12 l12 y12 z12 st12 hQ12
    subst l12 y12 z12
    obtain ⟨rfl, Nq12, e12⟩ := hQ12
    have N12 := Fr.app N6 Nq12
    obtain ⟨T13, X13, e13, st13⟩ := castY X12 hx hZ hown (hw _ (List.mem_of_getElem? (i := 101) rfl)) e12 (Ins.self y39) (g := (mkF m 22 #[.val (.ref r0), .val (.ref r1), .val (.int (2 : Int32)), .val (.ref el_w_elementData_w_loads_r0_0)] [(.ref el_w_elementData_w_loads_r0_1)])) rfl rfl (hb hby d10_22)
    obtain ⟨cq14, kq14, q14a, q14b, q14c⟩ := isOf hZ e13 y39
    obtain ⟨_, _, ⟨T14, L14, k14, n14⟩, -, X14, ⟨Lc14, hQ14, l14, y14, z14⟩, st14⟩ := X13.virtualBack hx (y := own_y3) (z := own_y3) hown (mvT hZ (hw _ (List.mem_of_getElem? (i := 161) rfl))) (mvT hZ (hw _ (List.mem_of_getElem? (i := 162) rfl))) (notFace_of_selects (args := #[]) (mvT hZ (hw _ (List.mem_of_getElem? (i := 164) rfl)))) (mvT hZ (hw _ (List.mem_of_getElem? (i := 164) rfl))) (mvT hZ (hw _ (List.mem_of_getElem? (i := 163) rfl))) (by decide) (backOf (W := 0) (rm23 l Z a0 hw [] el_w_elementData_w_loads_r0_1 y6 h0 n0 (Nat.le_trans Z0 (Keep.refl h0 []).1) y58) hZ (hw _ (List.mem_of_getElem? (i := 165) rfl)) (hw _ (List.mem_of_getElem? (i := 103) rfl)) (by decide) (by decide)) q14a q14c (g := (mkF m 27 #[.val (.ref r0), .val (.ref r1), .val (.int (2 : Int32)), .val (.ref el_w_elementData_w_loads_r0_1)] [(.ref el_w_elementData_w_loads_r0_1)])) rfl (by rw [hml]; rfl) (Steps.refl _) (argsL := []) (rest := []) (lenOf pd_14 rfl) rfl (by show 2 * 0 + _ ≤ _; exact Nat.le_of_eq rfl) (hb hby d10_27) (fun _ _ => ⟨rfl, e13, (by decide : 0 + 0 ≤ _), (by decide : 0 + 0 ≤ _)⟩)
    dsimp only [Pt.U, Pt.locs, Pt.cells, Pt.slots] at X14 l14 y14 z14 st14 hQ14
    subst l14 y14 z14
    obtain ⟨rfl, Nq14, e14⟩ := hQ14
    have N14 := Fr.app N12 Nq14
    have pre15 : ∀ t, Steps p.tables e below (T14.setTop (mkF m 31 #[.val (.ref r0), .val (.ref r1), .val (.int (2 : Int32)), .val (.ref el_w_elementData_w_loads_r0_1)] [(.ref r1), (.ref y6)])) t → Steps p.tables e below (s₁.setTop (entryFrame m #[(.ref r0), (.ref r1)] 4)) t := by
      intro t k
      refine pre7 _ ?_
      show Steps p.tables e below (T6.setTop (mkF m 31 #[.val (.ref r0), .val (.ref r1), .val (.int (3 : Int32)), .val (.ref el_w_elementData_w_loads_r0_0)] [(.ref r1), (.ref y2)])) _
      refine Jvm.RoadKit.acmp (g := (mkF m 31 #[.val (.ref r0), .val (.ref r1), .val (.int (3 : Int32)), .val (.ref el_w_elementData_w_loads_r0_0)] [(.ref r1), (.ref y2)])) X6 hx rfl rfl rfl (pc0 := 31) (pc' := 39) (same := false) rfl (hb hby d10_31) rfl (decide_eq_false fun q => hc31_8 (Value.ref.inj q)) (by decide) (by decide) ?_
      show Steps p.tables e below (T6.setTop (mkF m 39 #[.val (.ref r0), .val (.ref r1), .val (.int (3 : Int32)), .val (.ref el_w_elementData_w_loads_r0_0)] [])) _
      refine XS.iinc X6.here hx rfl (hb hby d10_39) rfl (l' := #[.val (.ref r0), .val (.ref r1), .val (.int (2 : Int32)), .val (.ref el_w_elementData_w_loads_r0_0)]) rfl ?_
      refine XS.goto X6.here hx rfl (pc0 := 42) (pc' := 10) rfl (hb hby d10_42) (by decide) (by decide) ?_
      show Steps p.tables e below (T6.setTop (mkF m 10 #[.val (.ref r0), .val (.ref r1), .val (.int (2 : Int32)), .val (.ref el_w_elementData_w_loads_r0_0)] [])) _
      refine XS.iloadN X6.here hx rfl (hb hby d10_10) rfl ?_
      refine XS.ifNo X6.here hx rfl (hb hby d10_11) rfl ((if0 _ _).trans (flt (by decide : ¬ ((2 : Int32) < (0 : Int32)))).1) ?_
      show Steps p.tables e below (T6.setTop (mkF m 14 #[.val (.ref r0), .val (.ref r1), .val (.int (2 : Int32)), .val (.ref el_w_elementData_w_loads_r0_0)] [])) _
      refine XS.aloadN X6.here hx rfl (hb hby d10_14) rfl rfl ?_
      show Steps p.tables e below (T6.setTop (mkF m 15 #[.val (.ref r0), .val (.ref r1), .val (.int (2 : Int32)), .val (.ref el_w_elementData_w_loads_r0_0)] [(.ref r0)])) _
      refine st11 _ ?_
      show Steps p.tables e below (T11.setTop (mkF m 18 #[.val (.ref r0), .val (.ref r1), .val (.int (2 : Int32)), .val (.ref el_w_elementData_w_loads_r0_0)] [(.ref y1)])) _
      refine XS.iloadN X11.here hx rfl (hb hby d10_18) rfl ?_
      show Steps p.tables e below (T11.setTop (mkF m 19 #[.val (.ref r0), .val (.ref r1), .val (.int (2 : Int32)), .val (.ref el_w_elementData_w_loads_r0_0)] [(.int (2 : Int32)), (.ref y1)])) _
      refine st12.trans ?_
      show Steps p.tables e below (T12.setTop (mkF m 22 #[.val (.ref r0), .val (.ref r1), .val (.int (2 : Int32)), .val (.ref el_w_elementData_w_loads_r0_0)] [(.ref el_w_elementData_w_loads_r0_1)])) _
      refine st13 _ ?_
      show Steps p.tables e below (T13.setTop (mkF m 25 #[.val (.ref r0), .val (.ref r1), .val (.int (2 : Int32)), .val (.ref el_w_elementData_w_loads_r0_0)] [(.ref el_w_elementData_w_loads_r0_1)])) _
      refine XS.astoreN X13.here hx rfl (hb hby d10_25) rfl rfl (l' := #[.val (.ref r0), .val (.ref r1), .val (.int (2 : Int32)), .val (.ref el_w_elementData_w_loads_r0_1)]) rfl ?_
      refine XS.aloadN X13.here hx rfl (hb hby d10_26) rfl rfl ?_
      show Steps p.tables e below (T13.setTop (mkF m 27 #[.val (.ref r0), .val (.ref r1), .val (.int (2 : Int32)), .val (.ref el_w_elementData_w_loads_r0_1)] [(.ref el_w_elementData_w_loads_r0_1)])) _
      refine st14.trans ?_
      show Steps p.tables e below (T14.setTop (mkF m 30 #[.val (.ref r0), .val (.ref r1), .val (.int (2 : Int32)), .val (.ref el_w_elementData_w_loads_r0_1)] [(.ref y6)])) _
      refine XS.aloadN X14.here hx rfl (hb hby d10_30) rfl rfl ?_
      exact k
    by_cases hc31_16 : y6 = r1
    · obtain ⟨cq17, kq17, q17a, q17b, q17c⟩ := isOf hZ e14 y39
      obtain ⟨_, _, ⟨T17, L17, k17, n17⟩, -, X17, ⟨Lc17, hQ17, l17, y17, z17⟩, st17⟩ := X14.virtualBack hx (y := own_y4) (z := own_y4) hown (mvT hZ (hw _ (List.mem_of_getElem? (i := 166) rfl))) (mvT hZ (hw _ (List.mem_of_getElem? (i := 167) rfl))) (notFace_of_selects (args := #[]) (mvT hZ (hw _ (List.mem_of_getElem? (i := 169) rfl)))) (mvT hZ (hw _ (List.mem_of_getElem? (i := 169) rfl))) (mvT hZ (hw _ (List.mem_of_getElem? (i := 168) rfl))) (by decide) (backOf (W := 0) (rm24 l Z a0 hw [] el_w_elementData_w_loads_r0_1 y8 h0 n0 (Nat.le_trans Z0 (Keep.refl h0 []).1) y59 y60) hZ (hw _ (List.mem_of_getElem? (i := 170) rfl)) (hw _ (List.mem_of_getElem? (i := 103) rfl)) (by decide) (by decide)) q17a q17c (g := (mkF m 35 #[.val (.ref r0), .val (.ref r1), .val (.int (2 : Int32)), .val (.ref el_w_elementData_w_loads_r0_1)] [(.ref el_w_elementData_w_loads_r0_1)])) rfl (by rw [hml]; rfl) (Steps.refl _) (argsL := []) (rest := []) (lenOf pd_3 rfl) rfl (by show 2 * 0 + _ ≤ _; exact Nat.le_of_eq rfl) (hb hby d10_35) (fun _ _ => ⟨rfl, e14, (by decide : 0 + 0 ≤ _), (by decide : 0 + 0 ≤ _)⟩)
      dsimp only [Pt.U, Pt.locs, Pt.cells, Pt.slots] at X17 l17 y17 z17 st17 hQ17
      subst l17 y17 z17
      obtain ⟨rfl, Nq17, e17, f17_0⟩ := hQ17
      have N17 := Fr.app N14 Nq17
      have pre18 : ∀ t, Steps p.tables e below (T17.setTop (mkF m 38 #[.val (.ref r0), .val (.ref r1), .val (.int (2 : Int32)), .val (.ref el_w_elementData_w_loads_r0_1)] [y8])) t → Steps p.tables e below (s₁.setTop (entryFrame m #[(.ref r0), (.ref r1)] 4)) t := by
        intro t k
        refine pre15 _ ?_
        show Steps p.tables e below (T14.setTop (mkF m 31 #[.val (.ref r0), .val (.ref r1), .val (.int (2 : Int32)), .val (.ref el_w_elementData_w_loads_r0_1)] [(.ref r1), (.ref y6)])) _
        refine Jvm.RoadKit.acmp (g := (mkF m 31 #[.val (.ref r0), .val (.ref r1), .val (.int (2 : Int32)), .val (.ref el_w_elementData_w_loads_r0_1)] [(.ref r1), (.ref y6)])) X14 hx rfl rfl rfl (pc0 := 31) (pc' := 34) (same := true) rfl (hb hby d10_31) rfl (decide_eq_true (congrArg Value.ref hc31_16)) (by decide) (by decide) ?_
        show Steps p.tables e below (T14.setTop (mkF m 34 #[.val (.ref r0), .val (.ref r1), .val (.int (2 : Int32)), .val (.ref el_w_elementData_w_loads_r0_1)] [])) _
        refine XS.aloadN X14.here hx rfl (hb hby d10_34) rfl rfl ?_
        show Steps p.tables e below (T14.setTop (mkF m 35 #[.val (.ref r0), .val (.ref r1), .val (.int (2 : Int32)), .val (.ref el_w_elementData_w_loads_r0_1)] [(.ref el_w_elementData_w_loads_r0_1)])) _
        refine st17.trans ?_
        exact k
      obtain ⟨fs, hr, hrun, hended, hW, hsame⟩ := X17.leave (v := some y8) (fun h => by rw [Bd.returns] at h; cases h)
      refine ⟨_, _, pre18 _ ?_, hrun, hended, _, _, rfl, ?_, ⟨_, rfl⟩, hW, hsame.mono (by decide) (by decide)⟩
      · show Steps p.tables e below (T17.setTop (mkF m 38 #[.val (.ref r0), .val (.ref r1), .val (.int (2 : Int32)), .val (.ref el_w_elementData_w_loads_r0_1)] [y8])) _
        exact areturnOut X17 hx f17_0 Bd.returns rfl (hb hby d10_38) hr
      · show Q10d Z r0 r1 y1 y4 y14 el_w_elementData_w_loads_r0_0 y2 y3 y19 el_w_elementData_w_loads_r0_1 y6 y8 y29 el_w_elementData_w_loads_r0_2 y10 y11 y40 el_w_elementData_w_loads_r0_3 y21 y25 h0 n0 _ T17.heap _
        rw [e17]
        exact ⟨congrArg some (show (own_r10d r1 y2 y3 y6 y8 y10 y11 y21 y25) = y8 from ((if_neg hc31_8).trans (if_pos hc31_16))).symm, N17, rfl, (by rw [show (own_r10d r1 y2 y3 y6 y8 y10 y11 y21 y25) = y8 from ((if_neg hc31_8).trans (if_pos hc31_16))]; exact f17_0)⟩
    · obtain ⟨T19, X19, e19, st19⟩ := getF X14 hx hZ hown (host := "") (Or.inl (hw _ (List.mem_of_getElem? (i := 82) rfl))) Via.refl e14 y24 (g := (mkF m 15 #[.val (.ref r0), .val (.ref r1), .val (.int (1 : Int32)), .val (.ref el_w_elementData_w_loads_r0_1)] [(.ref r0)])) rfl rfl (hb hby d10_15)
      obtain ⟨cq20, kq20, q20a, q20b, q20c⟩ := isOf hZ e19 y16
      obtain ⟨_, _, ⟨T20, L20, k20, n20⟩, -, X20, ⟨Lc20, hQ20, l20, y20, z20⟩, st20⟩ := X19.virtualBack hx (y := own_y2) (z := own_y2) hown (mvT hZ (hw _ (List.mem_of_getElem? (i := 142) rfl))) (mvT hZ (hw _ (List.mem_of_getElem? (i := 143) rfl))) (notFace_of_selects (args := #[]) (mvT hZ (hw _ (List.mem_of_getElem? (i := 145) rfl)))) (mvT hZ (hw _ (List.mem_of_getElem? (i := 145) rfl))) (mvT hZ (hw _ (List.mem_of_getElem? (i := 144) rfl))) (by decide) (backOf (W := 0) (rm19 l Z a0 hw [] y1 (1 : Int32) (4 : Int32) y4 y29 el_w_elementData_w_loads_r0_2 h0 n0 (Nat.le_trans Z0 (Keep.refl h0 []).1) y26 (by decide) (by decide) y30 ⟨Aa_w_elementData_w_loads_r0_2.1, Aa_w_elementData_w_loads_r0_2.2.1, Aa_w_elementData_w_loads_r0_2.2.2⟩ y16) hZ (hw _ (List.mem_of_getElem? (i := 146) rfl)) (hw _ (List.mem_of_getElem? (i := 60) rfl)) (by decide) (by decide)) q20a q20c (g := (mkF m 19 #[.val (.ref r0), .val (.ref r1), .val (.int (1 : Int32)), .val (.ref el_w_elementData_w_loads_r0_1)] [(.int (1 : Int32)), (.ref y1)])) rfl (by rw [hml]; rfl) (Steps.refl _) (argsL := [(.int (1 : Int32))]) (rest := []) (lenOf pd_13 rfl) rfl (by show 2 * 0 + _ ≤ _; exact Nat.le_of_eq rfl) (hb hby d10_19) (fun _ _ => ⟨rfl, e19, (by decide : 0 + 0 ≤ _), (by decide : 0 + 0 ≤ _)⟩)
      dsimp only [Pt.U, Pt.locs, Pt.cells, Pt.slots] at X20 l20 y20 z20 st20 hQ20
      subst l20 y20 z20
      obtain ⟨rfl, Nq20, e20⟩ := hQ20
      have N20 := Fr.app N14 Nq20
      obtain ⟨T21, X21, e21, st21⟩ := castY X20 hx hZ hown (hw _ (List.mem_of_getElem? (i := 101) rfl)) e20 (Ins.self y49) (g := (mkF m 22 #[.val (.ref r0), .val (.ref r1), .val (.int (1 : Int32)), .val (.ref el_w_elementData_w_loads_r0_1)] [(.ref el_w_elementData_w_loads_r0_2)])) rfl rfl (hb hby d10_22)
      obtain ⟨cq22, kq22, q22a, q22b, q22c⟩ := isOf hZ e21 y49
      obtain ⟨_, _, ⟨T22, L22, k22, n22⟩, -, X22, ⟨Lc22, hQ22, l22, y22, z22⟩, st22⟩ := X21.virtualBack hx (y := own_y3) (z := own_y3) hown (mvT hZ (hw _ (List.mem_of_getElem? (i := 161) rfl))) (mvT hZ (hw _ (List.mem_of_getElem? (i := 162) rfl))) (notFace_of_selects (args := #[]) (mvT hZ (hw _ (List.mem_of_getElem? (i := 164) rfl)))) (mvT hZ (hw _ (List.mem_of_getElem? (i := 164) rfl))) (mvT hZ (hw _ (List.mem_of_getElem? (i := 163) rfl))) (by decide) (backOf (W := 0) (rm23 l Z a0 hw [] el_w_elementData_w_loads_r0_2 y10 h0 n0 (Nat.le_trans Z0 (Keep.refl h0 []).1) y73) hZ (hw _ (List.mem_of_getElem? (i := 165) rfl)) (hw _ (List.mem_of_getElem? (i := 103) rfl)) (by decide) (by decide)) q22a q22c (g := (mkF m 27 #[.val (.ref r0), .val (.ref r1), .val (.int (1 : Int32)), .val (.ref el_w_elementData_w_loads_r0_2)] [(.ref el_w_elementData_w_loads_r0_2)])) rfl (by rw [hml]; rfl) (Steps.refl _) (argsL := []) (rest := []) (lenOf pd_14 rfl) rfl (by show 2 * 0 + _ ≤ _; exact Nat.le_of_eq rfl) (hb hby d10_27) (fun _ _ => ⟨rfl, e21, (by decide : 0 + 0 ≤ _), (by decide : 0 + 0 ≤ _)⟩)
      dsimp only [Pt.U, Pt.locs, Pt.cells, Pt.slots] at X22 l22 y22 z22 st22 hQ22
      subst l22 y22 z22
      obtain ⟨rfl, Nq22, e22⟩ := hQ22
      have N22 := Fr.app N20 Nq22
      have pre23 : ∀ t, Steps p.tables e below (T22.setTop (mkF m 31 #[.val (.ref r0), .val (.ref r1), .val (.int (1 : Int32)), .val (.ref el_w_elementData_w_loads_r0_2)] [(.ref r1), (.ref y10)])) t → Steps p.tables e below (s₁.setTop (entryFrame m #[(.ref r0), (.ref r1)] 4)) t := by
        intro t k
        refine pre15 _ ?_
        show Steps p.tables e below (T14.setTop (mkF m 31 #[.val (.ref r0), .val (.ref r1), .val (.int (2 : Int32)), .val (.ref el_w_elementData_w_loads_r0_1)] [(.ref r1), (.ref y6)])) _
        refine Jvm.RoadKit.acmp (g := (mkF m 31 #[.val (.ref r0), .val (.ref r1), .val (.int (2 : Int32)), .val (.ref el_w_elementData_w_loads_r0_1)] [(.ref r1), (.ref y6)])) X14 hx rfl rfl rfl (pc0 := 31) (pc' := 39) (same := false) rfl (hb hby d10_31) rfl (decide_eq_false fun q => hc31_16 (Value.ref.inj q)) (by decide) (by decide) ?_
        show Steps p.tables e below (T14.setTop (mkF m 39 #[.val (.ref r0), .val (.ref r1), .val (.int (2 : Int32)), .val (.ref el_w_elementData_w_loads_r0_1)] [])) _
        refine XS.iinc X14.here hx rfl (hb hby d10_39) rfl (l' := #[.val (.ref r0), .val (.ref r1), .val (.int (1 : Int32)), .val (.ref el_w_elementData_w_loads_r0_1)]) rfl ?_
        refine XS.goto X14.here hx rfl (pc0 := 42) (pc' := 10) rfl (hb hby d10_42) (by decide) (by decide) ?_
        show Steps p.tables e below (T14.setTop (mkF m 10 #[.val (.ref r0), .val (.ref r1), .val (.int (1 : Int32)), .val (.ref el_w_elementData_w_loads_r0_1)] [])) _
        refine XS.iloadN X14.here hx rfl (hb hby d10_10) rfl ?_
        refine XS.ifNo X14.here hx rfl (hb hby d10_11) rfl ((if0 _ _).trans (flt (by decide : ¬ ((1 : Int32) < (0 : Int32)))).1) ?_
        show Steps p.tables e below (T14.setTop (mkF m 14 #[.val (.ref r0), .val (.ref r1), .val (.int (1 : Int32)), .val (.ref el_w_elementData_w_loads_r0_1)] [])) _
        refine XS.aloadN X14.here hx rfl (hb hby d10_14) rfl rfl ?_
        show Steps p.tables e below (T14.setTop (mkF m 15 #[.val (.ref r0), .val (.ref r1), .val (.int (1 : Int32)), .val (.ref el_w_elementData_w_loads_r0_1)] [(.ref r0)])) _
        refine st19 _ ?_
        show Steps p.tables e below (T19.setTop (mkF m 18 #[.val (.ref r0), .val (.ref r1), .val (.int (1 : Int32)), .val (.ref el_w_elementData_w_loads_r0_1)] [(.ref y1)])) _
        refine XS.iloadN X19.here hx rfl (hb hby d10_18) rfl ?_
        show Steps p.tables e below (T19.setTop (mkF m 19 #[.val (.ref r0), .val (.ref r1), .val (.int (1 : Int32)), .val (.ref el_w_elementData_w_loads_r0_1)] [(.int (1 : Int32)), (.ref y1)])) _
        refine st20.trans ?_
        show Steps p.tables e below (T20.setTop (mkF m 22 #[.val (.ref r0), .val (.ref r1), .val (.int (1 : Int32)), .val (.ref el_w_elementData_w_loads_r0_1)] [(.ref el_w_elementData_w_loads_r0_2)])) _
        refine st21 _ ?_
        show Steps p.tables e below (T21.setTop (mkF m 25 #[.val (.ref r0), .val (.ref r1), .val (.int (1 : Int32)), .val (.ref el_w_elementData_w_loads_r0_1)] [(.ref el_w_elementData_w_loads_r0_2)])) _
        refine XS.astoreN X21.here hx rfl (hb hby d10_25) rfl rfl (l' := #[.val (.ref r0), .val (.ref r1), .val (.int (1 : Int32)), .val (.ref el_w_elementData_w_loads_r0_2)]) rfl ?_
        refine XS.aloadN X21.here hx rfl (hb hby d10_26) rfl rfl ?_
        show Steps p.tables e below (T21.setTop (mkF m 27 #[.val (.ref r0), .val (.ref r1), .val (.int (1 : Int32)), .val (.ref el_w_elementData_w_loads_r0_2)] [(.ref el_w_elementData_w_loads_r0_2)])) _
        refine st22.trans ?_
        show Steps p.tables e below (T22.setTop (mkF m 30 #[.val (.ref r0), .val (.ref r1), .val (.int (1 : Int32)), .val (.ref el_w_elementData_w_loads_r0_2)] [(.ref y10)])) _
        refine XS.aloadN X22.here hx rfl (hb hby d10_30) rfl rfl ?_
        exact k
      by_cases hc31_24 : y10 = r1
      · obtain ⟨cq25, kq25, q25a, q25b, q25c⟩ := isOf hZ e22 y49
        obtain ⟨_, _, ⟨T25, L25, k25, n25⟩, -, X25, ⟨Lc25, hQ25, l25, y25, z25⟩, st25⟩ := X22.virtualBack hx (y := own_y4) (z := own_y4) hown (mvT hZ (hw _ (List.mem_of_getElem? (i := 166) rfl))) (mvT hZ (hw _ (List.mem_of_getElem? (i := 167) rfl))) (notFace_of_selects (args := #[]) (mvT hZ (hw _ (List.mem_of_getElem? (i := 169) rfl)))) (mvT hZ (hw _ (List.mem_of_getElem? (i := 169) rfl))) (mvT hZ (hw _ (List.mem_of_getElem? (i := 168) rfl))) (by decide) (backOf (W := 0) (rm24 l Z a0 hw [] el_w_elementData_w_loads_r0_2 y11 h0 n0 (Nat.le_trans Z0 (Keep.refl h0 []).1) y74 y75) hZ (hw _ (List.mem_of_getElem? (i := 170) rfl)) (hw _ (List.mem_of_getElem? (i := 103) rfl)) (by decide) (by decide)) q25a q25c (g := (mkF m 35 #[.val (.ref r0), .val (.ref r1), .val (.int (1 : Int32)), .val (.ref el_w_elementData_w_loads_r0_2)] [(.ref el_w_elementData_w_loads_r0_2)])) rfl (by rw [hml]; rfl) (Steps.refl _) (argsL := []) (rest := []) (lenOf pd_3 rfl) rfl (by show 2 * 0 + _ ≤ _; exact Nat.le_of_eq rfl) (hb hby d10_35) (fun _ _ => ⟨rfl, e22, (by decide : 0 + 0 ≤ _), (by decide : 0 + 0 ≤ _)⟩)
        dsimp only [Pt.U, Pt.locs, Pt.cells, Pt.slots] at X25 l25 y25 z25 st25 hQ25
        subst l25 y25 z25
        obtain ⟨rfl, Nq25, e25, f25_0⟩ := hQ25
        have N25 := Fr.app N22 Nq25
        have pre26 : ∀ t, Steps p.tables e below (T25.setTop (mkF m 38 #[.val (.ref r0), .val (.ref r1), .val (.int (1 : Int32)), .val (.ref el_w_elementData_w_loads_r0_2)] [y11])) t → Steps p.tables e below (s₁.setTop (entryFrame m #[(.ref r0), (.ref r1)] 4)) t := by
          intro t k
          refine pre23 _ ?_
          show Steps p.tables e below (T22.setTop (mkF m 31 #[.val (.ref r0), .val (.ref r1), .val (.int (1 : Int32)), .val (.ref el_w_elementData_w_loads_r0_2)] [(.ref r1), (.ref y10)])) _
          refine Jvm.RoadKit.acmp (g := (mkF m 31 #[.val (.ref r0), .val (.ref r1), .val (.int (1 : Int32)), .val (.ref el_w_elementData_w_loads_r0_2)] [(.ref r1), (.ref y10)])) X22 hx rfl rfl rfl (pc0 := 31) (pc' := 34) (same := true) rfl (hb hby d10_31) rfl (decide_eq_true (congrArg Value.ref hc31_24)) (by decide) (by decide) ?_
          show Steps p.tables e below (T22.setTop (mkF m 34 #[.val (.ref r0), .val (.ref r1), .val (.int (1 : Int32)), .val (.ref el_w_elementData_w_loads_r0_2)] [])) _
          refine XS.aloadN X22.here hx rfl (hb hby d10_34) rfl rfl ?_
          show Steps p.tables e below (T22.setTop (mkF m 35 #[.val (.ref r0), .val (.ref r1), .val (.int (1 : Int32)), .val (.ref el_w_elementData_w_loads_r0_2)] [(.ref el_w_elementData_w_loads_r0_2)])) _
          refine st25.trans ?_
          exact k
        obtain ⟨fs, hr, hrun, hended, hW, hsame⟩ := X25.leave (v := some y11) (fun h => by rw [Bd.returns] at h; cases h)
        refine ⟨_, _, pre26 _ ?_, hrun, hended, _, _, rfl, ?_, ⟨_, rfl⟩, hW, hsame.mono (by decide) (by decide)⟩
        · show Steps p.tables e below (T25.setTop (mkF m 38 #[.val (.ref r0), .val (.ref r1), .val (.int (1 : Int32)), .val (.ref el_w_elementData_w_loads_r0_2)] [y11])) _
          exact areturnOut X25 hx f25_0 Bd.returns rfl (hb hby d10_38) hr
        · show Q10d Z r0 r1 y1 y4 y14 el_w_elementData_w_loads_r0_0 y2 y3 y19 el_w_elementData_w_loads_r0_1 y6 y8 y29 el_w_elementData_w_loads_r0_2 y10 y11 y40 el_w_elementData_w_loads_r0_3 y21 y25 h0 n0 _ T25.heap _
          rw [e25]
          exact ⟨congrArg some (show (own_r10d r1 y2 y3 y6 y8 y10 y11 y21 y25) = y11 from ((if_neg hc31_8).trans ((if_neg hc31_16).trans (if_pos hc31_24)))).symm, N25, rfl, (by rw [show (own_r10d r1 y2 y3 y6 y8 y10 y11 y21 y25) = y11 from ((if_neg hc31_8).trans ((if_neg hc31_16).trans (if_pos hc31_24)))]; exact f25_0)⟩
      · obtain ⟨T27, X27, e27, st27⟩ := getF X22 hx hZ hown (host := "") (Or.inl (hw _ (List.mem_of_getElem? (i := 82) rfl))) Via.refl e22 y24 (g := (mkF m 15 #[.val (.ref r0), .val (.ref r1), .val (.int (0 : Int32)), .val (.ref el_w_elementData_w_loads_r0_2)] [(.ref r0)])) rfl rfl (hb hby d10_15)
        obtain ⟨cq28, kq28, q28a, q28b, q28c⟩ := isOf hZ e27 y16
        obtain ⟨_, _, ⟨T28, L28, k28, n28⟩, -, X28, ⟨Lc28, hQ28, l28, y28, z28⟩, st28⟩ := X27.virtualBack hx (y := own_y2) (z := own_y2) hown (mvT hZ (hw _ (List.mem_of_getElem? (i := 142) rfl))) (mvT hZ (hw _ (List.mem_of_getElem? (i := 143) rfl))) (notFace_of_selects (args := #[]) (mvT hZ (hw _ (List.mem_of_getElem? (i := 145) rfl)))) (mvT hZ (hw _ (List.mem_of_getElem? (i := 145) rfl))) (mvT hZ (hw _ (List.mem_of_getElem? (i := 144) rfl))) (by decide) (backOf (W := 0) (rm19 l Z a0 hw [] y1 (0 : Int32) (4 : Int32) y4 y40 el_w_elementData_w_loads_r0_3 h0 n0 (Nat.le_trans Z0 (Keep.refl h0 []).1) y26 (by decide) (by decide) y30 ⟨Aa_w_elementData_w_loads_r0_3.1, Aa_w_elementData_w_loads_r0_3.2.1, Aa_w_elementData_w_loads_r0_3.2.2⟩ y16) hZ (hw _ (List.mem_of_getElem? (i := 146) rfl)) (hw _ (List.mem_of_getElem? (i := 60) rfl)) (by decide) (by decide)) q28a q28c (g := (mkF m 19 #[.val (.ref r0), .val (.ref r1), .val (.int (0 : Int32)), .val (.ref el_w_elementData_w_loads_r0_2)] [(.int (0 : Int32)), (.ref y1)])) rfl (by rw [hml]; rfl) (Steps.refl _) (argsL := [(.int (0 : Int32))]) (rest := []) (lenOf pd_13 rfl) rfl (by show 2 * 0 + _ ≤ _; exact Nat.le_of_eq rfl) (hb hby d10_19) (fun _ _ => ⟨rfl, e27, (by decide : 0 + 0 ≤ _), (by decide : 0 + 0 ≤ _)⟩)
        dsimp only [Pt.U, Pt.locs, Pt.cells, Pt.slots] at X28 l28 y28 z28 st28 hQ28
        subst l28 y28 z28
        obtain ⟨rfl, Nq28, e28⟩ := hQ28
        have N28 := Fr.app N22 Nq28
        obtain ⟨T29, X29, e29, st29⟩ := castY X28 hx hZ hown (hw _ (List.mem_of_getElem? (i := 101) rfl)) e28 (Ins.self y76) (g := (mkF m 22 #[.val (.ref r0), .val (.ref r1), .val (.int (0 : Int32)), .val (.ref el_w_elementData_w_loads_r0_2)] [(.ref el_w_elementData_w_loads_r0_3)])) rfl rfl (hb hby d10_22)
        obtain ⟨cq30, kq30, q30a, q30b, q30c⟩ := isOf hZ e29 y76
        obtain ⟨_, _, ⟨T30, L30, k30, n30⟩, -, X30, ⟨Lc30, hQ30, l30, y30, z30⟩, st30⟩ := X29.virtualBack hx (y := own_y3) (z := own_y3) hown (mvT hZ (hw _ (List.mem_of_getElem? (i := 161) rfl))) (mvT hZ (hw _ (List.mem_of_getElem? (i := 162) rfl))) (notFace_of_selects (args := #[]) (mvT hZ (hw _ (List.mem_of_getElem? (i := 164) rfl)))) (mvT hZ (hw _ (List.mem_of_getElem? (i := 164) rfl))) (mvT hZ (hw _ (List.mem_of_getElem? (i := 163) rfl))) (by decide) (backOf (W := 0) (rm23 l Z a0 hw [] el_w_elementData_w_loads_r0_3 y21 h0 n0 (Nat.le_trans Z0 (Keep.refl h0 []).1) y90) hZ (hw _ (List.mem_of_getElem? (i := 165) rfl)) (hw _ (List.mem_of_getElem? (i := 103) rfl)) (by decide) (by decide)) q30a q30c (g := (mkF m 27 #[.val (.ref r0), .val (.ref r1), .val (.int (0 : Int32)), .val (.ref el_w_elementData_w_loads_r0_3)] [(.ref el_w_elementData_w_loads_r0_3)])) rfl (by rw [hml]; rfl) (Steps.refl _) (argsL := []) (rest := []) (lenOf pd_14 rfl) rfl (by show 2 * 0 + _ ≤ _; exact Nat.le_of_eq rfl) (hb hby d10_27) (fun _ _ => ⟨rfl, e29, (by decide : 0 + 0 ≤ _), (by decide : 0 + 0 ≤ _)⟩)
        dsimp only [Pt.U, Pt.locs, Pt.cells, Pt.slots] at X30 l30 y30 z30 st30 hQ30
        subst l30 y30 z30
        obtain ⟨rfl, Nq30, e30⟩ := hQ30
        have N30 := Fr.app N28 Nq30
        have pre31 : ∀ t, Steps p.tables e below (T30.setTop (mkF m 31 #[.val (.ref r0), .val (.ref r1), .val (.int (0 : Int32)), .val (.ref el_w_elementData_w_loads_r0_3)] [(.ref r1), (.ref y21)])) t → Steps p.tables e below (s₁.setTop (entryFrame m #[(.ref r0), (.ref r1)] 4)) t := by
          intro t k
          refine pre23 _ ?_
          show Steps p.tables e below (T22.setTop (mkF m 31 #[.val (.ref r0), .val (.ref r1), .val (.int (1 : Int32)), .val (.ref el_w_elementData_w_loads_r0_2)] [(.ref r1), (.ref y10)])) _
          refine Jvm.RoadKit.acmp (g := (mkF m 31 #[.val (.ref r0), .val (.ref r1), .val (.int (1 : Int32)), .val (.ref el_w_elementData_w_loads_r0_2)] [(.ref r1), (.ref y10)])) X22 hx rfl rfl rfl (pc0 := 31) (pc' := 39) (same := false) rfl (hb hby d10_31) rfl (decide_eq_false fun q => hc31_24 (Value.ref.inj q)) (by decide) (by decide) ?_
          show Steps p.tables e below (T22.setTop (mkF m 39 #[.val (.ref r0), .val (.ref r1), .val (.int (1 : Int32)), .val (.ref el_w_elementData_w_loads_r0_2)] [])) _
          refine XS.iinc X22.here hx rfl (hb hby d10_39) rfl (l' := #[.val (.ref r0), .val (.ref r1), .val (.int (0 : Int32)), .val (.ref el_w_elementData_w_loads_r0_2)]) rfl ?_
          refine XS.goto X22.here hx rfl (pc0 := 42) (pc' := 10) rfl (hb hby d10_42) (by decide) (by decide) ?_
          show Steps p.tables e below (T22.setTop (mkF m 10 #[.val (.ref r0), .val (.ref r1), .val (.int (0 : Int32)), .val (.ref el_w_elementData_w_loads_r0_2)] [])) _
          refine XS.iloadN X22.here hx rfl (hb hby d10_10) rfl ?_
          refine XS.ifNo X22.here hx rfl (hb hby d10_11) rfl ((if0 _ _).trans (flt (by decide : ¬ ((0 : Int32) < (0 : Int32)))).1) ?_
          show Steps p.tables e below (T22.setTop (mkF m 14 #[.val (.ref r0), .val (.ref r1), .val (.int (0 : Int32)), .val (.ref el_w_elementData_w_loads_r0_2)] [])) _
          refine XS.aloadN X22.here hx rfl (hb hby d10_14) rfl rfl ?_
          show Steps p.tables e below (T22.setTop (mkF m 15 #[.val (.ref r0), .val (.ref r1), .val (.int (0 : Int32)), .val (.ref el_w_elementData_w_loads_r0_2)] [(.ref r0)])) _
          refine st27 _ ?_
          show Steps p.tables e below (T27.setTop (mkF m 18 #[.val (.ref r0), .val (.ref r1), .val (.int (0 : Int32)), .val (.ref el_w_elementData_w_loads_r0_2)] [(.ref y1)])) _
          refine XS.iloadN X27.here hx rfl (hb hby d10_18) rfl ?_
          show Steps p.tables e below (T27.setTop (mkF m 19 #[.val (.ref r0), .val (.ref r1), .val (.int (0 : Int32)), .val (.ref el_w_elementData_w_loads_r0_2)] [(.int (0 : Int32)), (.ref y1)])) _
          refine st28.trans ?_
          show Steps p.tables e below (T28.setTop (mkF m 22 #[.val (.ref r0), .val (.ref r1), .val (.int (0 : Int32)), .val (.ref el_w_elementData_w_loads_r0_2)] [(.ref el_w_elementData_w_loads_r0_3)])) _
          refine st29 _ ?_
          show Steps p.tables e below (T29.setTop (mkF m 25 #[.val (.ref r0), .val (.ref r1), .val (.int (0 : Int32)), .val (.ref el_w_elementData_w_loads_r0_2)] [(.ref el_w_elementData_w_loads_r0_3)])) _
          refine XS.astoreN X29.here hx rfl (hb hby d10_25) rfl rfl (l' := #[.val (.ref r0), .val (.ref r1), .val (.int (0 : Int32)), .val (.ref el_w_elementData_w_loads_r0_3)]) rfl ?_
          refine XS.aloadN X29.here hx rfl (hb hby d10_26) rfl rfl ?_
          show Steps p.tables e below (T29.setTop (mkF m 27 #[.val (.ref r0), .val (.ref r1), .val (.int (0 : Int32)), .val (.ref el_w_elementData_w_loads_r0_3)] [(.ref el_w_elementData_w_loads_r0_3)])) _
          refine st30.trans ?_
          show Steps p.tables e below (T30.setTop (mkF m 30 #[.val (.ref r0), .val (.ref r1), .val (.int (0 : Int32)), .val (.ref el_w_elementData_w_loads_r0_3)] [(.ref y21)])) _
          refine XS.aloadN X30.here hx rfl (hb hby d10_30) rfl rfl ?_
          exact k
        by_cases hc31_32 : y21 = r1
        · obtain ⟨cq33, kq33, q33a, q33b, q33c⟩ := isOf hZ e30 y76
          obtain ⟨_, _, ⟨T33, L33, k33, n33⟩, -, X33, ⟨Lc33, hQ33, l33, y33, z33⟩, st33⟩ := X30.virtualBack hx (y := own_y4) (z := own_y4) hown (mvT hZ (hw _ (List.mem_of_getElem? (i := 166) rfl))) (mvT hZ (hw _ (List.mem_of_getElem? (i := 167) rfl))) (notFace_of_selects (args := #[]) (mvT hZ (hw _ (List.mem_of_getElem? (i := 169) rfl)))) (mvT hZ (hw _ (List.mem_of_getElem? (i := 169) rfl))) (mvT hZ (hw _ (List.mem_of_getElem? (i := 168) rfl))) (by decide) (backOf (W := 0) (rm24 l Z a0 hw [] el_w_elementData_w_loads_r0_3 y25 h0 n0 (Nat.le_trans Z0 (Keep.refl h0 []).1) y91 y92) hZ (hw _ (List.mem_of_getElem? (i := 170) rfl)) (hw _ (List.mem_of_getElem? (i := 103) rfl)) (by decide) (by decide)) q33a q33c (g := (mkF m 35 #[.val (.ref r0), .val (.ref r1), .val (.int (0 : Int32)), .val (.ref el_w_elementData_w_loads_r0_3)] [(.ref el_w_elementData_w_loads_r0_3)])) rfl (by rw [hml]; rfl) (Steps.refl _) (argsL := []) (rest := []) (lenOf pd_3 rfl) rfl (by show 2 * 0 + _ ≤ _; exact Nat.le_of_eq rfl) (hb hby d10_35) (fun _ _ => ⟨rfl, e30, (by decide : 0 + 0 ≤ _), (by decide : 0 + 0 ≤ _)⟩)
          dsimp only [Pt.U, Pt.locs, Pt.cells, Pt.slots] at X33 l33 y33 z33 st33 hQ33
          subst l33 y33 z33
          obtain ⟨rfl, Nq33, e33, f33_0⟩ := hQ33
          have N33 := Fr.app N30 Nq33
          have pre34 : ∀ t, Steps p.tables e below (T33.setTop (mkF m 38 #[.val (.ref r0), .val (.ref r1), .val (.int (0 : Int32)), .val (.ref el_w_elementData_w_loads_r0_3)] [y25])) t → Steps p.tables e below (s₁.setTop (entryFrame m #[(.ref r0), (.ref r1)] 4)) t := by
            intro t k
            refine pre31 _ ?_
            show Steps p.tables e below (T30.setTop (mkF m 31 #[.val (.ref r0), .val (.ref r1), .val (.int (0 : Int32)), .val (.ref el_w_elementData_w_loads_r0_3)] [(.ref r1), (.ref y21)])) _
            refine Jvm.RoadKit.acmp (g := (mkF m 31 #[.val (.ref r0), .val (.ref r1), .val (.int (0 : Int32)), .val (.ref el_w_elementData_w_loads_r0_3)] [(.ref r1), (.ref y21)])) X30 hx rfl rfl rfl (pc0 := 31) (pc' := 34) (same := true) rfl (hb hby d10_31) rfl (decide_eq_true (congrArg Value.ref hc31_32)) (by decide) (by decide) ?_
            show Steps p.tables e below (T30.setTop (mkF m 34 #[.val (.ref r0), .val (.ref r1), .val (.int (0 : Int32)), .val (.ref el_w_elementData_w_loads_r0_3)] [])) _
            refine XS.aloadN X30.here hx rfl (hb hby d10_34) rfl rfl ?_
            show Steps p.tables e below (T30.setTop (mkF m 35 #[.val (.ref r0), .val (.ref r1), .val (.int (0 : Int32)), .val (.ref el_w_elementData_w_loads_r0_3)] [(.ref el_w_elementData_w_loads_r0_3)])) _
            refine st33.trans ?_
            exact k
          obtain ⟨fs, hr, hrun, hended, hW, hsame⟩ := X33.leave (v := some y25) (fun h => by rw [Bd.returns] at h; cases h)
          refine ⟨_, _, pre34 _ ?_, hrun, hended, _, _, rfl, ?_, ⟨_, rfl⟩, hW, hsame.mono (by decide) (by decide)⟩
          · show Steps p.tables e below (T33.setTop (mkF m 38 #[.val (.ref r0), .val (.ref r1), .val (.int (0 : Int32)), .val (.ref el_w_elementData_w_loads_r0_3)] [y25])) _
            exact areturnOut X33 hx f33_0 Bd.returns rfl (hb hby d10_38) hr
          · show Q10d Z r0 r1 y1 y4 y14 el_w_elementData_w_loads_r0_0 y2 y3 y19 el_w_elementData_w_loads_r0_1 y6 y8 y29 el_w_elementData_w_loads_r0_2 y10 y11 y40 el_w_elementData_w_loads_r0_3 y21 y25 h0 n0 _ T33.heap _
            rw [e33]
            exact ⟨congrArg some (show (own_r10d r1 y2 y3 y6 y8 y10 y11 y21 y25) = y25 from ((if_neg hc31_8).trans ((if_neg hc31_16).trans ((if_neg hc31_24).trans (if_pos hc31_32))))).symm, N33, rfl, (by rw [show (own_r10d r1 y2 y3 y6 y8 y10 y11 y21 y25) = y25 from ((if_neg hc31_8).trans ((if_neg hc31_16).trans ((if_neg hc31_24).trans (if_pos hc31_32))))]; exact f33_0)⟩
        · have pre35 : ∀ t, Steps p.tables e below (T30.setTop (mkF m 46 #[.val (.ref r0), .val (.ref r1), .val (.int (-1 : Int32)), .val (.ref el_w_elementData_w_loads_r0_3)] [.null])) t → Steps p.tables e below (s₁.setTop (entryFrame m #[(.ref r0), (.ref r1)] 4)) t := by
            intro t k
            refine pre31 _ ?_
            show Steps p.tables e below (T30.setTop (mkF m 31 #[.val (.ref r0), .val (.ref r1), .val (.int (0 : Int32)), .val (.ref el_w_elementData_w_loads_r0_3)] [(.ref r1), (.ref y21)])) _
            refine Jvm.RoadKit.acmp (g := (mkF m 31 #[.val (.ref r0), .val (.ref r1), .val (.int (0 : Int32)), .val (.ref el_w_elementData_w_loads_r0_3)] [(.ref r1), (.ref y21)])) X30 hx rfl rfl rfl (pc0 := 31) (pc' := 39) (same := false) rfl (hb hby d10_31) rfl (decide_eq_false fun q => hc31_32 (Value.ref.inj q)) (by decide) (by decide) ?_
            show Steps p.tables e below (T30.setTop (mkF m 39 #[.val (.ref r0), .val (.ref r1), .val (.int (0 : Int32)), .val (.ref el_w_elementData_w_loads_r0_3)] [])) _
            refine XS.iinc X30.here hx rfl (hb hby d10_39) rfl (l' := #[.val (.ref r0), .val (.ref r1), .val (.int (-1 : Int32)), .val (.ref el_w_elementData_w_loads_r0_3)]) rfl ?_
            refine XS.goto X30.here hx rfl (pc0 := 42) (pc' := 10) rfl (hb hby d10_42) (by decide) (by decide) ?_
            show Steps p.tables e below (T30.setTop (mkF m 10 #[.val (.ref r0), .val (.ref r1), .val (.int (-1 : Int32)), .val (.ref el_w_elementData_w_loads_r0_3)] [])) _
            refine XS.iloadN X30.here hx rfl (hb hby d10_10) rfl ?_
            refine XS.ifYes X30.here hx rfl (pc0 := 11) (pc' := 45) rfl (hb hby d10_11) rfl ((if0 _ _).trans (tlt (by decide : (-1 : Int32) < (0 : Int32))).1) (by decide) (by decide) ?_
            show Steps p.tables e below (T30.setTop (mkF m 45 #[.val (.ref r0), .val (.ref r1), .val (.int (-1 : Int32)), .val (.ref el_w_elementData_w_loads_r0_3)] [])) _
            refine XS.aconstNull X30.here hx rfl (hb hby d10_45) ?_
            exact k
          obtain ⟨fs, hr, hrun, hended, hW, hsame⟩ := X30.leave (v := some .null) (fun h => by rw [Bd.returns] at h; cases h)
          refine ⟨_, _, pre35 _ ?_, hrun, hended, _, _, rfl, ?_, ⟨_, rfl⟩, hW, hsame.mono (by decide) (by decide)⟩
          · show Steps p.tables e below (T30.setTop (mkF m 46 #[.val (.ref r0), .val (.ref r1), .val (.int (-1 : Int32)), .val (.ref el_w_elementData_w_loads_r0_3)] [.null])) _
            exact areturnOut X30 hx rfl Bd.returns rfl (hb hby d10_46) hr
          · show Q10d Z r0 r1 y1 y4 y14 el_w_elementData_w_loads_r0_0 y2 y3 y19 el_w_elementData_w_loads_r0_1 y6 y8 y29 el_w_elementData_w_loads_r0_2 y10 y11 y40 el_w_elementData_w_loads_r0_3 y21 y25 h0 n0 _ T30.heap _
            rw [e30]
            exact ⟨congrArg some (show (own_r10d r1 y2 y3 y6 y8 y10 y11 y21 y25) = Value.null from ((if_neg hc31_8).trans ((if_neg hc31_16).trans ((if_neg hc31_24).trans (if_neg hc31_32))))).symm, N30, rfl, (by rw [show (own_r10d r1 y2 y3 y6 y8 y10 y11 y21 y25) = Value.null from ((if_neg hc31_8).trans ((if_neg hc31_16).trans ((if_neg hc31_24).trans (if_neg hc31_32))))]; exact rfl)⟩
def own_j0_299_0 (qq : Int32) (s0 : Int32) (v50 : Value) : Value := (if s0 = qq then v50 else Value.null)
def own_j0_317_0 (qq : Int32) (s0 : Int32) (s1 : Int32) (v50 : Value) (v65 : Value) : Value := (if s1 = qq then v65 else (own_j0_299_0 qq s0 v50))
def own_j0_335_0 (qq : Int32) (s0 : Int32) (s1 : Int32) (s2 : Int32) (v50 : Value) (v65 : Value) (v80 : Value) : Value := (if s2 = qq then v80 else (own_j0_317_0 qq s0 s1 v50 v65))
def own_j0_353_0 (qq : Int32) (s0 : Int32) (s1 : Int32) (s2 : Int32) (s3 : Int32) (v50 : Value) (v65 : Value) (v80 : Value) (v95 : Value) : Value := (if s3 = qq then v95 else (own_j0_335_0 qq s0 s1 s2 v50 v65 v80))
theorem own_ob0_n (i1 : Int32) : ((i1 &&& (7 : Int32)) % (5 : Int32)) = (0 : Int32) ∨ ((i1 &&& (7 : Int32)) % (5 : Int32)) = (1 : Int32) ∨ ((i1 &&& (7 : Int32)) % (5 : Int32)) = (2 : Int32) ∨ ((i1 &&& (7 : Int32)) % (5 : Int32)) = (3 : Int32) ∨ ((i1 &&& (7 : Int32)) % (5 : Int32)) = (4 : Int32) := by
  obtain ⟨k, hk, e⟩ := own_modfin7 i1
  rw [e]
  have all : ∀ k, k < 5 → (k.toInt32 = (0 : Int32) ∨ k.toInt32 = (1 : Int32) ∨ k.toInt32 = (2 : Int32) ∨ k.toInt32 = (3 : Int32) ∨ k.toInt32 = (4 : Int32)) := by decide +kernel
  exact all k hk
theorem own_pick_iff {e f : Int32} {a b c d : Addr} (he : e = 0 ∨ e = 1 ∨ e = 2 ∨ e = 3) (hf : f = 0 ∨ f = 1 ∨ f = 2 ∨ f = 3) (h0 : a ≠ b) (h1 : a ≠ c) (h2 : a ≠ d) (h3 : b ≠ c) (h4 : b ≠ d) (h5 : c ≠ d) : own_pick e a b c d = own_pick f a b c d ↔ e = f := by
  have p0 : own_pick 0 a b c d = a := rfl
  have p1 : own_pick 1 a b c d = b := rfl
  have p2 : own_pick 2 a b c d = c := rfl
  have p3 : own_pick 3 a b c d = d := rfl
  rcases he with rfl | rfl | rfl | rfl <;> rcases hf with rfl | rfl | rfl | rfl <;> simp only [p0, p1, p2, p3] <;> first | exact ⟨fun _ => rfl, fun _ => rfl⟩ | exact ⟨fun z => absurd z (by first | assumption | exact Ne.symm (by assumption)), fun z => absurd z (by decide)⟩
theorem own_ob0_r366 (qq : Int32) (s0 : Int32) (b5 : Addr) (b10 : Addr) (b15 : Addr) (b20 : Addr) (v50 : Value) (s1 : Int32) (s2 : Int32) (s3 : Int32) (h0 : qq = 0 ∨ qq = 1 ∨ qq = 2 ∨ qq = 3) (h1 : s0 = 0 ∨ s0 = 1 ∨ s0 = 2 ∨ s0 = 3) (h2 : s1 = 0 ∨ s1 = 1 ∨ s1 = 2 ∨ s1 = 3) (h3 : s2 = 0 ∨ s2 = 1 ∨ s2 = 2 ∨ s2 = 3) (h4 : s3 = 0 ∨ s3 = 1 ∨ s3 = 2 ∨ s3 = 3) (h5 : b5 ≠ b10) (h6 : b5 ≠ b15) (h7 : b5 ≠ b20) (h8 : b10 ≠ b15) (h9 : b10 ≠ b20) (h10 : b15 ≠ b20) : ((own_r10a (own_pick qq b5 b10 b15 b20) (own_pick s0 b5 b10 b15 b20) v50) : Value) = ((own_j0_299_0 qq s0 v50) : Value) := by
  have k0 := own_pick_iff h1 h0 h5 h6 h7 h8 h9 h10
  unfold own_r10a own_j0_299_0
  simp only [k0]
theorem own_ob0_r366x (qq : Int32) (s0 : Int32) (s1 : Int32) (b5 : Addr) (b10 : Addr) (b15 : Addr) (b20 : Addr) (v50 : Value) (v65 : Value) (s2 : Int32) (s3 : Int32) (h0 : qq = 0 ∨ qq = 1 ∨ qq = 2 ∨ qq = 3) (h1 : s0 = 0 ∨ s0 = 1 ∨ s0 = 2 ∨ s0 = 3) (h2 : s1 = 0 ∨ s1 = 1 ∨ s1 = 2 ∨ s1 = 3) (h3 : s2 = 0 ∨ s2 = 1 ∨ s2 = 2 ∨ s2 = 3) (h4 : s3 = 0 ∨ s3 = 1 ∨ s3 = 2 ∨ s3 = 3) (h5 : b5 ≠ b10) (h6 : b5 ≠ b15) (h7 : b5 ≠ b20) (h8 : b10 ≠ b15) (h9 : b10 ≠ b20) (h10 : b15 ≠ b20) : ((own_r10b (own_pick qq b5 b10 b15 b20) (own_pick s1 b5 b10 b15 b20) v65 (own_pick s0 b5 b10 b15 b20) v50) : Value) = ((own_j0_317_0 qq s0 s1 v50 v65) : Value) := by
  have k0 := own_pick_iff h1 h0 h5 h6 h7 h8 h9 h10
  have k1 := own_pick_iff h2 h0 h5 h6 h7 h8 h9 h10
  unfold own_r10b own_j0_317_0 own_j0_299_0
  simp only [k0, k1]
theorem own_ob0_r366xx (qq : Int32) (s0 : Int32) (s1 : Int32) (s2 : Int32) (b5 : Addr) (b10 : Addr) (b15 : Addr) (b20 : Addr) (v50 : Value) (v65 : Value) (v80 : Value) (s3 : Int32) (h0 : qq = 0 ∨ qq = 1 ∨ qq = 2 ∨ qq = 3) (h1 : s0 = 0 ∨ s0 = 1 ∨ s0 = 2 ∨ s0 = 3) (h2 : s1 = 0 ∨ s1 = 1 ∨ s1 = 2 ∨ s1 = 3) (h3 : s2 = 0 ∨ s2 = 1 ∨ s2 = 2 ∨ s2 = 3) (h4 : s3 = 0 ∨ s3 = 1 ∨ s3 = 2 ∨ s3 = 3) (h5 : b5 ≠ b10) (h6 : b5 ≠ b15) (h7 : b5 ≠ b20) (h8 : b10 ≠ b15) (h9 : b10 ≠ b20) (h10 : b15 ≠ b20) : ((own_r10c (own_pick qq b5 b10 b15 b20) (own_pick s2 b5 b10 b15 b20) v80 (own_pick s1 b5 b10 b15 b20) v65 (own_pick s0 b5 b10 b15 b20) v50) : Value) = ((own_j0_335_0 qq s0 s1 s2 v50 v65 v80) : Value) := by
  have k0 := own_pick_iff h1 h0 h5 h6 h7 h8 h9 h10
  have k1 := own_pick_iff h2 h0 h5 h6 h7 h8 h9 h10
  have k2 := own_pick_iff h3 h0 h5 h6 h7 h8 h9 h10
  unfold own_r10c own_j0_335_0 own_j0_317_0 own_j0_299_0
  simp only [k0, k1, k2]
theorem own_ob0_r366xxx (qq : Int32) (s0 : Int32) (s1 : Int32) (s2 : Int32) (s3 : Int32) (b5 : Addr) (b10 : Addr) (b15 : Addr) (b20 : Addr) (v50 : Value) (v65 : Value) (v80 : Value) (v95 : Value) (h0 : qq = 0 ∨ qq = 1 ∨ qq = 2 ∨ qq = 3) (h1 : s0 = 0 ∨ s0 = 1 ∨ s0 = 2 ∨ s0 = 3) (h2 : s1 = 0 ∨ s1 = 1 ∨ s1 = 2 ∨ s1 = 3) (h3 : s2 = 0 ∨ s2 = 1 ∨ s2 = 2 ∨ s2 = 3) (h4 : s3 = 0 ∨ s3 = 1 ∨ s3 = 2 ∨ s3 = 3) (h5 : b5 ≠ b10) (h6 : b5 ≠ b15) (h7 : b5 ≠ b20) (h8 : b10 ≠ b15) (h9 : b10 ≠ b20) (h10 : b15 ≠ b20) : ((own_r10d (own_pick qq b5 b10 b15 b20) (own_pick s3 b5 b10 b15 b20) v95 (own_pick s2 b5 b10 b15 b20) v80 (own_pick s1 b5 b10 b15 b20) v65 (own_pick s0 b5 b10 b15 b20) v50) : Value) = ((own_j0_353_0 qq s0 s1 s2 s3 v50 v65 v80 v95) : Value) := by
  have k0 := own_pick_iff h1 h0 h5 h6 h7 h8 h9 h10
  have k1 := own_pick_iff h2 h0 h5 h6 h7 h8 h9 h10
  have k2 := own_pick_iff h3 h0 h5 h6 h7 h8 h9 h10
  have k3 := own_pick_iff h4 h0 h5 h6 h7 h8 h9 h10
  unfold own_r10d own_j0_353_0 own_j0_335_0 own_j0_317_0 own_j0_299_0
  simp only [k0, k1, k2, k3]
def Q0 (Z : State) (i1 : Int32) (i2 : Int32) (i3 : Int32) (y5 : Addr) (y13 : ClassId) (h0 : Heap) (n0 : Nat) (v : Option Value) (h : Heap) (L : List Loc) : Prop := v = some (.int (1 : Int32)) ∧ Fr n0 L
theorem ef_0 (m : MethodId) (x0 : Int32) (x1 : Int32) (x2 : Int32) : entryFrame m #[(.int x0), (.int x1), (.int x2)] maxLocals = mkF m 0 #[.val (.int x0), .val (.int x1), .val (.int x2), .unset, .unset, .unset, .unset, .unset, .unset, .unset, .unset, .unset, .unset, .unset, .unset] [] := by first | (simp [entryFrame, mkF, argsToLocals, Value.category, maxLocals]; done) | rfl
set_option maxRecDepth 65536 in
set_option maxHeartbeats 40000000 in
theorem rm0 (l : Launch) (Z : State) (a0 : Array Value) (hw : ∀ d ∈ tables_1, d.before a0 Z = true) (ws : List Jvm.Cond) (i1 : Int32) (i2 : Int32) (i3 : Int32) (y5 : Addr) (y13 : ClassId) (h0 : Heap) (n0 : Nat) (Z0 : n0 ≤ h0.size) (y33 : Sta Z Z.heap "java/util/ArrayList" "DEFAULTCAPACITY_EMPTY_ELEMENTDATA" "[Ljava/lang/Object;" (.ref y5)) (O_ : Old Z n0 h0) (y9 : Arv Z h0 y5 y13 (.object "java/lang/Object") (0 : Int32) [] .null) :
    MetFree l x (head1 (Jvm.Cond.code x code maxLocals ret :: ws) room_1) (fun a U => a = #[(.int i1), (.int i2), (.int i3)] ∧ Z.Warmed39 U.vm ∧ U.heap = h0) (fun _ _ _ _ _ => True) (fun _ U o U' => ∃ v L, o = .returned v ∧ Q0 Z i1 i2 i3 y5 y13 h0 n0 v U'.heap L ∧ ReturnedEndW U o U' L room_1.cells room_1.slots) := by
  refine MetFree.of_bodySF (plainFor_of_name pn_10) hisR ?_
  intro p e s m args below meth c s₁ Bd hml0 hP hK
  obtain ⟨rfl, hZ, hh⟩ := hP
  have hx := Bd.exec
  have hby := Bd.bytes
  have hml : c.maxLocals = 15 := hml0
  have hown : s.vm.findClass "com/example/fetchwright/fetchwright/service/LoadsInProgressInnermostPinLaw" = some m.cls := findClass_of_methodNamed Bd.named
  have hnm := (name_of_methodNamed Bd.named Bd.method).1
  have X0 : Stand p l e room_1 s m #[(.int i1), (.int i2), (.int i3)] below meth c s₁ [] 0 0 := Stand.of_body Bd
  have e0 : s₁.heap = h0 := by rw [← hh, Bd.state]; rfl
  have N0 := Fr.nil n0
  have pre0 : ∀ t, Steps p.tables e below (s₁.setTop (mkF m 0 #[.val (.int i1), .val (.int i2), .val (.int i3), .unset, .unset, .unset, .unset, .unset, .unset, .unset, .unset, .unset, .unset, .unset, .unset] [])) t → Steps p.tables e below (s₁.setTop (entryFrame m #[(.int i1), (.int i2), (.int i3)] maxLocals)) t := fun t k => castTop (ef_0 m i1 i2 i3) k
  have pre1 : ∀ t, Steps p.tables e below (s₁.setTop (mkF m 41 #[.val (.int i1), .val (.int i2), .val (.int i3), .val (.int ((i1 &&& (7 : Int32)) % (5 : Int32))), .val (.int (((i1.toUInt32 >>> ((3 : Int32) &&& 31).toUInt32).toInt32) &&& (3 : Int32))), .val (.int (i2 &&& (3 : Int32))), .val (.int (((i2.toUInt32 >>> ((2 : Int32) &&& 31).toUInt32).toInt32) &&& (3 : Int32))), .val (.int (((i2.toUInt32 >>> ((4 : Int32) &&& 31).toUInt32).toInt32) &&& (3 : Int32))), .val (.int (((i2.toUInt32 >>> ((6 : Int32) &&& 31).toUInt32).toInt32) &&& (3 : Int32))), .unset, .unset, .unset, .unset, .unset, .unset] [])) t → Steps p.tables e below (s₁.setTop (entryFrame m #[(.int i1), (.int i2), (.int i3)] maxLocals)) t := by
    intro t k
    refine pre0 _ ?_
    show Steps p.tables e below (s₁.setTop (mkF m 0 #[.val (.int i1), .val (.int i2), .val (.int i3), .unset, .unset, .unset, .unset, .unset, .unset, .unset, .unset, .unset, .unset, .unset, .unset] [])) _
    refine XS.iloadN X0.here hx rfl (hb hby at_0) rfl ?_
    refine XS.bipush X0.here hx rfl (hb hby at_1) ?_
    show Steps p.tables e below (s₁.setTop (mkF m 3 #[.val (.int i1), .val (.int i2), .val (.int i3), .unset, .unset, .unset, .unset, .unset, .unset, .unset, .unset, .unset, .unset, .unset, .unset] [(.int (7 : Int32)), (.int i1)])) _
    refine XS.iand X0.here hx rfl (hb hby at_3) rfl ?_
    refine XS.iconst X0.here hx rfl (hb hby at_4) ?_
    show Steps p.tables e below (s₁.setTop (mkF m 5 #[.val (.int i1), .val (.int i2), .val (.int i3), .unset, .unset, .unset, .unset, .unset, .unset, .unset, .unset, .unset, .unset, .unset, .unset] [(.int (5 : Int32)), (.int (i1 &&& (7 : Int32)))])) _
    refine iremM X0 hx rfl (hb hby at_5) rfl (by decide) ?_
    show Steps p.tables e below (s₁.setTop (mkF m 6 #[.val (.int i1), .val (.int i2), .val (.int i3), .unset, .unset, .unset, .unset, .unset, .unset, .unset, .unset, .unset, .unset, .unset, .unset] [(.int ((i1 &&& (7 : Int32)) % (5 : Int32)))])) _
    refine XS.istoreN X0.here hx rfl (hb hby at_6) rfl (l' := #[.val (.int i1), .val (.int i2), .val (.int i3), .val (.int ((i1 &&& (7 : Int32)) % (5 : Int32))), .unset, .unset, .unset, .unset, .unset, .unset, .unset, .unset, .unset, .unset, .unset]) rfl ?_
    refine XS.iloadN X0.here hx rfl (hb hby at_7) rfl ?_
    show Steps p.tables e below (s₁.setTop (mkF m 8 #[.val (.int i1), .val (.int i2), .val (.int i3), .val (.int ((i1 &&& (7 : Int32)) % (5 : Int32))), .unset, .unset, .unset, .unset, .unset, .unset, .unset, .unset, .unset, .unset, .unset] [(.int i1)])) _
    refine XS.iconst X0.here hx rfl (hb hby at_8) ?_
    refine XS.iushr X0.here hx rfl (hb hby at_9) rfl ?_
    show Steps p.tables e below (s₁.setTop (mkF m 10 #[.val (.int i1), .val (.int i2), .val (.int i3), .val (.int ((i1 &&& (7 : Int32)) % (5 : Int32))), .unset, .unset, .unset, .unset, .unset, .unset, .unset, .unset, .unset, .unset, .unset] [(.int ((i1.toUInt32 >>> ((3 : Int32) &&& 31).toUInt32).toInt32))])) _
    refine XS.iconst X0.here hx rfl (hb hby at_10) ?_
    refine XS.iand X0.here hx rfl (hb hby at_11) rfl ?_
    show Steps p.tables e below (s₁.setTop (mkF m 12 #[.val (.int i1), .val (.int i2), .val (.int i3), .val (.int ((i1 &&& (7 : Int32)) % (5 : Int32))), .unset, .unset, .unset, .unset, .unset, .unset, .unset, .unset, .unset, .unset, .unset] [(.int (((i1.toUInt32 >>> ((3 : Int32) &&& 31).toUInt32).toInt32) &&& (3 : Int32)))])) _
    refine XS.istore X0.here hx rfl (hb hby at_12) rfl (l' := #[.val (.int i1), .val (.int i2), .val (.int i3), .val (.int ((i1 &&& (7 : Int32)) % (5 : Int32))), .val (.int (((i1.toUInt32 >>> ((3 : Int32) &&& 31).toUInt32).toInt32) &&& (3 : Int32))), .unset, .unset, .unset, .unset, .unset, .unset, .unset, .unset, .unset, .unset]) rfl ?_
    refine XS.iloadN X0.here hx rfl (hb hby at_14) rfl ?_
    show Steps p.tables e below (s₁.setTop (mkF m 15 #[.val (.int i1), .val (.int i2), .val (.int i3), .val (.int ((i1 &&& (7 : Int32)) % (5 : Int32))), .val (.int (((i1.toUInt32 >>> ((3 : Int32) &&& 31).toUInt32).toInt32) &&& (3 : Int32))), .unset, .unset, .unset, .unset, .unset, .unset, .unset, .unset, .unset, .unset] [(.int i2)])) _
    refine XS.iconst X0.here hx rfl (hb hby at_15) ?_
    refine XS.iand X0.here hx rfl (hb hby at_16) rfl ?_
    show Steps p.tables e below (s₁.setTop (mkF m 17 #[.val (.int i1), .val (.int i2), .val (.int i3), .val (.int ((i1 &&& (7 : Int32)) % (5 : Int32))), .val (.int (((i1.toUInt32 >>> ((3 : Int32) &&& 31).toUInt32).toInt32) &&& (3 : Int32))), .unset, .unset, .unset, .unset, .unset, .unset, .unset, .unset, .unset, .unset] [(.int (i2 &&& (3 : Int32)))])) _
    refine XS.istore X0.here hx rfl (hb hby at_17) rfl (l' := #[.val (.int i1), .val (.int i2), .val (.int i3), .val (.int ((i1 &&& (7 : Int32)) % (5 : Int32))), .val (.int (((i1.toUInt32 >>> ((3 : Int32) &&& 31).toUInt32).toInt32) &&& (3 : Int32))), .val (.int (i2 &&& (3 : Int32))), .unset, .unset, .unset, .unset, .unset, .unset, .unset, .unset, .unset]) rfl ?_
    refine XS.iloadN X0.here hx rfl (hb hby at_19) rfl ?_
    show Steps p.tables e below (s₁.setTop (mkF m 20 #[.val (.int i1), .val (.int i2), .val (.int i3), .val (.int ((i1 &&& (7 : Int32)) % (5 : Int32))), .val (.int (((i1.toUInt32 >>> ((3 : Int32) &&& 31).toUInt32).toInt32) &&& (3 : Int32))), .val (.int (i2 &&& (3 : Int32))), .unset, .unset, .unset, .unset, .unset, .unset, .unset, .unset, .unset] [(.int i2)])) _
    refine XS.iconst X0.here hx rfl (hb hby at_20) ?_
    refine XS.iushr X0.here hx rfl (hb hby at_21) rfl ?_
    show Steps p.tables e below (s₁.setTop (mkF m 22 #[.val (.int i1), .val (.int i2), .val (.int i3), .val (.int ((i1 &&& (7 : Int32)) % (5 : Int32))), .val (.int (((i1.toUInt32 >>> ((3 : Int32) &&& 31).toUInt32).toInt32) &&& (3 : Int32))), .val (.int (i2 &&& (3 : Int32))), .unset, .unset, .unset, .unset, .unset, .unset, .unset, .unset, .unset] [(.int ((i2.toUInt32 >>> ((2 : Int32) &&& 31).toUInt32).toInt32))])) _
    refine XS.iconst X0.here hx rfl (hb hby at_22) ?_
    refine XS.iand X0.here hx rfl (hb hby at_23) rfl ?_
    show Steps p.tables e below (s₁.setTop (mkF m 24 #[.val (.int i1), .val (.int i2), .val (.int i3), .val (.int ((i1 &&& (7 : Int32)) % (5 : Int32))), .val (.int (((i1.toUInt32 >>> ((3 : Int32) &&& 31).toUInt32).toInt32) &&& (3 : Int32))), .val (.int (i2 &&& (3 : Int32))), .unset, .unset, .unset, .unset, .unset, .unset, .unset, .unset, .unset] [(.int (((i2.toUInt32 >>> ((2 : Int32) &&& 31).toUInt32).toInt32) &&& (3 : Int32)))])) _
    refine XS.istore X0.here hx rfl (hb hby at_24) rfl (l' := #[.val (.int i1), .val (.int i2), .val (.int i3), .val (.int ((i1 &&& (7 : Int32)) % (5 : Int32))), .val (.int (((i1.toUInt32 >>> ((3 : Int32) &&& 31).toUInt32).toInt32) &&& (3 : Int32))), .val (.int (i2 &&& (3 : Int32))), .val (.int (((i2.toUInt32 >>> ((2 : Int32) &&& 31).toUInt32).toInt32) &&& (3 : Int32))), .unset, .unset, .unset, .unset, .unset, .unset, .unset, .unset]) rfl ?_
    refine XS.iloadN X0.here hx rfl (hb hby at_26) rfl ?_
    show Steps p.tables e below (s₁.setTop (mkF m 27 #[.val (.int i1), .val (.int i2), .val (.int i3), .val (.int ((i1 &&& (7 : Int32)) % (5 : Int32))), .val (.int (((i1.toUInt32 >>> ((3 : Int32) &&& 31).toUInt32).toInt32) &&& (3 : Int32))), .val (.int (i2 &&& (3 : Int32))), .val (.int (((i2.toUInt32 >>> ((2 : Int32) &&& 31).toUInt32).toInt32) &&& (3 : Int32))), .unset, .unset, .unset, .unset, .unset, .unset, .unset, .unset] [(.int i2)])) _
    refine XS.iconst X0.here hx rfl (hb hby at_27) ?_
    refine XS.iushr X0.here hx rfl (hb hby at_28) rfl ?_
    show Steps p.tables e below (s₁.setTop (mkF m 29 #[.val (.int i1), .val (.int i2), .val (.int i3), .val (.int ((i1 &&& (7 : Int32)) % (5 : Int32))), .val (.int (((i1.toUInt32 >>> ((3 : Int32) &&& 31).toUInt32).toInt32) &&& (3 : Int32))), .val (.int (i2 &&& (3 : Int32))), .val (.int (((i2.toUInt32 >>> ((2 : Int32) &&& 31).toUInt32).toInt32) &&& (3 : Int32))), .unset, .unset, .unset, .unset, .unset, .unset, .unset, .unset] [(.int ((i2.toUInt32 >>> ((4 : Int32) &&& 31).toUInt32).toInt32))])) _
    refine XS.iconst X0.here hx rfl (hb hby at_29) ?_
    refine XS.iand X0.here hx rfl (hb hby at_30) rfl ?_
    show Steps p.tables e below (s₁.setTop (mkF m 31 #[.val (.int i1), .val (.int i2), .val (.int i3), .val (.int ((i1 &&& (7 : Int32)) % (5 : Int32))), .val (.int (((i1.toUInt32 >>> ((3 : Int32) &&& 31).toUInt32).toInt32) &&& (3 : Int32))), .val (.int (i2 &&& (3 : Int32))), .val (.int (((i2.toUInt32 >>> ((2 : Int32) &&& 31).toUInt32).toInt32) &&& (3 : Int32))), .unset, .unset, .unset, .unset, .unset, .unset, .unset, .unset] [(.int (((i2.toUInt32 >>> ((4 : Int32) &&& 31).toUInt32).toInt32) &&& (3 : Int32)))])) _
    refine XS.istore X0.here hx rfl (hb hby at_31) rfl (l' := #[.val (.int i1), .val (.int i2), .val (.int i3), .val (.int ((i1 &&& (7 : Int32)) % (5 : Int32))), .val (.int (((i1.toUInt32 >>> ((3 : Int32) &&& 31).toUInt32).toInt32) &&& (3 : Int32))), .val (.int (i2 &&& (3 : Int32))), .val (.int (((i2.toUInt32 >>> ((2 : Int32) &&& 31).toUInt32).toInt32) &&& (3 : Int32))), .val (.int (((i2.toUInt32 >>> ((4 : Int32) &&& 31).toUInt32).toInt32) &&& (3 : Int32))), .unset, .unset, .unset, .unset, .unset, .unset, .unset]) rfl ?_
    refine XS.iloadN X0.here hx rfl (hb hby at_33) rfl ?_
    show Steps p.tables e below (s₁.setTop (mkF m 34 #[.val (.int i1), .val (.int i2), .val (.int i3), .val (.int ((i1 &&& (7 : Int32)) % (5 : Int32))), .val (.int (((i1.toUInt32 >>> ((3 : Int32) &&& 31).toUInt32).toInt32) &&& (3 : Int32))), .val (.int (i2 &&& (3 : Int32))), .val (.int (((i2.toUInt32 >>> ((2 : Int32) &&& 31).toUInt32).toInt32) &&& (3 : Int32))), .val (.int (((i2.toUInt32 >>> ((4 : Int32) &&& 31).toUInt32).toInt32) &&& (3 : Int32))), .unset, .unset, .unset, .unset, .unset, .unset, .unset] [(.int i2)])) _
    refine XS.bipush X0.here hx rfl (hb hby at_34) ?_
    refine XS.iushr X0.here hx rfl (hb hby at_36) rfl ?_
    show Steps p.tables e below (s₁.setTop (mkF m 37 #[.val (.int i1), .val (.int i2), .val (.int i3), .val (.int ((i1 &&& (7 : Int32)) % (5 : Int32))), .val (.int (((i1.toUInt32 >>> ((3 : Int32) &&& 31).toUInt32).toInt32) &&& (3 : Int32))), .val (.int (i2 &&& (3 : Int32))), .val (.int (((i2.toUInt32 >>> ((2 : Int32) &&& 31).toUInt32).toInt32) &&& (3 : Int32))), .val (.int (((i2.toUInt32 >>> ((4 : Int32) &&& 31).toUInt32).toInt32) &&& (3 : Int32))), .unset, .unset, .unset, .unset, .unset, .unset, .unset] [(.int ((i2.toUInt32 >>> ((6 : Int32) &&& 31).toUInt32).toInt32))])) _
    refine XS.iconst X0.here hx rfl (hb hby at_37) ?_
    refine XS.iand X0.here hx rfl (hb hby at_38) rfl ?_
    show Steps p.tables e below (s₁.setTop (mkF m 39 #[.val (.int i1), .val (.int i2), .val (.int i3), .val (.int ((i1 &&& (7 : Int32)) % (5 : Int32))), .val (.int (((i1.toUInt32 >>> ((3 : Int32) &&& 31).toUInt32).toInt32) &&& (3 : Int32))), .val (.int (i2 &&& (3 : Int32))), .val (.int (((i2.toUInt32 >>> ((2 : Int32) &&& 31).toUInt32).toInt32) &&& (3 : Int32))), .val (.int (((i2.toUInt32 >>> ((4 : Int32) &&& 31).toUInt32).toInt32) &&& (3 : Int32))), .unset, .unset, .unset, .unset, .unset, .unset, .unset] [(.int (((i2.toUInt32 >>> ((6 : Int32) &&& 31).toUInt32).toInt32) &&& (3 : Int32)))])) _
    refine XS.istore X0.here hx rfl (hb hby at_39) rfl (l' := #[.val (.int i1), .val (.int i2), .val (.int i3), .val (.int ((i1 &&& (7 : Int32)) % (5 : Int32))), .val (.int (((i1.toUInt32 >>> ((3 : Int32) &&& 31).toUInt32).toInt32) &&& (3 : Int32))), .val (.int (i2 &&& (3 : Int32))), .val (.int (((i2.toUInt32 >>> ((2 : Int32) &&& 31).toUInt32).toInt32) &&& (3 : Int32))), .val (.int (((i2.toUInt32 >>> ((4 : Int32) &&& 31).toUInt32).toInt32) &&& (3 : Int32))), .val (.int (((i2.toUInt32 >>> ((6 : Int32) &&& 31).toUInt32).toInt32) &&& (3 : Int32))), .unset, .unset, .unset, .unset, .unset, .unset]) rfl ?_
    exact k
  obtain ⟨nn, hnn⟩ : ∃ z : Int32, z = ((i1 &&& (7 : Int32)) % (5 : Int32)) := ⟨_, rfl⟩
  obtain ⟨qq, hqq⟩ : ∃ z : Int32, z = (((i1.toUInt32 >>> ((3 : Int32) &&& 31).toUInt32).toInt32) &&& (3 : Int32)) := ⟨_, rfl⟩
  obtain ⟨s0, hs0⟩ : ∃ z : Int32, z = (i2 &&& (3 : Int32)) := ⟨_, rfl⟩
  obtain ⟨s1, hs1⟩ : ∃ z : Int32, z = (((i2.toUInt32 >>> ((2 : Int32) &&& 31).toUInt32).toInt32) &&& (3 : Int32)) := ⟨_, rfl⟩
  obtain ⟨s2, hs2⟩ : ∃ z : Int32, z = (((i2.toUInt32 >>> ((4 : Int32) &&& 31).toUInt32).toInt32) &&& (3 : Int32)) := ⟨_, rfl⟩
  obtain ⟨s3, hs3⟩ : ∃ z : Int32, z = (((i2.toUInt32 >>> ((6 : Int32) &&& 31).toUInt32).toInt32) &&& (3 : Int32)) := ⟨_, rfl⟩
  have pre2 : ∀ t, Steps p.tables e below (s₁.setTop (mkF m 41 #[.val (.int i1), .val (.int i2), .val (.int i3), .val (.int nn), .val (.int qq), .val (.int s0), .val (.int s1), .val (.int s2), .val (.int s3), .unset, .unset, .unset, .unset, .unset, .unset] [])) t → Steps p.tables e below (s₁.setTop (entryFrame m #[(.int i1), (.int i2), (.int i3)] maxLocals)) t := fun t k => pre1 t (by rw [← hnn, ← hqq, ← hs0, ← hs1, ← hs2, ← hs3]; exact k)
  have dn : nn = (0 : Int32) ∨ nn = (1 : Int32) ∨ nn = (2 : Int32) ∨ nn = (3 : Int32) ∨ nn = (4 : Int32) := hnn ▸ (own_ob0_n i1)
  have d_qq : qq = 0 ∨ qq = 1 ∨ qq = 2 ∨ qq = 3 := hqq ▸ own_and3 ((i1.toUInt32 >>> ((3 : Int32) &&& 31).toUInt32).toInt32)
  have d_s0 : s0 = 0 ∨ s0 = 1 ∨ s0 = 2 ∨ s0 = 3 := hs0 ▸ own_and3 (i2)
  have d_s1 : s1 = 0 ∨ s1 = 1 ∨ s1 = 2 ∨ s1 = 3 := hs1 ▸ own_and3 ((i2.toUInt32 >>> ((2 : Int32) &&& 31).toUInt32).toInt32)
  have d_s2 : s2 = 0 ∨ s2 = 1 ∨ s2 = 2 ∨ s2 = 3 := hs2 ▸ own_and3 ((i2.toUInt32 >>> ((4 : Int32) &&& 31).toUInt32).toInt32)
  have d_s3 : s3 = 0 ∨ s3 = 1 ∨ s3 = 2 ∨ s3 = 3 := hs3 ▸ own_and3 ((i2.toUInt32 >>> ((6 : Int32) &&& 31).toUInt32).toInt32)
  obtain ⟨T3, h3, k3, X3, e3, E3, A3, O3, st3⟩ := newR X0 hx hZ hown (hw _ (List.mem_of_getElem? (i := 0) rfl)) (hw _ (List.mem_of_getElem? (i := 1) rfl)) e0 (g := (mkF m 42 #[.val (.int i1), .val (.int i2), .val (.int i3), .val (.int nn), .val (.int qq), .val (.int s0), .val (.int s1), .val (.int s2), .val (.int s3), .unset, .unset, .unset, .unset, .unset, .unset] [(.int (4 : Int32))])) rfl (hb hby at_42) rfl (by decide) (cap := 4) (by decide) (by decide) (by decide) (by decide)
  obtain ⟨b3, g3⟩ : ∃ z, z = h0.size := ⟨_, rfl⟩
  rw [← g3] at A3 st3
  have sz_b3 : h0.size ≤ b3 := Nat.le_trans (Keep.refl h0 []).1 (Nat.le_of_eq g3.symm)
  have K4 : Keep h0 h3 [] := (Keep.refl h0 []).ext E3
  have V3 : Arv Z h3 b3 k3 (.object "java/lang/Object") (4 : Int32) [.null, .null, .null, .null] .null := (Arv.new A3 (by decide)).pad (pad_rep [] .null 4)
  obtain ⟨T5, h5, k5, X5, e5, E5, A5, Q5, st5⟩ := newPE X3 hx hZ (hw _ (List.mem_of_getElem? (i := 2) rfl)) e3 (g := (mkF m 48 #[.val (.int i1), .val (.int i2), .val (.int i3), .val (.int nn), .val (.int qq), .val (.int s0), .val (.int s1), .val (.int s2), .val (.int s3), .unset, .unset, .unset, .unset, .unset, .unset] [(.int (1 : Int32)), (.int (0 : Int32)), (.ref b3), (.ref b3)])) rfl (hb hby at_48) rfl (by decide) (cap := 1) (by decide) (by decide) (by decide) (by decide) (ad := "[I") (by decide)
  obtain ⟨b5, g5⟩ : ∃ z, z = h3.size := ⟨_, rfl⟩
  rw [← g5] at A5 Q5 st5
  have sz_b5 : h0.size ≤ b5 := Nat.le_trans K4.1 (Nat.le_of_eq g5.symm)
  have K6 : Keep h0 h5 [] := K4.ext E5
  have V5 : Arv Z h5 b5 k5 .int (1 : Int32) [(.int (0 : Int32))] (.int (0 : Int32)) := (Arv.new A5 (by decide)).pad (pad_rep [] (.int (0 : Int32)) 1)
  have f7 := (V3.ext E5)
  obtain ⟨cl8, Ar8, Cq8, Sz8, Nn8, Hh8, Gg8⟩ := id f7
  have hin8 : ¬ ((0 : Int32) < 0 ∨ cl8.slots.size ≤ ((0 : Int32)).toNatClampNeg) := inb_of Sz8 ⟨by decide, by decide⟩
  obtain ⟨T8, h8, X8, e8, W8, st8⟩ := stR X5 hx hZ e5 Ar8 (j := (0 : Int32)) hin8 rfl (Sto.ofV Ar8 Cq8 O3 (Ins.of_exa Q5 (hw _ (List.mem_of_getElem? (i := 3) rfl)))) (g := (mkF m 50 #[.val (.int i1), .val (.int i2), .val (.int i3), .val (.int nn), .val (.int qq), .val (.int s0), .val (.int s1), .val (.int s2), .val (.int s3), .unset, .unset, .unset, .unset, .unset, .unset] [(.ref b5), (.int (0 : Int32)), (.ref b3), (.ref b3)])) rfl rfl (hb hby at_50)
  have V8 : Arv Z h8 b3 k3 (.object "java/lang/Object") (4 : Int32) [(.ref b5), .null, .null, .null] .null := Arv.set Ar8 Cq8 Sz8 Nn8 Hh8 Gg8 rfl W8 0 rfl (Nat.le_of_ble_eq_true rfl)
  have N8 := Fr.snoc X8 N0 (Nat.le_trans Z0 sz_b3)
  have K9 : Keep h0 h8 [] := K6.wr W8 (Or.inr sz_b3)
  obtain ⟨T10, h10, k10, X10, e10, E10, A10, Q10, st10⟩ := newPE X8 hx hZ (hw _ (List.mem_of_getElem? (i := 2) rfl)) e8 (g := (mkF m 54 #[.val (.int i1), .val (.int i2), .val (.int i3), .val (.int nn), .val (.int qq), .val (.int s0), .val (.int s1), .val (.int s2), .val (.int s3), .unset, .unset, .unset, .unset, .unset, .unset] [(.int (1 : Int32)), (.int (1 : Int32)), (.ref b3), (.ref b3)])) rfl (hb hby at_54) rfl (by decide) (cap := 1) (by decide) (by decide) (by decide) (by decide) (ad := "[I") (by decide)
  obtain ⟨b10, g10⟩ : ∃ z, z = h8.size := ⟨_, rfl⟩
  rw [← g10] at A10 Q10 st10
  have sz_b10 : h0.size ≤ b10 := Nat.le_trans K9.1 (Nat.le_of_eq g10.symm)
  have K11 : Keep h0 h10 [] := K9.ext E10
  have V10 : Arv Z h10 b10 k10 .int (1 : Int32) [(.int (0 : Int32))] (.int (0 : Int32)) := (Arv.new A10 (by decide)).pad (pad_rep [] (.int (0 : Int32)) 1)
  have f12 := (V8.ext E10)
  obtain ⟨cl13, Ar13, Cq13, Sz13, Nn13, Hh13, Gg13⟩ := id f12
  have hin13 : ¬ ((1 : Int32) < 0 ∨ cl13.slots.size ≤ ((1 : Int32)).toNatClampNeg) := inb_of Sz13 ⟨by decide, by decide⟩
  obtain ⟨T13, h13, X13, e13, W13, st13⟩ := stR X10 hx hZ e10 Ar13 (j := (1 : Int32)) hin13 rfl (Sto.ofV Ar13 Cq13 O3 (Ins.of_exa Q10 (hw _ (List.mem_of_getElem? (i := 3) rfl)))) (g := (mkF m 56 #[.val (.int i1), .val (.int i2), .val (.int i3), .val (.int nn), .val (.int qq), .val (.int s0), .val (.int s1), .val (.int s2), .val (.int s3), .unset, .unset, .unset, .unset, .unset, .unset] [(.ref b10), (.int (1 : Int32)), (.ref b3), (.ref b3)])) rfl rfl (hb hby at_56)
  have V13 : Arv Z h13 b3 k3 (.object "java/lang/Object") (4 : Int32) [(.ref b5), (.ref b10), .null, .null] .null := Arv.set Ar13 Cq13 Sz13 Nn13 Hh13 Gg13 rfl W13 1 rfl (Nat.le_of_ble_eq_true rfl)
  have N13 := Fr.snoc X13 N8 (Nat.le_trans Z0 sz_b3)
  have K14 : Keep h0 h13 [] := K11.wr W13 (Or.inr sz_b3)
  obtain ⟨T15, h15, k15, X15, e15, E15, A15, Q15, st15⟩ := newPE X13 hx hZ (hw _ (List.mem_of_getElem? (i := 2) rfl)) e13 (g := (mkF m 60 #[.val (.int i1), .val (.int i2), .val (.int i3), .val (.int nn), .val (.int qq), .val (.int s0), .val (.int s1), .val (.int s2), .val (.int s3), .unset, .unset, .unset, .unset, .unset, .unset] [(.int (1 : Int32)), (.int (2 : Int32)), (.ref b3), (.ref b3)])) rfl (hb hby at_60) rfl (by decide) (cap := 1) (by decide) (by decide) (by decide) (by decide) (ad := "[I") (by decide)
  obtain ⟨b15, g15⟩ : ∃ z, z = h13.size := ⟨_, rfl⟩
  rw [← g15] at A15 Q15 st15
  have sz_b15 : h0.size ≤ b15 := Nat.le_trans K14.1 (Nat.le_of_eq g15.symm)
  have K16 : Keep h0 h15 [] := K14.ext E15
  have V15 : Arv Z h15 b15 k15 .int (1 : Int32) [(.int (0 : Int32))] (.int (0 : Int32)) := (Arv.new A15 (by decide)).pad (pad_rep [] (.int (0 : Int32)) 1)
  have f17 := (V13.ext E15)
  obtain ⟨cl18, Ar18, Cq18, Sz18, Nn18, Hh18, Gg18⟩ := id f17
  have hin18 : ¬ ((2 : Int32) < 0 ∨ cl18.slots.size ≤ ((2 : Int32)).toNatClampNeg) := inb_of Sz18 ⟨by decide, by decide⟩
  obtain ⟨T18, h18, X18, e18, W18, st18⟩ := stR X15 hx hZ e15 Ar18 (j := (2 : Int32)) hin18 rfl (Sto.ofV Ar18 Cq18 O3 (Ins.of_exa Q15 (hw _ (List.mem_of_getElem? (i := 3) rfl)))) (g := (mkF m 62 #[.val (.int i1), .val (.int i2), .val (.int i3), .val (.int nn), .val (.int qq), .val (.int s0), .val (.int s1), .val (.int s2), .val (.int s3), .unset, .unset, .unset, .unset, .unset, .unset] [(.ref b15), (.int (2 : Int32)), (.ref b3), (.ref b3)])) rfl rfl (hb hby at_62)
  have V18 : Arv Z h18 b3 k3 (.object "java/lang/Object") (4 : Int32) [(.ref b5), (.ref b10), (.ref b15), .null] .null := Arv.set Ar18 Cq18 Sz18 Nn18 Hh18 Gg18 rfl W18 2 rfl (Nat.le_of_ble_eq_true rfl)
  have N18 := Fr.snoc X18 N13 (Nat.le_trans Z0 sz_b3)
  have K19 : Keep h0 h18 [] := K16.wr W18 (Or.inr sz_b3)
  obtain ⟨T20, h20, k20, X20, e20, E20, A20, Q20, st20⟩ := newPE X18 hx hZ (hw _ (List.mem_of_getElem? (i := 2) rfl)) e18 (g := (mkF m 66 #[.val (.int i1), .val (.int i2), .val (.int i3), .val (.int nn), .val (.int qq), .val (.int s0), .val (.int s1), .val (.int s2), .val (.int s3), .unset, .unset, .unset, .unset, .unset, .unset] [(.int (1 : Int32)), (.int (3 : Int32)), (.ref b3), (.ref b3)])) rfl (hb hby at_66) rfl (by decide) (cap := 1) (by decide) (by decide) (by decide) (by decide) (ad := "[I") (by decide)
  obtain ⟨b20, g20⟩ : ∃ z, z = h18.size := ⟨_, rfl⟩
  rw [← g20] at A20 Q20 st20
  have sz_b20 : h0.size ≤ b20 := Nat.le_trans K19.1 (Nat.le_of_eq g20.symm)
  have K21 : Keep h0 h20 [] := K19.ext E20
  have V20 : Arv Z h20 b20 k20 .int (1 : Int32) [(.int (0 : Int32))] (.int (0 : Int32)) := (Arv.new A20 (by decide)).pad (pad_rep [] (.int (0 : Int32)) 1)
  have f22 := (V18.ext E20)
  obtain ⟨cl23, Ar23, Cq23, Sz23, Nn23, Hh23, Gg23⟩ := id f22
  have hin23 : ¬ ((3 : Int32) < 0 ∨ cl23.slots.size ≤ ((3 : Int32)).toNatClampNeg) := inb_of Sz23 ⟨by decide, by decide⟩
  obtain ⟨T23, h23, X23, e23, W23, st23⟩ := stR X20 hx hZ e20 Ar23 (j := (3 : Int32)) hin23 rfl (Sto.ofV Ar23 Cq23 O3 (Ins.of_exa Q20 (hw _ (List.mem_of_getElem? (i := 3) rfl)))) (g := (mkF m 68 #[.val (.int i1), .val (.int i2), .val (.int i3), .val (.int nn), .val (.int qq), .val (.int s0), .val (.int s1), .val (.int s2), .val (.int s3), .unset, .unset, .unset, .unset, .unset, .unset] [(.ref b20), (.int (3 : Int32)), (.ref b3), (.ref b3)])) rfl rfl (hb hby at_68)
  have V23 : Arv Z h23 b3 k3 (.object "java/lang/Object") (4 : Int32) [(.ref b5), (.ref b10), (.ref b15), (.ref b20)] .null := Arv.set Ar23 Cq23 Sz23 Nn23 Hh23 Gg23 rfl W23 3 rfl (Nat.le_of_ble_eq_true rfl)
  have N23 := Fr.snoc X23 N18 (Nat.le_trans Z0 sz_b3)
  have K24 : Keep h0 h23 [] := K21.wr W23 (Or.inr sz_b3)
  obtain ⟨T25, h25, k25, X25, e25, E25, A25, O25, st25⟩ := newR X23 hx hZ hown (hw _ (List.mem_of_getElem? (i := 0) rfl)) (hw _ (List.mem_of_getElem? (i := 1) rfl)) e23 (g := (mkF m 72 #[.val (.int i1), .val (.int i2), .val (.int i3), .val (.int nn), .val (.int qq), .val (.int s0), .val (.int s1), .val (.int s2), .val (.int s3), .val (.ref b3), .unset, .unset, .unset, .unset, .unset] [(.int (4 : Int32))])) rfl (hb hby at_72) rfl (by decide) (cap := 4) (by decide) (by decide) (by decide) (by decide)
  obtain ⟨b25, g25⟩ : ∃ z, z = h23.size := ⟨_, rfl⟩
  rw [← g25] at A25 st25
  have sz_b25 : h0.size ≤ b25 := Nat.le_trans K24.1 (Nat.le_of_eq g25.symm)
  have K26 : Keep h0 h25 [] := K24.ext E25
  have V25 : Arv Z h25 b25 k25 (.object "java/lang/Object") (4 : Int32) [.null, .null, .null, .null] .null := (Arv.new A25 (by decide)).pad (pad_rep [] .null 4)
  obtain ⟨T27, h27, k27, X27, e27, E27, A27, Q27, st27⟩ := newPE X25 hx hZ (hw _ (List.mem_of_getElem? (i := 2) rfl)) e25 (g := (mkF m 78 #[.val (.int i1), .val (.int i2), .val (.int i3), .val (.int nn), .val (.int qq), .val (.int s0), .val (.int s1), .val (.int s2), .val (.int s3), .val (.ref b3), .unset, .unset, .unset, .unset, .unset] [(.int (1 : Int32)), (.int (0 : Int32)), (.ref b25), (.ref b25)])) rfl (hb hby at_78) rfl (by decide) (cap := 1) (by decide) (by decide) (by decide) (by decide) (ad := "[I") (by decide)
  obtain ⟨b27, g27⟩ : ∃ z, z = h25.size := ⟨_, rfl⟩
  rw [← g27] at A27 Q27 st27
  have sz_b27 : h0.size ≤ b27 := Nat.le_trans K26.1 (Nat.le_of_eq g27.symm)
  have K28 : Keep h0 h27 [] := K26.ext E27
  have V27 : Arv Z h27 b27 k27 .int (1 : Int32) [(.int (0 : Int32))] (.int (0 : Int32)) := (Arv.new A27 (by decide)).pad (pad_rep [] (.int (0 : Int32)) 1)
  have f29 := (V25.ext E27)
  obtain ⟨cl30, Ar30, Cq30, Sz30, Nn30, Hh30, Gg30⟩ := id f29
  have hin30 : ¬ ((0 : Int32) < 0 ∨ cl30.slots.size ≤ ((0 : Int32)).toNatClampNeg) := inb_of Sz30 ⟨by decide, by decide⟩
  obtain ⟨T30, h30, X30, e30, W30, st30⟩ := stR X27 hx hZ e27 Ar30 (j := (0 : Int32)) hin30 rfl (Sto.ofV Ar30 Cq30 O25 (Ins.of_exa Q27 (hw _ (List.mem_of_getElem? (i := 3) rfl)))) (g := (mkF m 80 #[.val (.int i1), .val (.int i2), .val (.int i3), .val (.int nn), .val (.int qq), .val (.int s0), .val (.int s1), .val (.int s2), .val (.int s3), .val (.ref b3), .unset, .unset, .unset, .unset, .unset] [(.ref b27), (.int (0 : Int32)), (.ref b25), (.ref b25)])) rfl rfl (hb hby at_80)
  have V30 : Arv Z h30 b25 k25 (.object "java/lang/Object") (4 : Int32) [(.ref b27), .null, .null, .null] .null := Arv.set Ar30 Cq30 Sz30 Nn30 Hh30 Gg30 rfl W30 0 rfl (Nat.le_of_ble_eq_true rfl)
  have N30 := Fr.snoc X30 N23 (Nat.le_trans Z0 sz_b25)
  have K31 : Keep h0 h30 [] := K28.wr W30 (Or.inr sz_b25)
  obtain ⟨T32, h32, k32, X32, e32, E32, A32, Q32, st32⟩ := newPE X30 hx hZ (hw _ (List.mem_of_getElem? (i := 2) rfl)) e30 (g := (mkF m 84 #[.val (.int i1), .val (.int i2), .val (.int i3), .val (.int nn), .val (.int qq), .val (.int s0), .val (.int s1), .val (.int s2), .val (.int s3), .val (.ref b3), .unset, .unset, .unset, .unset, .unset] [(.int (1 : Int32)), (.int (1 : Int32)), (.ref b25), (.ref b25)])) rfl (hb hby at_84) rfl (by decide) (cap := 1) (by decide) (by decide) (by decide) (by decide) (ad := "[I") (by decide)
  obtain ⟨b32, g32⟩ : ∃ z, z = h30.size := ⟨_, rfl⟩
  rw [← g32] at A32 Q32 st32
  have sz_b32 : h0.size ≤ b32 := Nat.le_trans K31.1 (Nat.le_of_eq g32.symm)
  have K33 : Keep h0 h32 [] := K31.ext E32
  have V32 : Arv Z h32 b32 k32 .int (1 : Int32) [(.int (0 : Int32))] (.int (0 : Int32)) := (Arv.new A32 (by decide)).pad (pad_rep [] (.int (0 : Int32)) 1)
  have f34 := (V30.ext E32)
  obtain ⟨cl35, Ar35, Cq35, Sz35, Nn35, Hh35, Gg35⟩ := id f34
  have hin35 : ¬ ((1 : Int32) < 0 ∨ cl35.slots.size ≤ ((1 : Int32)).toNatClampNeg) := inb_of Sz35 ⟨by decide, by decide⟩
  obtain ⟨T35, h35, X35, e35, W35, st35⟩ := stR X32 hx hZ e32 Ar35 (j := (1 : Int32)) hin35 rfl (Sto.ofV Ar35 Cq35 O25 (Ins.of_exa Q32 (hw _ (List.mem_of_getElem? (i := 3) rfl)))) (g := (mkF m 86 #[.val (.int i1), .val (.int i2), .val (.int i3), .val (.int nn), .val (.int qq), .val (.int s0), .val (.int s1), .val (.int s2), .val (.int s3), .val (.ref b3), .unset, .unset, .unset, .unset, .unset] [(.ref b32), (.int (1 : Int32)), (.ref b25), (.ref b25)])) rfl rfl (hb hby at_86)
  have V35 : Arv Z h35 b25 k25 (.object "java/lang/Object") (4 : Int32) [(.ref b27), (.ref b32), .null, .null] .null := Arv.set Ar35 Cq35 Sz35 Nn35 Hh35 Gg35 rfl W35 1 rfl (Nat.le_of_ble_eq_true rfl)
  have N35 := Fr.snoc X35 N30 (Nat.le_trans Z0 sz_b25)
  have K36 : Keep h0 h35 [] := K33.wr W35 (Or.inr sz_b25)
  obtain ⟨T37, h37, k37, X37, e37, E37, A37, Q37, st37⟩ := newPE X35 hx hZ (hw _ (List.mem_of_getElem? (i := 2) rfl)) e35 (g := (mkF m 90 #[.val (.int i1), .val (.int i2), .val (.int i3), .val (.int nn), .val (.int qq), .val (.int s0), .val (.int s1), .val (.int s2), .val (.int s3), .val (.ref b3), .unset, .unset, .unset, .unset, .unset] [(.int (1 : Int32)), (.int (2 : Int32)), (.ref b25), (.ref b25)])) rfl (hb hby at_90) rfl (by decide) (cap := 1) (by decide) (by decide) (by decide) (by decide) (ad := "[I") (by decide)
  obtain ⟨b37, g37⟩ : ∃ z, z = h35.size := ⟨_, rfl⟩
  rw [← g37] at A37 Q37 st37
  have sz_b37 : h0.size ≤ b37 := Nat.le_trans K36.1 (Nat.le_of_eq g37.symm)
  have K38 : Keep h0 h37 [] := K36.ext E37
  have V37 : Arv Z h37 b37 k37 .int (1 : Int32) [(.int (0 : Int32))] (.int (0 : Int32)) := (Arv.new A37 (by decide)).pad (pad_rep [] (.int (0 : Int32)) 1)
  have f39 := (V35.ext E37)
  obtain ⟨cl40, Ar40, Cq40, Sz40, Nn40, Hh40, Gg40⟩ := id f39
  have hin40 : ¬ ((2 : Int32) < 0 ∨ cl40.slots.size ≤ ((2 : Int32)).toNatClampNeg) := inb_of Sz40 ⟨by decide, by decide⟩
  obtain ⟨T40, h40, X40, e40, W40, st40⟩ := stR X37 hx hZ e37 Ar40 (j := (2 : Int32)) hin40 rfl (Sto.ofV Ar40 Cq40 O25 (Ins.of_exa Q37 (hw _ (List.mem_of_getElem? (i := 3) rfl)))) (g := (mkF m 92 #[.val (.int i1), .val (.int i2), .val (.int i3), .val (.int nn), .val (.int qq), .val (.int s0), .val (.int s1), .val (.int s2), .val (.int s3), .val (.ref b3), .unset, .unset, .unset, .unset, .unset] [(.ref b37), (.int (2 : Int32)), (.ref b25), (.ref b25)])) rfl rfl (hb hby at_92)
  have V40 : Arv Z h40 b25 k25 (.object "java/lang/Object") (4 : Int32) [(.ref b27), (.ref b32), (.ref b37), .null] .null := Arv.set Ar40 Cq40 Sz40 Nn40 Hh40 Gg40 rfl W40 2 rfl (Nat.le_of_ble_eq_true rfl)
  have N40 := Fr.snoc X40 N35 (Nat.le_trans Z0 sz_b25)
  have K41 : Keep h0 h40 [] := K38.wr W40 (Or.inr sz_b25)
  obtain ⟨T42, h42, k42, X42, e42, E42, A42, Q42, st42⟩ := newPE X40 hx hZ (hw _ (List.mem_of_getElem? (i := 2) rfl)) e40 (g := (mkF m 96 #[.val (.int i1), .val (.int i2), .val (.int i3), .val (.int nn), .val (.int qq), .val (.int s0), .val (.int s1), .val (.int s2), .val (.int s3), .val (.ref b3), .unset, .unset, .unset, .unset, .unset] [(.int (1 : Int32)), (.int (3 : Int32)), (.ref b25), (.ref b25)])) rfl (hb hby at_96) rfl (by decide) (cap := 1) (by decide) (by decide) (by decide) (by decide) (ad := "[I") (by decide)
  obtain ⟨b42, g42⟩ : ∃ z, z = h40.size := ⟨_, rfl⟩
  rw [← g42] at A42 Q42 st42
  have sz_b42 : h0.size ≤ b42 := Nat.le_trans K41.1 (Nat.le_of_eq g42.symm)
  have K43 : Keep h0 h42 [] := K41.ext E42
  have V42 : Arv Z h42 b42 k42 .int (1 : Int32) [(.int (0 : Int32))] (.int (0 : Int32)) := (Arv.new A42 (by decide)).pad (pad_rep [] (.int (0 : Int32)) 1)
  have f44 := (V40.ext E42)
  obtain ⟨cl45, Ar45, Cq45, Sz45, Nn45, Hh45, Gg45⟩ := id f44
  have hin45 : ¬ ((3 : Int32) < 0 ∨ cl45.slots.size ≤ ((3 : Int32)).toNatClampNeg) := inb_of Sz45 ⟨by decide, by decide⟩
  obtain ⟨T45, h45, X45, e45, W45, st45⟩ := stR X42 hx hZ e42 Ar45 (j := (3 : Int32)) hin45 rfl (Sto.ofV Ar45 Cq45 O25 (Ins.of_exa Q42 (hw _ (List.mem_of_getElem? (i := 3) rfl)))) (g := (mkF m 98 #[.val (.int i1), .val (.int i2), .val (.int i3), .val (.int nn), .val (.int qq), .val (.int s0), .val (.int s1), .val (.int s2), .val (.int s3), .val (.ref b3), .unset, .unset, .unset, .unset, .unset] [(.ref b42), (.int (3 : Int32)), (.ref b25), (.ref b25)])) rfl rfl (hb hby at_98)
  have V45 : Arv Z h45 b25 k25 (.object "java/lang/Object") (4 : Int32) [(.ref b27), (.ref b32), (.ref b37), (.ref b42)] .null := Arv.set Ar45 Cq45 Sz45 Nn45 Hh45 Gg45 rfl W45 3 rfl (Nat.le_of_ble_eq_true rfl)
  have N45 := Fr.snoc X45 N40 (Nat.le_trans Z0 sz_b25)
  have K46 : Keep h0 h45 [] := K43.wr W45 (Or.inr sz_b25)
  obtain ⟨T47, h47, k47, X47, e47, E47, A47, O47, st47⟩ := newR X45 hx hZ hown (hw _ (List.mem_of_getElem? (i := 4) rfl)) (hw _ (List.mem_of_getElem? (i := 5) rfl)) e45 (g := (mkF m 102 #[.val (.int i1), .val (.int i2), .val (.int i3), .val (.int nn), .val (.int qq), .val (.int s0), .val (.int s1), .val (.int s2), .val (.int s3), .val (.ref b3), .val (.ref b25), .unset, .unset, .unset, .unset] [(.int (4 : Int32))])) rfl (hb hby at_102) rfl (by decide) (cap := 4) (by decide) (by decide) (by decide) (by decide)
  obtain ⟨b47, g47⟩ : ∃ z, z = h45.size := ⟨_, rfl⟩
  rw [← g47] at A47 st47
  have sz_b47 : h0.size ≤ b47 := Nat.le_trans K46.1 (Nat.le_of_eq g47.symm)
  have K48 : Keep h0 h47 [] := K46.ext E47
  have V47 : Arv Z h47 b47 k47 (.object "com/example/fetchwright/fetchwright/service/SecondaryLoad") (4 : Int32) [.null, .null, .null, .null] .null := (Arv.new A47 (by decide)).pad (pad_rep [] .null 4)
  have pre49 : ∀ t, Steps p.tables e below (T47.setTop (mkF m 113 #[.val (.int i1), .val (.int i2), .val (.int i3), .val (.int nn), .val (.int qq), .val (.int s0), .val (.int s1), .val (.int s2), .val (.int s3), .val (.ref b3), .val (.ref b25), .val (.ref b47), .unset, .unset, .unset] [(.int (i3 &&& (1 : Int32))), (.int (0 : Int32)), (.ref b47)])) t → Steps p.tables e below (s₁.setTop (entryFrame m #[(.int i1), (.int i2), (.int i3)] maxLocals)) t := by
    intro t k
    refine pre2 _ ?_
    show Steps p.tables e below (s₁.setTop (mkF m 41 #[.val (.int i1), .val (.int i2), .val (.int i3), .val (.int nn), .val (.int qq), .val (.int s0), .val (.int s1), .val (.int s2), .val (.int s3), .unset, .unset, .unset, .unset, .unset, .unset] [])) _
    refine XS.iconst X0.here hx rfl (hb hby at_41) ?_
    show Steps p.tables e below (s₁.setTop (mkF m 42 #[.val (.int i1), .val (.int i2), .val (.int i3), .val (.int nn), .val (.int qq), .val (.int s0), .val (.int s1), .val (.int s2), .val (.int s3), .unset, .unset, .unset, .unset, .unset, .unset] [(.int (4 : Int32))])) _
    refine st3 _ ?_
    show Steps p.tables e below (T3.setTop (mkF m 45 #[.val (.int i1), .val (.int i2), .val (.int i3), .val (.int nn), .val (.int qq), .val (.int s0), .val (.int s1), .val (.int s2), .val (.int s3), .unset, .unset, .unset, .unset, .unset, .unset] [(.ref b3)])) _
    refine XS.dup X3.here hx rfl (hb hby at_45) rfl rfl ?_
    refine XS.iconst X3.here hx rfl (hb hby at_46) ?_
    show Steps p.tables e below (T3.setTop (mkF m 47 #[.val (.int i1), .val (.int i2), .val (.int i3), .val (.int nn), .val (.int qq), .val (.int s0), .val (.int s1), .val (.int s2), .val (.int s3), .unset, .unset, .unset, .unset, .unset, .unset] [(.int (0 : Int32)), (.ref b3), (.ref b3)])) _
    refine XS.iconst X3.here hx rfl (hb hby at_47) ?_
    show Steps p.tables e below (T3.setTop (mkF m 48 #[.val (.int i1), .val (.int i2), .val (.int i3), .val (.int nn), .val (.int qq), .val (.int s0), .val (.int s1), .val (.int s2), .val (.int s3), .unset, .unset, .unset, .unset, .unset, .unset] [(.int (1 : Int32)), (.int (0 : Int32)), (.ref b3), (.ref b3)])) _
    refine st5 _ ?_
    show Steps p.tables e below (T5.setTop (mkF m 50 #[.val (.int i1), .val (.int i2), .val (.int i3), .val (.int nn), .val (.int qq), .val (.int s0), .val (.int s1), .val (.int s2), .val (.int s3), .unset, .unset, .unset, .unset, .unset, .unset] [(.ref b5), (.int (0 : Int32)), (.ref b3), (.ref b3)])) _
    refine st8 _ ?_
    show Steps p.tables e below (T8.setTop (mkF m 51 #[.val (.int i1), .val (.int i2), .val (.int i3), .val (.int nn), .val (.int qq), .val (.int s0), .val (.int s1), .val (.int s2), .val (.int s3), .unset, .unset, .unset, .unset, .unset, .unset] [(.ref b3)])) _
    refine XS.dup X8.here hx rfl (hb hby at_51) rfl rfl ?_
    refine XS.iconst X8.here hx rfl (hb hby at_52) ?_
    show Steps p.tables e below (T8.setTop (mkF m 53 #[.val (.int i1), .val (.int i2), .val (.int i3), .val (.int nn), .val (.int qq), .val (.int s0), .val (.int s1), .val (.int s2), .val (.int s3), .unset, .unset, .unset, .unset, .unset, .unset] [(.int (1 : Int32)), (.ref b3), (.ref b3)])) _
    refine XS.iconst X8.here hx rfl (hb hby at_53) ?_
    show Steps p.tables e below (T8.setTop (mkF m 54 #[.val (.int i1), .val (.int i2), .val (.int i3), .val (.int nn), .val (.int qq), .val (.int s0), .val (.int s1), .val (.int s2), .val (.int s3), .unset, .unset, .unset, .unset, .unset, .unset] [(.int (1 : Int32)), (.int (1 : Int32)), (.ref b3), (.ref b3)])) _
    refine st10 _ ?_
    show Steps p.tables e below (T10.setTop (mkF m 56 #[.val (.int i1), .val (.int i2), .val (.int i3), .val (.int nn), .val (.int qq), .val (.int s0), .val (.int s1), .val (.int s2), .val (.int s3), .unset, .unset, .unset, .unset, .unset, .unset] [(.ref b10), (.int (1 : Int32)), (.ref b3), (.ref b3)])) _
    refine st13 _ ?_
    show Steps p.tables e below (T13.setTop (mkF m 57 #[.val (.int i1), .val (.int i2), .val (.int i3), .val (.int nn), .val (.int qq), .val (.int s0), .val (.int s1), .val (.int s2), .val (.int s3), .unset, .unset, .unset, .unset, .unset, .unset] [(.ref b3)])) _
    refine XS.dup X13.here hx rfl (hb hby at_57) rfl rfl ?_
    refine XS.iconst X13.here hx rfl (hb hby at_58) ?_
    show Steps p.tables e below (T13.setTop (mkF m 59 #[.val (.int i1), .val (.int i2), .val (.int i3), .val (.int nn), .val (.int qq), .val (.int s0), .val (.int s1), .val (.int s2), .val (.int s3), .unset, .unset, .unset, .unset, .unset, .unset] [(.int (2 : Int32)), (.ref b3), (.ref b3)])) _
    refine XS.iconst X13.here hx rfl (hb hby at_59) ?_
    show Steps p.tables e below (T13.setTop (mkF m 60 #[.val (.int i1), .val (.int i2), .val (.int i3), .val (.int nn), .val (.int qq), .val (.int s0), .val (.int s1), .val (.int s2), .val (.int s3), .unset, .unset, .unset, .unset, .unset, .unset] [(.int (1 : Int32)), (.int (2 : Int32)), (.ref b3), (.ref b3)])) _
    refine st15 _ ?_
    show Steps p.tables e below (T15.setTop (mkF m 62 #[.val (.int i1), .val (.int i2), .val (.int i3), .val (.int nn), .val (.int qq), .val (.int s0), .val (.int s1), .val (.int s2), .val (.int s3), .unset, .unset, .unset, .unset, .unset, .unset] [(.ref b15), (.int (2 : Int32)), (.ref b3), (.ref b3)])) _
    refine st18 _ ?_
    show Steps p.tables e below (T18.setTop (mkF m 63 #[.val (.int i1), .val (.int i2), .val (.int i3), .val (.int nn), .val (.int qq), .val (.int s0), .val (.int s1), .val (.int s2), .val (.int s3), .unset, .unset, .unset, .unset, .unset, .unset] [(.ref b3)])) _
    refine XS.dup X18.here hx rfl (hb hby at_63) rfl rfl ?_
    refine XS.iconst X18.here hx rfl (hb hby at_64) ?_
    show Steps p.tables e below (T18.setTop (mkF m 65 #[.val (.int i1), .val (.int i2), .val (.int i3), .val (.int nn), .val (.int qq), .val (.int s0), .val (.int s1), .val (.int s2), .val (.int s3), .unset, .unset, .unset, .unset, .unset, .unset] [(.int (3 : Int32)), (.ref b3), (.ref b3)])) _
    refine XS.iconst X18.here hx rfl (hb hby at_65) ?_
    show Steps p.tables e below (T18.setTop (mkF m 66 #[.val (.int i1), .val (.int i2), .val (.int i3), .val (.int nn), .val (.int qq), .val (.int s0), .val (.int s1), .val (.int s2), .val (.int s3), .unset, .unset, .unset, .unset, .unset, .unset] [(.int (1 : Int32)), (.int (3 : Int32)), (.ref b3), (.ref b3)])) _
    refine st20 _ ?_
    show Steps p.tables e below (T20.setTop (mkF m 68 #[.val (.int i1), .val (.int i2), .val (.int i3), .val (.int nn), .val (.int qq), .val (.int s0), .val (.int s1), .val (.int s2), .val (.int s3), .unset, .unset, .unset, .unset, .unset, .unset] [(.ref b20), (.int (3 : Int32)), (.ref b3), (.ref b3)])) _
    refine st23 _ ?_
    show Steps p.tables e below (T23.setTop (mkF m 69 #[.val (.int i1), .val (.int i2), .val (.int i3), .val (.int nn), .val (.int qq), .val (.int s0), .val (.int s1), .val (.int s2), .val (.int s3), .unset, .unset, .unset, .unset, .unset, .unset] [(.ref b3)])) _
    refine XS.astore X23.here hx rfl (hb hby at_69) rfl rfl (l' := #[.val (.int i1), .val (.int i2), .val (.int i3), .val (.int nn), .val (.int qq), .val (.int s0), .val (.int s1), .val (.int s2), .val (.int s3), .val (.ref b3), .unset, .unset, .unset, .unset, .unset]) rfl ?_
    refine XS.iconst X23.here hx rfl (hb hby at_71) ?_
    show Steps p.tables e below (T23.setTop (mkF m 72 #[.val (.int i1), .val (.int i2), .val (.int i3), .val (.int nn), .val (.int qq), .val (.int s0), .val (.int s1), .val (.int s2), .val (.int s3), .val (.ref b3), .unset, .unset, .unset, .unset, .unset] [(.int (4 : Int32))])) _
    refine st25 _ ?_
    show Steps p.tables e below (T25.setTop (mkF m 75 #[.val (.int i1), .val (.int i2), .val (.int i3), .val (.int nn), .val (.int qq), .val (.int s0), .val (.int s1), .val (.int s2), .val (.int s3), .val (.ref b3), .unset, .unset, .unset, .unset, .unset] [(.ref b25)])) _
    refine XS.dup X25.here hx rfl (hb hby at_75) rfl rfl ?_
    refine XS.iconst X25.here hx rfl (hb hby at_76) ?_
    show Steps p.tables e below (T25.setTop (mkF m 77 #[.val (.int i1), .val (.int i2), .val (.int i3), .val (.int nn), .val (.int qq), .val (.int s0), .val (.int s1), .val (.int s2), .val (.int s3), .val (.ref b3), .unset, .unset, .unset, .unset, .unset] [(.int (0 : Int32)), (.ref b25), (.ref b25)])) _
    refine XS.iconst X25.here hx rfl (hb hby at_77) ?_
    show Steps p.tables e below (T25.setTop (mkF m 78 #[.val (.int i1), .val (.int i2), .val (.int i3), .val (.int nn), .val (.int qq), .val (.int s0), .val (.int s1), .val (.int s2), .val (.int s3), .val (.ref b3), .unset, .unset, .unset, .unset, .unset] [(.int (1 : Int32)), (.int (0 : Int32)), (.ref b25), (.ref b25)])) _
    refine st27 _ ?_
    show Steps p.tables e below (T27.setTop (mkF m 80 #[.val (.int i1), .val (.int i2), .val (.int i3), .val (.int nn), .val (.int qq), .val (.int s0), .val (.int s1), .val (.int s2), .val (.int s3), .val (.ref b3), .unset, .unset, .unset, .unset, .unset] [(.ref b27), (.int (0 : Int32)), (.ref b25), (.ref b25)])) _
    refine st30 _ ?_
    show Steps p.tables e below (T30.setTop (mkF m 81 #[.val (.int i1), .val (.int i2), .val (.int i3), .val (.int nn), .val (.int qq), .val (.int s0), .val (.int s1), .val (.int s2), .val (.int s3), .val (.ref b3), .unset, .unset, .unset, .unset, .unset] [(.ref b25)])) _
    refine XS.dup X30.here hx rfl (hb hby at_81) rfl rfl ?_
    refine XS.iconst X30.here hx rfl (hb hby at_82) ?_
    show Steps p.tables e below (T30.setTop (mkF m 83 #[.val (.int i1), .val (.int i2), .val (.int i3), .val (.int nn), .val (.int qq), .val (.int s0), .val (.int s1), .val (.int s2), .val (.int s3), .val (.ref b3), .unset, .unset, .unset, .unset, .unset] [(.int (1 : Int32)), (.ref b25), (.ref b25)])) _
    refine XS.iconst X30.here hx rfl (hb hby at_83) ?_
    show Steps p.tables e below (T30.setTop (mkF m 84 #[.val (.int i1), .val (.int i2), .val (.int i3), .val (.int nn), .val (.int qq), .val (.int s0), .val (.int s1), .val (.int s2), .val (.int s3), .val (.ref b3), .unset, .unset, .unset, .unset, .unset] [(.int (1 : Int32)), (.int (1 : Int32)), (.ref b25), (.ref b25)])) _
    refine st32 _ ?_
    show Steps p.tables e below (T32.setTop (mkF m 86 #[.val (.int i1), .val (.int i2), .val (.int i3), .val (.int nn), .val (.int qq), .val (.int s0), .val (.int s1), .val (.int s2), .val (.int s3), .val (.ref b3), .unset, .unset, .unset, .unset, .unset] [(.ref b32), (.int (1 : Int32)), (.ref b25), (.ref b25)])) _
    refine st35 _ ?_
    show Steps p.tables e below (T35.setTop (mkF m 87 #[.val (.int i1), .val (.int i2), .val (.int i3), .val (.int nn), .val (.int qq), .val (.int s0), .val (.int s1), .val (.int s2), .val (.int s3), .val (.ref b3), .unset, .unset, .unset, .unset, .unset] [(.ref b25)])) _
    refine XS.dup X35.here hx rfl (hb hby at_87) rfl rfl ?_
    refine XS.iconst X35.here hx rfl (hb hby at_88) ?_
    show Steps p.tables e below (T35.setTop (mkF m 89 #[.val (.int i1), .val (.int i2), .val (.int i3), .val (.int nn), .val (.int qq), .val (.int s0), .val (.int s1), .val (.int s2), .val (.int s3), .val (.ref b3), .unset, .unset, .unset, .unset, .unset] [(.int (2 : Int32)), (.ref b25), (.ref b25)])) _
    refine XS.iconst X35.here hx rfl (hb hby at_89) ?_
    show Steps p.tables e below (T35.setTop (mkF m 90 #[.val (.int i1), .val (.int i2), .val (.int i3), .val (.int nn), .val (.int qq), .val (.int s0), .val (.int s1), .val (.int s2), .val (.int s3), .val (.ref b3), .unset, .unset, .unset, .unset, .unset] [(.int (1 : Int32)), (.int (2 : Int32)), (.ref b25), (.ref b25)])) _
    refine st37 _ ?_
    show Steps p.tables e below (T37.setTop (mkF m 92 #[.val (.int i1), .val (.int i2), .val (.int i3), .val (.int nn), .val (.int qq), .val (.int s0), .val (.int s1), .val (.int s2), .val (.int s3), .val (.ref b3), .unset, .unset, .unset, .unset, .unset] [(.ref b37), (.int (2 : Int32)), (.ref b25), (.ref b25)])) _
    refine st40 _ ?_
    show Steps p.tables e below (T40.setTop (mkF m 93 #[.val (.int i1), .val (.int i2), .val (.int i3), .val (.int nn), .val (.int qq), .val (.int s0), .val (.int s1), .val (.int s2), .val (.int s3), .val (.ref b3), .unset, .unset, .unset, .unset, .unset] [(.ref b25)])) _
    refine XS.dup X40.here hx rfl (hb hby at_93) rfl rfl ?_
    refine XS.iconst X40.here hx rfl (hb hby at_94) ?_
    show Steps p.tables e below (T40.setTop (mkF m 95 #[.val (.int i1), .val (.int i2), .val (.int i3), .val (.int nn), .val (.int qq), .val (.int s0), .val (.int s1), .val (.int s2), .val (.int s3), .val (.ref b3), .unset, .unset, .unset, .unset, .unset] [(.int (3 : Int32)), (.ref b25), (.ref b25)])) _
    refine XS.iconst X40.here hx rfl (hb hby at_95) ?_
    show Steps p.tables e below (T40.setTop (mkF m 96 #[.val (.int i1), .val (.int i2), .val (.int i3), .val (.int nn), .val (.int qq), .val (.int s0), .val (.int s1), .val (.int s2), .val (.int s3), .val (.ref b3), .unset, .unset, .unset, .unset, .unset] [(.int (1 : Int32)), (.int (3 : Int32)), (.ref b25), (.ref b25)])) _
    refine st42 _ ?_
    show Steps p.tables e below (T42.setTop (mkF m 98 #[.val (.int i1), .val (.int i2), .val (.int i3), .val (.int nn), .val (.int qq), .val (.int s0), .val (.int s1), .val (.int s2), .val (.int s3), .val (.ref b3), .unset, .unset, .unset, .unset, .unset] [(.ref b42), (.int (3 : Int32)), (.ref b25), (.ref b25)])) _
    refine st45 _ ?_
    show Steps p.tables e below (T45.setTop (mkF m 99 #[.val (.int i1), .val (.int i2), .val (.int i3), .val (.int nn), .val (.int qq), .val (.int s0), .val (.int s1), .val (.int s2), .val (.int s3), .val (.ref b3), .unset, .unset, .unset, .unset, .unset] [(.ref b25)])) _
    refine XS.astore X45.here hx rfl (hb hby at_99) rfl rfl (l' := #[.val (.int i1), .val (.int i2), .val (.int i3), .val (.int nn), .val (.int qq), .val (.int s0), .val (.int s1), .val (.int s2), .val (.int s3), .val (.ref b3), .val (.ref b25), .unset, .unset, .unset, .unset]) rfl ?_
    refine XS.iconst X45.here hx rfl (hb hby at_101) ?_
    show Steps p.tables e below (T45.setTop (mkF m 102 #[.val (.int i1), .val (.int i2), .val (.int i3), .val (.int nn), .val (.int qq), .val (.int s0), .val (.int s1), .val (.int s2), .val (.int s3), .val (.ref b3), .val (.ref b25), .unset, .unset, .unset, .unset] [(.int (4 : Int32))])) _
    refine st47 _ ?_
    show Steps p.tables e below (T47.setTop (mkF m 105 #[.val (.int i1), .val (.int i2), .val (.int i3), .val (.int nn), .val (.int qq), .val (.int s0), .val (.int s1), .val (.int s2), .val (.int s3), .val (.ref b3), .val (.ref b25), .unset, .unset, .unset, .unset] [(.ref b47)])) _
    refine XS.astore X47.here hx rfl (hb hby at_105) rfl rfl (l' := #[.val (.int i1), .val (.int i2), .val (.int i3), .val (.int nn), .val (.int qq), .val (.int s0), .val (.int s1), .val (.int s2), .val (.int s3), .val (.ref b3), .val (.ref b25), .val (.ref b47), .unset, .unset, .unset]) rfl ?_
    refine XS.aload X47.here hx rfl (hb hby at_107) rfl rfl ?_
    show Steps p.tables e below (T47.setTop (mkF m 109 #[.val (.int i1), .val (.int i2), .val (.int i3), .val (.int nn), .val (.int qq), .val (.int s0), .val (.int s1), .val (.int s2), .val (.int s3), .val (.ref b3), .val (.ref b25), .val (.ref b47), .unset, .unset, .unset] [(.ref b47)])) _
    refine XS.iconst X47.here hx rfl (hb hby at_109) ?_
    refine XS.iloadN X47.here hx rfl (hb hby at_110) rfl ?_
    show Steps p.tables e below (T47.setTop (mkF m 111 #[.val (.int i1), .val (.int i2), .val (.int i3), .val (.int nn), .val (.int qq), .val (.int s0), .val (.int s1), .val (.int s2), .val (.int s3), .val (.ref b3), .val (.ref b25), .val (.ref b47), .unset, .unset, .unset] [(.int i3), (.int (0 : Int32)), (.ref b47)])) _
    refine XS.iconst X47.here hx rfl (hb hby at_111) ?_
    refine XS.iand X47.here hx rfl (hb hby at_112) rfl ?_
    exact k
  obtain ⟨T50, Lq50, h50, v50, X50, N50, e50, S50, hZ, hown, Kq50, hr50, st50, pre50⟩ : ∃ (T' : State) (locs' : List Loc) (h' : Heap) (v50 : Value), Stand p l e room_1 (s.setVm T'.vm) m #[(.int i1), (.int i2), (.int i3)] below meth c T' locs' 15 36 ∧ Fr n0 locs' ∧ T'.heap = h' ∧ s.Since T'.vm T'.heap.size ∧ Z.Warmed39 (s.setVm T'.vm).vm ∧ (s.setVm T'.vm).vm.findClass "com/example/fetchwright/fetchwright/service/LoadsInProgressInnermostPinLaw" = some m.cls ∧ Keep h47 h' [] ∧ v50.isRef = true ∧ Sto Z h' b47 v50 ∧ ∀ t, Steps p.tables e below (T'.setTop (mkF m 123 #[.val (.int i1), .val (.int i2), .val (.int i3), .val (.int nn), .val (.int qq), .val (.int s0), .val (.int s1), .val (.int s2), .val (.int s3), .val (.ref b3), .val (.ref b25), .val (.ref b47), .unset, .unset, .unset] [v50, (.int (0 : Int32)), (.ref b47)])) t → Steps p.tables e below (s₁.setTop (entryFrame m #[(.int i1), (.int i2), (.int i3)] maxLocals)) t := by
    by_cases hc113_51 : (i3 &&& (1 : Int32)) = (0 : Int32)
    · obtain ⟨_, _, ⟨T52, L52, k52, n52⟩, -, X52, Sq52, Gq52, ⟨Lc52, hQ52, l52, y52, z52⟩, st52⟩ := callSS X47 hx (y := own_y9) hown (mvT hZ (hw _ (List.mem_of_getElem? (i := 6) rfl))) (mvT hZ (hw _ (List.mem_of_getElem? (i := 7) rfl))) (mvT hZ (hw _ (List.mem_of_getElem? (i := 8) rfl))) (mvT hZ (hw _ (List.mem_of_getElem? (i := 9) rfl))) (by decide) (backOfS (W := 2) (rm1 l Z a0 hw []  h47 n0 (Nat.le_trans Z0 K48.1) ) hZ (hw _ (List.mem_of_getElem? (i := 9) rfl)) (hw _ (List.mem_of_getElem? (i := 8) rfl)) (by decide) (by decide)) (g := (mkF m 120 #[.val (.int i1), .val (.int i2), .val (.int i3), .val (.int nn), .val (.int qq), .val (.int s0), .val (.int s1), .val (.int s2), .val (.int s3), .val (.ref b3), .val (.ref b25), .val (.ref b47), .unset, .unset, .unset] [(.int (0 : Int32)), (.ref b47)])) rfl (by rw [hml]; rfl) (argsL := []) (rest := [(.int (0 : Int32)), (.ref b47)]) (lenOf pd_3 rfl) rfl (by show 2 * 0 + _ ≤ _; exact Nat.le_of_eq rfl) (hb hby at_120) (fun _ _ => ⟨rfl, e47, (by decide : 11 + 4 ≤ _), (by decide : 20 + 16 ≤ _)⟩)
      dsimp only [Pt.U, Pt.locs, Pt.cells, Pt.slots] at X52 l52 y52 z52 st52 hQ52 Sq52 Gq52
      subst l52 y52 z52
      have S52 : s.Since T52.vm T52.heap.size := Sq52
      have hZ : Z.Warmed39 (s.setVm T52.vm).vm := State.Warmed39.trans (t := s) hZ Sq52.1
      have hown : (s.setVm T52.vm).vm.findClass "com/example/fetchwright/fetchwright/service/LoadsInProgressInnermostPinLaw" = some m.cls := by rw [show (s.setVm T52.vm).vm = T52.vm from rfl, Sq52.1.alike.findClass]; exact hown
      have X52 : Stand p l e room_1 (s.setVm T52.vm) m #[(.int i1), (.int i2), (.int i3)] below meth c T52 _ _ _ := X52
      obtain ⟨b52_0, rfl, Nq52, Kq52, sq52_0, f52_0, f52_1, f52_2, f52_3⟩ := hQ52
      have sz_b52_0 : h0.size ≤ b52_0 := Nat.le_trans K48.1 sq52_0
      have K53 : Keep h0 T52.heap [] := K48.trans Kq52 all0
      have N52 := Fr.app N45 Nq52
      have pre54 : ∀ t, Steps p.tables e below (T52.setTop (mkF m 123 #[.val (.int i1), .val (.int i2), .val (.int i3), .val (.int nn), .val (.int qq), .val (.int s0), .val (.int s1), .val (.int s2), .val (.int s3), .val (.ref b3), .val (.ref b25), .val (.ref b47), .unset, .unset, .unset] [(.ref b52_0), (.int (0 : Int32)), (.ref b47)])) t → Steps p.tables e below (s₁.setTop (entryFrame m #[(.int i1), (.int i2), (.int i3)] maxLocals)) t := by
        intro t k
        refine pre49 _ ?_
        show Steps p.tables e below (T47.setTop (mkF m 113 #[.val (.int i1), .val (.int i2), .val (.int i3), .val (.int nn), .val (.int qq), .val (.int s0), .val (.int s1), .val (.int s2), .val (.int s3), .val (.ref b3), .val (.ref b25), .val (.ref b47), .unset, .unset, .unset] [(.int (i3 &&& (1 : Int32))), (.int (0 : Int32)), (.ref b47)])) _
        refine XS.ifYes X47.here hx rfl (pc0 := 113) (pc' := 120) rfl (hb hby at_113) rfl ((if0 _ _).trans (teq hc113_51).1) (by decide) (by decide) ?_
        show Steps p.tables e below (T47.setTop (mkF m 120 #[.val (.int i1), .val (.int i2), .val (.int i3), .val (.int nn), .val (.int qq), .val (.int s0), .val (.int s1), .val (.int s2), .val (.int s3), .val (.ref b3), .val (.ref b25), .val (.ref b47), .unset, .unset, .unset] [(.int (0 : Int32)), (.ref b47)])) _
        refine st52.trans ?_
        exact k
      have f55 := (V47.keep Kq52 nin0)
      obtain ⟨cl56, Ar56, Cq56, -, -, -, -⟩ := id f55
      have Xr57 : Stand p l e room_1 (s.setVm T52.vm) m #[(.int i1), (.int i2), (.int i3)] below meth c T52 _ _ _ := X52.retabled X52.warmed.wide
      have Sr57 : s.Since T52.vm T52.heap.size := foldS (T := T52) S52 (Nat.le_trans (Nat.le_refl _) (Nat.le_refl _)) (X52.warmed.since _) (Nat.le_refl _)
      have Zr57 : Z.Warmed39 (s.setVm T52.vm).vm := State.Warmed39.trans (t := (s.setVm T52.vm)) hZ X52.warmed.wide
      have Or57 : (s.setVm T52.vm).vm.findClass "com/example/fetchwright/fetchwright/service/LoadsInProgressInnermostPinLaw" = some m.cls := by rw [show (s.setVm T52.vm).vm = T52.vm from rfl, X52.warmed.wide.alike.findClass]; exact hown
      exact ⟨T52, _, _, (.ref b52_0), Xr57, N52, rfl, Sr57, Zr57, Or57, ((Keep.refl _ []).trans Kq52 all0), rfl, (Sto.ofV Ar56 Cq56 O47 (Ins.self f52_0)), pre54⟩
    · have pre58 : ∀ t, Steps p.tables e below (T47.setTop (mkF m 123 #[.val (.int i1), .val (.int i2), .val (.int i3), .val (.int nn), .val (.int qq), .val (.int s0), .val (.int s1), .val (.int s2), .val (.int s3), .val (.ref b3), .val (.ref b25), .val (.ref b47), .unset, .unset, .unset] [.null, (.int (0 : Int32)), (.ref b47)])) t → Steps p.tables e below (s₁.setTop (entryFrame m #[(.int i1), (.int i2), (.int i3)] maxLocals)) t := by
        intro t k
        refine pre49 _ ?_
        show Steps p.tables e below (T47.setTop (mkF m 113 #[.val (.int i1), .val (.int i2), .val (.int i3), .val (.int nn), .val (.int qq), .val (.int s0), .val (.int s1), .val (.int s2), .val (.int s3), .val (.ref b3), .val (.ref b25), .val (.ref b47), .unset, .unset, .unset] [(.int (i3 &&& (1 : Int32))), (.int (0 : Int32)), (.ref b47)])) _
        refine XS.ifNo X47.here hx rfl (hb hby at_113) rfl ((if0 _ _).trans (feq hc113_51).1) ?_
        refine XS.aconstNull X47.here hx rfl (hb hby at_116) ?_
        show Steps p.tables e below (T47.setTop (mkF m 117 #[.val (.int i1), .val (.int i2), .val (.int i3), .val (.int nn), .val (.int qq), .val (.int s0), .val (.int s1), .val (.int s2), .val (.int s3), .val (.ref b3), .val (.ref b25), .val (.ref b47), .unset, .unset, .unset] [.null, (.int (0 : Int32)), (.ref b47)])) _
        refine XS.goto X47.here hx rfl (pc0 := 117) (pc' := 123) rfl (hb hby at_117) (by decide) (by decide) ?_
        exact k
      have Xr59 : Stand p l e room_1 (s.setVm T47.vm) m #[(.int i1), (.int i2), (.int i3)] below meth c T47 _ _ _ := X47.retabled X47.warmed.wide
      have Sr59 : s.Since T47.vm T47.heap.size := X47.warmed.since _
      have Zr59 : Z.Warmed39 (s.setVm T47.vm).vm := State.Warmed39.trans (t := s) hZ X47.warmed.wide
      have Or59 : (s.setVm T47.vm).vm.findClass "com/example/fetchwright/fetchwright/service/LoadsInProgressInnermostPinLaw" = some m.cls := by rw [show (s.setVm T47.vm).vm = T47.vm from rfl, X47.warmed.wide.alike.findClass]; exact hown
      exact ⟨T47, _, _, .null, (Xr59.more (by decide) (by decide)), N45, e47, Sr59, Zr59, Or59, (Keep.refl _ _), rfl, (Or.inl rfl), pre58⟩
  have K60 : Keep h0 h50 [] := K48.trans Kq50 all0
  have f61 := (V47.keep Kq50 nin0)
  obtain ⟨cl62, Ar62, Cq62, Sz62, Nn62, Hh62, Gg62⟩ := id f61
  have hin62 : ¬ ((0 : Int32) < 0 ∨ cl62.slots.size ≤ ((0 : Int32)).toNatClampNeg) := inb_of Sz62 ⟨by decide, by decide⟩
  obtain ⟨T62, h62, X62, e62, W62, st62⟩ := stR X50 hx hZ e50 Ar62 (j := (0 : Int32)) hin62 rfl st50 (g := (mkF m 123 #[.val (.int i1), .val (.int i2), .val (.int i3), .val (.int nn), .val (.int qq), .val (.int s0), .val (.int s1), .val (.int s2), .val (.int s3), .val (.ref b3), .val (.ref b25), .val (.ref b47), .unset, .unset, .unset] [v50, (.int (0 : Int32)), (.ref b47)])) rfl rfl (hb hby at_123)
  have V62 : Arv Z h62 b47 k47 (.object "com/example/fetchwright/fetchwright/service/SecondaryLoad") (4 : Int32) [v50, .null, .null, .null] .null := Arv.set Ar62 Cq62 Sz62 Nn62 Hh62 Gg62 (own_fitU hr50) W62 0 rfl (Nat.le_of_ble_eq_true rfl)
  have N62 := Fr.snoc X62 N50 (Nat.le_trans Z0 sz_b47)
  have K63 : Keep h0 h62 [] := K60.wr W62 (Or.inr sz_b47)
  have pre64 : ∀ t, Steps p.tables e below (T62.setTop (mkF m 130 #[.val (.int i1), .val (.int i2), .val (.int i3), .val (.int nn), .val (.int qq), .val (.int s0), .val (.int s1), .val (.int s2), .val (.int s3), .val (.ref b3), .val (.ref b25), .val (.ref b47), .unset, .unset, .unset] [(.int (i3 &&& (2 : Int32))), (.int (1 : Int32)), (.ref b47)])) t → Steps p.tables e below (s₁.setTop (entryFrame m #[(.int i1), (.int i2), (.int i3)] maxLocals)) t := by
    intro t k
    refine pre50 _ ?_
    show Steps p.tables e below (T50.setTop (mkF m 123 #[.val (.int i1), .val (.int i2), .val (.int i3), .val (.int nn), .val (.int qq), .val (.int s0), .val (.int s1), .val (.int s2), .val (.int s3), .val (.ref b3), .val (.ref b25), .val (.ref b47), .unset, .unset, .unset] [v50, (.int (0 : Int32)), (.ref b47)])) _
    refine st62 _ ?_
    show Steps p.tables e below (T62.setTop (mkF m 124 #[.val (.int i1), .val (.int i2), .val (.int i3), .val (.int nn), .val (.int qq), .val (.int s0), .val (.int s1), .val (.int s2), .val (.int s3), .val (.ref b3), .val (.ref b25), .val (.ref b47), .unset, .unset, .unset] [])) _
    refine XS.aload X62.here hx rfl (hb hby at_124) rfl rfl ?_
    refine XS.iconst X62.here hx rfl (hb hby at_126) ?_
    show Steps p.tables e below (T62.setTop (mkF m 127 #[.val (.int i1), .val (.int i2), .val (.int i3), .val (.int nn), .val (.int qq), .val (.int s0), .val (.int s1), .val (.int s2), .val (.int s3), .val (.ref b3), .val (.ref b25), .val (.ref b47), .unset, .unset, .unset] [(.int (1 : Int32)), (.ref b47)])) _
    refine XS.iloadN X62.here hx rfl (hb hby at_127) rfl ?_
    refine XS.iconst X62.here hx rfl (hb hby at_128) ?_
    show Steps p.tables e below (T62.setTop (mkF m 129 #[.val (.int i1), .val (.int i2), .val (.int i3), .val (.int nn), .val (.int qq), .val (.int s0), .val (.int s1), .val (.int s2), .val (.int s3), .val (.ref b3), .val (.ref b25), .val (.ref b47), .unset, .unset, .unset] [(.int (2 : Int32)), (.int i3), (.int (1 : Int32)), (.ref b47)])) _
    refine XS.iand X62.here hx rfl (hb hby at_129) rfl ?_
    exact k
  obtain ⟨T65, Lq65, h65, v65, X65, N65, e65, S65, hZ, hown, Kq65, hr65, st65, pre65⟩ : ∃ (T' : State) (locs' : List Loc) (h' : Heap) (v65 : Value), Stand p l e room_1 (s.setVm T'.vm) m #[(.int i1), (.int i2), (.int i3)] below meth c T' locs' 19 52 ∧ Fr n0 locs' ∧ T'.heap = h' ∧ s.Since T'.vm T'.heap.size ∧ Z.Warmed39 (s.setVm T'.vm).vm ∧ (s.setVm T'.vm).vm.findClass "com/example/fetchwright/fetchwright/service/LoadsInProgressInnermostPinLaw" = some m.cls ∧ Keep h62 h' [] ∧ v65.isRef = true ∧ Sto Z h' b47 v65 ∧ ∀ t, Steps p.tables e below (T'.setTop (mkF m 140 #[.val (.int i1), .val (.int i2), .val (.int i3), .val (.int nn), .val (.int qq), .val (.int s0), .val (.int s1), .val (.int s2), .val (.int s3), .val (.ref b3), .val (.ref b25), .val (.ref b47), .unset, .unset, .unset] [v65, (.int (1 : Int32)), (.ref b47)])) t → Steps p.tables e below (s₁.setTop (entryFrame m #[(.int i1), (.int i2), (.int i3)] maxLocals)) t := by
    by_cases hc130_66 : (i3 &&& (2 : Int32)) = (0 : Int32)
    · obtain ⟨_, _, ⟨T67, L67, k67, n67⟩, -, X67, Sq67, Gq67, ⟨Lc67, hQ67, l67, y67, z67⟩, st67⟩ := callSS X62 hx (y := own_y9) hown (mvT hZ (hw _ (List.mem_of_getElem? (i := 6) rfl))) (mvT hZ (hw _ (List.mem_of_getElem? (i := 7) rfl))) (mvT hZ (hw _ (List.mem_of_getElem? (i := 8) rfl))) (mvT hZ (hw _ (List.mem_of_getElem? (i := 9) rfl))) (by decide) (backOfS (W := 2) (rm1 l Z a0 hw []  h62 n0 (Nat.le_trans Z0 K63.1) ) hZ (hw _ (List.mem_of_getElem? (i := 9) rfl)) (hw _ (List.mem_of_getElem? (i := 8) rfl)) (by decide) (by decide)) (g := (mkF m 137 #[.val (.int i1), .val (.int i2), .val (.int i3), .val (.int nn), .val (.int qq), .val (.int s0), .val (.int s1), .val (.int s2), .val (.int s3), .val (.ref b3), .val (.ref b25), .val (.ref b47), .unset, .unset, .unset] [(.int (1 : Int32)), (.ref b47)])) rfl (by rw [hml]; rfl) (argsL := []) (rest := [(.int (1 : Int32)), (.ref b47)]) (lenOf pd_3 rfl) rfl (by show 2 * 0 + _ ≤ _; exact Nat.le_of_eq rfl) (hb hby at_137) (fun _ _ => ⟨rfl, e62, (by decide : 15 + 4 ≤ _), (by decide : 36 + 16 ≤ _)⟩)
      dsimp only [Pt.U, Pt.locs, Pt.cells, Pt.slots] at X67 l67 y67 z67 st67 hQ67 Sq67 Gq67
      subst l67 y67 z67
      have S67 : s.Since T67.vm T67.heap.size := foldS (T := T62) S50 (by rw [e62]; exact (Nat.le_trans (Nat.le_of_eq (congrArg Array.size e50)) (Keep.of_wr W62).1)) Sq67 Gq67
      have hZ : Z.Warmed39 (s.setVm T67.vm).vm := State.Warmed39.trans (t := (s.setVm T50.vm)) hZ Sq67.1
      have hown : (s.setVm T67.vm).vm.findClass "com/example/fetchwright/fetchwright/service/LoadsInProgressInnermostPinLaw" = some m.cls := by rw [show (s.setVm T67.vm).vm = T67.vm from rfl, Sq67.1.alike.findClass]; exact hown
      have X67 : Stand p l e room_1 (s.setVm T67.vm) m #[(.int i1), (.int i2), (.int i3)] below meth c T67 _ _ _ := X67
      obtain ⟨b67_0, rfl, Nq67, Kq67, sq67_0, f67_0, f67_1, f67_2, f67_3⟩ := hQ67
      have sz_b67_0 : h0.size ≤ b67_0 := Nat.le_trans K63.1 sq67_0
      have K68 : Keep h0 T67.heap [] := K63.trans Kq67 all0
      have N67 := Fr.app N62 Nq67
      have pre69 : ∀ t, Steps p.tables e below (T67.setTop (mkF m 140 #[.val (.int i1), .val (.int i2), .val (.int i3), .val (.int nn), .val (.int qq), .val (.int s0), .val (.int s1), .val (.int s2), .val (.int s3), .val (.ref b3), .val (.ref b25), .val (.ref b47), .unset, .unset, .unset] [(.ref b67_0), (.int (1 : Int32)), (.ref b47)])) t → Steps p.tables e below (s₁.setTop (entryFrame m #[(.int i1), (.int i2), (.int i3)] maxLocals)) t := by
        intro t k
        refine pre64 _ ?_
        show Steps p.tables e below (T62.setTop (mkF m 130 #[.val (.int i1), .val (.int i2), .val (.int i3), .val (.int nn), .val (.int qq), .val (.int s0), .val (.int s1), .val (.int s2), .val (.int s3), .val (.ref b3), .val (.ref b25), .val (.ref b47), .unset, .unset, .unset] [(.int (i3 &&& (2 : Int32))), (.int (1 : Int32)), (.ref b47)])) _
        refine XS.ifYes X62.here hx rfl (pc0 := 130) (pc' := 137) rfl (hb hby at_130) rfl ((if0 _ _).trans (teq hc130_66).1) (by decide) (by decide) ?_
        show Steps p.tables e below (T62.setTop (mkF m 137 #[.val (.int i1), .val (.int i2), .val (.int i3), .val (.int nn), .val (.int qq), .val (.int s0), .val (.int s1), .val (.int s2), .val (.int s3), .val (.ref b3), .val (.ref b25), .val (.ref b47), .unset, .unset, .unset] [(.int (1 : Int32)), (.ref b47)])) _
        refine st67.trans ?_
        exact k
      have f70 := (V62.keep Kq67 nin0)
      obtain ⟨cl71, Ar71, Cq71, -, -, -, -⟩ := id f70
      have Xr72 : Stand p l e room_1 (s.setVm T67.vm) m #[(.int i1), (.int i2), (.int i3)] below meth c T67 _ _ _ := X67.retabled X67.warmed.wide
      have Sr72 : s.Since T67.vm T67.heap.size := foldS (T := T67) S67 (Nat.le_trans (Nat.le_refl _) (Nat.le_refl _)) (X67.warmed.since _) (Nat.le_refl _)
      have Zr72 : Z.Warmed39 (s.setVm T67.vm).vm := State.Warmed39.trans (t := (s.setVm T67.vm)) hZ X67.warmed.wide
      have Or72 : (s.setVm T67.vm).vm.findClass "com/example/fetchwright/fetchwright/service/LoadsInProgressInnermostPinLaw" = some m.cls := by rw [show (s.setVm T67.vm).vm = T67.vm from rfl, X67.warmed.wide.alike.findClass]; exact hown
      exact ⟨T67, _, _, (.ref b67_0), Xr72, N67, rfl, Sr72, Zr72, Or72, ((Keep.refl _ []).trans Kq67 all0), rfl, (Sto.ofV Ar71 Cq71 O47 (Ins.self f67_0)), pre69⟩
    · have pre73 : ∀ t, Steps p.tables e below (T62.setTop (mkF m 140 #[.val (.int i1), .val (.int i2), .val (.int i3), .val (.int nn), .val (.int qq), .val (.int s0), .val (.int s1), .val (.int s2), .val (.int s3), .val (.ref b3), .val (.ref b25), .val (.ref b47), .unset, .unset, .unset] [.null, (.int (1 : Int32)), (.ref b47)])) t → Steps p.tables e below (s₁.setTop (entryFrame m #[(.int i1), (.int i2), (.int i3)] maxLocals)) t := by
        intro t k
        refine pre64 _ ?_
        show Steps p.tables e below (T62.setTop (mkF m 130 #[.val (.int i1), .val (.int i2), .val (.int i3), .val (.int nn), .val (.int qq), .val (.int s0), .val (.int s1), .val (.int s2), .val (.int s3), .val (.ref b3), .val (.ref b25), .val (.ref b47), .unset, .unset, .unset] [(.int (i3 &&& (2 : Int32))), (.int (1 : Int32)), (.ref b47)])) _
        refine XS.ifNo X62.here hx rfl (hb hby at_130) rfl ((if0 _ _).trans (feq hc130_66).1) ?_
        refine XS.aconstNull X62.here hx rfl (hb hby at_133) ?_
        show Steps p.tables e below (T62.setTop (mkF m 134 #[.val (.int i1), .val (.int i2), .val (.int i3), .val (.int nn), .val (.int qq), .val (.int s0), .val (.int s1), .val (.int s2), .val (.int s3), .val (.ref b3), .val (.ref b25), .val (.ref b47), .unset, .unset, .unset] [.null, (.int (1 : Int32)), (.ref b47)])) _
        refine XS.goto X62.here hx rfl (pc0 := 134) (pc' := 140) rfl (hb hby at_134) (by decide) (by decide) ?_
        exact k
      have Xr74 : Stand p l e room_1 (s.setVm T62.vm) m #[(.int i1), (.int i2), (.int i3)] below meth c T62 _ _ _ := X62.retabled X62.warmed.wide
      have Sr74 : s.Since T62.vm T62.heap.size := foldS (T := T62) S50 (by rw [e62]; exact (Nat.le_trans (Nat.le_of_eq (congrArg Array.size e50)) (Keep.of_wr W62).1)) (X62.warmed.since _) (Nat.le_refl _)
      have Zr74 : Z.Warmed39 (s.setVm T62.vm).vm := State.Warmed39.trans (t := (s.setVm T50.vm)) hZ X62.warmed.wide
      have Or74 : (s.setVm T62.vm).vm.findClass "com/example/fetchwright/fetchwright/service/LoadsInProgressInnermostPinLaw" = some m.cls := by rw [show (s.setVm T62.vm).vm = T62.vm from rfl, X62.warmed.wide.alike.findClass]; exact hown
      exact ⟨T62, _, _, .null, (Xr74.more (by decide) (by decide)), N62, e62, Sr74, Zr74, Or74, (Keep.refl _ _), rfl, (Or.inl rfl), pre73⟩
  have K75 : Keep h0 h65 [] := K63.trans Kq65 all0
  have f76 := (V62.keep Kq65 nin0)
  obtain ⟨cl77, Ar77, Cq77, Sz77, Nn77, Hh77, Gg77⟩ := id f76
  have hin77 : ¬ ((1 : Int32) < 0 ∨ cl77.slots.size ≤ ((1 : Int32)).toNatClampNeg) := inb_of Sz77 ⟨by decide, by decide⟩
  obtain ⟨T77, h77, X77, e77, W77, st77⟩ := stR X65 hx hZ e65 Ar77 (j := (1 : Int32)) hin77 rfl st65 (g := (mkF m 140 #[.val (.int i1), .val (.int i2), .val (.int i3), .val (.int nn), .val (.int qq), .val (.int s0), .val (.int s1), .val (.int s2), .val (.int s3), .val (.ref b3), .val (.ref b25), .val (.ref b47), .unset, .unset, .unset] [v65, (.int (1 : Int32)), (.ref b47)])) rfl rfl (hb hby at_140)
  have V77 : Arv Z h77 b47 k47 (.object "com/example/fetchwright/fetchwright/service/SecondaryLoad") (4 : Int32) [v50, v65, .null, .null] .null := Arv.set Ar77 Cq77 Sz77 Nn77 Hh77 Gg77 (own_fitU hr65) W77 1 rfl (Nat.le_of_ble_eq_true rfl)
  have N77 := Fr.snoc X77 N65 (Nat.le_trans Z0 sz_b47)
  have K78 : Keep h0 h77 [] := K75.wr W77 (Or.inr sz_b47)
  have pre79 : ∀ t, Steps p.tables e below (T77.setTop (mkF m 147 #[.val (.int i1), .val (.int i2), .val (.int i3), .val (.int nn), .val (.int qq), .val (.int s0), .val (.int s1), .val (.int s2), .val (.int s3), .val (.ref b3), .val (.ref b25), .val (.ref b47), .unset, .unset, .unset] [(.int (i3 &&& (4 : Int32))), (.int (2 : Int32)), (.ref b47)])) t → Steps p.tables e below (s₁.setTop (entryFrame m #[(.int i1), (.int i2), (.int i3)] maxLocals)) t := by
    intro t k
    refine pre65 _ ?_
    show Steps p.tables e below (T65.setTop (mkF m 140 #[.val (.int i1), .val (.int i2), .val (.int i3), .val (.int nn), .val (.int qq), .val (.int s0), .val (.int s1), .val (.int s2), .val (.int s3), .val (.ref b3), .val (.ref b25), .val (.ref b47), .unset, .unset, .unset] [v65, (.int (1 : Int32)), (.ref b47)])) _
    refine st77 _ ?_
    show Steps p.tables e below (T77.setTop (mkF m 141 #[.val (.int i1), .val (.int i2), .val (.int i3), .val (.int nn), .val (.int qq), .val (.int s0), .val (.int s1), .val (.int s2), .val (.int s3), .val (.ref b3), .val (.ref b25), .val (.ref b47), .unset, .unset, .unset] [])) _
    refine XS.aload X77.here hx rfl (hb hby at_141) rfl rfl ?_
    refine XS.iconst X77.here hx rfl (hb hby at_143) ?_
    show Steps p.tables e below (T77.setTop (mkF m 144 #[.val (.int i1), .val (.int i2), .val (.int i3), .val (.int nn), .val (.int qq), .val (.int s0), .val (.int s1), .val (.int s2), .val (.int s3), .val (.ref b3), .val (.ref b25), .val (.ref b47), .unset, .unset, .unset] [(.int (2 : Int32)), (.ref b47)])) _
    refine XS.iloadN X77.here hx rfl (hb hby at_144) rfl ?_
    refine XS.iconst X77.here hx rfl (hb hby at_145) ?_
    show Steps p.tables e below (T77.setTop (mkF m 146 #[.val (.int i1), .val (.int i2), .val (.int i3), .val (.int nn), .val (.int qq), .val (.int s0), .val (.int s1), .val (.int s2), .val (.int s3), .val (.ref b3), .val (.ref b25), .val (.ref b47), .unset, .unset, .unset] [(.int (4 : Int32)), (.int i3), (.int (2 : Int32)), (.ref b47)])) _
    refine XS.iand X77.here hx rfl (hb hby at_146) rfl ?_
    exact k
  obtain ⟨T80, Lq80, h80, v80, X80, N80, e80, S80, hZ, hown, Kq80, hr80, st80, pre80⟩ : ∃ (T' : State) (locs' : List Loc) (h' : Heap) (v80 : Value), Stand p l e room_1 (s.setVm T'.vm) m #[(.int i1), (.int i2), (.int i3)] below meth c T' locs' 23 68 ∧ Fr n0 locs' ∧ T'.heap = h' ∧ s.Since T'.vm T'.heap.size ∧ Z.Warmed39 (s.setVm T'.vm).vm ∧ (s.setVm T'.vm).vm.findClass "com/example/fetchwright/fetchwright/service/LoadsInProgressInnermostPinLaw" = some m.cls ∧ Keep h77 h' [] ∧ v80.isRef = true ∧ Sto Z h' b47 v80 ∧ ∀ t, Steps p.tables e below (T'.setTop (mkF m 157 #[.val (.int i1), .val (.int i2), .val (.int i3), .val (.int nn), .val (.int qq), .val (.int s0), .val (.int s1), .val (.int s2), .val (.int s3), .val (.ref b3), .val (.ref b25), .val (.ref b47), .unset, .unset, .unset] [v80, (.int (2 : Int32)), (.ref b47)])) t → Steps p.tables e below (s₁.setTop (entryFrame m #[(.int i1), (.int i2), (.int i3)] maxLocals)) t := by
    by_cases hc147_81 : (i3 &&& (4 : Int32)) = (0 : Int32)
    · obtain ⟨_, _, ⟨T82, L82, k82, n82⟩, -, X82, Sq82, Gq82, ⟨Lc82, hQ82, l82, y82, z82⟩, st82⟩ := callSS X77 hx (y := own_y9) hown (mvT hZ (hw _ (List.mem_of_getElem? (i := 6) rfl))) (mvT hZ (hw _ (List.mem_of_getElem? (i := 7) rfl))) (mvT hZ (hw _ (List.mem_of_getElem? (i := 8) rfl))) (mvT hZ (hw _ (List.mem_of_getElem? (i := 9) rfl))) (by decide) (backOfS (W := 2) (rm1 l Z a0 hw []  h77 n0 (Nat.le_trans Z0 K78.1) ) hZ (hw _ (List.mem_of_getElem? (i := 9) rfl)) (hw _ (List.mem_of_getElem? (i := 8) rfl)) (by decide) (by decide)) (g := (mkF m 154 #[.val (.int i1), .val (.int i2), .val (.int i3), .val (.int nn), .val (.int qq), .val (.int s0), .val (.int s1), .val (.int s2), .val (.int s3), .val (.ref b3), .val (.ref b25), .val (.ref b47), .unset, .unset, .unset] [(.int (2 : Int32)), (.ref b47)])) rfl (by rw [hml]; rfl) (argsL := []) (rest := [(.int (2 : Int32)), (.ref b47)]) (lenOf pd_3 rfl) rfl (by show 2 * 0 + _ ≤ _; exact Nat.le_of_eq rfl) (hb hby at_154) (fun _ _ => ⟨rfl, e77, (by decide : 19 + 4 ≤ _), (by decide : 52 + 16 ≤ _)⟩)
      dsimp only [Pt.U, Pt.locs, Pt.cells, Pt.slots] at X82 l82 y82 z82 st82 hQ82 Sq82 Gq82
      subst l82 y82 z82
      have S82 : s.Since T82.vm T82.heap.size := foldS (T := T77) S65 (by rw [e77]; exact (Nat.le_trans (Nat.le_of_eq (congrArg Array.size e65)) (Keep.of_wr W77).1)) Sq82 Gq82
      have hZ : Z.Warmed39 (s.setVm T82.vm).vm := State.Warmed39.trans (t := (s.setVm T65.vm)) hZ Sq82.1
      have hown : (s.setVm T82.vm).vm.findClass "com/example/fetchwright/fetchwright/service/LoadsInProgressInnermostPinLaw" = some m.cls := by rw [show (s.setVm T82.vm).vm = T82.vm from rfl, Sq82.1.alike.findClass]; exact hown
      have X82 : Stand p l e room_1 (s.setVm T82.vm) m #[(.int i1), (.int i2), (.int i3)] below meth c T82 _ _ _ := X82
      obtain ⟨b82_0, rfl, Nq82, Kq82, sq82_0, f82_0, f82_1, f82_2, f82_3⟩ := hQ82
      have sz_b82_0 : h0.size ≤ b82_0 := Nat.le_trans K78.1 sq82_0
      have K83 : Keep h0 T82.heap [] := K78.trans Kq82 all0
      have N82 := Fr.app N77 Nq82
      have pre84 : ∀ t, Steps p.tables e below (T82.setTop (mkF m 157 #[.val (.int i1), .val (.int i2), .val (.int i3), .val (.int nn), .val (.int qq), .val (.int s0), .val (.int s1), .val (.int s2), .val (.int s3), .val (.ref b3), .val (.ref b25), .val (.ref b47), .unset, .unset, .unset] [(.ref b82_0), (.int (2 : Int32)), (.ref b47)])) t → Steps p.tables e below (s₁.setTop (entryFrame m #[(.int i1), (.int i2), (.int i3)] maxLocals)) t := by
        intro t k
        refine pre79 _ ?_
        show Steps p.tables e below (T77.setTop (mkF m 147 #[.val (.int i1), .val (.int i2), .val (.int i3), .val (.int nn), .val (.int qq), .val (.int s0), .val (.int s1), .val (.int s2), .val (.int s3), .val (.ref b3), .val (.ref b25), .val (.ref b47), .unset, .unset, .unset] [(.int (i3 &&& (4 : Int32))), (.int (2 : Int32)), (.ref b47)])) _
        refine XS.ifYes X77.here hx rfl (pc0 := 147) (pc' := 154) rfl (hb hby at_147) rfl ((if0 _ _).trans (teq hc147_81).1) (by decide) (by decide) ?_
        show Steps p.tables e below (T77.setTop (mkF m 154 #[.val (.int i1), .val (.int i2), .val (.int i3), .val (.int nn), .val (.int qq), .val (.int s0), .val (.int s1), .val (.int s2), .val (.int s3), .val (.ref b3), .val (.ref b25), .val (.ref b47), .unset, .unset, .unset] [(.int (2 : Int32)), (.ref b47)])) _
        refine st82.trans ?_
        exact k
      have f85 := (V77.keep Kq82 nin0)
      obtain ⟨cl86, Ar86, Cq86, -, -, -, -⟩ := id f85
      have Xr87 : Stand p l e room_1 (s.setVm T82.vm) m #[(.int i1), (.int i2), (.int i3)] below meth c T82 _ _ _ := X82.retabled X82.warmed.wide
      have Sr87 : s.Since T82.vm T82.heap.size := foldS (T := T82) S82 (Nat.le_trans (Nat.le_refl _) (Nat.le_refl _)) (X82.warmed.since _) (Nat.le_refl _)
      have Zr87 : Z.Warmed39 (s.setVm T82.vm).vm := State.Warmed39.trans (t := (s.setVm T82.vm)) hZ X82.warmed.wide
      have Or87 : (s.setVm T82.vm).vm.findClass "com/example/fetchwright/fetchwright/service/LoadsInProgressInnermostPinLaw" = some m.cls := by rw [show (s.setVm T82.vm).vm = T82.vm from rfl, X82.warmed.wide.alike.findClass]; exact hown
      exact ⟨T82, _, _, (.ref b82_0), Xr87, N82, rfl, Sr87, Zr87, Or87, ((Keep.refl _ []).trans Kq82 all0), rfl, (Sto.ofV Ar86 Cq86 O47 (Ins.self f82_0)), pre84⟩
    · have pre88 : ∀ t, Steps p.tables e below (T77.setTop (mkF m 157 #[.val (.int i1), .val (.int i2), .val (.int i3), .val (.int nn), .val (.int qq), .val (.int s0), .val (.int s1), .val (.int s2), .val (.int s3), .val (.ref b3), .val (.ref b25), .val (.ref b47), .unset, .unset, .unset] [.null, (.int (2 : Int32)), (.ref b47)])) t → Steps p.tables e below (s₁.setTop (entryFrame m #[(.int i1), (.int i2), (.int i3)] maxLocals)) t := by
        intro t k
        refine pre79 _ ?_
        show Steps p.tables e below (T77.setTop (mkF m 147 #[.val (.int i1), .val (.int i2), .val (.int i3), .val (.int nn), .val (.int qq), .val (.int s0), .val (.int s1), .val (.int s2), .val (.int s3), .val (.ref b3), .val (.ref b25), .val (.ref b47), .unset, .unset, .unset] [(.int (i3 &&& (4 : Int32))), (.int (2 : Int32)), (.ref b47)])) _
        refine XS.ifNo X77.here hx rfl (hb hby at_147) rfl ((if0 _ _).trans (feq hc147_81).1) ?_
        refine XS.aconstNull X77.here hx rfl (hb hby at_150) ?_
        show Steps p.tables e below (T77.setTop (mkF m 151 #[.val (.int i1), .val (.int i2), .val (.int i3), .val (.int nn), .val (.int qq), .val (.int s0), .val (.int s1), .val (.int s2), .val (.int s3), .val (.ref b3), .val (.ref b25), .val (.ref b47), .unset, .unset, .unset] [.null, (.int (2 : Int32)), (.ref b47)])) _
        refine XS.goto X77.here hx rfl (pc0 := 151) (pc' := 157) rfl (hb hby at_151) (by decide) (by decide) ?_
        exact k
      have Xr89 : Stand p l e room_1 (s.setVm T77.vm) m #[(.int i1), (.int i2), (.int i3)] below meth c T77 _ _ _ := X77.retabled X77.warmed.wide
      have Sr89 : s.Since T77.vm T77.heap.size := foldS (T := T77) S65 (by rw [e77]; exact (Nat.le_trans (Nat.le_of_eq (congrArg Array.size e65)) (Keep.of_wr W77).1)) (X77.warmed.since _) (Nat.le_refl _)
      have Zr89 : Z.Warmed39 (s.setVm T77.vm).vm := State.Warmed39.trans (t := (s.setVm T65.vm)) hZ X77.warmed.wide
      have Or89 : (s.setVm T77.vm).vm.findClass "com/example/fetchwright/fetchwright/service/LoadsInProgressInnermostPinLaw" = some m.cls := by rw [show (s.setVm T77.vm).vm = T77.vm from rfl, X77.warmed.wide.alike.findClass]; exact hown
      exact ⟨T77, _, _, .null, (Xr89.more (by decide) (by decide)), N77, e77, Sr89, Zr89, Or89, (Keep.refl _ _), rfl, (Or.inl rfl), pre88⟩
  have K90 : Keep h0 h80 [] := K78.trans Kq80 all0
  have f91 := (V77.keep Kq80 nin0)
  obtain ⟨cl92, Ar92, Cq92, Sz92, Nn92, Hh92, Gg92⟩ := id f91
  have hin92 : ¬ ((2 : Int32) < 0 ∨ cl92.slots.size ≤ ((2 : Int32)).toNatClampNeg) := inb_of Sz92 ⟨by decide, by decide⟩
  obtain ⟨T92, h92, X92, e92, W92, st92⟩ := stR X80 hx hZ e80 Ar92 (j := (2 : Int32)) hin92 rfl st80 (g := (mkF m 157 #[.val (.int i1), .val (.int i2), .val (.int i3), .val (.int nn), .val (.int qq), .val (.int s0), .val (.int s1), .val (.int s2), .val (.int s3), .val (.ref b3), .val (.ref b25), .val (.ref b47), .unset, .unset, .unset] [v80, (.int (2 : Int32)), (.ref b47)])) rfl rfl (hb hby at_157)
  have V92 : Arv Z h92 b47 k47 (.object "com/example/fetchwright/fetchwright/service/SecondaryLoad") (4 : Int32) [v50, v65, v80, .null] .null := Arv.set Ar92 Cq92 Sz92 Nn92 Hh92 Gg92 (own_fitU hr80) W92 2 rfl (Nat.le_of_ble_eq_true rfl)
  have N92 := Fr.snoc X92 N80 (Nat.le_trans Z0 sz_b47)
  have K93 : Keep h0 h92 [] := K90.wr W92 (Or.inr sz_b47)
  have pre94 : ∀ t, Steps p.tables e below (T92.setTop (mkF m 165 #[.val (.int i1), .val (.int i2), .val (.int i3), .val (.int nn), .val (.int qq), .val (.int s0), .val (.int s1), .val (.int s2), .val (.int s3), .val (.ref b3), .val (.ref b25), .val (.ref b47), .unset, .unset, .unset] [(.int (i3 &&& (8 : Int32))), (.int (3 : Int32)), (.ref b47)])) t → Steps p.tables e below (s₁.setTop (entryFrame m #[(.int i1), (.int i2), (.int i3)] maxLocals)) t := by
    intro t k
    refine pre80 _ ?_
    show Steps p.tables e below (T80.setTop (mkF m 157 #[.val (.int i1), .val (.int i2), .val (.int i3), .val (.int nn), .val (.int qq), .val (.int s0), .val (.int s1), .val (.int s2), .val (.int s3), .val (.ref b3), .val (.ref b25), .val (.ref b47), .unset, .unset, .unset] [v80, (.int (2 : Int32)), (.ref b47)])) _
    refine st92 _ ?_
    show Steps p.tables e below (T92.setTop (mkF m 158 #[.val (.int i1), .val (.int i2), .val (.int i3), .val (.int nn), .val (.int qq), .val (.int s0), .val (.int s1), .val (.int s2), .val (.int s3), .val (.ref b3), .val (.ref b25), .val (.ref b47), .unset, .unset, .unset] [])) _
    refine XS.aload X92.here hx rfl (hb hby at_158) rfl rfl ?_
    refine XS.iconst X92.here hx rfl (hb hby at_160) ?_
    show Steps p.tables e below (T92.setTop (mkF m 161 #[.val (.int i1), .val (.int i2), .val (.int i3), .val (.int nn), .val (.int qq), .val (.int s0), .val (.int s1), .val (.int s2), .val (.int s3), .val (.ref b3), .val (.ref b25), .val (.ref b47), .unset, .unset, .unset] [(.int (3 : Int32)), (.ref b47)])) _
    refine XS.iloadN X92.here hx rfl (hb hby at_161) rfl ?_
    refine XS.bipush X92.here hx rfl (hb hby at_162) ?_
    show Steps p.tables e below (T92.setTop (mkF m 164 #[.val (.int i1), .val (.int i2), .val (.int i3), .val (.int nn), .val (.int qq), .val (.int s0), .val (.int s1), .val (.int s2), .val (.int s3), .val (.ref b3), .val (.ref b25), .val (.ref b47), .unset, .unset, .unset] [(.int (8 : Int32)), (.int i3), (.int (3 : Int32)), (.ref b47)])) _
    refine XS.iand X92.here hx rfl (hb hby at_164) rfl ?_
    exact k
  obtain ⟨T95, Lq95, h95, v95, X95, N95, e95, S95, hZ, hown, Kq95, hr95, st95, pre95⟩ : ∃ (T' : State) (locs' : List Loc) (h' : Heap) (v95 : Value), Stand p l e room_1 (s.setVm T'.vm) m #[(.int i1), (.int i2), (.int i3)] below meth c T' locs' 27 84 ∧ Fr n0 locs' ∧ T'.heap = h' ∧ s.Since T'.vm T'.heap.size ∧ Z.Warmed39 (s.setVm T'.vm).vm ∧ (s.setVm T'.vm).vm.findClass "com/example/fetchwright/fetchwright/service/LoadsInProgressInnermostPinLaw" = some m.cls ∧ Keep h92 h' [] ∧ v95.isRef = true ∧ Sto Z h' b47 v95 ∧ ∀ t, Steps p.tables e below (T'.setTop (mkF m 175 #[.val (.int i1), .val (.int i2), .val (.int i3), .val (.int nn), .val (.int qq), .val (.int s0), .val (.int s1), .val (.int s2), .val (.int s3), .val (.ref b3), .val (.ref b25), .val (.ref b47), .unset, .unset, .unset] [v95, (.int (3 : Int32)), (.ref b47)])) t → Steps p.tables e below (s₁.setTop (entryFrame m #[(.int i1), (.int i2), (.int i3)] maxLocals)) t := by
    by_cases hc165_96 : (i3 &&& (8 : Int32)) = (0 : Int32)
    · obtain ⟨_, _, ⟨T97, L97, k97, n97⟩, -, X97, Sq97, Gq97, ⟨Lc97, hQ97, l97, y97, z97⟩, st97⟩ := callSS X92 hx (y := own_y9) hown (mvT hZ (hw _ (List.mem_of_getElem? (i := 6) rfl))) (mvT hZ (hw _ (List.mem_of_getElem? (i := 7) rfl))) (mvT hZ (hw _ (List.mem_of_getElem? (i := 8) rfl))) (mvT hZ (hw _ (List.mem_of_getElem? (i := 9) rfl))) (by decide) (backOfS (W := 2) (rm1 l Z a0 hw []  h92 n0 (Nat.le_trans Z0 K93.1) ) hZ (hw _ (List.mem_of_getElem? (i := 9) rfl)) (hw _ (List.mem_of_getElem? (i := 8) rfl)) (by decide) (by decide)) (g := (mkF m 172 #[.val (.int i1), .val (.int i2), .val (.int i3), .val (.int nn), .val (.int qq), .val (.int s0), .val (.int s1), .val (.int s2), .val (.int s3), .val (.ref b3), .val (.ref b25), .val (.ref b47), .unset, .unset, .unset] [(.int (3 : Int32)), (.ref b47)])) rfl (by rw [hml]; rfl) (argsL := []) (rest := [(.int (3 : Int32)), (.ref b47)]) (lenOf pd_3 rfl) rfl (by show 2 * 0 + _ ≤ _; exact Nat.le_of_eq rfl) (hb hby at_172) (fun _ _ => ⟨rfl, e92, (by decide : 23 + 4 ≤ _), (by decide : 68 + 16 ≤ _)⟩)
      dsimp only [Pt.U, Pt.locs, Pt.cells, Pt.slots] at X97 l97 y97 z97 st97 hQ97 Sq97 Gq97
      subst l97 y97 z97
      have S97 : s.Since T97.vm T97.heap.size := foldS (T := T92) S80 (by rw [e92]; exact (Nat.le_trans (Nat.le_of_eq (congrArg Array.size e80)) (Keep.of_wr W92).1)) Sq97 Gq97
      have hZ : Z.Warmed39 (s.setVm T97.vm).vm := State.Warmed39.trans (t := (s.setVm T80.vm)) hZ Sq97.1
      have hown : (s.setVm T97.vm).vm.findClass "com/example/fetchwright/fetchwright/service/LoadsInProgressInnermostPinLaw" = some m.cls := by rw [show (s.setVm T97.vm).vm = T97.vm from rfl, Sq97.1.alike.findClass]; exact hown
      have X97 : Stand p l e room_1 (s.setVm T97.vm) m #[(.int i1), (.int i2), (.int i3)] below meth c T97 _ _ _ := X97
      obtain ⟨b97_0, rfl, Nq97, Kq97, sq97_0, f97_0, f97_1, f97_2, f97_3⟩ := hQ97
      have sz_b97_0 : h0.size ≤ b97_0 := Nat.le_trans K93.1 sq97_0
      have K98 : Keep h0 T97.heap [] := K93.trans Kq97 all0
      have N97 := Fr.app N92 Nq97
      have pre99 : ∀ t, Steps p.tables e below (T97.setTop (mkF m 175 #[.val (.int i1), .val (.int i2), .val (.int i3), .val (.int nn), .val (.int qq), .val (.int s0), .val (.int s1), .val (.int s2), .val (.int s3), .val (.ref b3), .val (.ref b25), .val (.ref b47), .unset, .unset, .unset] [(.ref b97_0), (.int (3 : Int32)), (.ref b47)])) t → Steps p.tables e below (s₁.setTop (entryFrame m #[(.int i1), (.int i2), (.int i3)] maxLocals)) t := by
        intro t k
        refine pre94 _ ?_
        show Steps p.tables e below (T92.setTop (mkF m 165 #[.val (.int i1), .val (.int i2), .val (.int i3), .val (.int nn), .val (.int qq), .val (.int s0), .val (.int s1), .val (.int s2), .val (.int s3), .val (.ref b3), .val (.ref b25), .val (.ref b47), .unset, .unset, .unset] [(.int (i3 &&& (8 : Int32))), (.int (3 : Int32)), (.ref b47)])) _
        refine XS.ifYes X92.here hx rfl (pc0 := 165) (pc' := 172) rfl (hb hby at_165) rfl ((if0 _ _).trans (teq hc165_96).1) (by decide) (by decide) ?_
        show Steps p.tables e below (T92.setTop (mkF m 172 #[.val (.int i1), .val (.int i2), .val (.int i3), .val (.int nn), .val (.int qq), .val (.int s0), .val (.int s1), .val (.int s2), .val (.int s3), .val (.ref b3), .val (.ref b25), .val (.ref b47), .unset, .unset, .unset] [(.int (3 : Int32)), (.ref b47)])) _
        refine st97.trans ?_
        exact k
      have f100 := (V92.keep Kq97 nin0)
      obtain ⟨cl101, Ar101, Cq101, -, -, -, -⟩ := id f100
      have Xr102 : Stand p l e room_1 (s.setVm T97.vm) m #[(.int i1), (.int i2), (.int i3)] below meth c T97 _ _ _ := X97.retabled X97.warmed.wide
      have Sr102 : s.Since T97.vm T97.heap.size := foldS (T := T97) S97 (Nat.le_trans (Nat.le_refl _) (Nat.le_refl _)) (X97.warmed.since _) (Nat.le_refl _)
      have Zr102 : Z.Warmed39 (s.setVm T97.vm).vm := State.Warmed39.trans (t := (s.setVm T97.vm)) hZ X97.warmed.wide
      have Or102 : (s.setVm T97.vm).vm.findClass "com/example/fetchwright/fetchwright/service/LoadsInProgressInnermostPinLaw" = some m.cls := by rw [show (s.setVm T97.vm).vm = T97.vm from rfl, X97.warmed.wide.alike.findClass]; exact hown
      exact ⟨T97, _, _, (.ref b97_0), Xr102, N97, rfl, Sr102, Zr102, Or102, ((Keep.refl _ []).trans Kq97 all0), rfl, (Sto.ofV Ar101 Cq101 O47 (Ins.self f97_0)), pre99⟩
    · have pre103 : ∀ t, Steps p.tables e below (T92.setTop (mkF m 175 #[.val (.int i1), .val (.int i2), .val (.int i3), .val (.int nn), .val (.int qq), .val (.int s0), .val (.int s1), .val (.int s2), .val (.int s3), .val (.ref b3), .val (.ref b25), .val (.ref b47), .unset, .unset, .unset] [.null, (.int (3 : Int32)), (.ref b47)])) t → Steps p.tables e below (s₁.setTop (entryFrame m #[(.int i1), (.int i2), (.int i3)] maxLocals)) t := by
        intro t k
        refine pre94 _ ?_
        show Steps p.tables e below (T92.setTop (mkF m 165 #[.val (.int i1), .val (.int i2), .val (.int i3), .val (.int nn), .val (.int qq), .val (.int s0), .val (.int s1), .val (.int s2), .val (.int s3), .val (.ref b3), .val (.ref b25), .val (.ref b47), .unset, .unset, .unset] [(.int (i3 &&& (8 : Int32))), (.int (3 : Int32)), (.ref b47)])) _
        refine XS.ifNo X92.here hx rfl (hb hby at_165) rfl ((if0 _ _).trans (feq hc165_96).1) ?_
        refine XS.aconstNull X92.here hx rfl (hb hby at_168) ?_
        show Steps p.tables e below (T92.setTop (mkF m 169 #[.val (.int i1), .val (.int i2), .val (.int i3), .val (.int nn), .val (.int qq), .val (.int s0), .val (.int s1), .val (.int s2), .val (.int s3), .val (.ref b3), .val (.ref b25), .val (.ref b47), .unset, .unset, .unset] [.null, (.int (3 : Int32)), (.ref b47)])) _
        refine XS.goto X92.here hx rfl (pc0 := 169) (pc' := 175) rfl (hb hby at_169) (by decide) (by decide) ?_
        exact k
      have Xr104 : Stand p l e room_1 (s.setVm T92.vm) m #[(.int i1), (.int i2), (.int i3)] below meth c T92 _ _ _ := X92.retabled X92.warmed.wide
      have Sr104 : s.Since T92.vm T92.heap.size := foldS (T := T92) S80 (by rw [e92]; exact (Nat.le_trans (Nat.le_of_eq (congrArg Array.size e80)) (Keep.of_wr W92).1)) (X92.warmed.since _) (Nat.le_refl _)
      have Zr104 : Z.Warmed39 (s.setVm T92.vm).vm := State.Warmed39.trans (t := (s.setVm T80.vm)) hZ X92.warmed.wide
      have Or104 : (s.setVm T92.vm).vm.findClass "com/example/fetchwright/fetchwright/service/LoadsInProgressInnermostPinLaw" = some m.cls := by rw [show (s.setVm T92.vm).vm = T92.vm from rfl, X92.warmed.wide.alike.findClass]; exact hown
      exact ⟨T92, _, _, .null, (Xr104.more (by decide) (by decide)), N92, e92, Sr104, Zr104, Or104, (Keep.refl _ _), rfl, (Or.inl rfl), pre103⟩
  have K105 : Keep h0 h95 [] := K93.trans Kq95 all0
  have f106 := (V92.keep Kq95 nin0)
  obtain ⟨cl107, Ar107, Cq107, Sz107, Nn107, Hh107, Gg107⟩ := id f106
  have hin107 : ¬ ((3 : Int32) < 0 ∨ cl107.slots.size ≤ ((3 : Int32)).toNatClampNeg) := inb_of Sz107 ⟨by decide, by decide⟩
  obtain ⟨T107, h107, X107, e107, W107, st107⟩ := stR X95 hx hZ e95 Ar107 (j := (3 : Int32)) hin107 rfl st95 (g := (mkF m 175 #[.val (.int i1), .val (.int i2), .val (.int i3), .val (.int nn), .val (.int qq), .val (.int s0), .val (.int s1), .val (.int s2), .val (.int s3), .val (.ref b3), .val (.ref b25), .val (.ref b47), .unset, .unset, .unset] [v95, (.int (3 : Int32)), (.ref b47)])) rfl rfl (hb hby at_175)
  have V107 : Arv Z h107 b47 k47 (.object "com/example/fetchwright/fetchwright/service/SecondaryLoad") (4 : Int32) [v50, v65, v80, v95] .null := Arv.set Ar107 Cq107 Sz107 Nn107 Hh107 Gg107 (own_fitU hr95) W107 3 rfl (Nat.le_of_ble_eq_true rfl)
  have N107 := Fr.snoc X107 N95 (Nat.le_trans Z0 sz_b47)
  have K108 : Keep h0 h107 [] := K105.wr W107 (Or.inr sz_b47)
  obtain ⟨T109, h109, X109, e109, E109, A109, D109, -, st109⟩ := newO X107 hx hZ hown (hw _ (List.mem_of_getElem? (i := 51) rfl)) (hw _ (List.mem_of_getElem? (i := 52) rfl)) (hw _ (List.mem_of_getElem? (i := 53) rfl)) e107 (g := (mkF m 176 #[.val (.int i1), .val (.int i2), .val (.int i3), .val (.int nn), .val (.int qq), .val (.int s0), .val (.int s1), .val (.int s2), .val (.int s3), .val (.ref b3), .val (.ref b25), .val (.ref b47), .unset, .unset, .unset] [])) rfl (hb hby at_176) (by decide) (by decide)
  obtain ⟨b109, g109⟩ : ∃ z, z = h107.size := ⟨_, rfl⟩
  rw [← g109] at A109 D109 st109
  have sz_b109 : h0.size ≤ b109 := Nat.le_trans K108.1 (Nat.le_of_eq g109.symm)
  have K110 : Keep h0 h109 [] := K108.ext E109
  have Floads_109 : Fld Z h109 b109 "com/example/fetchwright/fetchwright/service/LoadsInProgress" "loads" "Ljava/util/ArrayList;" .null := D109 (Or.inr (hw _ (List.mem_of_getElem? (i := 83) rfl))) (ty := (.object "java/util/ArrayList")) (by decide)
  have f111 := ((((((((((((((((((((((((((((O_.ext E3).ext E5).wr W8 (Nat.le_trans Z0 sz_b3)).ext E10).wr W13 (Nat.le_trans Z0 sz_b3)).ext E15).wr W18 (Nat.le_trans Z0 sz_b3)).ext E20).wr W23 (Nat.le_trans Z0 sz_b3)).ext E25).ext E27).wr W30 (Nat.le_trans Z0 sz_b25)).ext E32).wr W35 (Nat.le_trans Z0 sz_b25)).ext E37).wr W40 (Nat.le_trans Z0 sz_b25)).ext E42).wr W45 (Nat.le_trans Z0 sz_b25)).ext E47).keep Kq50 all0).wr W62 (Nat.le_trans Z0 sz_b47)).keep Kq65 all0).wr W77 (Nat.le_trans Z0 sz_b47)).keep Kq80 all0).wr W92 (Nat.le_trans Z0 sz_b47)).keep Kq95 all0).wr W107 (Nat.le_trans Z0 sz_b47)).ext E109)
  obtain ⟨_, _, ⟨T112, L112, k112, n112⟩, -, X112, ⟨Lc112, hQ112, l112, y112, z112⟩, st112⟩ := X109.specialBack hx (y := (⟨"com/example/fetchwright/fetchwright/service/LoadsInProgress", "<init>", "()V"⟩ : MethodName)) rfl hown (mvT hZ (hw _ (List.mem_of_getElem? (i := 54) rfl))) (mvT hZ (hw _ (List.mem_of_getElem? (i := 55) rfl))) (mvT hZ (hw _ (List.mem_of_getElem? (i := 56) rfl))) (by decide) (backOf (W := 1) (rm6 l Z a0 hw [] b109 y5 (.null) h109 n0 (Nat.le_trans Z0 K110.1) y33 f111 A109 Floads_109 (Nat.le_trans Z0 sz_b109)) hZ (hw _ (List.mem_of_getElem? (i := 56) rfl)) (hw _ (List.mem_of_getElem? (i := 53) rfl)) (by decide) (by decide)) (g := (mkF m 180 #[.val (.int i1), .val (.int i2), .val (.int i3), .val (.int nn), .val (.int qq), .val (.int s0), .val (.int s1), .val (.int s2), .val (.int s3), .val (.ref b3), .val (.ref b25), .val (.ref b47), .unset, .unset, .unset] [(.ref b109), (.ref b109)])) rfl (by rw [hml]; rfl) (Steps.refl _) (a := b109) (argsL := []) (rest := [(.ref b109)]) (lenOf pd_0 rfl) rfl (by show 2 * 0 + _ ≤ _; exact Nat.le_of_eq rfl) (hb hby at_180) (fun _ _ => ⟨rfl, e109, (by decide : 28 + 1 ≤ _), (by decide : 85 + 3 ≤ _)⟩)
  dsimp only [Pt.U, Pt.locs, Pt.cells, Pt.slots] at X112 l112 y112 z112 st112 hQ112
  subst l112 y112 z112
  obtain ⟨b112_0, rfl, Nq112, Kq112, sq112_0, f112_0, f112_1, f112_2, f112_3, f112_4, f112_5⟩ := hQ112
  have sz_b112_0 : h0.size ≤ b112_0 := Nat.le_trans K110.1 sq112_0
  have K113 : Keep h0 T112.heap [] := K110.trans Kq112 (allS (Or.inr sz_b109) all0)
  have N112 := Fr.app N107 Nq112
  have pre114 : ∀ t, Steps p.tables e below (T112.setTop (mkF m 185 #[.val (.int i1), .val (.int i2), .val (.int i3), .val (.int nn), .val (.int qq), .val (.int s0), .val (.int s1), .val (.int s2), .val (.int s3), .val (.ref b3), .val (.ref b25), .val (.ref b47), .val (.ref b109), .unset, .unset] [])) t → Steps p.tables e below (s₁.setTop (entryFrame m #[(.int i1), (.int i2), (.int i3)] maxLocals)) t := by
    intro t k
    refine pre95 _ ?_
    show Steps p.tables e below (T95.setTop (mkF m 175 #[.val (.int i1), .val (.int i2), .val (.int i3), .val (.int nn), .val (.int qq), .val (.int s0), .val (.int s1), .val (.int s2), .val (.int s3), .val (.ref b3), .val (.ref b25), .val (.ref b47), .unset, .unset, .unset] [v95, (.int (3 : Int32)), (.ref b47)])) _
    refine st107 _ ?_
    show Steps p.tables e below (T107.setTop (mkF m 176 #[.val (.int i1), .val (.int i2), .val (.int i3), .val (.int nn), .val (.int qq), .val (.int s0), .val (.int s1), .val (.int s2), .val (.int s3), .val (.ref b3), .val (.ref b25), .val (.ref b47), .unset, .unset, .unset] [])) _
    refine st109 _ ?_
    show Steps p.tables e below (T109.setTop (mkF m 179 #[.val (.int i1), .val (.int i2), .val (.int i3), .val (.int nn), .val (.int qq), .val (.int s0), .val (.int s1), .val (.int s2), .val (.int s3), .val (.ref b3), .val (.ref b25), .val (.ref b47), .unset, .unset, .unset] [(.ref b109)])) _
    refine XS.dup X109.here hx rfl (hb hby at_179) rfl rfl ?_
    show Steps p.tables e below (T109.setTop (mkF m 180 #[.val (.int i1), .val (.int i2), .val (.int i3), .val (.int nn), .val (.int qq), .val (.int s0), .val (.int s1), .val (.int s2), .val (.int s3), .val (.ref b3), .val (.ref b25), .val (.ref b47), .unset, .unset, .unset] [(.ref b109), (.ref b109)])) _
    refine st112.trans ?_
    show Steps p.tables e below (T112.setTop (mkF m 183 #[.val (.int i1), .val (.int i2), .val (.int i3), .val (.int nn), .val (.int qq), .val (.int s0), .val (.int s1), .val (.int s2), .val (.int s3), .val (.ref b3), .val (.ref b25), .val (.ref b47), .unset, .unset, .unset] [(.ref b109)])) _
    refine XS.astore X112.here hx rfl (hb hby at_183) rfl rfl (l' := #[.val (.int i1), .val (.int i2), .val (.int i3), .val (.int nn), .val (.int qq), .val (.int s0), .val (.int s1), .val (.int s2), .val (.int s3), .val (.ref b3), .val (.ref b25), .val (.ref b47), .val (.ref b109), .unset, .unset]) rfl ?_
    exact k
  rcases (dn : nn = (0 : Int32) ∨ nn = (1 : Int32) ∨ nn = (2 : Int32) ∨ nn = (3 : Int32) ∨ nn = (4 : Int32)) with hk115 | hk115 | hk115 | hk115 | hk115
  · have pre116 : ∀ t, Steps p.tables e below (T112.setTop (mkF m 185 #[.val (.int i1), .val (.int i2), .val (.int i3), .val (.int (0 : Int32)), .val (.int qq), .val (.int s0), .val (.int s1), .val (.int s2), .val (.int s3), .val (.ref b3), .val (.ref b25), .val (.ref b47), .val (.ref b109), .unset, .unset] [])) t → Steps p.tables e below (s₁.setTop (entryFrame m #[(.int i1), (.int i2), (.int i3)] maxLocals)) t := fun t k => pre114 t (by rw [hk115]; exact k)
    have f117 := ((((((((((((((((((((V23.ext E25).ext E27).other W30 (Nat.ne_of_lt (Nat.lt_of_lt_of_le V3.lt (Nat.le_trans (Nat.le_trans (Nat.le_trans (Nat.le_trans (Nat.le_trans (Nat.le_trans (Nat.le_trans (Nat.le_trans E5.1 (Keep.of_wr W8).1) E10.1) (Keep.of_wr W13).1) E15.1) (Keep.of_wr W18).1) E20.1) (Keep.of_wr W23).1) (Nat.le_of_eq g25.symm))))).ext E32).other W35 (Nat.ne_of_lt (Nat.lt_of_lt_of_le V3.lt (Nat.le_trans (Nat.le_trans (Nat.le_trans (Nat.le_trans (Nat.le_trans (Nat.le_trans (Nat.le_trans (Nat.le_trans E5.1 (Keep.of_wr W8).1) E10.1) (Keep.of_wr W13).1) E15.1) (Keep.of_wr W18).1) E20.1) (Keep.of_wr W23).1) (Nat.le_of_eq g25.symm))))).ext E37).other W40 (Nat.ne_of_lt (Nat.lt_of_lt_of_le V3.lt (Nat.le_trans (Nat.le_trans (Nat.le_trans (Nat.le_trans (Nat.le_trans (Nat.le_trans (Nat.le_trans (Nat.le_trans E5.1 (Keep.of_wr W8).1) E10.1) (Keep.of_wr W13).1) E15.1) (Keep.of_wr W18).1) E20.1) (Keep.of_wr W23).1) (Nat.le_of_eq g25.symm))))).ext E42).other W45 (Nat.ne_of_lt (Nat.lt_of_lt_of_le V3.lt (Nat.le_trans (Nat.le_trans (Nat.le_trans (Nat.le_trans (Nat.le_trans (Nat.le_trans (Nat.le_trans (Nat.le_trans E5.1 (Keep.of_wr W8).1) E10.1) (Keep.of_wr W13).1) E15.1) (Keep.of_wr W18).1) E20.1) (Keep.of_wr W23).1) (Nat.le_of_eq g25.symm))))).ext E47).keep Kq50 nin0).other W62 (Nat.ne_of_lt (Nat.lt_of_lt_of_le V3.lt (Nat.le_trans (Nat.le_trans (Nat.le_trans (Nat.le_trans (Nat.le_trans (Nat.le_trans (Nat.le_trans (Nat.le_trans (Nat.le_trans (Nat.le_trans (Nat.le_trans (Nat.le_trans (Nat.le_trans (Nat.le_trans (Nat.le_trans (Nat.le_trans (Nat.le_trans E5.1 (Keep.of_wr W8).1) E10.1) (Keep.of_wr W13).1) E15.1) (Keep.of_wr W18).1) E20.1) (Keep.of_wr W23).1) E25.1) E27.1) (Keep.of_wr W30).1) E32.1) (Keep.of_wr W35).1) E37.1) (Keep.of_wr W40).1) E42.1) (Keep.of_wr W45).1) (Nat.le_of_eq g47.symm))))).keep Kq65 nin0).other W77 (Nat.ne_of_lt (Nat.lt_of_lt_of_le V3.lt (Nat.le_trans (Nat.le_trans (Nat.le_trans (Nat.le_trans (Nat.le_trans (Nat.le_trans (Nat.le_trans (Nat.le_trans (Nat.le_trans (Nat.le_trans (Nat.le_trans (Nat.le_trans (Nat.le_trans (Nat.le_trans (Nat.le_trans (Nat.le_trans (Nat.le_trans E5.1 (Keep.of_wr W8).1) E10.1) (Keep.of_wr W13).1) E15.1) (Keep.of_wr W18).1) E20.1) (Keep.of_wr W23).1) E25.1) E27.1) (Keep.of_wr W30).1) E32.1) (Keep.of_wr W35).1) E37.1) (Keep.of_wr W40).1) E42.1) (Keep.of_wr W45).1) (Nat.le_of_eq g47.symm))))).keep Kq80 nin0).other W92 (Nat.ne_of_lt (Nat.lt_of_lt_of_le V3.lt (Nat.le_trans (Nat.le_trans (Nat.le_trans (Nat.le_trans (Nat.le_trans (Nat.le_trans (Nat.le_trans (Nat.le_trans (Nat.le_trans (Nat.le_trans (Nat.le_trans (Nat.le_trans (Nat.le_trans (Nat.le_trans (Nat.le_trans (Nat.le_trans (Nat.le_trans E5.1 (Keep.of_wr W8).1) E10.1) (Keep.of_wr W13).1) E15.1) (Keep.of_wr W18).1) E20.1) (Keep.of_wr W23).1) E25.1) E27.1) (Keep.of_wr W30).1) E32.1) (Keep.of_wr W35).1) E37.1) (Keep.of_wr W40).1) E42.1) (Keep.of_wr W45).1) (Nat.le_of_eq g47.symm))))).keep Kq95 nin0).other W107 (Nat.ne_of_lt (Nat.lt_of_lt_of_le V3.lt (Nat.le_trans (Nat.le_trans (Nat.le_trans (Nat.le_trans (Nat.le_trans (Nat.le_trans (Nat.le_trans (Nat.le_trans (Nat.le_trans (Nat.le_trans (Nat.le_trans (Nat.le_trans (Nat.le_trans (Nat.le_trans (Nat.le_trans (Nat.le_trans (Nat.le_trans E5.1 (Keep.of_wr W8).1) E10.1) (Keep.of_wr W13).1) E15.1) (Keep.of_wr W18).1) E20.1) (Keep.of_wr W23).1) E25.1) E27.1) (Keep.of_wr W30).1) E32.1) (Keep.of_wr W35).1) E37.1) (Keep.of_wr W40).1) E42.1) (Keep.of_wr W45).1) (Nat.le_of_eq g47.symm))))).ext E109).keep Kq112 (ninS (Nat.ne_of_lt (Nat.lt_of_lt_of_le V3.lt (Nat.le_trans (Nat.le_trans (Nat.le_trans (Nat.le_trans (Nat.le_trans (Nat.le_trans (Nat.le_trans (Nat.le_trans (Nat.le_trans (Nat.le_trans (Nat.le_trans (Nat.le_trans (Nat.le_trans (Nat.le_trans (Nat.le_trans (Nat.le_trans (Nat.le_trans (Nat.le_trans (Nat.le_trans (Nat.le_trans (Nat.le_trans (Nat.le_trans (Nat.le_trans (Nat.le_trans (Nat.le_trans (Nat.le_trans E5.1 (Keep.of_wr W8).1) E10.1) (Keep.of_wr W13).1) E15.1) (Keep.of_wr W18).1) E20.1) (Keep.of_wr W23).1) E25.1) E27.1) (Keep.of_wr W30).1) E32.1) (Keep.of_wr W35).1) E37.1) (Keep.of_wr W40).1) E42.1) (Keep.of_wr W45).1) E47.1) Kq50.1) (Keep.of_wr W62).1) Kq65.1) (Keep.of_wr W77).1) Kq80.1) (Keep.of_wr W92).1) Kq95.1) (Keep.of_wr W107).1) (Nat.le_of_eq g109.symm)))) nin0))
    obtain ⟨cl118, Ar118, Cq118, Sz118, Nn118, Hh118, Gg118⟩ := id f117
    have hin118 : ¬ (qq < 0 ∨ cl118.slots.size ≤ (qq).toNatClampNeg) := inb_of Sz118 (own_in4 d_qq)
    have hat118 : cl118.slots[(qq).toNatClampNeg]? = some (.ref (own_pick qq b5 b10 b15 b20)) := Hh118.at hin118 (own_pickat d_qq b5 b10 b15 b20)
    obtain ⟨cq119, kq119, q119a, q119b, q119c⟩ := isOf hZ rfl f112_4
    obtain ⟨_, _, ⟨T119, L119, k119, n119⟩, -, X119, ⟨Lc119, hQ119, l119, y119, z119⟩, st119⟩ := X112.virtualBack hx (y := own_y6) (z := own_y6) hown (mvT hZ (hw _ (List.mem_of_getElem? (i := 84) rfl))) (mvT hZ (hw _ (List.mem_of_getElem? (i := 85) rfl))) (notFace_of_selects (args := #[]) (mvT hZ (hw _ (List.mem_of_getElem? (i := 87) rfl)))) (mvT hZ (hw _ (List.mem_of_getElem? (i := 87) rfl))) (mvT hZ (hw _ (List.mem_of_getElem? (i := 86) rfl))) (by decide) (backOf (W := 0) (rm10 l Z a0 hw [] b109 (own_pick qq b5 b10 b15 b20) b112_0 T112.heap n0 (Nat.le_trans Z0 K113.1) f112_5 f112_3 f112_0) hZ (hw _ (List.mem_of_getElem? (i := 88) rfl)) (hw _ (List.mem_of_getElem? (i := 53) rfl)) (by decide) (by decide)) q119a q119c (g := (mkF m 283 #[.val (.int i1), .val (.int i2), .val (.int i3), .val (.int (0 : Int32)), .val (.int qq), .val (.int s0), .val (.int s1), .val (.int s2), .val (.int s3), .val (.ref b3), .val (.ref b25), .val (.ref b47), .val (.ref b109), .unset, .unset] [(.ref (own_pick qq b5 b10 b15 b20)), (.ref b109)])) rfl (by rw [hml]; rfl) (Steps.refl _) (argsL := [(.ref (own_pick qq b5 b10 b15 b20))]) (rest := []) (lenOf pd_5 rfl) rfl (by show 2 * 0 + _ ≤ _; exact Nat.le_of_eq rfl) (hb hby at_283) (fun _ _ => ⟨rfl, rfl, (by decide : 29 + 0 ≤ _), (by decide : 88 + 0 ≤ _)⟩)
    dsimp only [Pt.U, Pt.locs, Pt.cells, Pt.slots] at X119 l119 y119 z119 st119 hQ119
    subst l119 y119 z119
    obtain ⟨rfl, Nq119, e119⟩ := hQ119
    have N119 := Fr.app N112 Nq119
    have pre120 : ∀ t, Steps p.tables e below (T119.setTop (mkF m 374 #[.val (.int i1), .val (.int i2), .val (.int i3), .val (.int (0 : Int32)), .val (.int qq), .val (.int s0), .val (.int s1), .val (.int s2), .val (.int s3), .val (.ref b3), .val (.ref b25), .val (.ref b47), .val (.ref b109), .val .null, .val .null] [(.int (1 : Int32))])) t → Steps p.tables e below (s₁.setTop (entryFrame m #[(.int i1), (.int i2), (.int i3)] maxLocals)) t := by
      intro t k
      refine pre116 _ ?_
      show Steps p.tables e below (T112.setTop (mkF m 185 #[.val (.int i1), .val (.int i2), .val (.int i3), .val (.int (0 : Int32)), .val (.int qq), .val (.int s0), .val (.int s1), .val (.int s2), .val (.int s3), .val (.ref b3), .val (.ref b25), .val (.ref b47), .val (.ref b109), .unset, .unset] [])) _
      refine XS.iloadN X112.here hx rfl (hb hby at_185) rfl ?_
      refine XS.ifYes X112.here hx rfl (pc0 := 186) (pc' := 207) rfl (hb hby at_186) rfl ((if0 _ _).trans (flt (by decide : ¬ ((0 : Int32) < (0 : Int32)))).2.2.2) (by decide) (by decide) ?_
      show Steps p.tables e below (T112.setTop (mkF m 207 #[.val (.int i1), .val (.int i2), .val (.int i3), .val (.int (0 : Int32)), .val (.int qq), .val (.int s0), .val (.int s1), .val (.int s2), .val (.int s3), .val (.ref b3), .val (.ref b25), .val (.ref b47), .val (.ref b109), .unset, .unset] [])) _
      refine XS.iloadN X112.here hx rfl (hb hby at_207) rfl ?_
      refine XS.iconst X112.here hx rfl (hb hby at_208) ?_
      show Steps p.tables e below (T112.setTop (mkF m 209 #[.val (.int i1), .val (.int i2), .val (.int i3), .val (.int (0 : Int32)), .val (.int qq), .val (.int s0), .val (.int s1), .val (.int s2), .val (.int s3), .val (.ref b3), .val (.ref b25), .val (.ref b47), .val (.ref b109), .unset, .unset] [(.int (1 : Int32)), (.int (0 : Int32))])) _
      refine XS.icmpYes X112.here hx rfl (pc0 := 209) (pc' := 230) rfl (hb hby at_209) rfl (flt (by decide : ¬ ((1 : Int32) < (0 : Int32)))).2.2.2 (by decide) (by decide) ?_
      refine XS.iloadN X112.here hx rfl (hb hby at_230) rfl ?_
      show Steps p.tables e below (T112.setTop (mkF m 231 #[.val (.int i1), .val (.int i2), .val (.int i3), .val (.int (0 : Int32)), .val (.int qq), .val (.int s0), .val (.int s1), .val (.int s2), .val (.int s3), .val (.ref b3), .val (.ref b25), .val (.ref b47), .val (.ref b109), .unset, .unset] [(.int (0 : Int32))])) _
      refine XS.iconst X112.here hx rfl (hb hby at_231) ?_
      refine XS.icmpYes X112.here hx rfl (pc0 := 232) (pc' := 253) rfl (hb hby at_232) rfl (flt (by decide : ¬ ((2 : Int32) < (0 : Int32)))).2.2.2 (by decide) (by decide) ?_
      show Steps p.tables e below (T112.setTop (mkF m 253 #[.val (.int i1), .val (.int i2), .val (.int i3), .val (.int (0 : Int32)), .val (.int qq), .val (.int s0), .val (.int s1), .val (.int s2), .val (.int s3), .val (.ref b3), .val (.ref b25), .val (.ref b47), .val (.ref b109), .unset, .unset] [])) _
      refine XS.iloadN X112.here hx rfl (hb hby at_253) rfl ?_
      refine XS.iconst X112.here hx rfl (hb hby at_254) ?_
      show Steps p.tables e below (T112.setTop (mkF m 255 #[.val (.int i1), .val (.int i2), .val (.int i3), .val (.int (0 : Int32)), .val (.int qq), .val (.int s0), .val (.int s1), .val (.int s2), .val (.int s3), .val (.ref b3), .val (.ref b25), .val (.ref b47), .val (.ref b109), .unset, .unset] [(.int (3 : Int32)), (.int (0 : Int32))])) _
      refine XS.icmpYes X112.here hx rfl (pc0 := 255) (pc' := 276) rfl (hb hby at_255) rfl (flt (by decide : ¬ ((3 : Int32) < (0 : Int32)))).2.2.2 (by decide) (by decide) ?_
      refine XS.aload X112.here hx rfl (hb hby at_276) rfl rfl ?_
      show Steps p.tables e below (T112.setTop (mkF m 278 #[.val (.int i1), .val (.int i2), .val (.int i3), .val (.int (0 : Int32)), .val (.int qq), .val (.int s0), .val (.int s1), .val (.int s2), .val (.int s3), .val (.ref b3), .val (.ref b25), .val (.ref b47), .val (.ref b109), .unset, .unset] [(.ref b109)])) _
      refine XS.aload X112.here hx rfl (hb hby at_278) rfl rfl ?_
      refine XS.iload X112.here hx rfl (hb hby at_280) rfl ?_
      show Steps p.tables e below (T112.setTop (mkF m 282 #[.val (.int i1), .val (.int i2), .val (.int i3), .val (.int (0 : Int32)), .val (.int qq), .val (.int s0), .val (.int s1), .val (.int s2), .val (.int s3), .val (.ref b3), .val (.ref b25), .val (.ref b47), .val (.ref b109), .unset, .unset] [(.int qq), (.ref b3), (.ref b109)])) _
      refine X112.aaload hx (j := qq) (v := (.ref (own_pick qq b5 b10 b15 b20))) (by exact Ar118.1) (State.isArrayOf_alike hZ.alike Ar118.2.1) rfl Ar118.2.2 hin118 hat118 (g := (mkF m 282 #[.val (.int i1), .val (.int i2), .val (.int i3), .val (.int (0 : Int32)), .val (.int qq), .val (.int s0), .val (.int s1), .val (.int s2), .val (.int s3), .val (.ref b3), .val (.ref b25), .val (.ref b47), .val (.ref b109), .unset, .unset] [(.int qq), (.ref b3), (.ref b109)])) rfl rfl (hb hby at_282) _ ?_
      show Steps p.tables e below (T112.setTop (mkF m 283 #[.val (.int i1), .val (.int i2), .val (.int i3), .val (.int (0 : Int32)), .val (.int qq), .val (.int s0), .val (.int s1), .val (.int s2), .val (.int s3), .val (.ref b3), .val (.ref b25), .val (.ref b47), .val (.ref b109), .unset, .unset] [(.ref (own_pick qq b5 b10 b15 b20)), (.ref b109)])) _
      refine st119.trans ?_
      show Steps p.tables e below (T119.setTop (mkF m 286 #[.val (.int i1), .val (.int i2), .val (.int i3), .val (.int (0 : Int32)), .val (.int qq), .val (.int s0), .val (.int s1), .val (.int s2), .val (.int s3), .val (.ref b3), .val (.ref b25), .val (.ref b47), .val (.ref b109), .unset, .unset] [.null])) _
      refine XS.astore X119.here hx rfl (hb hby at_286) rfl rfl (l' := #[.val (.int i1), .val (.int i2), .val (.int i3), .val (.int (0 : Int32)), .val (.int qq), .val (.int s0), .val (.int s1), .val (.int s2), .val (.int s3), .val (.ref b3), .val (.ref b25), .val (.ref b47), .val (.ref b109), .val .null, .unset]) rfl ?_
      refine XS.aconstNull X119.here hx rfl (hb hby at_288) ?_
      show Steps p.tables e below (T119.setTop (mkF m 289 #[.val (.int i1), .val (.int i2), .val (.int i3), .val (.int (0 : Int32)), .val (.int qq), .val (.int s0), .val (.int s1), .val (.int s2), .val (.int s3), .val (.ref b3), .val (.ref b25), .val (.ref b47), .val (.ref b109), .val .null, .unset] [.null])) _
      refine XS.astore X119.here hx rfl (hb hby at_289) rfl rfl (l' := #[.val (.int i1), .val (.int i2), .val (.int i3), .val (.int (0 : Int32)), .val (.int qq), .val (.int s0), .val (.int s1), .val (.int s2), .val (.int s3), .val (.ref b3), .val (.ref b25), .val (.ref b47), .val (.ref b109), .val .null, .val .null]) rfl ?_
      refine XS.iloadN X119.here hx rfl (hb hby at_291) rfl ?_
      show Steps p.tables e below (T119.setTop (mkF m 292 #[.val (.int i1), .val (.int i2), .val (.int i3), .val (.int (0 : Int32)), .val (.int qq), .val (.int s0), .val (.int s1), .val (.int s2), .val (.int s3), .val (.ref b3), .val (.ref b25), .val (.ref b47), .val (.ref b109), .val .null, .val .null] [(.int (0 : Int32))])) _
      refine XS.ifYes X119.here hx rfl (pc0 := 292) (pc' := 308) rfl (hb hby at_292) rfl ((if0 _ _).trans (flt (by decide : ¬ ((0 : Int32) < (0 : Int32)))).2.2.2) (by decide) (by decide) ?_
      refine XS.iloadN X119.here hx rfl (hb hby at_308) rfl ?_
      show Steps p.tables e below (T119.setTop (mkF m 309 #[.val (.int i1), .val (.int i2), .val (.int i3), .val (.int (0 : Int32)), .val (.int qq), .val (.int s0), .val (.int s1), .val (.int s2), .val (.int s3), .val (.ref b3), .val (.ref b25), .val (.ref b47), .val (.ref b109), .val .null, .val .null] [(.int (0 : Int32))])) _
      refine XS.iconst X119.here hx rfl (hb hby at_309) ?_
      refine XS.icmpYes X119.here hx rfl (pc0 := 310) (pc' := 326) rfl (hb hby at_310) rfl (flt (by decide : ¬ ((1 : Int32) < (0 : Int32)))).2.2.2 (by decide) (by decide) ?_
      show Steps p.tables e below (T119.setTop (mkF m 326 #[.val (.int i1), .val (.int i2), .val (.int i3), .val (.int (0 : Int32)), .val (.int qq), .val (.int s0), .val (.int s1), .val (.int s2), .val (.int s3), .val (.ref b3), .val (.ref b25), .val (.ref b47), .val (.ref b109), .val .null, .val .null] [])) _
      refine XS.iloadN X119.here hx rfl (hb hby at_326) rfl ?_
      refine XS.iconst X119.here hx rfl (hb hby at_327) ?_
      show Steps p.tables e below (T119.setTop (mkF m 328 #[.val (.int i1), .val (.int i2), .val (.int i3), .val (.int (0 : Int32)), .val (.int qq), .val (.int s0), .val (.int s1), .val (.int s2), .val (.int s3), .val (.ref b3), .val (.ref b25), .val (.ref b47), .val (.ref b109), .val .null, .val .null] [(.int (2 : Int32)), (.int (0 : Int32))])) _
      refine XS.icmpYes X119.here hx rfl (pc0 := 328) (pc' := 344) rfl (hb hby at_328) rfl (flt (by decide : ¬ ((2 : Int32) < (0 : Int32)))).2.2.2 (by decide) (by decide) ?_
      refine XS.iloadN X119.here hx rfl (hb hby at_344) rfl ?_
      show Steps p.tables e below (T119.setTop (mkF m 345 #[.val (.int i1), .val (.int i2), .val (.int i3), .val (.int (0 : Int32)), .val (.int qq), .val (.int s0), .val (.int s1), .val (.int s2), .val (.int s3), .val (.ref b3), .val (.ref b25), .val (.ref b47), .val (.ref b109), .val .null, .val .null] [(.int (0 : Int32))])) _
      refine XS.iconst X119.here hx rfl (hb hby at_345) ?_
      refine XS.icmpYes X119.here hx rfl (pc0 := 346) (pc' := 362) rfl (hb hby at_346) rfl (flt (by decide : ¬ ((3 : Int32) < (0 : Int32)))).2.2.2 (by decide) (by decide) ?_
      show Steps p.tables e below (T119.setTop (mkF m 362 #[.val (.int i1), .val (.int i2), .val (.int i3), .val (.int (0 : Int32)), .val (.int qq), .val (.int s0), .val (.int s1), .val (.int s2), .val (.int s3), .val (.ref b3), .val (.ref b25), .val (.ref b47), .val (.ref b109), .val .null, .val .null] [])) _
      refine XS.aload X119.here hx rfl (hb hby at_362) rfl rfl ?_
      refine XS.aload X119.here hx rfl (hb hby at_364) rfl rfl ?_
      show Steps p.tables e below (T119.setTop (mkF m 366 #[.val (.int i1), .val (.int i2), .val (.int i3), .val (.int (0 : Int32)), .val (.int qq), .val (.int s0), .val (.int s1), .val (.int s2), .val (.int s3), .val (.ref b3), .val (.ref b25), .val (.ref b47), .val (.ref b109), .val .null, .val .null] [.null, .null])) _
      refine Jvm.RoadKit.acmp (g := (mkF m 366 #[.val (.int i1), .val (.int i2), .val (.int i3), .val (.int (0 : Int32)), .val (.int qq), .val (.int s0), .val (.int s1), .val (.int s2), .val (.int s3), .val (.ref b3), .val (.ref b25), .val (.ref b47), .val (.ref b109), .val .null, .val .null] [.null, .null])) X119 hx rfl rfl rfl (pc0 := 366) (pc' := 369) (same := true) rfl (hb hby at_366) rfl (decide_eq_true rfl) (by decide) (by decide) ?_
      show Steps p.tables e below (T119.setTop (mkF m 369 #[.val (.int i1), .val (.int i2), .val (.int i3), .val (.int (0 : Int32)), .val (.int qq), .val (.int s0), .val (.int s1), .val (.int s2), .val (.int s3), .val (.ref b3), .val (.ref b25), .val (.ref b47), .val (.ref b109), .val .null, .val .null] [])) _
      refine XS.iconst X119.here hx rfl (hb hby at_369) ?_
      refine XS.goto X119.here hx rfl (pc0 := 370) (pc' := 374) rfl (hb hby at_370) (by decide) (by decide) ?_
      exact k
    obtain ⟨fs, hr, hrun, hended, hRW⟩ := Stand.leaveW (s := s) (vm₁ := T95.vm) (show Stand p l e room_1 (s.setVm T95.vm) m #[(.int i1), (.int i2), (.int i3)] below meth c T119 _ _ _ from X119) S95 (by rw [e119]; exact Nat.le_trans (Nat.le_of_eq (congrArg Array.size e95)) (Nat.le_trans (Nat.le_trans (Keep.of_wr W107).1 E109.1) Kq112.1)) (v := some (.int (1 : Int32))) (fun h => by rw [Bd.returns] at h; cases h)
    refine ⟨_, _, pre120 _ ?_, hrun, hended, _, _, rfl, ?_, hRW.1, hRW.2.1, hRW.2.2.1, hRW.2.2.2.mono (by decide) (by decide)⟩
    · show Steps p.tables e below (T119.setTop (mkF m 374 #[.val (.int i1), .val (.int i2), .val (.int i3), .val (.int (0 : Int32)), .val (.int qq), .val (.int s0), .val (.int s1), .val (.int s2), .val (.int s3), .val (.ref b3), .val (.ref b25), .val (.ref b47), .val (.ref b109), .val .null, .val .null] [(.int (1 : Int32))])) _
      exact retN X119 hx (t := .boolean) Bd.returns (by simp) (hb hby at_374) hr
    · show Q0 Z i1 i2 i3 y5 y13 h0 n0 _ T119.heap _
      rw [e119]
      exact ⟨rfl, N119⟩
  · have pre121 : ∀ t, Steps p.tables e below (T112.setTop (mkF m 185 #[.val (.int i1), .val (.int i2), .val (.int i3), .val (.int (1 : Int32)), .val (.int qq), .val (.int s0), .val (.int s1), .val (.int s2), .val (.int s3), .val (.ref b3), .val (.ref b25), .val (.ref b47), .val (.ref b109), .unset, .unset] [])) t → Steps p.tables e below (s₁.setTop (entryFrame m #[(.int i1), (.int i2), (.int i3)] maxLocals)) t := fun t k => pre114 t (by rw [hk115]; exact k)
    have f122 := (((((((((((V45.ext E47).keep Kq50 nin0).other W62 (Nat.ne_of_lt (Nat.lt_of_lt_of_le V25.lt (Nat.le_trans (Nat.le_trans (Nat.le_trans (Nat.le_trans (Nat.le_trans (Nat.le_trans (Nat.le_trans (Nat.le_trans E27.1 (Keep.of_wr W30).1) E32.1) (Keep.of_wr W35).1) E37.1) (Keep.of_wr W40).1) E42.1) (Keep.of_wr W45).1) (Nat.le_of_eq g47.symm))))).keep Kq65 nin0).other W77 (Nat.ne_of_lt (Nat.lt_of_lt_of_le V25.lt (Nat.le_trans (Nat.le_trans (Nat.le_trans (Nat.le_trans (Nat.le_trans (Nat.le_trans (Nat.le_trans (Nat.le_trans E27.1 (Keep.of_wr W30).1) E32.1) (Keep.of_wr W35).1) E37.1) (Keep.of_wr W40).1) E42.1) (Keep.of_wr W45).1) (Nat.le_of_eq g47.symm))))).keep Kq80 nin0).other W92 (Nat.ne_of_lt (Nat.lt_of_lt_of_le V25.lt (Nat.le_trans (Nat.le_trans (Nat.le_trans (Nat.le_trans (Nat.le_trans (Nat.le_trans (Nat.le_trans (Nat.le_trans E27.1 (Keep.of_wr W30).1) E32.1) (Keep.of_wr W35).1) E37.1) (Keep.of_wr W40).1) E42.1) (Keep.of_wr W45).1) (Nat.le_of_eq g47.symm))))).keep Kq95 nin0).other W107 (Nat.ne_of_lt (Nat.lt_of_lt_of_le V25.lt (Nat.le_trans (Nat.le_trans (Nat.le_trans (Nat.le_trans (Nat.le_trans (Nat.le_trans (Nat.le_trans (Nat.le_trans E27.1 (Keep.of_wr W30).1) E32.1) (Keep.of_wr W35).1) E37.1) (Keep.of_wr W40).1) E42.1) (Keep.of_wr W45).1) (Nat.le_of_eq g47.symm))))).ext E109).keep Kq112 (ninS (Nat.ne_of_lt (Nat.lt_of_lt_of_le V25.lt (Nat.le_trans (Nat.le_trans (Nat.le_trans (Nat.le_trans (Nat.le_trans (Nat.le_trans (Nat.le_trans (Nat.le_trans (Nat.le_trans (Nat.le_trans (Nat.le_trans (Nat.le_trans (Nat.le_trans (Nat.le_trans (Nat.le_trans (Nat.le_trans (Nat.le_trans E27.1 (Keep.of_wr W30).1) E32.1) (Keep.of_wr W35).1) E37.1) (Keep.of_wr W40).1) E42.1) (Keep.of_wr W45).1) E47.1) Kq50.1) (Keep.of_wr W62).1) Kq65.1) (Keep.of_wr W77).1) Kq80.1) (Keep.of_wr W92).1) Kq95.1) (Keep.of_wr W107).1) (Nat.le_of_eq g109.symm)))) nin0))
    obtain ⟨cl123, Ar123, Cq123, Sz123, Nn123, Hh123, Gg123⟩ := id f122
    have hin123 : ¬ ((0 : Int32) < 0 ∨ cl123.slots.size ≤ ((0 : Int32)).toNatClampNeg) := inb_of Sz123 ⟨by decide, by decide⟩
    have hat123 : cl123.slots[((0 : Int32)).toNatClampNeg]? = some (.ref b27) := Hh123.at hin123 rfl
    have f124 := ((((((((((((((((((((V23.ext E25).ext E27).other W30 (Nat.ne_of_lt (Nat.lt_of_lt_of_le V3.lt (Nat.le_trans (Nat.le_trans (Nat.le_trans (Nat.le_trans (Nat.le_trans (Nat.le_trans (Nat.le_trans (Nat.le_trans E5.1 (Keep.of_wr W8).1) E10.1) (Keep.of_wr W13).1) E15.1) (Keep.of_wr W18).1) E20.1) (Keep.of_wr W23).1) (Nat.le_of_eq g25.symm))))).ext E32).other W35 (Nat.ne_of_lt (Nat.lt_of_lt_of_le V3.lt (Nat.le_trans (Nat.le_trans (Nat.le_trans (Nat.le_trans (Nat.le_trans (Nat.le_trans (Nat.le_trans (Nat.le_trans E5.1 (Keep.of_wr W8).1) E10.1) (Keep.of_wr W13).1) E15.1) (Keep.of_wr W18).1) E20.1) (Keep.of_wr W23).1) (Nat.le_of_eq g25.symm))))).ext E37).other W40 (Nat.ne_of_lt (Nat.lt_of_lt_of_le V3.lt (Nat.le_trans (Nat.le_trans (Nat.le_trans (Nat.le_trans (Nat.le_trans (Nat.le_trans (Nat.le_trans (Nat.le_trans E5.1 (Keep.of_wr W8).1) E10.1) (Keep.of_wr W13).1) E15.1) (Keep.of_wr W18).1) E20.1) (Keep.of_wr W23).1) (Nat.le_of_eq g25.symm))))).ext E42).other W45 (Nat.ne_of_lt (Nat.lt_of_lt_of_le V3.lt (Nat.le_trans (Nat.le_trans (Nat.le_trans (Nat.le_trans (Nat.le_trans (Nat.le_trans (Nat.le_trans (Nat.le_trans E5.1 (Keep.of_wr W8).1) E10.1) (Keep.of_wr W13).1) E15.1) (Keep.of_wr W18).1) E20.1) (Keep.of_wr W23).1) (Nat.le_of_eq g25.symm))))).ext E47).keep Kq50 nin0).other W62 (Nat.ne_of_lt (Nat.lt_of_lt_of_le V3.lt (Nat.le_trans (Nat.le_trans (Nat.le_trans (Nat.le_trans (Nat.le_trans (Nat.le_trans (Nat.le_trans (Nat.le_trans (Nat.le_trans (Nat.le_trans (Nat.le_trans (Nat.le_trans (Nat.le_trans (Nat.le_trans (Nat.le_trans (Nat.le_trans (Nat.le_trans E5.1 (Keep.of_wr W8).1) E10.1) (Keep.of_wr W13).1) E15.1) (Keep.of_wr W18).1) E20.1) (Keep.of_wr W23).1) E25.1) E27.1) (Keep.of_wr W30).1) E32.1) (Keep.of_wr W35).1) E37.1) (Keep.of_wr W40).1) E42.1) (Keep.of_wr W45).1) (Nat.le_of_eq g47.symm))))).keep Kq65 nin0).other W77 (Nat.ne_of_lt (Nat.lt_of_lt_of_le V3.lt (Nat.le_trans (Nat.le_trans (Nat.le_trans (Nat.le_trans (Nat.le_trans (Nat.le_trans (Nat.le_trans (Nat.le_trans (Nat.le_trans (Nat.le_trans (Nat.le_trans (Nat.le_trans (Nat.le_trans (Nat.le_trans (Nat.le_trans (Nat.le_trans (Nat.le_trans E5.1 (Keep.of_wr W8).1) E10.1) (Keep.of_wr W13).1) E15.1) (Keep.of_wr W18).1) E20.1) (Keep.of_wr W23).1) E25.1) E27.1) (Keep.of_wr W30).1) E32.1) (Keep.of_wr W35).1) E37.1) (Keep.of_wr W40).1) E42.1) (Keep.of_wr W45).1) (Nat.le_of_eq g47.symm))))).keep Kq80 nin0).other W92 (Nat.ne_of_lt (Nat.lt_of_lt_of_le V3.lt (Nat.le_trans (Nat.le_trans (Nat.le_trans (Nat.le_trans (Nat.le_trans (Nat.le_trans (Nat.le_trans (Nat.le_trans (Nat.le_trans (Nat.le_trans (Nat.le_trans (Nat.le_trans (Nat.le_trans (Nat.le_trans (Nat.le_trans (Nat.le_trans (Nat.le_trans E5.1 (Keep.of_wr W8).1) E10.1) (Keep.of_wr W13).1) E15.1) (Keep.of_wr W18).1) E20.1) (Keep.of_wr W23).1) E25.1) E27.1) (Keep.of_wr W30).1) E32.1) (Keep.of_wr W35).1) E37.1) (Keep.of_wr W40).1) E42.1) (Keep.of_wr W45).1) (Nat.le_of_eq g47.symm))))).keep Kq95 nin0).other W107 (Nat.ne_of_lt (Nat.lt_of_lt_of_le V3.lt (Nat.le_trans (Nat.le_trans (Nat.le_trans (Nat.le_trans (Nat.le_trans (Nat.le_trans (Nat.le_trans (Nat.le_trans (Nat.le_trans (Nat.le_trans (Nat.le_trans (Nat.le_trans (Nat.le_trans (Nat.le_trans (Nat.le_trans (Nat.le_trans (Nat.le_trans E5.1 (Keep.of_wr W8).1) E10.1) (Keep.of_wr W13).1) E15.1) (Keep.of_wr W18).1) E20.1) (Keep.of_wr W23).1) E25.1) E27.1) (Keep.of_wr W30).1) E32.1) (Keep.of_wr W35).1) E37.1) (Keep.of_wr W40).1) E42.1) (Keep.of_wr W45).1) (Nat.le_of_eq g47.symm))))).ext E109).keep Kq112 (ninS (Nat.ne_of_lt (Nat.lt_of_lt_of_le V3.lt (Nat.le_trans (Nat.le_trans (Nat.le_trans (Nat.le_trans (Nat.le_trans (Nat.le_trans (Nat.le_trans (Nat.le_trans (Nat.le_trans (Nat.le_trans (Nat.le_trans (Nat.le_trans (Nat.le_trans (Nat.le_trans (Nat.le_trans (Nat.le_trans (Nat.le_trans (Nat.le_trans (Nat.le_trans (Nat.le_trans (Nat.le_trans (Nat.le_trans (Nat.le_trans (Nat.le_trans (Nat.le_trans (Nat.le_trans E5.1 (Keep.of_wr W8).1) E10.1) (Keep.of_wr W13).1) E15.1) (Keep.of_wr W18).1) E20.1) (Keep.of_wr W23).1) E25.1) E27.1) (Keep.of_wr W30).1) E32.1) (Keep.of_wr W35).1) E37.1) (Keep.of_wr W40).1) E42.1) (Keep.of_wr W45).1) E47.1) Kq50.1) (Keep.of_wr W62).1) Kq65.1) (Keep.of_wr W77).1) Kq80.1) (Keep.of_wr W92).1) Kq95.1) (Keep.of_wr W107).1) (Nat.le_of_eq g109.symm)))) nin0))
    obtain ⟨cl125, Ar125, Cq125, Sz125, Nn125, Hh125, Gg125⟩ := id f124
    have hin125 : ¬ (s0 < 0 ∨ cl125.slots.size ≤ (s0).toNatClampNeg) := inb_of Sz125 (own_in4 d_s0)
    have hat125 : cl125.slots[(s0).toNatClampNeg]? = some (.ref (own_pick s0 b5 b10 b15 b20)) := Hh125.at hin125 (own_pickat d_s0 b5 b10 b15 b20)
    have f126 := ((V107.ext E109).keep Kq112 (ninS (Nat.ne_of_lt (Nat.lt_of_lt_of_le V47.lt (Nat.le_trans (Nat.le_trans (Nat.le_trans (Nat.le_trans (Nat.le_trans (Nat.le_trans (Nat.le_trans (Nat.le_trans Kq50.1 (Keep.of_wr W62).1) Kq65.1) (Keep.of_wr W77).1) Kq80.1) (Keep.of_wr W92).1) Kq95.1) (Keep.of_wr W107).1) (Nat.le_of_eq g109.symm)))) nin0))
    obtain ⟨cl127, Ar127, Cq127, Sz127, Nn127, Hh127, Gg127⟩ := id f126
    have hin127 : ¬ ((0 : Int32) < 0 ∨ cl127.slots.size ≤ ((0 : Int32)).toNatClampNeg) := inb_of Sz127 ⟨by decide, by decide⟩
    have hat127 : cl127.slots[((0 : Int32)).toNatClampNeg]? = some v50 := Hh127.at hin127 rfl
    have f128 := (((((((((((((((((((((((((((((y9.ext E3).ext E5).other W8 (Nat.ne_of_lt (Nat.lt_of_lt_of_le y9.lt (Nat.le_trans (Nat.le_refl _) (Nat.le_of_eq g3.symm))))).ext E10).other W13 (Nat.ne_of_lt (Nat.lt_of_lt_of_le y9.lt (Nat.le_trans (Nat.le_refl _) (Nat.le_of_eq g3.symm))))).ext E15).other W18 (Nat.ne_of_lt (Nat.lt_of_lt_of_le y9.lt (Nat.le_trans (Nat.le_refl _) (Nat.le_of_eq g3.symm))))).ext E20).other W23 (Nat.ne_of_lt (Nat.lt_of_lt_of_le y9.lt (Nat.le_trans (Nat.le_refl _) (Nat.le_of_eq g3.symm))))).ext E25).ext E27).other W30 (Nat.ne_of_lt (Nat.lt_of_lt_of_le y9.lt (Nat.le_trans (Nat.le_trans (Nat.le_trans (Nat.le_trans (Nat.le_trans (Nat.le_trans (Nat.le_trans (Nat.le_trans (Nat.le_trans E3.1 E5.1) (Keep.of_wr W8).1) E10.1) (Keep.of_wr W13).1) E15.1) (Keep.of_wr W18).1) E20.1) (Keep.of_wr W23).1) (Nat.le_of_eq g25.symm))))).ext E32).other W35 (Nat.ne_of_lt (Nat.lt_of_lt_of_le y9.lt (Nat.le_trans (Nat.le_trans (Nat.le_trans (Nat.le_trans (Nat.le_trans (Nat.le_trans (Nat.le_trans (Nat.le_trans (Nat.le_trans E3.1 E5.1) (Keep.of_wr W8).1) E10.1) (Keep.of_wr W13).1) E15.1) (Keep.of_wr W18).1) E20.1) (Keep.of_wr W23).1) (Nat.le_of_eq g25.symm))))).ext E37).other W40 (Nat.ne_of_lt (Nat.lt_of_lt_of_le y9.lt (Nat.le_trans (Nat.le_trans (Nat.le_trans (Nat.le_trans (Nat.le_trans (Nat.le_trans (Nat.le_trans (Nat.le_trans (Nat.le_trans E3.1 E5.1) (Keep.of_wr W8).1) E10.1) (Keep.of_wr W13).1) E15.1) (Keep.of_wr W18).1) E20.1) (Keep.of_wr W23).1) (Nat.le_of_eq g25.symm))))).ext E42).other W45 (Nat.ne_of_lt (Nat.lt_of_lt_of_le y9.lt (Nat.le_trans (Nat.le_trans (Nat.le_trans (Nat.le_trans (Nat.le_trans (Nat.le_trans (Nat.le_trans (Nat.le_trans (Nat.le_trans E3.1 E5.1) (Keep.of_wr W8).1) E10.1) (Keep.of_wr W13).1) E15.1) (Keep.of_wr W18).1) E20.1) (Keep.of_wr W23).1) (Nat.le_of_eq g25.symm))))).ext E47).keep Kq50 nin0).other W62 (Nat.ne_of_lt (Nat.lt_of_lt_of_le y9.lt (Nat.le_trans (Nat.le_trans (Nat.le_trans (Nat.le_trans (Nat.le_trans (Nat.le_trans (Nat.le_trans (Nat.le_trans (Nat.le_trans (Nat.le_trans (Nat.le_trans (Nat.le_trans (Nat.le_trans (Nat.le_trans (Nat.le_trans (Nat.le_trans (Nat.le_trans (Nat.le_trans E3.1 E5.1) (Keep.of_wr W8).1) E10.1) (Keep.of_wr W13).1) E15.1) (Keep.of_wr W18).1) E20.1) (Keep.of_wr W23).1) E25.1) E27.1) (Keep.of_wr W30).1) E32.1) (Keep.of_wr W35).1) E37.1) (Keep.of_wr W40).1) E42.1) (Keep.of_wr W45).1) (Nat.le_of_eq g47.symm))))).keep Kq65 nin0).other W77 (Nat.ne_of_lt (Nat.lt_of_lt_of_le y9.lt (Nat.le_trans (Nat.le_trans (Nat.le_trans (Nat.le_trans (Nat.le_trans (Nat.le_trans (Nat.le_trans (Nat.le_trans (Nat.le_trans (Nat.le_trans (Nat.le_trans (Nat.le_trans (Nat.le_trans (Nat.le_trans (Nat.le_trans (Nat.le_trans (Nat.le_trans (Nat.le_trans E3.1 E5.1) (Keep.of_wr W8).1) E10.1) (Keep.of_wr W13).1) E15.1) (Keep.of_wr W18).1) E20.1) (Keep.of_wr W23).1) E25.1) E27.1) (Keep.of_wr W30).1) E32.1) (Keep.of_wr W35).1) E37.1) (Keep.of_wr W40).1) E42.1) (Keep.of_wr W45).1) (Nat.le_of_eq g47.symm))))).keep Kq80 nin0).other W92 (Nat.ne_of_lt (Nat.lt_of_lt_of_le y9.lt (Nat.le_trans (Nat.le_trans (Nat.le_trans (Nat.le_trans (Nat.le_trans (Nat.le_trans (Nat.le_trans (Nat.le_trans (Nat.le_trans (Nat.le_trans (Nat.le_trans (Nat.le_trans (Nat.le_trans (Nat.le_trans (Nat.le_trans (Nat.le_trans (Nat.le_trans (Nat.le_trans E3.1 E5.1) (Keep.of_wr W8).1) E10.1) (Keep.of_wr W13).1) E15.1) (Keep.of_wr W18).1) E20.1) (Keep.of_wr W23).1) E25.1) E27.1) (Keep.of_wr W30).1) E32.1) (Keep.of_wr W35).1) E37.1) (Keep.of_wr W40).1) E42.1) (Keep.of_wr W45).1) (Nat.le_of_eq g47.symm))))).keep Kq95 nin0).other W107 (Nat.ne_of_lt (Nat.lt_of_lt_of_le y9.lt (Nat.le_trans (Nat.le_trans (Nat.le_trans (Nat.le_trans (Nat.le_trans (Nat.le_trans (Nat.le_trans (Nat.le_trans (Nat.le_trans (Nat.le_trans (Nat.le_trans (Nat.le_trans (Nat.le_trans (Nat.le_trans (Nat.le_trans (Nat.le_trans (Nat.le_trans (Nat.le_trans E3.1 E5.1) (Keep.of_wr W8).1) E10.1) (Keep.of_wr W13).1) E15.1) (Keep.of_wr W18).1) E20.1) (Keep.of_wr W23).1) E25.1) E27.1) (Keep.of_wr W30).1) E32.1) (Keep.of_wr W35).1) E37.1) (Keep.of_wr W40).1) E42.1) (Keep.of_wr W45).1) (Nat.le_of_eq g47.symm))))).ext E109).keep Kq112 (ninS (Nat.ne_of_lt (Nat.lt_of_lt_of_le y9.lt (Nat.le_trans (Nat.le_trans (Nat.le_trans (Nat.le_trans (Nat.le_trans (Nat.le_trans (Nat.le_trans (Nat.le_trans (Nat.le_trans (Nat.le_trans (Nat.le_trans (Nat.le_trans (Nat.le_trans (Nat.le_trans (Nat.le_trans (Nat.le_trans (Nat.le_trans (Nat.le_trans (Nat.le_trans (Nat.le_trans (Nat.le_trans (Nat.le_trans (Nat.le_trans (Nat.le_trans (Nat.le_trans (Nat.le_trans (Nat.le_trans E3.1 E5.1) (Keep.of_wr W8).1) E10.1) (Keep.of_wr W13).1) E15.1) (Keep.of_wr W18).1) E20.1) (Keep.of_wr W23).1) E25.1) E27.1) (Keep.of_wr W30).1) E32.1) (Keep.of_wr W35).1) E37.1) (Keep.of_wr W40).1) E42.1) (Keep.of_wr W45).1) E47.1) Kq50.1) (Keep.of_wr W62).1) Kq65.1) (Keep.of_wr W77).1) Kq80.1) (Keep.of_wr W92).1) Kq95.1) (Keep.of_wr W107).1) (Nat.le_of_eq g109.symm)))) nin0))
    have f129 := (f111.keep Kq112 (allS (Nat.le_trans Z0 sz_b109) all0))
    obtain ⟨cq130, kq130, q130a, q130b, q130c⟩ := isOf hZ rfl f112_4
    obtain ⟨_, _, ⟨T130, L130, k130, n130⟩, -, X130, ⟨Lc130, hQ130, l130, y130, z130⟩, st130⟩ := X112.virtualBack hx (y := own_y1) (z := own_y1) hown (mvT hZ (hw _ (List.mem_of_getElem? (i := 96) rfl))) (mvT hZ (hw _ (List.mem_of_getElem? (i := 97) rfl))) (notFace_of_selects (args := #[]) (mvT hZ (hw _ (List.mem_of_getElem? (i := 99) rfl)))) (mvT hZ (hw _ (List.mem_of_getElem? (i := 99) rfl))) (mvT hZ (hw _ (List.mem_of_getElem? (i := 98) rfl))) (by decide) (backOf (W := 0) (rm12 l Z a0 hw [] b109 b27 (own_pick s0 b5 b10 b15 b20) v50 b112_0 y5 y13 T112.heap n0 (Nat.le_trans Z0 K113.1) hr50 f112_5 f112_1 y33 f112_2 f112_3 f128 f112_0 (Nat.le_trans Z0 sz_b112_0) (Nat.ne_of_lt (Nat.lt_of_lt_of_le y9.lt (Nat.le_trans (Nat.le_trans (Nat.le_trans (Nat.le_trans (Nat.le_trans (Nat.le_trans (Nat.le_trans (Nat.le_trans (Nat.le_trans (Nat.le_trans (Nat.le_trans (Nat.le_trans (Nat.le_trans (Nat.le_trans (Nat.le_trans (Nat.le_trans (Nat.le_trans (Nat.le_trans (Nat.le_trans (Nat.le_trans (Nat.le_trans (Nat.le_trans (Nat.le_trans (Nat.le_trans (Nat.le_trans (Nat.le_trans (Nat.le_trans (Nat.le_trans E3.1 E5.1) (Keep.of_wr W8).1) E10.1) (Keep.of_wr W13).1) E15.1) (Keep.of_wr W18).1) E20.1) (Keep.of_wr W23).1) E25.1) E27.1) (Keep.of_wr W30).1) E32.1) (Keep.of_wr W35).1) E37.1) (Keep.of_wr W40).1) E42.1) (Keep.of_wr W45).1) E47.1) Kq50.1) (Keep.of_wr W62).1) Kq65.1) (Keep.of_wr W77).1) Kq80.1) (Keep.of_wr W92).1) Kq95.1) (Keep.of_wr W107).1) E109.1) sq112_0))) f129) hZ (hw _ (List.mem_of_getElem? (i := 100) rfl)) (hw _ (List.mem_of_getElem? (i := 53) rfl)) (by decide) (by decide)) q130a q130c (g := (mkF m 204 #[.val (.int i1), .val (.int i2), .val (.int i3), .val (.int (1 : Int32)), .val (.int qq), .val (.int s0), .val (.int s1), .val (.int s2), .val (.int s3), .val (.ref b3), .val (.ref b25), .val (.ref b47), .val (.ref b109), .unset, .unset] [v50, (.ref (own_pick s0 b5 b10 b15 b20)), (.ref b27), (.ref b109)])) rfl (by rw [hml]; rfl) (Steps.refl _) (argsL := [(.ref b27), (.ref (own_pick s0 b5 b10 b15 b20)), v50]) (rest := []) (lenOf pd_6 rfl) rfl (by show 2 * 0 + _ ≤ _; exact Nat.le_of_eq rfl) (hb hby at_204) (fun _ _ => ⟨rfl, rfl, (by decide : 29 + 2 ≤ _), (by decide : 88 + 13 ≤ _)⟩)
    dsimp only [Pt.U, Pt.locs, Pt.cells, Pt.slots] at X130 l130 y130 z130 st130 hQ130
    subst l130 y130 z130
    obtain ⟨b130_0, b130_1, k130_2, rfl, Nq130, Kq130, sq130_0, sq130_1, f130_0, f130_1, f130_2, f130_3, f130_4, f130_5, f130_6, f130_7, f130_8, f130_9, f130_10⟩ := hQ130
    have sz_b130_0 : h0.size ≤ b130_0 := Nat.le_trans K113.1 sq130_0
    have sz_b130_1 : h0.size ≤ b130_1 := Nat.le_trans K113.1 sq130_1
    have K131 : Keep h0 T130.heap [] := K113.trans Kq130 (allS (Or.inr sz_b112_0) all0)
    have N130 := Fr.app N112 Nq130
    have f132 := (f124.keep Kq130 (ninS (Nat.ne_of_lt (Nat.lt_of_lt_of_le V3.lt (Nat.le_trans (Nat.le_trans (Nat.le_trans (Nat.le_trans (Nat.le_trans (Nat.le_trans (Nat.le_trans (Nat.le_trans (Nat.le_trans (Nat.le_trans (Nat.le_trans (Nat.le_trans (Nat.le_trans (Nat.le_trans (Nat.le_trans (Nat.le_trans (Nat.le_trans (Nat.le_trans (Nat.le_trans (Nat.le_trans (Nat.le_trans (Nat.le_trans (Nat.le_trans (Nat.le_trans (Nat.le_trans (Nat.le_trans (Nat.le_trans E5.1 (Keep.of_wr W8).1) E10.1) (Keep.of_wr W13).1) E15.1) (Keep.of_wr W18).1) E20.1) (Keep.of_wr W23).1) E25.1) E27.1) (Keep.of_wr W30).1) E32.1) (Keep.of_wr W35).1) E37.1) (Keep.of_wr W40).1) E42.1) (Keep.of_wr W45).1) E47.1) Kq50.1) (Keep.of_wr W62).1) Kq65.1) (Keep.of_wr W77).1) Kq80.1) (Keep.of_wr W92).1) Kq95.1) (Keep.of_wr W107).1) E109.1) sq112_0))) nin0))
    obtain ⟨cl133, Ar133, Cq133, Sz133, Nn133, Hh133, Gg133⟩ := id f132
    have hin133 : ¬ (qq < 0 ∨ cl133.slots.size ≤ (qq).toNatClampNeg) := inb_of Sz133 (own_in4 d_qq)
    have hat133 : cl133.slots[(qq).toNatClampNeg]? = some (.ref (own_pick qq b5 b10 b15 b20)) := Hh133.at hin133 (own_pickat d_qq b5 b10 b15 b20)
    have f134 := (f112_5.keep Kq130 (ninS (Nat.ne_of_lt (Nat.lt_of_lt_of_le A109.lt (Nat.le_trans (Nat.le_refl _) sq112_0))) nin0))
    obtain ⟨cl135, Ar135, Cq135, Sz135, Nn135, Hh135, Gg135⟩ := id f130_6
    have hin135 : ¬ ((0 : Int32) < 0 ∨ cl135.slots.size ≤ ((0 : Int32)).toNatClampNeg) := inb_of Sz135 ⟨by decide, by decide⟩
    have hat135 : cl135.slots[((0 : Int32)).toNatClampNeg]? = some (.ref b130_0) := Hh135.at hin135 rfl
    have f137 := (f112_4.keep Kq130)
    obtain ⟨cq136, kq136, q136a, q136b, q136c⟩ := isOf hZ rfl f137
    obtain ⟨_, _, ⟨T136, L136, k136, n136⟩, -, X136, ⟨Lc136, hQ136, l136, y136, z136⟩, st136⟩ := X130.virtualBack hx (y := own_y6) (z := own_y6) hown (mvT hZ (hw _ (List.mem_of_getElem? (i := 84) rfl))) (mvT hZ (hw _ (List.mem_of_getElem? (i := 85) rfl))) (notFace_of_selects (args := #[]) (mvT hZ (hw _ (List.mem_of_getElem? (i := 87) rfl)))) (mvT hZ (hw _ (List.mem_of_getElem? (i := 87) rfl))) (mvT hZ (hw _ (List.mem_of_getElem? (i := 86) rfl))) (by decide) (backOf (W := 0) (rm10a l Z a0 hw [] b109 (own_pick qq b5 b10 b15 b20) b112_0 b130_1 cl135 b130_0 (own_pick s0 b5 b10 b15 b20) v50 T130.heap n0 (Nat.le_trans Z0 K131.1) f134 f130_8 f130_4 f130_5 ⟨Ar135, hin135, hat135⟩ f130_0 f130_2 hr50 f130_3) hZ (hw _ (List.mem_of_getElem? (i := 88) rfl)) (hw _ (List.mem_of_getElem? (i := 53) rfl)) (by decide) (by decide)) q136a q136c (g := (mkF m 283 #[.val (.int i1), .val (.int i2), .val (.int i3), .val (.int (1 : Int32)), .val (.int qq), .val (.int s0), .val (.int s1), .val (.int s2), .val (.int s3), .val (.ref b3), .val (.ref b25), .val (.ref b47), .val (.ref b109), .unset, .unset] [(.ref (own_pick qq b5 b10 b15 b20)), (.ref b109)])) rfl (by rw [hml]; rfl) (Steps.refl _) (argsL := [(.ref (own_pick qq b5 b10 b15 b20))]) (rest := []) (lenOf pd_5 rfl) rfl (by show 2 * 0 + _ ≤ _; exact Nat.le_of_eq rfl) (hb hby at_283) (fun _ _ => ⟨rfl, rfl, (by decide : 31 + 0 ≤ _), (by decide : 101 + 0 ≤ _)⟩)
    dsimp only [Pt.U, Pt.locs, Pt.cells, Pt.slots] at X136 l136 y136 z136 st136 hQ136
    subst l136 y136 z136
    obtain ⟨rfl, Nq136, e136, f136_0⟩ := hQ136
    have N136 := Fr.app N130 Nq136
    have pre138 : ∀ t, Steps p.tables e below (T136.setTop (mkF m 299 #[.val (.int i1), .val (.int i2), .val (.int i3), .val (.int (1 : Int32)), .val (.int qq), .val (.int s0), .val (.int s1), .val (.int s2), .val (.int s3), .val (.ref b3), .val (.ref b25), .val (.ref b47), .val (.ref b109), .val (own_r10a (own_pick qq b5 b10 b15 b20) (own_pick s0 b5 b10 b15 b20) v50), .val .null] [(.int qq), (.int s0)])) t → Steps p.tables e below (s₁.setTop (entryFrame m #[(.int i1), (.int i2), (.int i3)] maxLocals)) t := by
      intro t k
      refine pre121 _ ?_
      show Steps p.tables e below (T112.setTop (mkF m 185 #[.val (.int i1), .val (.int i2), .val (.int i3), .val (.int (1 : Int32)), .val (.int qq), .val (.int s0), .val (.int s1), .val (.int s2), .val (.int s3), .val (.ref b3), .val (.ref b25), .val (.ref b47), .val (.ref b109), .unset, .unset] [])) _
      refine XS.iloadN X112.here hx rfl (hb hby at_185) rfl ?_
      refine XS.ifNo X112.here hx rfl (hb hby at_186) rfl ((if0 _ _).trans (tlt (by decide : (0 : Int32) < (1 : Int32))).2.2.2) ?_
      show Steps p.tables e below (T112.setTop (mkF m 189 #[.val (.int i1), .val (.int i2), .val (.int i3), .val (.int (1 : Int32)), .val (.int qq), .val (.int s0), .val (.int s1), .val (.int s2), .val (.int s3), .val (.ref b3), .val (.ref b25), .val (.ref b47), .val (.ref b109), .unset, .unset] [])) _
      refine XS.aload X112.here hx rfl (hb hby at_189) rfl rfl ?_
      refine XS.aload X112.here hx rfl (hb hby at_191) rfl rfl ?_
      show Steps p.tables e below (T112.setTop (mkF m 193 #[.val (.int i1), .val (.int i2), .val (.int i3), .val (.int (1 : Int32)), .val (.int qq), .val (.int s0), .val (.int s1), .val (.int s2), .val (.int s3), .val (.ref b3), .val (.ref b25), .val (.ref b47), .val (.ref b109), .unset, .unset] [(.ref b25), (.ref b109)])) _
      refine XS.iconst X112.here hx rfl (hb hby at_193) ?_
      show Steps p.tables e below (T112.setTop (mkF m 194 #[.val (.int i1), .val (.int i2), .val (.int i3), .val (.int (1 : Int32)), .val (.int qq), .val (.int s0), .val (.int s1), .val (.int s2), .val (.int s3), .val (.ref b3), .val (.ref b25), .val (.ref b47), .val (.ref b109), .unset, .unset] [(.int (0 : Int32)), (.ref b25), (.ref b109)])) _
      refine X112.aaload hx (j := (0 : Int32)) (v := (.ref b27)) (by exact Ar123.1) (State.isArrayOf_alike hZ.alike Ar123.2.1) rfl Ar123.2.2 hin123 hat123 (g := (mkF m 194 #[.val (.int i1), .val (.int i2), .val (.int i3), .val (.int (1 : Int32)), .val (.int qq), .val (.int s0), .val (.int s1), .val (.int s2), .val (.int s3), .val (.ref b3), .val (.ref b25), .val (.ref b47), .val (.ref b109), .unset, .unset] [(.int (0 : Int32)), (.ref b25), (.ref b109)])) rfl rfl (hb hby at_194) _ ?_
      show Steps p.tables e below (T112.setTop (mkF m 195 #[.val (.int i1), .val (.int i2), .val (.int i3), .val (.int (1 : Int32)), .val (.int qq), .val (.int s0), .val (.int s1), .val (.int s2), .val (.int s3), .val (.ref b3), .val (.ref b25), .val (.ref b47), .val (.ref b109), .unset, .unset] [(.ref b27), (.ref b109)])) _
      refine XS.aload X112.here hx rfl (hb hby at_195) rfl rfl ?_
      refine XS.iload X112.here hx rfl (hb hby at_197) rfl ?_
      show Steps p.tables e below (T112.setTop (mkF m 199 #[.val (.int i1), .val (.int i2), .val (.int i3), .val (.int (1 : Int32)), .val (.int qq), .val (.int s0), .val (.int s1), .val (.int s2), .val (.int s3), .val (.ref b3), .val (.ref b25), .val (.ref b47), .val (.ref b109), .unset, .unset] [(.int s0), (.ref b3), (.ref b27), (.ref b109)])) _
      refine X112.aaload hx (j := s0) (v := (.ref (own_pick s0 b5 b10 b15 b20))) (by exact Ar125.1) (State.isArrayOf_alike hZ.alike Ar125.2.1) rfl Ar125.2.2 hin125 hat125 (g := (mkF m 199 #[.val (.int i1), .val (.int i2), .val (.int i3), .val (.int (1 : Int32)), .val (.int qq), .val (.int s0), .val (.int s1), .val (.int s2), .val (.int s3), .val (.ref b3), .val (.ref b25), .val (.ref b47), .val (.ref b109), .unset, .unset] [(.int s0), (.ref b3), (.ref b27), (.ref b109)])) rfl rfl (hb hby at_199) _ ?_
      show Steps p.tables e below (T112.setTop (mkF m 200 #[.val (.int i1), .val (.int i2), .val (.int i3), .val (.int (1 : Int32)), .val (.int qq), .val (.int s0), .val (.int s1), .val (.int s2), .val (.int s3), .val (.ref b3), .val (.ref b25), .val (.ref b47), .val (.ref b109), .unset, .unset] [(.ref (own_pick s0 b5 b10 b15 b20)), (.ref b27), (.ref b109)])) _
      refine XS.aload X112.here hx rfl (hb hby at_200) rfl rfl ?_
      refine XS.iconst X112.here hx rfl (hb hby at_202) ?_
      show Steps p.tables e below (T112.setTop (mkF m 203 #[.val (.int i1), .val (.int i2), .val (.int i3), .val (.int (1 : Int32)), .val (.int qq), .val (.int s0), .val (.int s1), .val (.int s2), .val (.int s3), .val (.ref b3), .val (.ref b25), .val (.ref b47), .val (.ref b109), .unset, .unset] [(.int (0 : Int32)), (.ref b47), (.ref (own_pick s0 b5 b10 b15 b20)), (.ref b27), (.ref b109)])) _
      refine X112.aaload hx (j := (0 : Int32)) (v := v50) (by exact Ar127.1) (State.isArrayOf_alike hZ.alike Ar127.2.1) rfl Ar127.2.2 hin127 hat127 (g := (mkF m 203 #[.val (.int i1), .val (.int i2), .val (.int i3), .val (.int (1 : Int32)), .val (.int qq), .val (.int s0), .val (.int s1), .val (.int s2), .val (.int s3), .val (.ref b3), .val (.ref b25), .val (.ref b47), .val (.ref b109), .unset, .unset] [(.int (0 : Int32)), (.ref b47), (.ref (own_pick s0 b5 b10 b15 b20)), (.ref b27), (.ref b109)])) rfl rfl (hb hby at_203) _ ?_
      show Steps p.tables e below (T112.setTop (mkF m 204 #[.val (.int i1), .val (.int i2), .val (.int i3), .val (.int (1 : Int32)), .val (.int qq), .val (.int s0), .val (.int s1), .val (.int s2), .val (.int s3), .val (.ref b3), .val (.ref b25), .val (.ref b47), .val (.ref b109), .unset, .unset] [v50, (.ref (own_pick s0 b5 b10 b15 b20)), (.ref b27), (.ref b109)])) _
      refine st130.trans ?_
      show Steps p.tables e below (T130.setTop (mkF m 207 #[.val (.int i1), .val (.int i2), .val (.int i3), .val (.int (1 : Int32)), .val (.int qq), .val (.int s0), .val (.int s1), .val (.int s2), .val (.int s3), .val (.ref b3), .val (.ref b25), .val (.ref b47), .val (.ref b109), .unset, .unset] [])) _
      refine XS.iloadN X130.here hx rfl (hb hby at_207) rfl ?_
      refine XS.iconst X130.here hx rfl (hb hby at_208) ?_
      show Steps p.tables e below (T130.setTop (mkF m 209 #[.val (.int i1), .val (.int i2), .val (.int i3), .val (.int (1 : Int32)), .val (.int qq), .val (.int s0), .val (.int s1), .val (.int s2), .val (.int s3), .val (.ref b3), .val (.ref b25), .val (.ref b47), .val (.ref b109), .unset, .unset] [(.int (1 : Int32)), (.int (1 : Int32))])) _
      refine XS.icmpYes X130.here hx rfl (pc0 := 209) (pc' := 230) rfl (hb hby at_209) rfl (flt (by decide : ¬ ((1 : Int32) < (1 : Int32)))).2.2.2 (by decide) (by decide) ?_
      refine XS.iloadN X130.here hx rfl (hb hby at_230) rfl ?_
      show Steps p.tables e below (T130.setTop (mkF m 231 #[.val (.int i1), .val (.int i2), .val (.int i3), .val (.int (1 : Int32)), .val (.int qq), .val (.int s0), .val (.int s1), .val (.int s2), .val (.int s3), .val (.ref b3), .val (.ref b25), .val (.ref b47), .val (.ref b109), .unset, .unset] [(.int (1 : Int32))])) _
      refine XS.iconst X130.here hx rfl (hb hby at_231) ?_
      refine XS.icmpYes X130.here hx rfl (pc0 := 232) (pc' := 253) rfl (hb hby at_232) rfl (flt (by decide : ¬ ((2 : Int32) < (1 : Int32)))).2.2.2 (by decide) (by decide) ?_
      show Steps p.tables e below (T130.setTop (mkF m 253 #[.val (.int i1), .val (.int i2), .val (.int i3), .val (.int (1 : Int32)), .val (.int qq), .val (.int s0), .val (.int s1), .val (.int s2), .val (.int s3), .val (.ref b3), .val (.ref b25), .val (.ref b47), .val (.ref b109), .unset, .unset] [])) _
      refine XS.iloadN X130.here hx rfl (hb hby at_253) rfl ?_
      refine XS.iconst X130.here hx rfl (hb hby at_254) ?_
      show Steps p.tables e below (T130.setTop (mkF m 255 #[.val (.int i1), .val (.int i2), .val (.int i3), .val (.int (1 : Int32)), .val (.int qq), .val (.int s0), .val (.int s1), .val (.int s2), .val (.int s3), .val (.ref b3), .val (.ref b25), .val (.ref b47), .val (.ref b109), .unset, .unset] [(.int (3 : Int32)), (.int (1 : Int32))])) _
      refine XS.icmpYes X130.here hx rfl (pc0 := 255) (pc' := 276) rfl (hb hby at_255) rfl (flt (by decide : ¬ ((3 : Int32) < (1 : Int32)))).2.2.2 (by decide) (by decide) ?_
      refine XS.aload X130.here hx rfl (hb hby at_276) rfl rfl ?_
      show Steps p.tables e below (T130.setTop (mkF m 278 #[.val (.int i1), .val (.int i2), .val (.int i3), .val (.int (1 : Int32)), .val (.int qq), .val (.int s0), .val (.int s1), .val (.int s2), .val (.int s3), .val (.ref b3), .val (.ref b25), .val (.ref b47), .val (.ref b109), .unset, .unset] [(.ref b109)])) _
      refine XS.aload X130.here hx rfl (hb hby at_278) rfl rfl ?_
      refine XS.iload X130.here hx rfl (hb hby at_280) rfl ?_
      show Steps p.tables e below (T130.setTop (mkF m 282 #[.val (.int i1), .val (.int i2), .val (.int i3), .val (.int (1 : Int32)), .val (.int qq), .val (.int s0), .val (.int s1), .val (.int s2), .val (.int s3), .val (.ref b3), .val (.ref b25), .val (.ref b47), .val (.ref b109), .unset, .unset] [(.int qq), (.ref b3), (.ref b109)])) _
      refine X130.aaload hx (j := qq) (v := (.ref (own_pick qq b5 b10 b15 b20))) (by exact Ar133.1) (State.isArrayOf_alike hZ.alike Ar133.2.1) rfl Ar133.2.2 hin133 hat133 (g := (mkF m 282 #[.val (.int i1), .val (.int i2), .val (.int i3), .val (.int (1 : Int32)), .val (.int qq), .val (.int s0), .val (.int s1), .val (.int s2), .val (.int s3), .val (.ref b3), .val (.ref b25), .val (.ref b47), .val (.ref b109), .unset, .unset] [(.int qq), (.ref b3), (.ref b109)])) rfl rfl (hb hby at_282) _ ?_
      show Steps p.tables e below (T130.setTop (mkF m 283 #[.val (.int i1), .val (.int i2), .val (.int i3), .val (.int (1 : Int32)), .val (.int qq), .val (.int s0), .val (.int s1), .val (.int s2), .val (.int s3), .val (.ref b3), .val (.ref b25), .val (.ref b47), .val (.ref b109), .unset, .unset] [(.ref (own_pick qq b5 b10 b15 b20)), (.ref b109)])) _
      refine st136.trans ?_
      show Steps p.tables e below (T136.setTop (mkF m 286 #[.val (.int i1), .val (.int i2), .val (.int i3), .val (.int (1 : Int32)), .val (.int qq), .val (.int s0), .val (.int s1), .val (.int s2), .val (.int s3), .val (.ref b3), .val (.ref b25), .val (.ref b47), .val (.ref b109), .unset, .unset] [(own_r10a (own_pick qq b5 b10 b15 b20) (own_pick s0 b5 b10 b15 b20) v50)])) _
      refine XS.astore X136.here hx rfl (hb hby at_286) rfl f136_0 (l' := #[.val (.int i1), .val (.int i2), .val (.int i3), .val (.int (1 : Int32)), .val (.int qq), .val (.int s0), .val (.int s1), .val (.int s2), .val (.int s3), .val (.ref b3), .val (.ref b25), .val (.ref b47), .val (.ref b109), .val (own_r10a (own_pick qq b5 b10 b15 b20) (own_pick s0 b5 b10 b15 b20) v50), .unset]) (show storeLocals #[.val (.int i1), .val (.int i2), .val (.int i3), .val (.int (1 : Int32)), .val (.int qq), .val (.int s0), .val (.int s1), .val (.int s2), .val (.int s3), .val (.ref b3), .val (.ref b25), .val (.ref b47), .val (.ref b109), .unset, .unset] 13 (own_r10a (own_pick qq b5 b10 b15 b20) (own_pick s0 b5 b10 b15 b20) v50) = some #[.val (.int i1), .val (.int i2), .val (.int i3), .val (.int (1 : Int32)), .val (.int qq), .val (.int s0), .val (.int s1), .val (.int s2), .val (.int s3), .val (.ref b3), .val (.ref b25), .val (.ref b47), .val (.ref b109), .val (own_r10a (own_pick qq b5 b10 b15 b20) (own_pick s0 b5 b10 b15 b20) v50), .unset] from XS.store1 (o := .unset) rfl (Or.inl rfl) (Jvm.Free.XT.cat1 f136_0)) ?_
      refine XS.aconstNull X136.here hx rfl (hb hby at_288) ?_
      show Steps p.tables e below (T136.setTop (mkF m 289 #[.val (.int i1), .val (.int i2), .val (.int i3), .val (.int (1 : Int32)), .val (.int qq), .val (.int s0), .val (.int s1), .val (.int s2), .val (.int s3), .val (.ref b3), .val (.ref b25), .val (.ref b47), .val (.ref b109), .val (own_r10a (own_pick qq b5 b10 b15 b20) (own_pick s0 b5 b10 b15 b20) v50), .unset] [.null])) _
      refine XS.astore X136.here hx rfl (hb hby at_289) rfl rfl (l' := #[.val (.int i1), .val (.int i2), .val (.int i3), .val (.int (1 : Int32)), .val (.int qq), .val (.int s0), .val (.int s1), .val (.int s2), .val (.int s3), .val (.ref b3), .val (.ref b25), .val (.ref b47), .val (.ref b109), .val (own_r10a (own_pick qq b5 b10 b15 b20) (own_pick s0 b5 b10 b15 b20) v50), .val .null]) rfl ?_
      refine XS.iloadN X136.here hx rfl (hb hby at_291) rfl ?_
      show Steps p.tables e below (T136.setTop (mkF m 292 #[.val (.int i1), .val (.int i2), .val (.int i3), .val (.int (1 : Int32)), .val (.int qq), .val (.int s0), .val (.int s1), .val (.int s2), .val (.int s3), .val (.ref b3), .val (.ref b25), .val (.ref b47), .val (.ref b109), .val (own_r10a (own_pick qq b5 b10 b15 b20) (own_pick s0 b5 b10 b15 b20) v50), .val .null] [(.int (1 : Int32))])) _
      refine XS.ifNo X136.here hx rfl (hb hby at_292) rfl ((if0 _ _).trans (tlt (by decide : (0 : Int32) < (1 : Int32))).2.2.2) ?_
      refine XS.iload X136.here hx rfl (hb hby at_295) rfl ?_
      show Steps p.tables e below (T136.setTop (mkF m 297 #[.val (.int i1), .val (.int i2), .val (.int i3), .val (.int (1 : Int32)), .val (.int qq), .val (.int s0), .val (.int s1), .val (.int s2), .val (.int s3), .val (.ref b3), .val (.ref b25), .val (.ref b47), .val (.ref b109), .val (own_r10a (own_pick qq b5 b10 b15 b20) (own_pick s0 b5 b10 b15 b20) v50), .val .null] [(.int s0)])) _
      refine XS.iload X136.here hx rfl (hb hby at_297) rfl ?_
      exact k
    have pre144 : ∀ t, Steps p.tables e below (T136.setTop (mkF m 308 #[.val (.int i1), .val (.int i2), .val (.int i3), .val (.int (1 : Int32)), .val (.int qq), .val (.int s0), .val (.int s1), .val (.int s2), .val (.int s3), .val (.ref b3), .val (.ref b25), .val (.ref b47), .val (.ref b109), .val (own_r10a (own_pick qq b5 b10 b15 b20) (own_pick s0 b5 b10 b15 b20) v50), .val (own_j0_299_0 qq s0 v50)] [])) t → Steps p.tables e below (s₁.setTop (entryFrame m #[(.int i1), (.int i2), (.int i3)] maxLocals)) t := by
      by_cases hc299_139 : s0 = qq
      · have f140 := (f126.keep Kq130 (ninS (Nat.ne_of_lt (Nat.lt_of_lt_of_le V47.lt (Nat.le_trans (Nat.le_trans (Nat.le_trans (Nat.le_trans (Nat.le_trans (Nat.le_trans (Nat.le_trans (Nat.le_trans (Nat.le_trans Kq50.1 (Keep.of_wr W62).1) Kq65.1) (Keep.of_wr W77).1) Kq80.1) (Keep.of_wr W92).1) Kq95.1) (Keep.of_wr W107).1) E109.1) sq112_0))) nin0))
        obtain ⟨cl141, Ar141, Cq141, Sz141, Nn141, Hh141, Gg141⟩ := id f140
        have hin141 : ¬ ((0 : Int32) < 0 ∨ cl141.slots.size ≤ ((0 : Int32)).toNatClampNeg) := inb_of Sz141 ⟨by decide, by decide⟩
        have hat141 : cl141.slots[((0 : Int32)).toNatClampNeg]? = some v50 := Hh141.at hin141 rfl
        have pre142 : ∀ t, Steps p.tables e below (T136.setTop (mkF m 308 #[.val (.int i1), .val (.int i2), .val (.int i3), .val (.int (1 : Int32)), .val (.int qq), .val (.int s0), .val (.int s1), .val (.int s2), .val (.int s3), .val (.ref b3), .val (.ref b25), .val (.ref b47), .val (.ref b109), .val (own_r10a (own_pick qq b5 b10 b15 b20) (own_pick s0 b5 b10 b15 b20) v50), .val v50] [])) t → Steps p.tables e below (s₁.setTop (entryFrame m #[(.int i1), (.int i2), (.int i3)] maxLocals)) t := by
          intro t k
          refine pre138 _ ?_
          show Steps p.tables e below (T136.setTop (mkF m 299 #[.val (.int i1), .val (.int i2), .val (.int i3), .val (.int (1 : Int32)), .val (.int qq), .val (.int s0), .val (.int s1), .val (.int s2), .val (.int s3), .val (.ref b3), .val (.ref b25), .val (.ref b47), .val (.ref b109), .val (own_r10a (own_pick qq b5 b10 b15 b20) (own_pick s0 b5 b10 b15 b20) v50), .val .null] [(.int qq), (.int s0)])) _
          refine XS.icmpNo X136.here hx rfl (hb hby at_299) rfl (teq hc299_139).2 ?_
          refine XS.aload X136.here hx rfl (hb hby at_302) rfl rfl ?_
          show Steps p.tables e below (T136.setTop (mkF m 304 #[.val (.int i1), .val (.int i2), .val (.int i3), .val (.int (1 : Int32)), .val (.int qq), .val (.int s0), .val (.int s1), .val (.int s2), .val (.int s3), .val (.ref b3), .val (.ref b25), .val (.ref b47), .val (.ref b109), .val (own_r10a (own_pick qq b5 b10 b15 b20) (own_pick s0 b5 b10 b15 b20) v50), .val .null] [(.ref b47)])) _
          refine XS.iconst X136.here hx rfl (hb hby at_304) ?_
          show Steps p.tables e below (T136.setTop (mkF m 305 #[.val (.int i1), .val (.int i2), .val (.int i3), .val (.int (1 : Int32)), .val (.int qq), .val (.int s0), .val (.int s1), .val (.int s2), .val (.int s3), .val (.ref b3), .val (.ref b25), .val (.ref b47), .val (.ref b109), .val (own_r10a (own_pick qq b5 b10 b15 b20) (own_pick s0 b5 b10 b15 b20) v50), .val .null] [(.int (0 : Int32)), (.ref b47)])) _
          refine X136.aaload hx (j := (0 : Int32)) (v := v50) (by rw [e136]; exact Ar141.1) (State.isArrayOf_alike hZ.alike Ar141.2.1) rfl Ar141.2.2 hin141 hat141 (g := (mkF m 305 #[.val (.int i1), .val (.int i2), .val (.int i3), .val (.int (1 : Int32)), .val (.int qq), .val (.int s0), .val (.int s1), .val (.int s2), .val (.int s3), .val (.ref b3), .val (.ref b25), .val (.ref b47), .val (.ref b109), .val (own_r10a (own_pick qq b5 b10 b15 b20) (own_pick s0 b5 b10 b15 b20) v50), .val .null] [(.int (0 : Int32)), (.ref b47)])) rfl rfl (hb hby at_305) _ ?_
          show Steps p.tables e below (T136.setTop (mkF m 306 #[.val (.int i1), .val (.int i2), .val (.int i3), .val (.int (1 : Int32)), .val (.int qq), .val (.int s0), .val (.int s1), .val (.int s2), .val (.int s3), .val (.ref b3), .val (.ref b25), .val (.ref b47), .val (.ref b109), .val (own_r10a (own_pick qq b5 b10 b15 b20) (own_pick s0 b5 b10 b15 b20) v50), .val .null] [v50])) _
          refine XS.astore X136.here hx rfl (hb hby at_306) rfl hr50 (l' := #[.val (.int i1), .val (.int i2), .val (.int i3), .val (.int (1 : Int32)), .val (.int qq), .val (.int s0), .val (.int s1), .val (.int s2), .val (.int s3), .val (.ref b3), .val (.ref b25), .val (.ref b47), .val (.ref b109), .val (own_r10a (own_pick qq b5 b10 b15 b20) (own_pick s0 b5 b10 b15 b20) v50), .val v50]) (show storeLocals #[.val (.int i1), .val (.int i2), .val (.int i3), .val (.int (1 : Int32)), .val (.int qq), .val (.int s0), .val (.int s1), .val (.int s2), .val (.int s3), .val (.ref b3), .val (.ref b25), .val (.ref b47), .val (.ref b109), .val (own_r10a (own_pick qq b5 b10 b15 b20) (own_pick s0 b5 b10 b15 b20) v50), .val .null] 14 v50 = some #[.val (.int i1), .val (.int i2), .val (.int i3), .val (.int (1 : Int32)), .val (.int qq), .val (.int s0), .val (.int s1), .val (.int s2), .val (.int s3), .val (.ref b3), .val (.ref b25), .val (.ref b47), .val (.ref b109), .val (own_r10a (own_pick qq b5 b10 b15 b20) (own_pick s0 b5 b10 b15 b20) v50), .val v50] from XS.store1 (o := .val .null) rfl (Or.inr ⟨_, rfl, rfl⟩) (Jvm.Free.XT.cat1 hr50)) ?_
          exact k
        exact fun t k => pre142 t (by rw [show (own_j0_299_0 qq s0 v50) = v50 from (if_pos hc299_139)] at k; exact k)
      · have pre143 : ∀ t, Steps p.tables e below (T136.setTop (mkF m 308 #[.val (.int i1), .val (.int i2), .val (.int i3), .val (.int (1 : Int32)), .val (.int qq), .val (.int s0), .val (.int s1), .val (.int s2), .val (.int s3), .val (.ref b3), .val (.ref b25), .val (.ref b47), .val (.ref b109), .val (own_r10a (own_pick qq b5 b10 b15 b20) (own_pick s0 b5 b10 b15 b20) v50), .val .null] [])) t → Steps p.tables e below (s₁.setTop (entryFrame m #[(.int i1), (.int i2), (.int i3)] maxLocals)) t := by
          intro t k
          refine pre138 _ ?_
          show Steps p.tables e below (T136.setTop (mkF m 299 #[.val (.int i1), .val (.int i2), .val (.int i3), .val (.int (1 : Int32)), .val (.int qq), .val (.int s0), .val (.int s1), .val (.int s2), .val (.int s3), .val (.ref b3), .val (.ref b25), .val (.ref b47), .val (.ref b109), .val (own_r10a (own_pick qq b5 b10 b15 b20) (own_pick s0 b5 b10 b15 b20) v50), .val .null] [(.int qq), (.int s0)])) _
          refine XS.icmpYes X136.here hx rfl (pc0 := 299) (pc' := 308) rfl (hb hby at_299) rfl (feq hc299_139).2 (by decide) (by decide) ?_
          exact k
        exact fun t k => pre143 t (by rw [show (own_j0_299_0 qq s0 v50) = Value.null from (if_neg hc299_139)] at k; exact k)
    have hr145 : (own_j0_299_0 qq s0 v50).isRef = true := by
      unfold own_j0_299_0
      repeat' split
      all_goals first | rfl | assumption
    have hr146 : ((own_r10a (own_pick qq b5 b10 b15 b20) (own_pick s0 b5 b10 b15 b20) v50) : Value) = ((own_j0_299_0 qq s0 v50) : Value) := (own_ob0_r366 qq s0 b5 b10 b15 b20 v50 s1 s2 s3 d_qq d_s0 d_s1 d_s2 d_s3 (Nat.ne_of_lt (Nat.lt_of_lt_of_le V5.lt (Nat.le_trans (Keep.of_wr W8).1 (Nat.le_of_eq g10.symm)))) (Nat.ne_of_lt (Nat.lt_of_lt_of_le V5.lt (Nat.le_trans (Nat.le_trans (Nat.le_trans (Keep.of_wr W8).1 E10.1) (Keep.of_wr W13).1) (Nat.le_of_eq g15.symm)))) (Nat.ne_of_lt (Nat.lt_of_lt_of_le V5.lt (Nat.le_trans (Nat.le_trans (Nat.le_trans (Nat.le_trans (Nat.le_trans (Keep.of_wr W8).1 E10.1) (Keep.of_wr W13).1) E15.1) (Keep.of_wr W18).1) (Nat.le_of_eq g20.symm)))) (Nat.ne_of_lt (Nat.lt_of_lt_of_le V10.lt (Nat.le_trans (Keep.of_wr W13).1 (Nat.le_of_eq g15.symm)))) (Nat.ne_of_lt (Nat.lt_of_lt_of_le V10.lt (Nat.le_trans (Nat.le_trans (Nat.le_trans (Keep.of_wr W13).1 E15.1) (Keep.of_wr W18).1) (Nat.le_of_eq g20.symm)))) (Nat.ne_of_lt (Nat.lt_of_lt_of_le V15.lt (Nat.le_trans (Keep.of_wr W18).1 (Nat.le_of_eq g20.symm)))))
    have pre147 : ∀ t, Steps p.tables e below (T136.setTop (mkF m 374 #[.val (.int i1), .val (.int i2), .val (.int i3), .val (.int (1 : Int32)), .val (.int qq), .val (.int s0), .val (.int s1), .val (.int s2), .val (.int s3), .val (.ref b3), .val (.ref b25), .val (.ref b47), .val (.ref b109), .val (own_r10a (own_pick qq b5 b10 b15 b20) (own_pick s0 b5 b10 b15 b20) v50), .val (own_j0_299_0 qq s0 v50)] [(.int (1 : Int32))])) t → Steps p.tables e below (s₁.setTop (entryFrame m #[(.int i1), (.int i2), (.int i3)] maxLocals)) t := by
      intro t k
      refine pre144 _ ?_
      show Steps p.tables e below (T136.setTop (mkF m 308 #[.val (.int i1), .val (.int i2), .val (.int i3), .val (.int (1 : Int32)), .val (.int qq), .val (.int s0), .val (.int s1), .val (.int s2), .val (.int s3), .val (.ref b3), .val (.ref b25), .val (.ref b47), .val (.ref b109), .val (own_r10a (own_pick qq b5 b10 b15 b20) (own_pick s0 b5 b10 b15 b20) v50), .val (own_j0_299_0 qq s0 v50)] [])) _
      refine XS.iloadN X136.here hx rfl (hb hby at_308) rfl ?_
      refine XS.iconst X136.here hx rfl (hb hby at_309) ?_
      show Steps p.tables e below (T136.setTop (mkF m 310 #[.val (.int i1), .val (.int i2), .val (.int i3), .val (.int (1 : Int32)), .val (.int qq), .val (.int s0), .val (.int s1), .val (.int s2), .val (.int s3), .val (.ref b3), .val (.ref b25), .val (.ref b47), .val (.ref b109), .val (own_r10a (own_pick qq b5 b10 b15 b20) (own_pick s0 b5 b10 b15 b20) v50), .val (own_j0_299_0 qq s0 v50)] [(.int (1 : Int32)), (.int (1 : Int32))])) _
      refine XS.icmpYes X136.here hx rfl (pc0 := 310) (pc' := 326) rfl (hb hby at_310) rfl (flt (by decide : ¬ ((1 : Int32) < (1 : Int32)))).2.2.2 (by decide) (by decide) ?_
      refine XS.iloadN X136.here hx rfl (hb hby at_326) rfl ?_
      show Steps p.tables e below (T136.setTop (mkF m 327 #[.val (.int i1), .val (.int i2), .val (.int i3), .val (.int (1 : Int32)), .val (.int qq), .val (.int s0), .val (.int s1), .val (.int s2), .val (.int s3), .val (.ref b3), .val (.ref b25), .val (.ref b47), .val (.ref b109), .val (own_r10a (own_pick qq b5 b10 b15 b20) (own_pick s0 b5 b10 b15 b20) v50), .val (own_j0_299_0 qq s0 v50)] [(.int (1 : Int32))])) _
      refine XS.iconst X136.here hx rfl (hb hby at_327) ?_
      refine XS.icmpYes X136.here hx rfl (pc0 := 328) (pc' := 344) rfl (hb hby at_328) rfl (flt (by decide : ¬ ((2 : Int32) < (1 : Int32)))).2.2.2 (by decide) (by decide) ?_
      show Steps p.tables e below (T136.setTop (mkF m 344 #[.val (.int i1), .val (.int i2), .val (.int i3), .val (.int (1 : Int32)), .val (.int qq), .val (.int s0), .val (.int s1), .val (.int s2), .val (.int s3), .val (.ref b3), .val (.ref b25), .val (.ref b47), .val (.ref b109), .val (own_r10a (own_pick qq b5 b10 b15 b20) (own_pick s0 b5 b10 b15 b20) v50), .val (own_j0_299_0 qq s0 v50)] [])) _
      refine XS.iloadN X136.here hx rfl (hb hby at_344) rfl ?_
      refine XS.iconst X136.here hx rfl (hb hby at_345) ?_
      show Steps p.tables e below (T136.setTop (mkF m 346 #[.val (.int i1), .val (.int i2), .val (.int i3), .val (.int (1 : Int32)), .val (.int qq), .val (.int s0), .val (.int s1), .val (.int s2), .val (.int s3), .val (.ref b3), .val (.ref b25), .val (.ref b47), .val (.ref b109), .val (own_r10a (own_pick qq b5 b10 b15 b20) (own_pick s0 b5 b10 b15 b20) v50), .val (own_j0_299_0 qq s0 v50)] [(.int (3 : Int32)), (.int (1 : Int32))])) _
      refine XS.icmpYes X136.here hx rfl (pc0 := 346) (pc' := 362) rfl (hb hby at_346) rfl (flt (by decide : ¬ ((3 : Int32) < (1 : Int32)))).2.2.2 (by decide) (by decide) ?_
      refine XS.aload X136.here hx rfl (hb hby at_362) rfl f136_0 ?_
      show Steps p.tables e below (T136.setTop (mkF m 364 #[.val (.int i1), .val (.int i2), .val (.int i3), .val (.int (1 : Int32)), .val (.int qq), .val (.int s0), .val (.int s1), .val (.int s2), .val (.int s3), .val (.ref b3), .val (.ref b25), .val (.ref b47), .val (.ref b109), .val (own_r10a (own_pick qq b5 b10 b15 b20) (own_pick s0 b5 b10 b15 b20) v50), .val (own_j0_299_0 qq s0 v50)] [(own_r10a (own_pick qq b5 b10 b15 b20) (own_pick s0 b5 b10 b15 b20) v50)])) _
      refine XS.aload X136.here hx rfl (hb hby at_364) rfl hr145 ?_
      show Steps p.tables e below (T136.setTop (mkF m 366 #[.val (.int i1), .val (.int i2), .val (.int i3), .val (.int (1 : Int32)), .val (.int qq), .val (.int s0), .val (.int s1), .val (.int s2), .val (.int s3), .val (.ref b3), .val (.ref b25), .val (.ref b47), .val (.ref b109), .val (own_r10a (own_pick qq b5 b10 b15 b20) (own_pick s0 b5 b10 b15 b20) v50), .val (own_j0_299_0 qq s0 v50)] [(own_j0_299_0 qq s0 v50), (own_r10a (own_pick qq b5 b10 b15 b20) (own_pick s0 b5 b10 b15 b20) v50)])) _
      refine Jvm.RoadKit.acmp (g := (mkF m 366 #[.val (.int i1), .val (.int i2), .val (.int i3), .val (.int (1 : Int32)), .val (.int qq), .val (.int s0), .val (.int s1), .val (.int s2), .val (.int s3), .val (.ref b3), .val (.ref b25), .val (.ref b47), .val (.ref b109), .val (own_r10a (own_pick qq b5 b10 b15 b20) (own_pick s0 b5 b10 b15 b20) v50), .val (own_j0_299_0 qq s0 v50)] [(own_j0_299_0 qq s0 v50), (own_r10a (own_pick qq b5 b10 b15 b20) (own_pick s0 b5 b10 b15 b20) v50)])) X136 hx rfl f136_0 hr145 (pc0 := 366) (pc' := 369) (same := true) rfl (hb hby at_366) rfl (decide_eq_true hr146) (by decide) (by decide) ?_
      show Steps p.tables e below (T136.setTop (mkF m 369 #[.val (.int i1), .val (.int i2), .val (.int i3), .val (.int (1 : Int32)), .val (.int qq), .val (.int s0), .val (.int s1), .val (.int s2), .val (.int s3), .val (.ref b3), .val (.ref b25), .val (.ref b47), .val (.ref b109), .val (own_r10a (own_pick qq b5 b10 b15 b20) (own_pick s0 b5 b10 b15 b20) v50), .val (own_j0_299_0 qq s0 v50)] [])) _
      refine XS.iconst X136.here hx rfl (hb hby at_369) ?_
      refine XS.goto X136.here hx rfl (pc0 := 370) (pc' := 374) rfl (hb hby at_370) (by decide) (by decide) ?_
      exact k
    obtain ⟨fs, hr, hrun, hended, hRW⟩ := Stand.leaveW (s := s) (vm₁ := T95.vm) (show Stand p l e room_1 (s.setVm T95.vm) m #[(.int i1), (.int i2), (.int i3)] below meth c T136 _ _ _ from X136) S95 (by rw [e136]; exact Nat.le_trans (Nat.le_of_eq (congrArg Array.size e95)) (Nat.le_trans (Nat.le_trans (Nat.le_trans (Keep.of_wr W107).1 E109.1) Kq112.1) Kq130.1)) (v := some (.int (1 : Int32))) (fun h => by rw [Bd.returns] at h; cases h)
    refine ⟨_, _, pre147 _ ?_, hrun, hended, _, _, rfl, ?_, hRW.1, hRW.2.1, hRW.2.2.1, hRW.2.2.2.mono (by decide) (by decide)⟩
    · show Steps p.tables e below (T136.setTop (mkF m 374 #[.val (.int i1), .val (.int i2), .val (.int i3), .val (.int (1 : Int32)), .val (.int qq), .val (.int s0), .val (.int s1), .val (.int s2), .val (.int s3), .val (.ref b3), .val (.ref b25), .val (.ref b47), .val (.ref b109), .val (own_r10a (own_pick qq b5 b10 b15 b20) (own_pick s0 b5 b10 b15 b20) v50), .val (own_j0_299_0 qq s0 v50)] [(.int (1 : Int32))])) _
      exact retN X136 hx (t := .boolean) Bd.returns (by simp) (hb hby at_374) hr
    · show Q0 Z i1 i2 i3 y5 y13 h0 n0 _ T136.heap _
      rw [e136]
      exact ⟨rfl, N136⟩
  · have pre148 : ∀ t, Steps p.tables e below (T112.setTop (mkF m 185 #[.val (.int i1), .val (.int i2), .val (.int i3), .val (.int (2 : Int32)), .val (.int qq), .val (.int s0), .val (.int s1), .val (.int s2), .val (.int s3), .val (.ref b3), .val (.ref b25), .val (.ref b47), .val (.ref b109), .unset, .unset] [])) t → Steps p.tables e below (s₁.setTop (entryFrame m #[(.int i1), (.int i2), (.int i3)] maxLocals)) t := fun t k => pre114 t (by rw [hk115]; exact k)
    have f149 := (((((((((((V45.ext E47).keep Kq50 nin0).other W62 (Nat.ne_of_lt (Nat.lt_of_lt_of_le V25.lt (Nat.le_trans (Nat.le_trans (Nat.le_trans (Nat.le_trans (Nat.le_trans (Nat.le_trans (Nat.le_trans (Nat.le_trans E27.1 (Keep.of_wr W30).1) E32.1) (Keep.of_wr W35).1) E37.1) (Keep.of_wr W40).1) E42.1) (Keep.of_wr W45).1) (Nat.le_of_eq g47.symm))))).keep Kq65 nin0).other W77 (Nat.ne_of_lt (Nat.lt_of_lt_of_le V25.lt (Nat.le_trans (Nat.le_trans (Nat.le_trans (Nat.le_trans (Nat.le_trans (Nat.le_trans (Nat.le_trans (Nat.le_trans E27.1 (Keep.of_wr W30).1) E32.1) (Keep.of_wr W35).1) E37.1) (Keep.of_wr W40).1) E42.1) (Keep.of_wr W45).1) (Nat.le_of_eq g47.symm))))).keep Kq80 nin0).other W92 (Nat.ne_of_lt (Nat.lt_of_lt_of_le V25.lt (Nat.le_trans (Nat.le_trans (Nat.le_trans (Nat.le_trans (Nat.le_trans (Nat.le_trans (Nat.le_trans (Nat.le_trans E27.1 (Keep.of_wr W30).1) E32.1) (Keep.of_wr W35).1) E37.1) (Keep.of_wr W40).1) E42.1) (Keep.of_wr W45).1) (Nat.le_of_eq g47.symm))))).keep Kq95 nin0).other W107 (Nat.ne_of_lt (Nat.lt_of_lt_of_le V25.lt (Nat.le_trans (Nat.le_trans (Nat.le_trans (Nat.le_trans (Nat.le_trans (Nat.le_trans (Nat.le_trans (Nat.le_trans E27.1 (Keep.of_wr W30).1) E32.1) (Keep.of_wr W35).1) E37.1) (Keep.of_wr W40).1) E42.1) (Keep.of_wr W45).1) (Nat.le_of_eq g47.symm))))).ext E109).keep Kq112 (ninS (Nat.ne_of_lt (Nat.lt_of_lt_of_le V25.lt (Nat.le_trans (Nat.le_trans (Nat.le_trans (Nat.le_trans (Nat.le_trans (Nat.le_trans (Nat.le_trans (Nat.le_trans (Nat.le_trans (Nat.le_trans (Nat.le_trans (Nat.le_trans (Nat.le_trans (Nat.le_trans (Nat.le_trans (Nat.le_trans (Nat.le_trans E27.1 (Keep.of_wr W30).1) E32.1) (Keep.of_wr W35).1) E37.1) (Keep.of_wr W40).1) E42.1) (Keep.of_wr W45).1) E47.1) Kq50.1) (Keep.of_wr W62).1) Kq65.1) (Keep.of_wr W77).1) Kq80.1) (Keep.of_wr W92).1) Kq95.1) (Keep.of_wr W107).1) (Nat.le_of_eq g109.symm)))) nin0))
    obtain ⟨cl150, Ar150, Cq150, Sz150, Nn150, Hh150, Gg150⟩ := id f149
    have hin150 : ¬ ((0 : Int32) < 0 ∨ cl150.slots.size ≤ ((0 : Int32)).toNatClampNeg) := inb_of Sz150 ⟨by decide, by decide⟩
    have hat150 : cl150.slots[((0 : Int32)).toNatClampNeg]? = some (.ref b27) := Hh150.at hin150 rfl
    have f151 := ((((((((((((((((((((V23.ext E25).ext E27).other W30 (Nat.ne_of_lt (Nat.lt_of_lt_of_le V3.lt (Nat.le_trans (Nat.le_trans (Nat.le_trans (Nat.le_trans (Nat.le_trans (Nat.le_trans (Nat.le_trans (Nat.le_trans E5.1 (Keep.of_wr W8).1) E10.1) (Keep.of_wr W13).1) E15.1) (Keep.of_wr W18).1) E20.1) (Keep.of_wr W23).1) (Nat.le_of_eq g25.symm))))).ext E32).other W35 (Nat.ne_of_lt (Nat.lt_of_lt_of_le V3.lt (Nat.le_trans (Nat.le_trans (Nat.le_trans (Nat.le_trans (Nat.le_trans (Nat.le_trans (Nat.le_trans (Nat.le_trans E5.1 (Keep.of_wr W8).1) E10.1) (Keep.of_wr W13).1) E15.1) (Keep.of_wr W18).1) E20.1) (Keep.of_wr W23).1) (Nat.le_of_eq g25.symm))))).ext E37).other W40 (Nat.ne_of_lt (Nat.lt_of_lt_of_le V3.lt (Nat.le_trans (Nat.le_trans (Nat.le_trans (Nat.le_trans (Nat.le_trans (Nat.le_trans (Nat.le_trans (Nat.le_trans E5.1 (Keep.of_wr W8).1) E10.1) (Keep.of_wr W13).1) E15.1) (Keep.of_wr W18).1) E20.1) (Keep.of_wr W23).1) (Nat.le_of_eq g25.symm))))).ext E42).other W45 (Nat.ne_of_lt (Nat.lt_of_lt_of_le V3.lt (Nat.le_trans (Nat.le_trans (Nat.le_trans (Nat.le_trans (Nat.le_trans (Nat.le_trans (Nat.le_trans (Nat.le_trans E5.1 (Keep.of_wr W8).1) E10.1) (Keep.of_wr W13).1) E15.1) (Keep.of_wr W18).1) E20.1) (Keep.of_wr W23).1) (Nat.le_of_eq g25.symm))))).ext E47).keep Kq50 nin0).other W62 (Nat.ne_of_lt (Nat.lt_of_lt_of_le V3.lt (Nat.le_trans (Nat.le_trans (Nat.le_trans (Nat.le_trans (Nat.le_trans (Nat.le_trans (Nat.le_trans (Nat.le_trans (Nat.le_trans (Nat.le_trans (Nat.le_trans (Nat.le_trans (Nat.le_trans (Nat.le_trans (Nat.le_trans (Nat.le_trans (Nat.le_trans E5.1 (Keep.of_wr W8).1) E10.1) (Keep.of_wr W13).1) E15.1) (Keep.of_wr W18).1) E20.1) (Keep.of_wr W23).1) E25.1) E27.1) (Keep.of_wr W30).1) E32.1) (Keep.of_wr W35).1) E37.1) (Keep.of_wr W40).1) E42.1) (Keep.of_wr W45).1) (Nat.le_of_eq g47.symm))))).keep Kq65 nin0).other W77 (Nat.ne_of_lt (Nat.lt_of_lt_of_le V3.lt (Nat.le_trans (Nat.le_trans (Nat.le_trans (Nat.le_trans (Nat.le_trans (Nat.le_trans (Nat.le_trans (Nat.le_trans (Nat.le_trans (Nat.le_trans (Nat.le_trans (Nat.le_trans (Nat.le_trans (Nat.le_trans (Nat.le_trans (Nat.le_trans (Nat.le_trans E5.1 (Keep.of_wr W8).1) E10.1) (Keep.of_wr W13).1) E15.1) (Keep.of_wr W18).1) E20.1) (Keep.of_wr W23).1) E25.1) E27.1) (Keep.of_wr W30).1) E32.1) (Keep.of_wr W35).1) E37.1) (Keep.of_wr W40).1) E42.1) (Keep.of_wr W45).1) (Nat.le_of_eq g47.symm))))).keep Kq80 nin0).other W92 (Nat.ne_of_lt (Nat.lt_of_lt_of_le V3.lt (Nat.le_trans (Nat.le_trans (Nat.le_trans (Nat.le_trans (Nat.le_trans (Nat.le_trans (Nat.le_trans (Nat.le_trans (Nat.le_trans (Nat.le_trans (Nat.le_trans (Nat.le_trans (Nat.le_trans (Nat.le_trans (Nat.le_trans (Nat.le_trans (Nat.le_trans E5.1 (Keep.of_wr W8).1) E10.1) (Keep.of_wr W13).1) E15.1) (Keep.of_wr W18).1) E20.1) (Keep.of_wr W23).1) E25.1) E27.1) (Keep.of_wr W30).1) E32.1) (Keep.of_wr W35).1) E37.1) (Keep.of_wr W40).1) E42.1) (Keep.of_wr W45).1) (Nat.le_of_eq g47.symm))))).keep Kq95 nin0).other W107 (Nat.ne_of_lt (Nat.lt_of_lt_of_le V3.lt (Nat.le_trans (Nat.le_trans (Nat.le_trans (Nat.le_trans (Nat.le_trans (Nat.le_trans (Nat.le_trans (Nat.le_trans (Nat.le_trans (Nat.le_trans (Nat.le_trans (Nat.le_trans (Nat.le_trans (Nat.le_trans (Nat.le_trans (Nat.le_trans (Nat.le_trans E5.1 (Keep.of_wr W8).1) E10.1) (Keep.of_wr W13).1) E15.1) (Keep.of_wr W18).1) E20.1) (Keep.of_wr W23).1) E25.1) E27.1) (Keep.of_wr W30).1) E32.1) (Keep.of_wr W35).1) E37.1) (Keep.of_wr W40).1) E42.1) (Keep.of_wr W45).1) (Nat.le_of_eq g47.symm))))).ext E109).keep Kq112 (ninS (Nat.ne_of_lt (Nat.lt_of_lt_of_le V3.lt (Nat.le_trans (Nat.le_trans (Nat.le_trans (Nat.le_trans (Nat.le_trans (Nat.le_trans (Nat.le_trans (Nat.le_trans (Nat.le_trans (Nat.le_trans (Nat.le_trans (Nat.le_trans (Nat.le_trans (Nat.le_trans (Nat.le_trans (Nat.le_trans (Nat.le_trans (Nat.le_trans (Nat.le_trans (Nat.le_trans (Nat.le_trans (Nat.le_trans (Nat.le_trans (Nat.le_trans (Nat.le_trans (Nat.le_trans E5.1 (Keep.of_wr W8).1) E10.1) (Keep.of_wr W13).1) E15.1) (Keep.of_wr W18).1) E20.1) (Keep.of_wr W23).1) E25.1) E27.1) (Keep.of_wr W30).1) E32.1) (Keep.of_wr W35).1) E37.1) (Keep.of_wr W40).1) E42.1) (Keep.of_wr W45).1) E47.1) Kq50.1) (Keep.of_wr W62).1) Kq65.1) (Keep.of_wr W77).1) Kq80.1) (Keep.of_wr W92).1) Kq95.1) (Keep.of_wr W107).1) (Nat.le_of_eq g109.symm)))) nin0))
    obtain ⟨cl152, Ar152, Cq152, Sz152, Nn152, Hh152, Gg152⟩ := id f151
    have hin152 : ¬ (s0 < 0 ∨ cl152.slots.size ≤ (s0).toNatClampNeg) := inb_of Sz152 (own_in4 d_s0)
    have hat152 : cl152.slots[(s0).toNatClampNeg]? = some (.ref (own_pick s0 b5 b10 b15 b20)) := Hh152.at hin152 (own_pickat d_s0 b5 b10 b15 b20)
    have f153 := ((V107.ext E109).keep Kq112 (ninS (Nat.ne_of_lt (Nat.lt_of_lt_of_le V47.lt (Nat.le_trans (Nat.le_trans (Nat.le_trans (Nat.le_trans (Nat.le_trans (Nat.le_trans (Nat.le_trans (Nat.le_trans Kq50.1 (Keep.of_wr W62).1) Kq65.1) (Keep.of_wr W77).1) Kq80.1) (Keep.of_wr W92).1) Kq95.1) (Keep.of_wr W107).1) (Nat.le_of_eq g109.symm)))) nin0))
    obtain ⟨cl154, Ar154, Cq154, Sz154, Nn154, Hh154, Gg154⟩ := id f153
    have hin154 : ¬ ((0 : Int32) < 0 ∨ cl154.slots.size ≤ ((0 : Int32)).toNatClampNeg) := inb_of Sz154 ⟨by decide, by decide⟩
    have hat154 : cl154.slots[((0 : Int32)).toNatClampNeg]? = some v50 := Hh154.at hin154 rfl
    have f155 := (((((((((((((((((((((((((((((y9.ext E3).ext E5).other W8 (Nat.ne_of_lt (Nat.lt_of_lt_of_le y9.lt (Nat.le_trans (Nat.le_refl _) (Nat.le_of_eq g3.symm))))).ext E10).other W13 (Nat.ne_of_lt (Nat.lt_of_lt_of_le y9.lt (Nat.le_trans (Nat.le_refl _) (Nat.le_of_eq g3.symm))))).ext E15).other W18 (Nat.ne_of_lt (Nat.lt_of_lt_of_le y9.lt (Nat.le_trans (Nat.le_refl _) (Nat.le_of_eq g3.symm))))).ext E20).other W23 (Nat.ne_of_lt (Nat.lt_of_lt_of_le y9.lt (Nat.le_trans (Nat.le_refl _) (Nat.le_of_eq g3.symm))))).ext E25).ext E27).other W30 (Nat.ne_of_lt (Nat.lt_of_lt_of_le y9.lt (Nat.le_trans (Nat.le_trans (Nat.le_trans (Nat.le_trans (Nat.le_trans (Nat.le_trans (Nat.le_trans (Nat.le_trans (Nat.le_trans E3.1 E5.1) (Keep.of_wr W8).1) E10.1) (Keep.of_wr W13).1) E15.1) (Keep.of_wr W18).1) E20.1) (Keep.of_wr W23).1) (Nat.le_of_eq g25.symm))))).ext E32).other W35 (Nat.ne_of_lt (Nat.lt_of_lt_of_le y9.lt (Nat.le_trans (Nat.le_trans (Nat.le_trans (Nat.le_trans (Nat.le_trans (Nat.le_trans (Nat.le_trans (Nat.le_trans (Nat.le_trans E3.1 E5.1) (Keep.of_wr W8).1) E10.1) (Keep.of_wr W13).1) E15.1) (Keep.of_wr W18).1) E20.1) (Keep.of_wr W23).1) (Nat.le_of_eq g25.symm))))).ext E37).other W40 (Nat.ne_of_lt (Nat.lt_of_lt_of_le y9.lt (Nat.le_trans (Nat.le_trans (Nat.le_trans (Nat.le_trans (Nat.le_trans (Nat.le_trans (Nat.le_trans (Nat.le_trans (Nat.le_trans E3.1 E5.1) (Keep.of_wr W8).1) E10.1) (Keep.of_wr W13).1) E15.1) (Keep.of_wr W18).1) E20.1) (Keep.of_wr W23).1) (Nat.le_of_eq g25.symm))))).ext E42).other W45 (Nat.ne_of_lt (Nat.lt_of_lt_of_le y9.lt (Nat.le_trans (Nat.le_trans (Nat.le_trans (Nat.le_trans (Nat.le_trans (Nat.le_trans (Nat.le_trans (Nat.le_trans (Nat.le_trans E3.1 E5.1) (Keep.of_wr W8).1) E10.1) (Keep.of_wr W13).1) E15.1) (Keep.of_wr W18).1) E20.1) (Keep.of_wr W23).1) (Nat.le_of_eq g25.symm))))).ext E47).keep Kq50 nin0).other W62 (Nat.ne_of_lt (Nat.lt_of_lt_of_le y9.lt (Nat.le_trans (Nat.le_trans (Nat.le_trans (Nat.le_trans (Nat.le_trans (Nat.le_trans (Nat.le_trans (Nat.le_trans (Nat.le_trans (Nat.le_trans (Nat.le_trans (Nat.le_trans (Nat.le_trans (Nat.le_trans (Nat.le_trans (Nat.le_trans (Nat.le_trans (Nat.le_trans E3.1 E5.1) (Keep.of_wr W8).1) E10.1) (Keep.of_wr W13).1) E15.1) (Keep.of_wr W18).1) E20.1) (Keep.of_wr W23).1) E25.1) E27.1) (Keep.of_wr W30).1) E32.1) (Keep.of_wr W35).1) E37.1) (Keep.of_wr W40).1) E42.1) (Keep.of_wr W45).1) (Nat.le_of_eq g47.symm))))).keep Kq65 nin0).other W77 (Nat.ne_of_lt (Nat.lt_of_lt_of_le y9.lt (Nat.le_trans (Nat.le_trans (Nat.le_trans (Nat.le_trans (Nat.le_trans (Nat.le_trans (Nat.le_trans (Nat.le_trans (Nat.le_trans (Nat.le_trans (Nat.le_trans (Nat.le_trans (Nat.le_trans (Nat.le_trans (Nat.le_trans (Nat.le_trans (Nat.le_trans (Nat.le_trans E3.1 E5.1) (Keep.of_wr W8).1) E10.1) (Keep.of_wr W13).1) E15.1) (Keep.of_wr W18).1) E20.1) (Keep.of_wr W23).1) E25.1) E27.1) (Keep.of_wr W30).1) E32.1) (Keep.of_wr W35).1) E37.1) (Keep.of_wr W40).1) E42.1) (Keep.of_wr W45).1) (Nat.le_of_eq g47.symm))))).keep Kq80 nin0).other W92 (Nat.ne_of_lt (Nat.lt_of_lt_of_le y9.lt (Nat.le_trans (Nat.le_trans (Nat.le_trans (Nat.le_trans (Nat.le_trans (Nat.le_trans (Nat.le_trans (Nat.le_trans (Nat.le_trans (Nat.le_trans (Nat.le_trans (Nat.le_trans (Nat.le_trans (Nat.le_trans (Nat.le_trans (Nat.le_trans (Nat.le_trans (Nat.le_trans E3.1 E5.1) (Keep.of_wr W8).1) E10.1) (Keep.of_wr W13).1) E15.1) (Keep.of_wr W18).1) E20.1) (Keep.of_wr W23).1) E25.1) E27.1) (Keep.of_wr W30).1) E32.1) (Keep.of_wr W35).1) E37.1) (Keep.of_wr W40).1) E42.1) (Keep.of_wr W45).1) (Nat.le_of_eq g47.symm))))).keep Kq95 nin0).other W107 (Nat.ne_of_lt (Nat.lt_of_lt_of_le y9.lt (Nat.le_trans (Nat.le_trans (Nat.le_trans (Nat.le_trans (Nat.le_trans (Nat.le_trans (Nat.le_trans (Nat.le_trans (Nat.le_trans (Nat.le_trans (Nat.le_trans (Nat.le_trans (Nat.le_trans (Nat.le_trans (Nat.le_trans (Nat.le_trans (Nat.le_trans (Nat.le_trans E3.1 E5.1) (Keep.of_wr W8).1) E10.1) (Keep.of_wr W13).1) E15.1) (Keep.of_wr W18).1) E20.1) (Keep.of_wr W23).1) E25.1) E27.1) (Keep.of_wr W30).1) E32.1) (Keep.of_wr W35).1) E37.1) (Keep.of_wr W40).1) E42.1) (Keep.of_wr W45).1) (Nat.le_of_eq g47.symm))))).ext E109).keep Kq112 (ninS (Nat.ne_of_lt (Nat.lt_of_lt_of_le y9.lt (Nat.le_trans (Nat.le_trans (Nat.le_trans (Nat.le_trans (Nat.le_trans (Nat.le_trans (Nat.le_trans (Nat.le_trans (Nat.le_trans (Nat.le_trans (Nat.le_trans (Nat.le_trans (Nat.le_trans (Nat.le_trans (Nat.le_trans (Nat.le_trans (Nat.le_trans (Nat.le_trans (Nat.le_trans (Nat.le_trans (Nat.le_trans (Nat.le_trans (Nat.le_trans (Nat.le_trans (Nat.le_trans (Nat.le_trans (Nat.le_trans E3.1 E5.1) (Keep.of_wr W8).1) E10.1) (Keep.of_wr W13).1) E15.1) (Keep.of_wr W18).1) E20.1) (Keep.of_wr W23).1) E25.1) E27.1) (Keep.of_wr W30).1) E32.1) (Keep.of_wr W35).1) E37.1) (Keep.of_wr W40).1) E42.1) (Keep.of_wr W45).1) E47.1) Kq50.1) (Keep.of_wr W62).1) Kq65.1) (Keep.of_wr W77).1) Kq80.1) (Keep.of_wr W92).1) Kq95.1) (Keep.of_wr W107).1) (Nat.le_of_eq g109.symm)))) nin0))
    have f156 := (f111.keep Kq112 (allS (Nat.le_trans Z0 sz_b109) all0))
    obtain ⟨cq157, kq157, q157a, q157b, q157c⟩ := isOf hZ rfl f112_4
    obtain ⟨_, _, ⟨T157, L157, k157, n157⟩, -, X157, ⟨Lc157, hQ157, l157, y157, z157⟩, st157⟩ := X112.virtualBack hx (y := own_y1) (z := own_y1) hown (mvT hZ (hw _ (List.mem_of_getElem? (i := 96) rfl))) (mvT hZ (hw _ (List.mem_of_getElem? (i := 97) rfl))) (notFace_of_selects (args := #[]) (mvT hZ (hw _ (List.mem_of_getElem? (i := 99) rfl)))) (mvT hZ (hw _ (List.mem_of_getElem? (i := 99) rfl))) (mvT hZ (hw _ (List.mem_of_getElem? (i := 98) rfl))) (by decide) (backOf (W := 0) (rm12 l Z a0 hw [] b109 b27 (own_pick s0 b5 b10 b15 b20) v50 b112_0 y5 y13 T112.heap n0 (Nat.le_trans Z0 K113.1) hr50 f112_5 f112_1 y33 f112_2 f112_3 f155 f112_0 (Nat.le_trans Z0 sz_b112_0) (Nat.ne_of_lt (Nat.lt_of_lt_of_le y9.lt (Nat.le_trans (Nat.le_trans (Nat.le_trans (Nat.le_trans (Nat.le_trans (Nat.le_trans (Nat.le_trans (Nat.le_trans (Nat.le_trans (Nat.le_trans (Nat.le_trans (Nat.le_trans (Nat.le_trans (Nat.le_trans (Nat.le_trans (Nat.le_trans (Nat.le_trans (Nat.le_trans (Nat.le_trans (Nat.le_trans (Nat.le_trans (Nat.le_trans (Nat.le_trans (Nat.le_trans (Nat.le_trans (Nat.le_trans (Nat.le_trans (Nat.le_trans E3.1 E5.1) (Keep.of_wr W8).1) E10.1) (Keep.of_wr W13).1) E15.1) (Keep.of_wr W18).1) E20.1) (Keep.of_wr W23).1) E25.1) E27.1) (Keep.of_wr W30).1) E32.1) (Keep.of_wr W35).1) E37.1) (Keep.of_wr W40).1) E42.1) (Keep.of_wr W45).1) E47.1) Kq50.1) (Keep.of_wr W62).1) Kq65.1) (Keep.of_wr W77).1) Kq80.1) (Keep.of_wr W92).1) Kq95.1) (Keep.of_wr W107).1) E109.1) sq112_0))) f156) hZ (hw _ (List.mem_of_getElem? (i := 100) rfl)) (hw _ (List.mem_of_getElem? (i := 53) rfl)) (by decide) (by decide)) q157a q157c (g := (mkF m 204 #[.val (.int i1), .val (.int i2), .val (.int i3), .val (.int (2 : Int32)), .val (.int qq), .val (.int s0), .val (.int s1), .val (.int s2), .val (.int s3), .val (.ref b3), .val (.ref b25), .val (.ref b47), .val (.ref b109), .unset, .unset] [v50, (.ref (own_pick s0 b5 b10 b15 b20)), (.ref b27), (.ref b109)])) rfl (by rw [hml]; rfl) (Steps.refl _) (argsL := [(.ref b27), (.ref (own_pick s0 b5 b10 b15 b20)), v50]) (rest := []) (lenOf pd_6 rfl) rfl (by show 2 * 0 + _ ≤ _; exact Nat.le_of_eq rfl) (hb hby at_204) (fun _ _ => ⟨rfl, rfl, (by decide : 29 + 2 ≤ _), (by decide : 88 + 13 ≤ _)⟩)
    dsimp only [Pt.U, Pt.locs, Pt.cells, Pt.slots] at X157 l157 y157 z157 st157 hQ157
    subst l157 y157 z157
    obtain ⟨b157_0, b157_1, k157_2, rfl, Nq157, Kq157, sq157_0, sq157_1, f157_0, f157_1, f157_2, f157_3, f157_4, f157_5, f157_6, f157_7, f157_8, f157_9, f157_10⟩ := hQ157
    have sz_b157_0 : h0.size ≤ b157_0 := Nat.le_trans K113.1 sq157_0
    have sz_b157_1 : h0.size ≤ b157_1 := Nat.le_trans K113.1 sq157_1
    have K158 : Keep h0 T157.heap [] := K113.trans Kq157 (allS (Or.inr sz_b112_0) all0)
    have N157 := Fr.app N112 Nq157
    have f159 := (f149.keep Kq157 (ninS (Nat.ne_of_lt (Nat.lt_of_lt_of_le V25.lt (Nat.le_trans (Nat.le_trans (Nat.le_trans (Nat.le_trans (Nat.le_trans (Nat.le_trans (Nat.le_trans (Nat.le_trans (Nat.le_trans (Nat.le_trans (Nat.le_trans (Nat.le_trans (Nat.le_trans (Nat.le_trans (Nat.le_trans (Nat.le_trans (Nat.le_trans (Nat.le_trans E27.1 (Keep.of_wr W30).1) E32.1) (Keep.of_wr W35).1) E37.1) (Keep.of_wr W40).1) E42.1) (Keep.of_wr W45).1) E47.1) Kq50.1) (Keep.of_wr W62).1) Kq65.1) (Keep.of_wr W77).1) Kq80.1) (Keep.of_wr W92).1) Kq95.1) (Keep.of_wr W107).1) E109.1) sq112_0))) nin0))
    obtain ⟨cl160, Ar160, Cq160, Sz160, Nn160, Hh160, Gg160⟩ := id f159
    have hin160 : ¬ ((1 : Int32) < 0 ∨ cl160.slots.size ≤ ((1 : Int32)).toNatClampNeg) := inb_of Sz160 ⟨by decide, by decide⟩
    have hat160 : cl160.slots[((1 : Int32)).toNatClampNeg]? = some (.ref b32) := Hh160.at hin160 rfl
    have f161 := (f151.keep Kq157 (ninS (Nat.ne_of_lt (Nat.lt_of_lt_of_le V3.lt (Nat.le_trans (Nat.le_trans (Nat.le_trans (Nat.le_trans (Nat.le_trans (Nat.le_trans (Nat.le_trans (Nat.le_trans (Nat.le_trans (Nat.le_trans (Nat.le_trans (Nat.le_trans (Nat.le_trans (Nat.le_trans (Nat.le_trans (Nat.le_trans (Nat.le_trans (Nat.le_trans (Nat.le_trans (Nat.le_trans (Nat.le_trans (Nat.le_trans (Nat.le_trans (Nat.le_trans (Nat.le_trans (Nat.le_trans (Nat.le_trans E5.1 (Keep.of_wr W8).1) E10.1) (Keep.of_wr W13).1) E15.1) (Keep.of_wr W18).1) E20.1) (Keep.of_wr W23).1) E25.1) E27.1) (Keep.of_wr W30).1) E32.1) (Keep.of_wr W35).1) E37.1) (Keep.of_wr W40).1) E42.1) (Keep.of_wr W45).1) E47.1) Kq50.1) (Keep.of_wr W62).1) Kq65.1) (Keep.of_wr W77).1) Kq80.1) (Keep.of_wr W92).1) Kq95.1) (Keep.of_wr W107).1) E109.1) sq112_0))) nin0))
    obtain ⟨cl162, Ar162, Cq162, Sz162, Nn162, Hh162, Gg162⟩ := id f161
    have hin162 : ¬ (s1 < 0 ∨ cl162.slots.size ≤ (s1).toNatClampNeg) := inb_of Sz162 (own_in4 d_s1)
    have hat162 : cl162.slots[(s1).toNatClampNeg]? = some (.ref (own_pick s1 b5 b10 b15 b20)) := Hh162.at hin162 (own_pickat d_s1 b5 b10 b15 b20)
    have f163 := (f153.keep Kq157 (ninS (Nat.ne_of_lt (Nat.lt_of_lt_of_le V47.lt (Nat.le_trans (Nat.le_trans (Nat.le_trans (Nat.le_trans (Nat.le_trans (Nat.le_trans (Nat.le_trans (Nat.le_trans (Nat.le_trans Kq50.1 (Keep.of_wr W62).1) Kq65.1) (Keep.of_wr W77).1) Kq80.1) (Keep.of_wr W92).1) Kq95.1) (Keep.of_wr W107).1) E109.1) sq112_0))) nin0))
    obtain ⟨cl164, Ar164, Cq164, Sz164, Nn164, Hh164, Gg164⟩ := id f163
    have hin164 : ¬ ((1 : Int32) < 0 ∨ cl164.slots.size ≤ ((1 : Int32)).toNatClampNeg) := inb_of Sz164 ⟨by decide, by decide⟩
    have hat164 : cl164.slots[((1 : Int32)).toNatClampNeg]? = some v65 := Hh164.at hin164 rfl
    have f165 := (f112_5.keep Kq157 (ninS (Nat.ne_of_lt (Nat.lt_of_lt_of_le A109.lt (Nat.le_trans (Nat.le_refl _) sq112_0))) nin0))
    have f167 := (f112_4.keep Kq157)
    obtain ⟨cq166, kq166, q166a, q166b, q166c⟩ := isOf hZ rfl f167
    obtain ⟨_, _, ⟨T166, L166, k166, n166⟩, -, X166, ⟨Lc166, hQ166, l166, y166, z166⟩, st166⟩ := X157.virtualBack hx (y := own_y1) (z := own_y1) hown (mvT hZ (hw _ (List.mem_of_getElem? (i := 96) rfl))) (mvT hZ (hw _ (List.mem_of_getElem? (i := 97) rfl))) (notFace_of_selects (args := #[]) (mvT hZ (hw _ (List.mem_of_getElem? (i := 99) rfl)))) (mvT hZ (hw _ (List.mem_of_getElem? (i := 99) rfl))) (mvT hZ (hw _ (List.mem_of_getElem? (i := 98) rfl))) (by decide) (backOf (W := 0) (rm12a l Z a0 hw [] b109 b32 (own_pick s1 b5 b10 b15 b20) v65 b112_0 b157_1 b157_0 k157_2 T157.heap n0 (Nat.le_trans Z0 K158.1) hr65 f165 f157_7 f157_5 f157_8 f157_10 f157_6 f157_4 (Nat.le_trans Z0 sz_b112_0) (Ne.symm (Nat.ne_of_lt (Nat.lt_of_lt_of_le f112_0.lt (Nat.le_trans (Nat.le_refl _) sq157_1)))) (Nat.le_trans Z0 sz_b157_1)) hZ (hw _ (List.mem_of_getElem? (i := 100) rfl)) (hw _ (List.mem_of_getElem? (i := 53) rfl)) (by decide) (by decide)) q166a q166c (g := (mkF m 227 #[.val (.int i1), .val (.int i2), .val (.int i3), .val (.int (2 : Int32)), .val (.int qq), .val (.int s0), .val (.int s1), .val (.int s2), .val (.int s3), .val (.ref b3), .val (.ref b25), .val (.ref b47), .val (.ref b109), .unset, .unset] [v65, (.ref (own_pick s1 b5 b10 b15 b20)), (.ref b32), (.ref b109)])) rfl (by rw [hml]; rfl) (Steps.refl _) (argsL := [(.ref b32), (.ref (own_pick s1 b5 b10 b15 b20)), v65]) (rest := []) (lenOf pd_6 rfl) rfl (by show 2 * 0 + _ ≤ _; exact Nat.le_of_eq rfl) (hb hby at_227) (fun _ _ => ⟨rfl, rfl, (by decide : 31 + 1 ≤ _), (by decide : 101 + 3 ≤ _)⟩)
    dsimp only [Pt.U, Pt.locs, Pt.cells, Pt.slots] at X166 l166 y166 z166 st166 hQ166
    subst l166 y166 z166
    obtain ⟨b166_0, rfl, Nq166, Kq166, sq166_0, f166_0, f166_1, f166_2, f166_3, f166_4, f166_5, f166_6, f166_7, f166_8, f166_9⟩ := hQ166
    have sz_b166_0 : h0.size ≤ b166_0 := Nat.le_trans K158.1 sq166_0
    have K168 : Keep h0 T166.heap [] := K158.trans Kq166 (allS (Or.inr sz_b157_1) (allS (Or.inr sz_b112_0) all0))
    have N166 := Fr.app N157 Nq166
    have f169 := (f161.keep Kq166 (ninS (Nat.ne_of_lt (Nat.lt_of_lt_of_le V3.lt (Nat.le_trans (Nat.le_trans (Nat.le_trans (Nat.le_trans (Nat.le_trans (Nat.le_trans (Nat.le_trans (Nat.le_trans (Nat.le_trans (Nat.le_trans (Nat.le_trans (Nat.le_trans (Nat.le_trans (Nat.le_trans (Nat.le_trans (Nat.le_trans (Nat.le_trans (Nat.le_trans (Nat.le_trans (Nat.le_trans (Nat.le_trans (Nat.le_trans (Nat.le_trans (Nat.le_trans (Nat.le_trans (Nat.le_trans (Nat.le_trans (Nat.le_trans E5.1 (Keep.of_wr W8).1) E10.1) (Keep.of_wr W13).1) E15.1) (Keep.of_wr W18).1) E20.1) (Keep.of_wr W23).1) E25.1) E27.1) (Keep.of_wr W30).1) E32.1) (Keep.of_wr W35).1) E37.1) (Keep.of_wr W40).1) E42.1) (Keep.of_wr W45).1) E47.1) Kq50.1) (Keep.of_wr W62).1) Kq65.1) (Keep.of_wr W77).1) Kq80.1) (Keep.of_wr W92).1) Kq95.1) (Keep.of_wr W107).1) E109.1) Kq112.1) sq157_1))) (ninS (Nat.ne_of_lt (Nat.lt_of_lt_of_le V3.lt (Nat.le_trans (Nat.le_trans (Nat.le_trans (Nat.le_trans (Nat.le_trans (Nat.le_trans (Nat.le_trans (Nat.le_trans (Nat.le_trans (Nat.le_trans (Nat.le_trans (Nat.le_trans (Nat.le_trans (Nat.le_trans (Nat.le_trans (Nat.le_trans (Nat.le_trans (Nat.le_trans (Nat.le_trans (Nat.le_trans (Nat.le_trans (Nat.le_trans (Nat.le_trans (Nat.le_trans (Nat.le_trans (Nat.le_trans (Nat.le_trans E5.1 (Keep.of_wr W8).1) E10.1) (Keep.of_wr W13).1) E15.1) (Keep.of_wr W18).1) E20.1) (Keep.of_wr W23).1) E25.1) E27.1) (Keep.of_wr W30).1) E32.1) (Keep.of_wr W35).1) E37.1) (Keep.of_wr W40).1) E42.1) (Keep.of_wr W45).1) E47.1) Kq50.1) (Keep.of_wr W62).1) Kq65.1) (Keep.of_wr W77).1) Kq80.1) (Keep.of_wr W92).1) Kq95.1) (Keep.of_wr W107).1) E109.1) sq112_0))) nin0)))
    obtain ⟨cl170, Ar170, Cq170, Sz170, Nn170, Hh170, Gg170⟩ := id f169
    have hin170 : ¬ (qq < 0 ∨ cl170.slots.size ≤ (qq).toNatClampNeg) := inb_of Sz170 (own_in4 d_qq)
    have hat170 : cl170.slots[(qq).toNatClampNeg]? = some (.ref (own_pick qq b5 b10 b15 b20)) := Hh170.at hin170 (own_pickat d_qq b5 b10 b15 b20)
    have f171 := (f165.keep Kq166 (ninS (Nat.ne_of_lt (Nat.lt_of_lt_of_le A109.lt (Nat.le_trans Kq112.1 sq157_1))) (ninS (Nat.ne_of_lt (Nat.lt_of_lt_of_le A109.lt (Nat.le_trans (Nat.le_refl _) sq112_0))) nin0)))
    have f172 := (f157_2.keep Kq166 (ninS f157_9 (ninS (Ne.symm (Nat.ne_of_lt (Nat.lt_of_lt_of_le f112_0.lt (Nat.le_trans (Nat.le_refl _) sq157_0)))) nin0)))
    have f173 := (f157_3.keep Kq166 (ninS f157_9 (ninS (Ne.symm (Nat.ne_of_lt (Nat.lt_of_lt_of_le f112_0.lt (Nat.le_trans (Nat.le_refl _) sq157_0)))) nin0)))
    obtain ⟨cl174, Ar174, Cq174, Sz174, Nn174, Hh174, Gg174⟩ := id f166_5
    have hin174 : ¬ ((1 : Int32) < 0 ∨ cl174.slots.size ≤ ((1 : Int32)).toNatClampNeg) := inb_of Sz174 ⟨by decide, by decide⟩
    have hat174 : cl174.slots[((1 : Int32)).toNatClampNeg]? = some (.ref b166_0) := Hh174.at hin174 rfl
    obtain ⟨cl175, Ar175, Cq175, Sz175, Nn175, Hh175, Gg175⟩ := id f166_5
    have hin175 : ¬ ((0 : Int32) < 0 ∨ cl175.slots.size ≤ ((0 : Int32)).toNatClampNeg) := inb_of Sz175 ⟨by decide, by decide⟩
    have hat175 : cl175.slots[((0 : Int32)).toNatClampNeg]? = some (.ref b157_0) := Hh175.at hin175 rfl
    have f176 := (f157_0.keep Kq166)
    have f178 := (f167.keep Kq166)
    obtain ⟨cq177, kq177, q177a, q177b, q177c⟩ := isOf hZ rfl f178
    obtain ⟨_, _, ⟨T177, L177, k177, n177⟩, -, X177, ⟨Lc177, hQ177, l177, y177, z177⟩, st177⟩ := X166.virtualBack hx (y := own_y6) (z := own_y6) hown (mvT hZ (hw _ (List.mem_of_getElem? (i := 84) rfl))) (mvT hZ (hw _ (List.mem_of_getElem? (i := 85) rfl))) (notFace_of_selects (args := #[]) (mvT hZ (hw _ (List.mem_of_getElem? (i := 87) rfl)))) (mvT hZ (hw _ (List.mem_of_getElem? (i := 87) rfl))) (mvT hZ (hw _ (List.mem_of_getElem? (i := 86) rfl))) (by decide) (backOf (W := 0) (rm10b l Z a0 hw [] b109 (own_pick qq b5 b10 b15 b20) b112_0 b157_1 cl174 b166_0 (own_pick s1 b5 b10 b15 b20) v65 cl175 b157_0 (own_pick s0 b5 b10 b15 b20) v50 T166.heap n0 (Nat.le_trans Z0 K168.1) f171 f166_6 f166_4 f166_8 ⟨Ar174, hin174, hat174⟩ f166_0 f166_2 hr65 f166_3 ⟨Ar175, hin175, hat175⟩ f176 f172 hr50 f173) hZ (hw _ (List.mem_of_getElem? (i := 88) rfl)) (hw _ (List.mem_of_getElem? (i := 53) rfl)) (by decide) (by decide)) q177a q177c (g := (mkF m 283 #[.val (.int i1), .val (.int i2), .val (.int i3), .val (.int (2 : Int32)), .val (.int qq), .val (.int s0), .val (.int s1), .val (.int s2), .val (.int s3), .val (.ref b3), .val (.ref b25), .val (.ref b47), .val (.ref b109), .unset, .unset] [(.ref (own_pick qq b5 b10 b15 b20)), (.ref b109)])) rfl (by rw [hml]; rfl) (Steps.refl _) (argsL := [(.ref (own_pick qq b5 b10 b15 b20))]) (rest := []) (lenOf pd_5 rfl) rfl (by show 2 * 0 + _ ≤ _; exact Nat.le_of_eq rfl) (hb hby at_283) (fun _ _ => ⟨rfl, rfl, (by decide : 32 + 0 ≤ _), (by decide : 104 + 0 ≤ _)⟩)
    dsimp only [Pt.U, Pt.locs, Pt.cells, Pt.slots] at X177 l177 y177 z177 st177 hQ177
    subst l177 y177 z177
    obtain ⟨rfl, Nq177, e177, f177_0⟩ := hQ177
    have N177 := Fr.app N166 Nq177
    have pre179 : ∀ t, Steps p.tables e below (T177.setTop (mkF m 299 #[.val (.int i1), .val (.int i2), .val (.int i3), .val (.int (2 : Int32)), .val (.int qq), .val (.int s0), .val (.int s1), .val (.int s2), .val (.int s3), .val (.ref b3), .val (.ref b25), .val (.ref b47), .val (.ref b109), .val (own_r10b (own_pick qq b5 b10 b15 b20) (own_pick s1 b5 b10 b15 b20) v65 (own_pick s0 b5 b10 b15 b20) v50), .val .null] [(.int qq), (.int s0)])) t → Steps p.tables e below (s₁.setTop (entryFrame m #[(.int i1), (.int i2), (.int i3)] maxLocals)) t := by
      intro t k
      refine pre148 _ ?_
      show Steps p.tables e below (T112.setTop (mkF m 185 #[.val (.int i1), .val (.int i2), .val (.int i3), .val (.int (2 : Int32)), .val (.int qq), .val (.int s0), .val (.int s1), .val (.int s2), .val (.int s3), .val (.ref b3), .val (.ref b25), .val (.ref b47), .val (.ref b109), .unset, .unset] [])) _
      refine XS.iloadN X112.here hx rfl (hb hby at_185) rfl ?_
      refine XS.ifNo X112.here hx rfl (hb hby at_186) rfl ((if0 _ _).trans (tlt (by decide : (0 : Int32) < (2 : Int32))).2.2.2) ?_
      show Steps p.tables e below (T112.setTop (mkF m 189 #[.val (.int i1), .val (.int i2), .val (.int i3), .val (.int (2 : Int32)), .val (.int qq), .val (.int s0), .val (.int s1), .val (.int s2), .val (.int s3), .val (.ref b3), .val (.ref b25), .val (.ref b47), .val (.ref b109), .unset, .unset] [])) _
      refine XS.aload X112.here hx rfl (hb hby at_189) rfl rfl ?_
      refine XS.aload X112.here hx rfl (hb hby at_191) rfl rfl ?_
      show Steps p.tables e below (T112.setTop (mkF m 193 #[.val (.int i1), .val (.int i2), .val (.int i3), .val (.int (2 : Int32)), .val (.int qq), .val (.int s0), .val (.int s1), .val (.int s2), .val (.int s3), .val (.ref b3), .val (.ref b25), .val (.ref b47), .val (.ref b109), .unset, .unset] [(.ref b25), (.ref b109)])) _
      refine XS.iconst X112.here hx rfl (hb hby at_193) ?_
      show Steps p.tables e below (T112.setTop (mkF m 194 #[.val (.int i1), .val (.int i2), .val (.int i3), .val (.int (2 : Int32)), .val (.int qq), .val (.int s0), .val (.int s1), .val (.int s2), .val (.int s3), .val (.ref b3), .val (.ref b25), .val (.ref b47), .val (.ref b109), .unset, .unset] [(.int (0 : Int32)), (.ref b25), (.ref b109)])) _
      refine X112.aaload hx (j := (0 : Int32)) (v := (.ref b27)) (by exact Ar150.1) (State.isArrayOf_alike hZ.alike Ar150.2.1) rfl Ar150.2.2 hin150 hat150 (g := (mkF m 194 #[.val (.int i1), .val (.int i2), .val (.int i3), .val (.int (2 : Int32)), .val (.int qq), .val (.int s0), .val (.int s1), .val (.int s2), .val (.int s3), .val (.ref b3), .val (.ref b25), .val (.ref b47), .val (.ref b109), .unset, .unset] [(.int (0 : Int32)), (.ref b25), (.ref b109)])) rfl rfl (hb hby at_194) _ ?_
      show Steps p.tables e below (T112.setTop (mkF m 195 #[.val (.int i1), .val (.int i2), .val (.int i3), .val (.int (2 : Int32)), .val (.int qq), .val (.int s0), .val (.int s1), .val (.int s2), .val (.int s3), .val (.ref b3), .val (.ref b25), .val (.ref b47), .val (.ref b109), .unset, .unset] [(.ref b27), (.ref b109)])) _
      refine XS.aload X112.here hx rfl (hb hby at_195) rfl rfl ?_
      refine XS.iload X112.here hx rfl (hb hby at_197) rfl ?_
      show Steps p.tables e below (T112.setTop (mkF m 199 #[.val (.int i1), .val (.int i2), .val (.int i3), .val (.int (2 : Int32)), .val (.int qq), .val (.int s0), .val (.int s1), .val (.int s2), .val (.int s3), .val (.ref b3), .val (.ref b25), .val (.ref b47), .val (.ref b109), .unset, .unset] [(.int s0), (.ref b3), (.ref b27), (.ref b109)])) _
      refine X112.aaload hx (j := s0) (v := (.ref (own_pick s0 b5 b10 b15 b20))) (by exact Ar152.1) (State.isArrayOf_alike hZ.alike Ar152.2.1) rfl Ar152.2.2 hin152 hat152 (g := (mkF m 199 #[.val (.int i1), .val (.int i2), .val (.int i3), .val (.int (2 : Int32)), .val (.int qq), .val (.int s0), .val (.int s1), .val (.int s2), .val (.int s3), .val (.ref b3), .val (.ref b25), .val (.ref b47), .val (.ref b109), .unset, .unset] [(.int s0), (.ref b3), (.ref b27), (.ref b109)])) rfl rfl (hb hby at_199) _ ?_
      show Steps p.tables e below (T112.setTop (mkF m 200 #[.val (.int i1), .val (.int i2), .val (.int i3), .val (.int (2 : Int32)), .val (.int qq), .val (.int s0), .val (.int s1), .val (.int s2), .val (.int s3), .val (.ref b3), .val (.ref b25), .val (.ref b47), .val (.ref b109), .unset, .unset] [(.ref (own_pick s0 b5 b10 b15 b20)), (.ref b27), (.ref b109)])) _
      refine XS.aload X112.here hx rfl (hb hby at_200) rfl rfl ?_
      refine XS.iconst X112.here hx rfl (hb hby at_202) ?_
      show Steps p.tables e below (T112.setTop (mkF m 203 #[.val (.int i1), .val (.int i2), .val (.int i3), .val (.int (2 : Int32)), .val (.int qq), .val (.int s0), .val (.int s1), .val (.int s2), .val (.int s3), .val (.ref b3), .val (.ref b25), .val (.ref b47), .val (.ref b109), .unset, .unset] [(.int (0 : Int32)), (.ref b47), (.ref (own_pick s0 b5 b10 b15 b20)), (.ref b27), (.ref b109)])) _
      refine X112.aaload hx (j := (0 : Int32)) (v := v50) (by exact Ar154.1) (State.isArrayOf_alike hZ.alike Ar154.2.1) rfl Ar154.2.2 hin154 hat154 (g := (mkF m 203 #[.val (.int i1), .val (.int i2), .val (.int i3), .val (.int (2 : Int32)), .val (.int qq), .val (.int s0), .val (.int s1), .val (.int s2), .val (.int s3), .val (.ref b3), .val (.ref b25), .val (.ref b47), .val (.ref b109), .unset, .unset] [(.int (0 : Int32)), (.ref b47), (.ref (own_pick s0 b5 b10 b15 b20)), (.ref b27), (.ref b109)])) rfl rfl (hb hby at_203) _ ?_
      show Steps p.tables e below (T112.setTop (mkF m 204 #[.val (.int i1), .val (.int i2), .val (.int i3), .val (.int (2 : Int32)), .val (.int qq), .val (.int s0), .val (.int s1), .val (.int s2), .val (.int s3), .val (.ref b3), .val (.ref b25), .val (.ref b47), .val (.ref b109), .unset, .unset] [v50, (.ref (own_pick s0 b5 b10 b15 b20)), (.ref b27), (.ref b109)])) _
      refine st157.trans ?_
      show Steps p.tables e below (T157.setTop (mkF m 207 #[.val (.int i1), .val (.int i2), .val (.int i3), .val (.int (2 : Int32)), .val (.int qq), .val (.int s0), .val (.int s1), .val (.int s2), .val (.int s3), .val (.ref b3), .val (.ref b25), .val (.ref b47), .val (.ref b109), .unset, .unset] [])) _
      refine XS.iloadN X157.here hx rfl (hb hby at_207) rfl ?_
      refine XS.iconst X157.here hx rfl (hb hby at_208) ?_
      show Steps p.tables e below (T157.setTop (mkF m 209 #[.val (.int i1), .val (.int i2), .val (.int i3), .val (.int (2 : Int32)), .val (.int qq), .val (.int s0), .val (.int s1), .val (.int s2), .val (.int s3), .val (.ref b3), .val (.ref b25), .val (.ref b47), .val (.ref b109), .unset, .unset] [(.int (1 : Int32)), (.int (2 : Int32))])) _
      refine XS.icmpNo X157.here hx rfl (hb hby at_209) rfl (tlt (by decide : (1 : Int32) < (2 : Int32))).2.2.2 ?_
      refine XS.aload X157.here hx rfl (hb hby at_212) rfl rfl ?_
      show Steps p.tables e below (T157.setTop (mkF m 214 #[.val (.int i1), .val (.int i2), .val (.int i3), .val (.int (2 : Int32)), .val (.int qq), .val (.int s0), .val (.int s1), .val (.int s2), .val (.int s3), .val (.ref b3), .val (.ref b25), .val (.ref b47), .val (.ref b109), .unset, .unset] [(.ref b109)])) _
      refine XS.aload X157.here hx rfl (hb hby at_214) rfl rfl ?_
      refine XS.iconst X157.here hx rfl (hb hby at_216) ?_
      show Steps p.tables e below (T157.setTop (mkF m 217 #[.val (.int i1), .val (.int i2), .val (.int i3), .val (.int (2 : Int32)), .val (.int qq), .val (.int s0), .val (.int s1), .val (.int s2), .val (.int s3), .val (.ref b3), .val (.ref b25), .val (.ref b47), .val (.ref b109), .unset, .unset] [(.int (1 : Int32)), (.ref b25), (.ref b109)])) _
      refine X157.aaload hx (j := (1 : Int32)) (v := (.ref b32)) (by exact Ar160.1) (State.isArrayOf_alike hZ.alike Ar160.2.1) rfl Ar160.2.2 hin160 hat160 (g := (mkF m 217 #[.val (.int i1), .val (.int i2), .val (.int i3), .val (.int (2 : Int32)), .val (.int qq), .val (.int s0), .val (.int s1), .val (.int s2), .val (.int s3), .val (.ref b3), .val (.ref b25), .val (.ref b47), .val (.ref b109), .unset, .unset] [(.int (1 : Int32)), (.ref b25), (.ref b109)])) rfl rfl (hb hby at_217) _ ?_
      show Steps p.tables e below (T157.setTop (mkF m 218 #[.val (.int i1), .val (.int i2), .val (.int i3), .val (.int (2 : Int32)), .val (.int qq), .val (.int s0), .val (.int s1), .val (.int s2), .val (.int s3), .val (.ref b3), .val (.ref b25), .val (.ref b47), .val (.ref b109), .unset, .unset] [(.ref b32), (.ref b109)])) _
      refine XS.aload X157.here hx rfl (hb hby at_218) rfl rfl ?_
      refine XS.iload X157.here hx rfl (hb hby at_220) rfl ?_
      show Steps p.tables e below (T157.setTop (mkF m 222 #[.val (.int i1), .val (.int i2), .val (.int i3), .val (.int (2 : Int32)), .val (.int qq), .val (.int s0), .val (.int s1), .val (.int s2), .val (.int s3), .val (.ref b3), .val (.ref b25), .val (.ref b47), .val (.ref b109), .unset, .unset] [(.int s1), (.ref b3), (.ref b32), (.ref b109)])) _
      refine X157.aaload hx (j := s1) (v := (.ref (own_pick s1 b5 b10 b15 b20))) (by exact Ar162.1) (State.isArrayOf_alike hZ.alike Ar162.2.1) rfl Ar162.2.2 hin162 hat162 (g := (mkF m 222 #[.val (.int i1), .val (.int i2), .val (.int i3), .val (.int (2 : Int32)), .val (.int qq), .val (.int s0), .val (.int s1), .val (.int s2), .val (.int s3), .val (.ref b3), .val (.ref b25), .val (.ref b47), .val (.ref b109), .unset, .unset] [(.int s1), (.ref b3), (.ref b32), (.ref b109)])) rfl rfl (hb hby at_222) _ ?_
      show Steps p.tables e below (T157.setTop (mkF m 223 #[.val (.int i1), .val (.int i2), .val (.int i3), .val (.int (2 : Int32)), .val (.int qq), .val (.int s0), .val (.int s1), .val (.int s2), .val (.int s3), .val (.ref b3), .val (.ref b25), .val (.ref b47), .val (.ref b109), .unset, .unset] [(.ref (own_pick s1 b5 b10 b15 b20)), (.ref b32), (.ref b109)])) _
      refine XS.aload X157.here hx rfl (hb hby at_223) rfl rfl ?_
      refine XS.iconst X157.here hx rfl (hb hby at_225) ?_
      show Steps p.tables e below (T157.setTop (mkF m 226 #[.val (.int i1), .val (.int i2), .val (.int i3), .val (.int (2 : Int32)), .val (.int qq), .val (.int s0), .val (.int s1), .val (.int s2), .val (.int s3), .val (.ref b3), .val (.ref b25), .val (.ref b47), .val (.ref b109), .unset, .unset] [(.int (1 : Int32)), (.ref b47), (.ref (own_pick s1 b5 b10 b15 b20)), (.ref b32), (.ref b109)])) _
      refine X157.aaload hx (j := (1 : Int32)) (v := v65) (by exact Ar164.1) (State.isArrayOf_alike hZ.alike Ar164.2.1) rfl Ar164.2.2 hin164 hat164 (g := (mkF m 226 #[.val (.int i1), .val (.int i2), .val (.int i3), .val (.int (2 : Int32)), .val (.int qq), .val (.int s0), .val (.int s1), .val (.int s2), .val (.int s3), .val (.ref b3), .val (.ref b25), .val (.ref b47), .val (.ref b109), .unset, .unset] [(.int (1 : Int32)), (.ref b47), (.ref (own_pick s1 b5 b10 b15 b20)), (.ref b32), (.ref b109)])) rfl rfl (hb hby at_226) _ ?_
      show Steps p.tables e below (T157.setTop (mkF m 227 #[.val (.int i1), .val (.int i2), .val (.int i3), .val (.int (2 : Int32)), .val (.int qq), .val (.int s0), .val (.int s1), .val (.int s2), .val (.int s3), .val (.ref b3), .val (.ref b25), .val (.ref b47), .val (.ref b109), .unset, .unset] [v65, (.ref (own_pick s1 b5 b10 b15 b20)), (.ref b32), (.ref b109)])) _
      refine st166.trans ?_
      show Steps p.tables e below (T166.setTop (mkF m 230 #[.val (.int i1), .val (.int i2), .val (.int i3), .val (.int (2 : Int32)), .val (.int qq), .val (.int s0), .val (.int s1), .val (.int s2), .val (.int s3), .val (.ref b3), .val (.ref b25), .val (.ref b47), .val (.ref b109), .unset, .unset] [])) _
      refine XS.iloadN X166.here hx rfl (hb hby at_230) rfl ?_
      refine XS.iconst X166.here hx rfl (hb hby at_231) ?_
      show Steps p.tables e below (T166.setTop (mkF m 232 #[.val (.int i1), .val (.int i2), .val (.int i3), .val (.int (2 : Int32)), .val (.int qq), .val (.int s0), .val (.int s1), .val (.int s2), .val (.int s3), .val (.ref b3), .val (.ref b25), .val (.ref b47), .val (.ref b109), .unset, .unset] [(.int (2 : Int32)), (.int (2 : Int32))])) _
      refine XS.icmpYes X166.here hx rfl (pc0 := 232) (pc' := 253) rfl (hb hby at_232) rfl (flt (by decide : ¬ ((2 : Int32) < (2 : Int32)))).2.2.2 (by decide) (by decide) ?_
      refine XS.iloadN X166.here hx rfl (hb hby at_253) rfl ?_
      show Steps p.tables e below (T166.setTop (mkF m 254 #[.val (.int i1), .val (.int i2), .val (.int i3), .val (.int (2 : Int32)), .val (.int qq), .val (.int s0), .val (.int s1), .val (.int s2), .val (.int s3), .val (.ref b3), .val (.ref b25), .val (.ref b47), .val (.ref b109), .unset, .unset] [(.int (2 : Int32))])) _
      refine XS.iconst X166.here hx rfl (hb hby at_254) ?_
      refine XS.icmpYes X166.here hx rfl (pc0 := 255) (pc' := 276) rfl (hb hby at_255) rfl (flt (by decide : ¬ ((3 : Int32) < (2 : Int32)))).2.2.2 (by decide) (by decide) ?_
      show Steps p.tables e below (T166.setTop (mkF m 276 #[.val (.int i1), .val (.int i2), .val (.int i3), .val (.int (2 : Int32)), .val (.int qq), .val (.int s0), .val (.int s1), .val (.int s2), .val (.int s3), .val (.ref b3), .val (.ref b25), .val (.ref b47), .val (.ref b109), .unset, .unset] [])) _
      refine XS.aload X166.here hx rfl (hb hby at_276) rfl rfl ?_
      refine XS.aload X166.here hx rfl (hb hby at_278) rfl rfl ?_
      show Steps p.tables e below (T166.setTop (mkF m 280 #[.val (.int i1), .val (.int i2), .val (.int i3), .val (.int (2 : Int32)), .val (.int qq), .val (.int s0), .val (.int s1), .val (.int s2), .val (.int s3), .val (.ref b3), .val (.ref b25), .val (.ref b47), .val (.ref b109), .unset, .unset] [(.ref b3), (.ref b109)])) _
      refine XS.iload X166.here hx rfl (hb hby at_280) rfl ?_
      show Steps p.tables e below (T166.setTop (mkF m 282 #[.val (.int i1), .val (.int i2), .val (.int i3), .val (.int (2 : Int32)), .val (.int qq), .val (.int s0), .val (.int s1), .val (.int s2), .val (.int s3), .val (.ref b3), .val (.ref b25), .val (.ref b47), .val (.ref b109), .unset, .unset] [(.int qq), (.ref b3), (.ref b109)])) _
      refine X166.aaload hx (j := qq) (v := (.ref (own_pick qq b5 b10 b15 b20))) (by exact Ar170.1) (State.isArrayOf_alike hZ.alike Ar170.2.1) rfl Ar170.2.2 hin170 hat170 (g := (mkF m 282 #[.val (.int i1), .val (.int i2), .val (.int i3), .val (.int (2 : Int32)), .val (.int qq), .val (.int s0), .val (.int s1), .val (.int s2), .val (.int s3), .val (.ref b3), .val (.ref b25), .val (.ref b47), .val (.ref b109), .unset, .unset] [(.int qq), (.ref b3), (.ref b109)])) rfl rfl (hb hby at_282) _ ?_
      show Steps p.tables e below (T166.setTop (mkF m 283 #[.val (.int i1), .val (.int i2), .val (.int i3), .val (.int (2 : Int32)), .val (.int qq), .val (.int s0), .val (.int s1), .val (.int s2), .val (.int s3), .val (.ref b3), .val (.ref b25), .val (.ref b47), .val (.ref b109), .unset, .unset] [(.ref (own_pick qq b5 b10 b15 b20)), (.ref b109)])) _
      refine st177.trans ?_
      show Steps p.tables e below (T177.setTop (mkF m 286 #[.val (.int i1), .val (.int i2), .val (.int i3), .val (.int (2 : Int32)), .val (.int qq), .val (.int s0), .val (.int s1), .val (.int s2), .val (.int s3), .val (.ref b3), .val (.ref b25), .val (.ref b47), .val (.ref b109), .unset, .unset] [(own_r10b (own_pick qq b5 b10 b15 b20) (own_pick s1 b5 b10 b15 b20) v65 (own_pick s0 b5 b10 b15 b20) v50)])) _
      refine XS.astore X177.here hx rfl (hb hby at_286) rfl f177_0 (l' := #[.val (.int i1), .val (.int i2), .val (.int i3), .val (.int (2 : Int32)), .val (.int qq), .val (.int s0), .val (.int s1), .val (.int s2), .val (.int s3), .val (.ref b3), .val (.ref b25), .val (.ref b47), .val (.ref b109), .val (own_r10b (own_pick qq b5 b10 b15 b20) (own_pick s1 b5 b10 b15 b20) v65 (own_pick s0 b5 b10 b15 b20) v50), .unset]) (show storeLocals #[.val (.int i1), .val (.int i2), .val (.int i3), .val (.int (2 : Int32)), .val (.int qq), .val (.int s0), .val (.int s1), .val (.int s2), .val (.int s3), .val (.ref b3), .val (.ref b25), .val (.ref b47), .val (.ref b109), .unset, .unset] 13 (own_r10b (own_pick qq b5 b10 b15 b20) (own_pick s1 b5 b10 b15 b20) v65 (own_pick s0 b5 b10 b15 b20) v50) = some #[.val (.int i1), .val (.int i2), .val (.int i3), .val (.int (2 : Int32)), .val (.int qq), .val (.int s0), .val (.int s1), .val (.int s2), .val (.int s3), .val (.ref b3), .val (.ref b25), .val (.ref b47), .val (.ref b109), .val (own_r10b (own_pick qq b5 b10 b15 b20) (own_pick s1 b5 b10 b15 b20) v65 (own_pick s0 b5 b10 b15 b20) v50), .unset] from XS.store1 (o := .unset) rfl (Or.inl rfl) (Jvm.Free.XT.cat1 f177_0)) ?_
      refine XS.aconstNull X177.here hx rfl (hb hby at_288) ?_
      show Steps p.tables e below (T177.setTop (mkF m 289 #[.val (.int i1), .val (.int i2), .val (.int i3), .val (.int (2 : Int32)), .val (.int qq), .val (.int s0), .val (.int s1), .val (.int s2), .val (.int s3), .val (.ref b3), .val (.ref b25), .val (.ref b47), .val (.ref b109), .val (own_r10b (own_pick qq b5 b10 b15 b20) (own_pick s1 b5 b10 b15 b20) v65 (own_pick s0 b5 b10 b15 b20) v50), .unset] [.null])) _
      refine XS.astore X177.here hx rfl (hb hby at_289) rfl rfl (l' := #[.val (.int i1), .val (.int i2), .val (.int i3), .val (.int (2 : Int32)), .val (.int qq), .val (.int s0), .val (.int s1), .val (.int s2), .val (.int s3), .val (.ref b3), .val (.ref b25), .val (.ref b47), .val (.ref b109), .val (own_r10b (own_pick qq b5 b10 b15 b20) (own_pick s1 b5 b10 b15 b20) v65 (own_pick s0 b5 b10 b15 b20) v50), .val .null]) rfl ?_
      refine XS.iloadN X177.here hx rfl (hb hby at_291) rfl ?_
      show Steps p.tables e below (T177.setTop (mkF m 292 #[.val (.int i1), .val (.int i2), .val (.int i3), .val (.int (2 : Int32)), .val (.int qq), .val (.int s0), .val (.int s1), .val (.int s2), .val (.int s3), .val (.ref b3), .val (.ref b25), .val (.ref b47), .val (.ref b109), .val (own_r10b (own_pick qq b5 b10 b15 b20) (own_pick s1 b5 b10 b15 b20) v65 (own_pick s0 b5 b10 b15 b20) v50), .val .null] [(.int (2 : Int32))])) _
      refine XS.ifNo X177.here hx rfl (hb hby at_292) rfl ((if0 _ _).trans (tlt (by decide : (0 : Int32) < (2 : Int32))).2.2.2) ?_
      refine XS.iload X177.here hx rfl (hb hby at_295) rfl ?_
      show Steps p.tables e below (T177.setTop (mkF m 297 #[.val (.int i1), .val (.int i2), .val (.int i3), .val (.int (2 : Int32)), .val (.int qq), .val (.int s0), .val (.int s1), .val (.int s2), .val (.int s3), .val (.ref b3), .val (.ref b25), .val (.ref b47), .val (.ref b109), .val (own_r10b (own_pick qq b5 b10 b15 b20) (own_pick s1 b5 b10 b15 b20) v65 (own_pick s0 b5 b10 b15 b20) v50), .val .null] [(.int s0)])) _
      refine XS.iload X177.here hx rfl (hb hby at_297) rfl ?_
      exact k
    have pre185 : ∀ t, Steps p.tables e below (T177.setTop (mkF m 308 #[.val (.int i1), .val (.int i2), .val (.int i3), .val (.int (2 : Int32)), .val (.int qq), .val (.int s0), .val (.int s1), .val (.int s2), .val (.int s3), .val (.ref b3), .val (.ref b25), .val (.ref b47), .val (.ref b109), .val (own_r10b (own_pick qq b5 b10 b15 b20) (own_pick s1 b5 b10 b15 b20) v65 (own_pick s0 b5 b10 b15 b20) v50), .val (own_j0_299_0 qq s0 v50)] [])) t → Steps p.tables e below (s₁.setTop (entryFrame m #[(.int i1), (.int i2), (.int i3)] maxLocals)) t := by
      by_cases hc299_180 : s0 = qq
      · have f181 := (f163.keep Kq166 (ninS (Nat.ne_of_lt (Nat.lt_of_lt_of_le V47.lt (Nat.le_trans (Nat.le_trans (Nat.le_trans (Nat.le_trans (Nat.le_trans (Nat.le_trans (Nat.le_trans (Nat.le_trans (Nat.le_trans (Nat.le_trans Kq50.1 (Keep.of_wr W62).1) Kq65.1) (Keep.of_wr W77).1) Kq80.1) (Keep.of_wr W92).1) Kq95.1) (Keep.of_wr W107).1) E109.1) Kq112.1) sq157_1))) (ninS (Nat.ne_of_lt (Nat.lt_of_lt_of_le V47.lt (Nat.le_trans (Nat.le_trans (Nat.le_trans (Nat.le_trans (Nat.le_trans (Nat.le_trans (Nat.le_trans (Nat.le_trans (Nat.le_trans Kq50.1 (Keep.of_wr W62).1) Kq65.1) (Keep.of_wr W77).1) Kq80.1) (Keep.of_wr W92).1) Kq95.1) (Keep.of_wr W107).1) E109.1) sq112_0))) nin0)))
        obtain ⟨cl182, Ar182, Cq182, Sz182, Nn182, Hh182, Gg182⟩ := id f181
        have hin182 : ¬ ((0 : Int32) < 0 ∨ cl182.slots.size ≤ ((0 : Int32)).toNatClampNeg) := inb_of Sz182 ⟨by decide, by decide⟩
        have hat182 : cl182.slots[((0 : Int32)).toNatClampNeg]? = some v50 := Hh182.at hin182 rfl
        have pre183 : ∀ t, Steps p.tables e below (T177.setTop (mkF m 308 #[.val (.int i1), .val (.int i2), .val (.int i3), .val (.int (2 : Int32)), .val (.int qq), .val (.int s0), .val (.int s1), .val (.int s2), .val (.int s3), .val (.ref b3), .val (.ref b25), .val (.ref b47), .val (.ref b109), .val (own_r10b (own_pick qq b5 b10 b15 b20) (own_pick s1 b5 b10 b15 b20) v65 (own_pick s0 b5 b10 b15 b20) v50), .val v50] [])) t → Steps p.tables e below (s₁.setTop (entryFrame m #[(.int i1), (.int i2), (.int i3)] maxLocals)) t := by
          intro t k
          refine pre179 _ ?_
          show Steps p.tables e below (T177.setTop (mkF m 299 #[.val (.int i1), .val (.int i2), .val (.int i3), .val (.int (2 : Int32)), .val (.int qq), .val (.int s0), .val (.int s1), .val (.int s2), .val (.int s3), .val (.ref b3), .val (.ref b25), .val (.ref b47), .val (.ref b109), .val (own_r10b (own_pick qq b5 b10 b15 b20) (own_pick s1 b5 b10 b15 b20) v65 (own_pick s0 b5 b10 b15 b20) v50), .val .null] [(.int qq), (.int s0)])) _
          refine XS.icmpNo X177.here hx rfl (hb hby at_299) rfl (teq hc299_180).2 ?_
          refine XS.aload X177.here hx rfl (hb hby at_302) rfl rfl ?_
          show Steps p.tables e below (T177.setTop (mkF m 304 #[.val (.int i1), .val (.int i2), .val (.int i3), .val (.int (2 : Int32)), .val (.int qq), .val (.int s0), .val (.int s1), .val (.int s2), .val (.int s3), .val (.ref b3), .val (.ref b25), .val (.ref b47), .val (.ref b109), .val (own_r10b (own_pick qq b5 b10 b15 b20) (own_pick s1 b5 b10 b15 b20) v65 (own_pick s0 b5 b10 b15 b20) v50), .val .null] [(.ref b47)])) _
          refine XS.iconst X177.here hx rfl (hb hby at_304) ?_
          show Steps p.tables e below (T177.setTop (mkF m 305 #[.val (.int i1), .val (.int i2), .val (.int i3), .val (.int (2 : Int32)), .val (.int qq), .val (.int s0), .val (.int s1), .val (.int s2), .val (.int s3), .val (.ref b3), .val (.ref b25), .val (.ref b47), .val (.ref b109), .val (own_r10b (own_pick qq b5 b10 b15 b20) (own_pick s1 b5 b10 b15 b20) v65 (own_pick s0 b5 b10 b15 b20) v50), .val .null] [(.int (0 : Int32)), (.ref b47)])) _
          refine X177.aaload hx (j := (0 : Int32)) (v := v50) (by rw [e177]; exact Ar182.1) (State.isArrayOf_alike hZ.alike Ar182.2.1) rfl Ar182.2.2 hin182 hat182 (g := (mkF m 305 #[.val (.int i1), .val (.int i2), .val (.int i3), .val (.int (2 : Int32)), .val (.int qq), .val (.int s0), .val (.int s1), .val (.int s2), .val (.int s3), .val (.ref b3), .val (.ref b25), .val (.ref b47), .val (.ref b109), .val (own_r10b (own_pick qq b5 b10 b15 b20) (own_pick s1 b5 b10 b15 b20) v65 (own_pick s0 b5 b10 b15 b20) v50), .val .null] [(.int (0 : Int32)), (.ref b47)])) rfl rfl (hb hby at_305) _ ?_
          show Steps p.tables e below (T177.setTop (mkF m 306 #[.val (.int i1), .val (.int i2), .val (.int i3), .val (.int (2 : Int32)), .val (.int qq), .val (.int s0), .val (.int s1), .val (.int s2), .val (.int s3), .val (.ref b3), .val (.ref b25), .val (.ref b47), .val (.ref b109), .val (own_r10b (own_pick qq b5 b10 b15 b20) (own_pick s1 b5 b10 b15 b20) v65 (own_pick s0 b5 b10 b15 b20) v50), .val .null] [v50])) _
          refine XS.astore X177.here hx rfl (hb hby at_306) rfl hr50 (l' := #[.val (.int i1), .val (.int i2), .val (.int i3), .val (.int (2 : Int32)), .val (.int qq), .val (.int s0), .val (.int s1), .val (.int s2), .val (.int s3), .val (.ref b3), .val (.ref b25), .val (.ref b47), .val (.ref b109), .val (own_r10b (own_pick qq b5 b10 b15 b20) (own_pick s1 b5 b10 b15 b20) v65 (own_pick s0 b5 b10 b15 b20) v50), .val v50]) (show storeLocals #[.val (.int i1), .val (.int i2), .val (.int i3), .val (.int (2 : Int32)), .val (.int qq), .val (.int s0), .val (.int s1), .val (.int s2), .val (.int s3), .val (.ref b3), .val (.ref b25), .val (.ref b47), .val (.ref b109), .val (own_r10b (own_pick qq b5 b10 b15 b20) (own_pick s1 b5 b10 b15 b20) v65 (own_pick s0 b5 b10 b15 b20) v50), .val .null] 14 v50 = some #[.val (.int i1), .val (.int i2), .val (.int i3), .val (.int (2 : Int32)), .val (.int qq), .val (.int s0), .val (.int s1), .val (.int s2), .val (.int s3), .val (.ref b3), .val (.ref b25), .val (.ref b47), .val (.ref b109), .val (own_r10b (own_pick qq b5 b10 b15 b20) (own_pick s1 b5 b10 b15 b20) v65 (own_pick s0 b5 b10 b15 b20) v50), .val v50] from XS.store1 (o := .val .null) rfl (Or.inr ⟨_, rfl, rfl⟩) (Jvm.Free.XT.cat1 hr50)) ?_
          exact k
        exact fun t k => pre183 t (by rw [show (own_j0_299_0 qq s0 v50) = v50 from (if_pos hc299_180)] at k; exact k)
      · have pre184 : ∀ t, Steps p.tables e below (T177.setTop (mkF m 308 #[.val (.int i1), .val (.int i2), .val (.int i3), .val (.int (2 : Int32)), .val (.int qq), .val (.int s0), .val (.int s1), .val (.int s2), .val (.int s3), .val (.ref b3), .val (.ref b25), .val (.ref b47), .val (.ref b109), .val (own_r10b (own_pick qq b5 b10 b15 b20) (own_pick s1 b5 b10 b15 b20) v65 (own_pick s0 b5 b10 b15 b20) v50), .val .null] [])) t → Steps p.tables e below (s₁.setTop (entryFrame m #[(.int i1), (.int i2), (.int i3)] maxLocals)) t := by
          intro t k
          refine pre179 _ ?_
          show Steps p.tables e below (T177.setTop (mkF m 299 #[.val (.int i1), .val (.int i2), .val (.int i3), .val (.int (2 : Int32)), .val (.int qq), .val (.int s0), .val (.int s1), .val (.int s2), .val (.int s3), .val (.ref b3), .val (.ref b25), .val (.ref b47), .val (.ref b109), .val (own_r10b (own_pick qq b5 b10 b15 b20) (own_pick s1 b5 b10 b15 b20) v65 (own_pick s0 b5 b10 b15 b20) v50), .val .null] [(.int qq), (.int s0)])) _
          refine XS.icmpYes X177.here hx rfl (pc0 := 299) (pc' := 308) rfl (hb hby at_299) rfl (feq hc299_180).2 (by decide) (by decide) ?_
          exact k
        exact fun t k => pre184 t (by rw [show (own_j0_299_0 qq s0 v50) = Value.null from (if_neg hc299_180)] at k; exact k)
    have hr186 : (own_j0_299_0 qq s0 v50).isRef = true := by
      unfold own_j0_299_0
      repeat' split
      all_goals first | rfl | assumption
    have pre187 : ∀ t, Steps p.tables e below (T177.setTop (mkF m 317 #[.val (.int i1), .val (.int i2), .val (.int i3), .val (.int (2 : Int32)), .val (.int qq), .val (.int s0), .val (.int s1), .val (.int s2), .val (.int s3), .val (.ref b3), .val (.ref b25), .val (.ref b47), .val (.ref b109), .val (own_r10b (own_pick qq b5 b10 b15 b20) (own_pick s1 b5 b10 b15 b20) v65 (own_pick s0 b5 b10 b15 b20) v50), .val (own_j0_299_0 qq s0 v50)] [(.int qq), (.int s1)])) t → Steps p.tables e below (s₁.setTop (entryFrame m #[(.int i1), (.int i2), (.int i3)] maxLocals)) t := by
      intro t k
      refine pre185 _ ?_
      show Steps p.tables e below (T177.setTop (mkF m 308 #[.val (.int i1), .val (.int i2), .val (.int i3), .val (.int (2 : Int32)), .val (.int qq), .val (.int s0), .val (.int s1), .val (.int s2), .val (.int s3), .val (.ref b3), .val (.ref b25), .val (.ref b47), .val (.ref b109), .val (own_r10b (own_pick qq b5 b10 b15 b20) (own_pick s1 b5 b10 b15 b20) v65 (own_pick s0 b5 b10 b15 b20) v50), .val (own_j0_299_0 qq s0 v50)] [])) _
      refine XS.iloadN X177.here hx rfl (hb hby at_308) rfl ?_
      refine XS.iconst X177.here hx rfl (hb hby at_309) ?_
      show Steps p.tables e below (T177.setTop (mkF m 310 #[.val (.int i1), .val (.int i2), .val (.int i3), .val (.int (2 : Int32)), .val (.int qq), .val (.int s0), .val (.int s1), .val (.int s2), .val (.int s3), .val (.ref b3), .val (.ref b25), .val (.ref b47), .val (.ref b109), .val (own_r10b (own_pick qq b5 b10 b15 b20) (own_pick s1 b5 b10 b15 b20) v65 (own_pick s0 b5 b10 b15 b20) v50), .val (own_j0_299_0 qq s0 v50)] [(.int (1 : Int32)), (.int (2 : Int32))])) _
      refine XS.icmpNo X177.here hx rfl (hb hby at_310) rfl (tlt (by decide : (1 : Int32) < (2 : Int32))).2.2.2 ?_
      refine XS.iload X177.here hx rfl (hb hby at_313) rfl ?_
      show Steps p.tables e below (T177.setTop (mkF m 315 #[.val (.int i1), .val (.int i2), .val (.int i3), .val (.int (2 : Int32)), .val (.int qq), .val (.int s0), .val (.int s1), .val (.int s2), .val (.int s3), .val (.ref b3), .val (.ref b25), .val (.ref b47), .val (.ref b109), .val (own_r10b (own_pick qq b5 b10 b15 b20) (own_pick s1 b5 b10 b15 b20) v65 (own_pick s0 b5 b10 b15 b20) v50), .val (own_j0_299_0 qq s0 v50)] [(.int s1)])) _
      refine XS.iload X177.here hx rfl (hb hby at_315) rfl ?_
      exact k
    have pre193 : ∀ t, Steps p.tables e below (T177.setTop (mkF m 326 #[.val (.int i1), .val (.int i2), .val (.int i3), .val (.int (2 : Int32)), .val (.int qq), .val (.int s0), .val (.int s1), .val (.int s2), .val (.int s3), .val (.ref b3), .val (.ref b25), .val (.ref b47), .val (.ref b109), .val (own_r10b (own_pick qq b5 b10 b15 b20) (own_pick s1 b5 b10 b15 b20) v65 (own_pick s0 b5 b10 b15 b20) v50), .val (own_j0_317_0 qq s0 s1 v50 v65)] [])) t → Steps p.tables e below (s₁.setTop (entryFrame m #[(.int i1), (.int i2), (.int i3)] maxLocals)) t := by
      by_cases hc317_188 : s1 = qq
      · have f189 := (f163.keep Kq166 (ninS (Nat.ne_of_lt (Nat.lt_of_lt_of_le V47.lt (Nat.le_trans (Nat.le_trans (Nat.le_trans (Nat.le_trans (Nat.le_trans (Nat.le_trans (Nat.le_trans (Nat.le_trans (Nat.le_trans (Nat.le_trans Kq50.1 (Keep.of_wr W62).1) Kq65.1) (Keep.of_wr W77).1) Kq80.1) (Keep.of_wr W92).1) Kq95.1) (Keep.of_wr W107).1) E109.1) Kq112.1) sq157_1))) (ninS (Nat.ne_of_lt (Nat.lt_of_lt_of_le V47.lt (Nat.le_trans (Nat.le_trans (Nat.le_trans (Nat.le_trans (Nat.le_trans (Nat.le_trans (Nat.le_trans (Nat.le_trans (Nat.le_trans Kq50.1 (Keep.of_wr W62).1) Kq65.1) (Keep.of_wr W77).1) Kq80.1) (Keep.of_wr W92).1) Kq95.1) (Keep.of_wr W107).1) E109.1) sq112_0))) nin0)))
        obtain ⟨cl190, Ar190, Cq190, Sz190, Nn190, Hh190, Gg190⟩ := id f189
        have hin190 : ¬ ((1 : Int32) < 0 ∨ cl190.slots.size ≤ ((1 : Int32)).toNatClampNeg) := inb_of Sz190 ⟨by decide, by decide⟩
        have hat190 : cl190.slots[((1 : Int32)).toNatClampNeg]? = some v65 := Hh190.at hin190 rfl
        have pre191 : ∀ t, Steps p.tables e below (T177.setTop (mkF m 326 #[.val (.int i1), .val (.int i2), .val (.int i3), .val (.int (2 : Int32)), .val (.int qq), .val (.int s0), .val (.int s1), .val (.int s2), .val (.int s3), .val (.ref b3), .val (.ref b25), .val (.ref b47), .val (.ref b109), .val (own_r10b (own_pick qq b5 b10 b15 b20) (own_pick s1 b5 b10 b15 b20) v65 (own_pick s0 b5 b10 b15 b20) v50), .val v65] [])) t → Steps p.tables e below (s₁.setTop (entryFrame m #[(.int i1), (.int i2), (.int i3)] maxLocals)) t := by
          intro t k
          refine pre187 _ ?_
          show Steps p.tables e below (T177.setTop (mkF m 317 #[.val (.int i1), .val (.int i2), .val (.int i3), .val (.int (2 : Int32)), .val (.int qq), .val (.int s0), .val (.int s1), .val (.int s2), .val (.int s3), .val (.ref b3), .val (.ref b25), .val (.ref b47), .val (.ref b109), .val (own_r10b (own_pick qq b5 b10 b15 b20) (own_pick s1 b5 b10 b15 b20) v65 (own_pick s0 b5 b10 b15 b20) v50), .val (own_j0_299_0 qq s0 v50)] [(.int qq), (.int s1)])) _
          refine XS.icmpNo X177.here hx rfl (hb hby at_317) rfl (teq hc317_188).2 ?_
          refine XS.aload X177.here hx rfl (hb hby at_320) rfl rfl ?_
          show Steps p.tables e below (T177.setTop (mkF m 322 #[.val (.int i1), .val (.int i2), .val (.int i3), .val (.int (2 : Int32)), .val (.int qq), .val (.int s0), .val (.int s1), .val (.int s2), .val (.int s3), .val (.ref b3), .val (.ref b25), .val (.ref b47), .val (.ref b109), .val (own_r10b (own_pick qq b5 b10 b15 b20) (own_pick s1 b5 b10 b15 b20) v65 (own_pick s0 b5 b10 b15 b20) v50), .val (own_j0_299_0 qq s0 v50)] [(.ref b47)])) _
          refine XS.iconst X177.here hx rfl (hb hby at_322) ?_
          show Steps p.tables e below (T177.setTop (mkF m 323 #[.val (.int i1), .val (.int i2), .val (.int i3), .val (.int (2 : Int32)), .val (.int qq), .val (.int s0), .val (.int s1), .val (.int s2), .val (.int s3), .val (.ref b3), .val (.ref b25), .val (.ref b47), .val (.ref b109), .val (own_r10b (own_pick qq b5 b10 b15 b20) (own_pick s1 b5 b10 b15 b20) v65 (own_pick s0 b5 b10 b15 b20) v50), .val (own_j0_299_0 qq s0 v50)] [(.int (1 : Int32)), (.ref b47)])) _
          refine X177.aaload hx (j := (1 : Int32)) (v := v65) (by rw [e177]; exact Ar190.1) (State.isArrayOf_alike hZ.alike Ar190.2.1) rfl Ar190.2.2 hin190 hat190 (g := (mkF m 323 #[.val (.int i1), .val (.int i2), .val (.int i3), .val (.int (2 : Int32)), .val (.int qq), .val (.int s0), .val (.int s1), .val (.int s2), .val (.int s3), .val (.ref b3), .val (.ref b25), .val (.ref b47), .val (.ref b109), .val (own_r10b (own_pick qq b5 b10 b15 b20) (own_pick s1 b5 b10 b15 b20) v65 (own_pick s0 b5 b10 b15 b20) v50), .val (own_j0_299_0 qq s0 v50)] [(.int (1 : Int32)), (.ref b47)])) rfl rfl (hb hby at_323) _ ?_
          show Steps p.tables e below (T177.setTop (mkF m 324 #[.val (.int i1), .val (.int i2), .val (.int i3), .val (.int (2 : Int32)), .val (.int qq), .val (.int s0), .val (.int s1), .val (.int s2), .val (.int s3), .val (.ref b3), .val (.ref b25), .val (.ref b47), .val (.ref b109), .val (own_r10b (own_pick qq b5 b10 b15 b20) (own_pick s1 b5 b10 b15 b20) v65 (own_pick s0 b5 b10 b15 b20) v50), .val (own_j0_299_0 qq s0 v50)] [v65])) _
          refine XS.astore X177.here hx rfl (hb hby at_324) rfl hr65 (l' := #[.val (.int i1), .val (.int i2), .val (.int i3), .val (.int (2 : Int32)), .val (.int qq), .val (.int s0), .val (.int s1), .val (.int s2), .val (.int s3), .val (.ref b3), .val (.ref b25), .val (.ref b47), .val (.ref b109), .val (own_r10b (own_pick qq b5 b10 b15 b20) (own_pick s1 b5 b10 b15 b20) v65 (own_pick s0 b5 b10 b15 b20) v50), .val v65]) (show storeLocals #[.val (.int i1), .val (.int i2), .val (.int i3), .val (.int (2 : Int32)), .val (.int qq), .val (.int s0), .val (.int s1), .val (.int s2), .val (.int s3), .val (.ref b3), .val (.ref b25), .val (.ref b47), .val (.ref b109), .val (own_r10b (own_pick qq b5 b10 b15 b20) (own_pick s1 b5 b10 b15 b20) v65 (own_pick s0 b5 b10 b15 b20) v50), .val (own_j0_299_0 qq s0 v50)] 14 v65 = some #[.val (.int i1), .val (.int i2), .val (.int i3), .val (.int (2 : Int32)), .val (.int qq), .val (.int s0), .val (.int s1), .val (.int s2), .val (.int s3), .val (.ref b3), .val (.ref b25), .val (.ref b47), .val (.ref b109), .val (own_r10b (own_pick qq b5 b10 b15 b20) (own_pick s1 b5 b10 b15 b20) v65 (own_pick s0 b5 b10 b15 b20) v50), .val v65] from XS.store1 (o := .val (own_j0_299_0 qq s0 v50)) rfl (Or.inr ⟨_, rfl, Jvm.Free.XT.cat1 hr186⟩) (Jvm.Free.XT.cat1 hr65)) ?_
          exact k
        exact fun t k => pre191 t (by rw [show (own_j0_317_0 qq s0 s1 v50 v65) = v65 from (if_pos hc317_188)] at k; exact k)
      · have pre192 : ∀ t, Steps p.tables e below (T177.setTop (mkF m 326 #[.val (.int i1), .val (.int i2), .val (.int i3), .val (.int (2 : Int32)), .val (.int qq), .val (.int s0), .val (.int s1), .val (.int s2), .val (.int s3), .val (.ref b3), .val (.ref b25), .val (.ref b47), .val (.ref b109), .val (own_r10b (own_pick qq b5 b10 b15 b20) (own_pick s1 b5 b10 b15 b20) v65 (own_pick s0 b5 b10 b15 b20) v50), .val (own_j0_299_0 qq s0 v50)] [])) t → Steps p.tables e below (s₁.setTop (entryFrame m #[(.int i1), (.int i2), (.int i3)] maxLocals)) t := by
          intro t k
          refine pre187 _ ?_
          show Steps p.tables e below (T177.setTop (mkF m 317 #[.val (.int i1), .val (.int i2), .val (.int i3), .val (.int (2 : Int32)), .val (.int qq), .val (.int s0), .val (.int s1), .val (.int s2), .val (.int s3), .val (.ref b3), .val (.ref b25), .val (.ref b47), .val (.ref b109), .val (own_r10b (own_pick qq b5 b10 b15 b20) (own_pick s1 b5 b10 b15 b20) v65 (own_pick s0 b5 b10 b15 b20) v50), .val (own_j0_299_0 qq s0 v50)] [(.int qq), (.int s1)])) _
          refine XS.icmpYes X177.here hx rfl (pc0 := 317) (pc' := 326) rfl (hb hby at_317) rfl (feq hc317_188).2 (by decide) (by decide) ?_
          exact k
        exact fun t k => pre192 t (by rw [show (own_j0_317_0 qq s0 s1 v50 v65) = (own_j0_299_0 qq s0 v50) from (if_neg hc317_188)] at k; exact k)
    have hr194 : (own_j0_317_0 qq s0 s1 v50 v65).isRef = true := by
      unfold own_j0_317_0
      repeat' split
      all_goals first | rfl | assumption
    have hr195 : ((own_r10b (own_pick qq b5 b10 b15 b20) (own_pick s1 b5 b10 b15 b20) v65 (own_pick s0 b5 b10 b15 b20) v50) : Value) = ((own_j0_317_0 qq s0 s1 v50 v65) : Value) := (own_ob0_r366x qq s0 s1 b5 b10 b15 b20 v50 v65 s2 s3 d_qq d_s0 d_s1 d_s2 d_s3 (Nat.ne_of_lt (Nat.lt_of_lt_of_le V5.lt (Nat.le_trans (Keep.of_wr W8).1 (Nat.le_of_eq g10.symm)))) (Nat.ne_of_lt (Nat.lt_of_lt_of_le V5.lt (Nat.le_trans (Nat.le_trans (Nat.le_trans (Keep.of_wr W8).1 E10.1) (Keep.of_wr W13).1) (Nat.le_of_eq g15.symm)))) (Nat.ne_of_lt (Nat.lt_of_lt_of_le V5.lt (Nat.le_trans (Nat.le_trans (Nat.le_trans (Nat.le_trans (Nat.le_trans (Keep.of_wr W8).1 E10.1) (Keep.of_wr W13).1) E15.1) (Keep.of_wr W18).1) (Nat.le_of_eq g20.symm)))) (Nat.ne_of_lt (Nat.lt_of_lt_of_le V10.lt (Nat.le_trans (Keep.of_wr W13).1 (Nat.le_of_eq g15.symm)))) (Nat.ne_of_lt (Nat.lt_of_lt_of_le V10.lt (Nat.le_trans (Nat.le_trans (Nat.le_trans (Keep.of_wr W13).1 E15.1) (Keep.of_wr W18).1) (Nat.le_of_eq g20.symm)))) (Nat.ne_of_lt (Nat.lt_of_lt_of_le V15.lt (Nat.le_trans (Keep.of_wr W18).1 (Nat.le_of_eq g20.symm)))))
    have pre196 : ∀ t, Steps p.tables e below (T177.setTop (mkF m 374 #[.val (.int i1), .val (.int i2), .val (.int i3), .val (.int (2 : Int32)), .val (.int qq), .val (.int s0), .val (.int s1), .val (.int s2), .val (.int s3), .val (.ref b3), .val (.ref b25), .val (.ref b47), .val (.ref b109), .val (own_r10b (own_pick qq b5 b10 b15 b20) (own_pick s1 b5 b10 b15 b20) v65 (own_pick s0 b5 b10 b15 b20) v50), .val (own_j0_317_0 qq s0 s1 v50 v65)] [(.int (1 : Int32))])) t → Steps p.tables e below (s₁.setTop (entryFrame m #[(.int i1), (.int i2), (.int i3)] maxLocals)) t := by
      intro t k
      refine pre193 _ ?_
      show Steps p.tables e below (T177.setTop (mkF m 326 #[.val (.int i1), .val (.int i2), .val (.int i3), .val (.int (2 : Int32)), .val (.int qq), .val (.int s0), .val (.int s1), .val (.int s2), .val (.int s3), .val (.ref b3), .val (.ref b25), .val (.ref b47), .val (.ref b109), .val (own_r10b (own_pick qq b5 b10 b15 b20) (own_pick s1 b5 b10 b15 b20) v65 (own_pick s0 b5 b10 b15 b20) v50), .val (own_j0_317_0 qq s0 s1 v50 v65)] [])) _
      refine XS.iloadN X177.here hx rfl (hb hby at_326) rfl ?_
      refine XS.iconst X177.here hx rfl (hb hby at_327) ?_
      show Steps p.tables e below (T177.setTop (mkF m 328 #[.val (.int i1), .val (.int i2), .val (.int i3), .val (.int (2 : Int32)), .val (.int qq), .val (.int s0), .val (.int s1), .val (.int s2), .val (.int s3), .val (.ref b3), .val (.ref b25), .val (.ref b47), .val (.ref b109), .val (own_r10b (own_pick qq b5 b10 b15 b20) (own_pick s1 b5 b10 b15 b20) v65 (own_pick s0 b5 b10 b15 b20) v50), .val (own_j0_317_0 qq s0 s1 v50 v65)] [(.int (2 : Int32)), (.int (2 : Int32))])) _
      refine XS.icmpYes X177.here hx rfl (pc0 := 328) (pc' := 344) rfl (hb hby at_328) rfl (flt (by decide : ¬ ((2 : Int32) < (2 : Int32)))).2.2.2 (by decide) (by decide) ?_
      refine XS.iloadN X177.here hx rfl (hb hby at_344) rfl ?_
      show Steps p.tables e below (T177.setTop (mkF m 345 #[.val (.int i1), .val (.int i2), .val (.int i3), .val (.int (2 : Int32)), .val (.int qq), .val (.int s0), .val (.int s1), .val (.int s2), .val (.int s3), .val (.ref b3), .val (.ref b25), .val (.ref b47), .val (.ref b109), .val (own_r10b (own_pick qq b5 b10 b15 b20) (own_pick s1 b5 b10 b15 b20) v65 (own_pick s0 b5 b10 b15 b20) v50), .val (own_j0_317_0 qq s0 s1 v50 v65)] [(.int (2 : Int32))])) _
      refine XS.iconst X177.here hx rfl (hb hby at_345) ?_
      refine XS.icmpYes X177.here hx rfl (pc0 := 346) (pc' := 362) rfl (hb hby at_346) rfl (flt (by decide : ¬ ((3 : Int32) < (2 : Int32)))).2.2.2 (by decide) (by decide) ?_
      show Steps p.tables e below (T177.setTop (mkF m 362 #[.val (.int i1), .val (.int i2), .val (.int i3), .val (.int (2 : Int32)), .val (.int qq), .val (.int s0), .val (.int s1), .val (.int s2), .val (.int s3), .val (.ref b3), .val (.ref b25), .val (.ref b47), .val (.ref b109), .val (own_r10b (own_pick qq b5 b10 b15 b20) (own_pick s1 b5 b10 b15 b20) v65 (own_pick s0 b5 b10 b15 b20) v50), .val (own_j0_317_0 qq s0 s1 v50 v65)] [])) _
      refine XS.aload X177.here hx rfl (hb hby at_362) rfl f177_0 ?_
      refine XS.aload X177.here hx rfl (hb hby at_364) rfl hr194 ?_
      show Steps p.tables e below (T177.setTop (mkF m 366 #[.val (.int i1), .val (.int i2), .val (.int i3), .val (.int (2 : Int32)), .val (.int qq), .val (.int s0), .val (.int s1), .val (.int s2), .val (.int s3), .val (.ref b3), .val (.ref b25), .val (.ref b47), .val (.ref b109), .val (own_r10b (own_pick qq b5 b10 b15 b20) (own_pick s1 b5 b10 b15 b20) v65 (own_pick s0 b5 b10 b15 b20) v50), .val (own_j0_317_0 qq s0 s1 v50 v65)] [(own_j0_317_0 qq s0 s1 v50 v65), (own_r10b (own_pick qq b5 b10 b15 b20) (own_pick s1 b5 b10 b15 b20) v65 (own_pick s0 b5 b10 b15 b20) v50)])) _
      refine Jvm.RoadKit.acmp (g := (mkF m 366 #[.val (.int i1), .val (.int i2), .val (.int i3), .val (.int (2 : Int32)), .val (.int qq), .val (.int s0), .val (.int s1), .val (.int s2), .val (.int s3), .val (.ref b3), .val (.ref b25), .val (.ref b47), .val (.ref b109), .val (own_r10b (own_pick qq b5 b10 b15 b20) (own_pick s1 b5 b10 b15 b20) v65 (own_pick s0 b5 b10 b15 b20) v50), .val (own_j0_317_0 qq s0 s1 v50 v65)] [(own_j0_317_0 qq s0 s1 v50 v65), (own_r10b (own_pick qq b5 b10 b15 b20) (own_pick s1 b5 b10 b15 b20) v65 (own_pick s0 b5 b10 b15 b20) v50)])) X177 hx rfl f177_0 hr194 (pc0 := 366) (pc' := 369) (same := true) rfl (hb hby at_366) rfl (decide_eq_true hr195) (by decide) (by decide) ?_
      show Steps p.tables e below (T177.setTop (mkF m 369 #[.val (.int i1), .val (.int i2), .val (.int i3), .val (.int (2 : Int32)), .val (.int qq), .val (.int s0), .val (.int s1), .val (.int s2), .val (.int s3), .val (.ref b3), .val (.ref b25), .val (.ref b47), .val (.ref b109), .val (own_r10b (own_pick qq b5 b10 b15 b20) (own_pick s1 b5 b10 b15 b20) v65 (own_pick s0 b5 b10 b15 b20) v50), .val (own_j0_317_0 qq s0 s1 v50 v65)] [])) _
      refine XS.iconst X177.here hx rfl (hb hby at_369) ?_
      refine XS.goto X177.here hx rfl (pc0 := 370) (pc' := 374) rfl (hb hby at_370) (by decide) (by decide) ?_
      exact k
    obtain ⟨fs, hr, hrun, hended, hRW⟩ := Stand.leaveW (s := s) (vm₁ := T95.vm) (show Stand p l e room_1 (s.setVm T95.vm) m #[(.int i1), (.int i2), (.int i3)] below meth c T177 _ _ _ from X177) S95 (by rw [e177]; exact Nat.le_trans (Nat.le_of_eq (congrArg Array.size e95)) (Nat.le_trans (Nat.le_trans (Nat.le_trans (Nat.le_trans (Keep.of_wr W107).1 E109.1) Kq112.1) Kq157.1) Kq166.1)) (v := some (.int (1 : Int32))) (fun h => by rw [Bd.returns] at h; cases h)
    refine ⟨_, _, pre196 _ ?_, hrun, hended, _, _, rfl, ?_, hRW.1, hRW.2.1, hRW.2.2.1, hRW.2.2.2.mono (by decide) (by decide)⟩
    · show Steps p.tables e below (T177.setTop (mkF m 374 #[.val (.int i1), .val (.int i2), .val (.int i3), .val (.int (2 : Int32)), .val (.int qq), .val (.int s0), .val (.int s1), .val (.int s2), .val (.int s3), .val (.ref b3), .val (.ref b25), .val (.ref b47), .val (.ref b109), .val (own_r10b (own_pick qq b5 b10 b15 b20) (own_pick s1 b5 b10 b15 b20) v65 (own_pick s0 b5 b10 b15 b20) v50), .val (own_j0_317_0 qq s0 s1 v50 v65)] [(.int (1 : Int32))])) _
      exact retN X177 hx (t := .boolean) Bd.returns (by simp) (hb hby at_374) hr
    · show Q0 Z i1 i2 i3 y5 y13 h0 n0 _ T177.heap _
      rw [e177]
      exact ⟨rfl, N177⟩
  · have pre197 : ∀ t, Steps p.tables e below (T112.setTop (mkF m 185 #[.val (.int i1), .val (.int i2), .val (.int i3), .val (.int (3 : Int32)), .val (.int qq), .val (.int s0), .val (.int s1), .val (.int s2), .val (.int s3), .val (.ref b3), .val (.ref b25), .val (.ref b47), .val (.ref b109), .unset, .unset] [])) t → Steps p.tables e below (s₁.setTop (entryFrame m #[(.int i1), (.int i2), (.int i3)] maxLocals)) t := fun t k => pre114 t (by rw [hk115]; exact k)
    have f198 := (((((((((((V45.ext E47).keep Kq50 nin0).other W62 (Nat.ne_of_lt (Nat.lt_of_lt_of_le V25.lt (Nat.le_trans (Nat.le_trans (Nat.le_trans (Nat.le_trans (Nat.le_trans (Nat.le_trans (Nat.le_trans (Nat.le_trans E27.1 (Keep.of_wr W30).1) E32.1) (Keep.of_wr W35).1) E37.1) (Keep.of_wr W40).1) E42.1) (Keep.of_wr W45).1) (Nat.le_of_eq g47.symm))))).keep Kq65 nin0).other W77 (Nat.ne_of_lt (Nat.lt_of_lt_of_le V25.lt (Nat.le_trans (Nat.le_trans (Nat.le_trans (Nat.le_trans (Nat.le_trans (Nat.le_trans (Nat.le_trans (Nat.le_trans E27.1 (Keep.of_wr W30).1) E32.1) (Keep.of_wr W35).1) E37.1) (Keep.of_wr W40).1) E42.1) (Keep.of_wr W45).1) (Nat.le_of_eq g47.symm))))).keep Kq80 nin0).other W92 (Nat.ne_of_lt (Nat.lt_of_lt_of_le V25.lt (Nat.le_trans (Nat.le_trans (Nat.le_trans (Nat.le_trans (Nat.le_trans (Nat.le_trans (Nat.le_trans (Nat.le_trans E27.1 (Keep.of_wr W30).1) E32.1) (Keep.of_wr W35).1) E37.1) (Keep.of_wr W40).1) E42.1) (Keep.of_wr W45).1) (Nat.le_of_eq g47.symm))))).keep Kq95 nin0).other W107 (Nat.ne_of_lt (Nat.lt_of_lt_of_le V25.lt (Nat.le_trans (Nat.le_trans (Nat.le_trans (Nat.le_trans (Nat.le_trans (Nat.le_trans (Nat.le_trans (Nat.le_trans E27.1 (Keep.of_wr W30).1) E32.1) (Keep.of_wr W35).1) E37.1) (Keep.of_wr W40).1) E42.1) (Keep.of_wr W45).1) (Nat.le_of_eq g47.symm))))).ext E109).keep Kq112 (ninS (Nat.ne_of_lt (Nat.lt_of_lt_of_le V25.lt (Nat.le_trans (Nat.le_trans (Nat.le_trans (Nat.le_trans (Nat.le_trans (Nat.le_trans (Nat.le_trans (Nat.le_trans (Nat.le_trans (Nat.le_trans (Nat.le_trans (Nat.le_trans (Nat.le_trans (Nat.le_trans (Nat.le_trans (Nat.le_trans (Nat.le_trans E27.1 (Keep.of_wr W30).1) E32.1) (Keep.of_wr W35).1) E37.1) (Keep.of_wr W40).1) E42.1) (Keep.of_wr W45).1) E47.1) Kq50.1) (Keep.of_wr W62).1) Kq65.1) (Keep.of_wr W77).1) Kq80.1) (Keep.of_wr W92).1) Kq95.1) (Keep.of_wr W107).1) (Nat.le_of_eq g109.symm)))) nin0))
    obtain ⟨cl199, Ar199, Cq199, Sz199, Nn199, Hh199, Gg199⟩ := id f198
    have hin199 : ¬ ((0 : Int32) < 0 ∨ cl199.slots.size ≤ ((0 : Int32)).toNatClampNeg) := inb_of Sz199 ⟨by decide, by decide⟩
    have hat199 : cl199.slots[((0 : Int32)).toNatClampNeg]? = some (.ref b27) := Hh199.at hin199 rfl
    have f200 := ((((((((((((((((((((V23.ext E25).ext E27).other W30 (Nat.ne_of_lt (Nat.lt_of_lt_of_le V3.lt (Nat.le_trans (Nat.le_trans (Nat.le_trans (Nat.le_trans (Nat.le_trans (Nat.le_trans (Nat.le_trans (Nat.le_trans E5.1 (Keep.of_wr W8).1) E10.1) (Keep.of_wr W13).1) E15.1) (Keep.of_wr W18).1) E20.1) (Keep.of_wr W23).1) (Nat.le_of_eq g25.symm))))).ext E32).other W35 (Nat.ne_of_lt (Nat.lt_of_lt_of_le V3.lt (Nat.le_trans (Nat.le_trans (Nat.le_trans (Nat.le_trans (Nat.le_trans (Nat.le_trans (Nat.le_trans (Nat.le_trans E5.1 (Keep.of_wr W8).1) E10.1) (Keep.of_wr W13).1) E15.1) (Keep.of_wr W18).1) E20.1) (Keep.of_wr W23).1) (Nat.le_of_eq g25.symm))))).ext E37).other W40 (Nat.ne_of_lt (Nat.lt_of_lt_of_le V3.lt (Nat.le_trans (Nat.le_trans (Nat.le_trans (Nat.le_trans (Nat.le_trans (Nat.le_trans (Nat.le_trans (Nat.le_trans E5.1 (Keep.of_wr W8).1) E10.1) (Keep.of_wr W13).1) E15.1) (Keep.of_wr W18).1) E20.1) (Keep.of_wr W23).1) (Nat.le_of_eq g25.symm))))).ext E42).other W45 (Nat.ne_of_lt (Nat.lt_of_lt_of_le V3.lt (Nat.le_trans (Nat.le_trans (Nat.le_trans (Nat.le_trans (Nat.le_trans (Nat.le_trans (Nat.le_trans (Nat.le_trans E5.1 (Keep.of_wr W8).1) E10.1) (Keep.of_wr W13).1) E15.1) (Keep.of_wr W18).1) E20.1) (Keep.of_wr W23).1) (Nat.le_of_eq g25.symm))))).ext E47).keep Kq50 nin0).other W62 (Nat.ne_of_lt (Nat.lt_of_lt_of_le V3.lt (Nat.le_trans (Nat.le_trans (Nat.le_trans (Nat.le_trans (Nat.le_trans (Nat.le_trans (Nat.le_trans (Nat.le_trans (Nat.le_trans (Nat.le_trans (Nat.le_trans (Nat.le_trans (Nat.le_trans (Nat.le_trans (Nat.le_trans (Nat.le_trans (Nat.le_trans E5.1 (Keep.of_wr W8).1) E10.1) (Keep.of_wr W13).1) E15.1) (Keep.of_wr W18).1) E20.1) (Keep.of_wr W23).1) E25.1) E27.1) (Keep.of_wr W30).1) E32.1) (Keep.of_wr W35).1) E37.1) (Keep.of_wr W40).1) E42.1) (Keep.of_wr W45).1) (Nat.le_of_eq g47.symm))))).keep Kq65 nin0).other W77 (Nat.ne_of_lt (Nat.lt_of_lt_of_le V3.lt (Nat.le_trans (Nat.le_trans (Nat.le_trans (Nat.le_trans (Nat.le_trans (Nat.le_trans (Nat.le_trans (Nat.le_trans (Nat.le_trans (Nat.le_trans (Nat.le_trans (Nat.le_trans (Nat.le_trans (Nat.le_trans (Nat.le_trans (Nat.le_trans (Nat.le_trans E5.1 (Keep.of_wr W8).1) E10.1) (Keep.of_wr W13).1) E15.1) (Keep.of_wr W18).1) E20.1) (Keep.of_wr W23).1) E25.1) E27.1) (Keep.of_wr W30).1) E32.1) (Keep.of_wr W35).1) E37.1) (Keep.of_wr W40).1) E42.1) (Keep.of_wr W45).1) (Nat.le_of_eq g47.symm))))).keep Kq80 nin0).other W92 (Nat.ne_of_lt (Nat.lt_of_lt_of_le V3.lt (Nat.le_trans (Nat.le_trans (Nat.le_trans (Nat.le_trans (Nat.le_trans (Nat.le_trans (Nat.le_trans (Nat.le_trans (Nat.le_trans (Nat.le_trans (Nat.le_trans (Nat.le_trans (Nat.le_trans (Nat.le_trans (Nat.le_trans (Nat.le_trans (Nat.le_trans E5.1 (Keep.of_wr W8).1) E10.1) (Keep.of_wr W13).1) E15.1) (Keep.of_wr W18).1) E20.1) (Keep.of_wr W23).1) E25.1) E27.1) (Keep.of_wr W30).1) E32.1) (Keep.of_wr W35).1) E37.1) (Keep.of_wr W40).1) E42.1) (Keep.of_wr W45).1) (Nat.le_of_eq g47.symm))))).keep Kq95 nin0).other W107 (Nat.ne_of_lt (Nat.lt_of_lt_of_le V3.lt (Nat.le_trans (Nat.le_trans (Nat.le_trans (Nat.le_trans (Nat.le_trans (Nat.le_trans (Nat.le_trans (Nat.le_trans (Nat.le_trans (Nat.le_trans (Nat.le_trans (Nat.le_trans (Nat.le_trans (Nat.le_trans (Nat.le_trans (Nat.le_trans (Nat.le_trans E5.1 (Keep.of_wr W8).1) E10.1) (Keep.of_wr W13).1) E15.1) (Keep.of_wr W18).1) E20.1) (Keep.of_wr W23).1) E25.1) E27.1) (Keep.of_wr W30).1) E32.1) (Keep.of_wr W35).1) E37.1) (Keep.of_wr W40).1) E42.1) (Keep.of_wr W45).1) (Nat.le_of_eq g47.symm))))).ext E109).keep Kq112 (ninS (Nat.ne_of_lt (Nat.lt_of_lt_of_le V3.lt (Nat.le_trans (Nat.le_trans (Nat.le_trans (Nat.le_trans (Nat.le_trans (Nat.le_trans (Nat.le_trans (Nat.le_trans (Nat.le_trans (Nat.le_trans (Nat.le_trans (Nat.le_trans (Nat.le_trans (Nat.le_trans (Nat.le_trans (Nat.le_trans (Nat.le_trans (Nat.le_trans (Nat.le_trans (Nat.le_trans (Nat.le_trans (Nat.le_trans (Nat.le_trans (Nat.le_trans (Nat.le_trans (Nat.le_trans E5.1 (Keep.of_wr W8).1) E10.1) (Keep.of_wr W13).1) E15.1) (Keep.of_wr W18).1) E20.1) (Keep.of_wr W23).1) E25.1) E27.1) (Keep.of_wr W30).1) E32.1) (Keep.of_wr W35).1) E37.1) (Keep.of_wr W40).1) E42.1) (Keep.of_wr W45).1) E47.1) Kq50.1) (Keep.of_wr W62).1) Kq65.1) (Keep.of_wr W77).1) Kq80.1) (Keep.of_wr W92).1) Kq95.1) (Keep.of_wr W107).1) (Nat.le_of_eq g109.symm)))) nin0))
    obtain ⟨cl201, Ar201, Cq201, Sz201, Nn201, Hh201, Gg201⟩ := id f200
    have hin201 : ¬ (s0 < 0 ∨ cl201.slots.size ≤ (s0).toNatClampNeg) := inb_of Sz201 (own_in4 d_s0)
    have hat201 : cl201.slots[(s0).toNatClampNeg]? = some (.ref (own_pick s0 b5 b10 b15 b20)) := Hh201.at hin201 (own_pickat d_s0 b5 b10 b15 b20)
    have f202 := ((V107.ext E109).keep Kq112 (ninS (Nat.ne_of_lt (Nat.lt_of_lt_of_le V47.lt (Nat.le_trans (Nat.le_trans (Nat.le_trans (Nat.le_trans (Nat.le_trans (Nat.le_trans (Nat.le_trans (Nat.le_trans Kq50.1 (Keep.of_wr W62).1) Kq65.1) (Keep.of_wr W77).1) Kq80.1) (Keep.of_wr W92).1) Kq95.1) (Keep.of_wr W107).1) (Nat.le_of_eq g109.symm)))) nin0))
    obtain ⟨cl203, Ar203, Cq203, Sz203, Nn203, Hh203, Gg203⟩ := id f202
    have hin203 : ¬ ((0 : Int32) < 0 ∨ cl203.slots.size ≤ ((0 : Int32)).toNatClampNeg) := inb_of Sz203 ⟨by decide, by decide⟩
    have hat203 : cl203.slots[((0 : Int32)).toNatClampNeg]? = some v50 := Hh203.at hin203 rfl
    have f204 := (((((((((((((((((((((((((((((y9.ext E3).ext E5).other W8 (Nat.ne_of_lt (Nat.lt_of_lt_of_le y9.lt (Nat.le_trans (Nat.le_refl _) (Nat.le_of_eq g3.symm))))).ext E10).other W13 (Nat.ne_of_lt (Nat.lt_of_lt_of_le y9.lt (Nat.le_trans (Nat.le_refl _) (Nat.le_of_eq g3.symm))))).ext E15).other W18 (Nat.ne_of_lt (Nat.lt_of_lt_of_le y9.lt (Nat.le_trans (Nat.le_refl _) (Nat.le_of_eq g3.symm))))).ext E20).other W23 (Nat.ne_of_lt (Nat.lt_of_lt_of_le y9.lt (Nat.le_trans (Nat.le_refl _) (Nat.le_of_eq g3.symm))))).ext E25).ext E27).other W30 (Nat.ne_of_lt (Nat.lt_of_lt_of_le y9.lt (Nat.le_trans (Nat.le_trans (Nat.le_trans (Nat.le_trans (Nat.le_trans (Nat.le_trans (Nat.le_trans (Nat.le_trans (Nat.le_trans E3.1 E5.1) (Keep.of_wr W8).1) E10.1) (Keep.of_wr W13).1) E15.1) (Keep.of_wr W18).1) E20.1) (Keep.of_wr W23).1) (Nat.le_of_eq g25.symm))))).ext E32).other W35 (Nat.ne_of_lt (Nat.lt_of_lt_of_le y9.lt (Nat.le_trans (Nat.le_trans (Nat.le_trans (Nat.le_trans (Nat.le_trans (Nat.le_trans (Nat.le_trans (Nat.le_trans (Nat.le_trans E3.1 E5.1) (Keep.of_wr W8).1) E10.1) (Keep.of_wr W13).1) E15.1) (Keep.of_wr W18).1) E20.1) (Keep.of_wr W23).1) (Nat.le_of_eq g25.symm))))).ext E37).other W40 (Nat.ne_of_lt (Nat.lt_of_lt_of_le y9.lt (Nat.le_trans (Nat.le_trans (Nat.le_trans (Nat.le_trans (Nat.le_trans (Nat.le_trans (Nat.le_trans (Nat.le_trans (Nat.le_trans E3.1 E5.1) (Keep.of_wr W8).1) E10.1) (Keep.of_wr W13).1) E15.1) (Keep.of_wr W18).1) E20.1) (Keep.of_wr W23).1) (Nat.le_of_eq g25.symm))))).ext E42).other W45 (Nat.ne_of_lt (Nat.lt_of_lt_of_le y9.lt (Nat.le_trans (Nat.le_trans (Nat.le_trans (Nat.le_trans (Nat.le_trans (Nat.le_trans (Nat.le_trans (Nat.le_trans (Nat.le_trans E3.1 E5.1) (Keep.of_wr W8).1) E10.1) (Keep.of_wr W13).1) E15.1) (Keep.of_wr W18).1) E20.1) (Keep.of_wr W23).1) (Nat.le_of_eq g25.symm))))).ext E47).keep Kq50 nin0).other W62 (Nat.ne_of_lt (Nat.lt_of_lt_of_le y9.lt (Nat.le_trans (Nat.le_trans (Nat.le_trans (Nat.le_trans (Nat.le_trans (Nat.le_trans (Nat.le_trans (Nat.le_trans (Nat.le_trans (Nat.le_trans (Nat.le_trans (Nat.le_trans (Nat.le_trans (Nat.le_trans (Nat.le_trans (Nat.le_trans (Nat.le_trans (Nat.le_trans E3.1 E5.1) (Keep.of_wr W8).1) E10.1) (Keep.of_wr W13).1) E15.1) (Keep.of_wr W18).1) E20.1) (Keep.of_wr W23).1) E25.1) E27.1) (Keep.of_wr W30).1) E32.1) (Keep.of_wr W35).1) E37.1) (Keep.of_wr W40).1) E42.1) (Keep.of_wr W45).1) (Nat.le_of_eq g47.symm))))).keep Kq65 nin0).other W77 (Nat.ne_of_lt (Nat.lt_of_lt_of_le y9.lt (Nat.le_trans (Nat.le_trans (Nat.le_trans (Nat.le_trans (Nat.le_trans (Nat.le_trans (Nat.le_trans (Nat.le_trans (Nat.le_trans (Nat.le_trans (Nat.le_trans (Nat.le_trans (Nat.le_trans (Nat.le_trans (Nat.le_trans (Nat.le_trans (Nat.le_trans (Nat.le_trans E3.1 E5.1) (Keep.of_wr W8).1) E10.1) (Keep.of_wr W13).1) E15.1) (Keep.of_wr W18).1) E20.1) (Keep.of_wr W23).1) E25.1) E27.1) (Keep.of_wr W30).1) E32.1) (Keep.of_wr W35).1) E37.1) (Keep.of_wr W40).1) E42.1) (Keep.of_wr W45).1) (Nat.le_of_eq g47.symm))))).keep Kq80 nin0).other W92 (Nat.ne_of_lt (Nat.lt_of_lt_of_le y9.lt (Nat.le_trans (Nat.le_trans (Nat.le_trans (Nat.le_trans (Nat.le_trans (Nat.le_trans (Nat.le_trans (Nat.le_trans (Nat.le_trans (Nat.le_trans (Nat.le_trans (Nat.le_trans (Nat.le_trans (Nat.le_trans (Nat.le_trans (Nat.le_trans (Nat.le_trans (Nat.le_trans E3.1 E5.1) (Keep.of_wr W8).1) E10.1) (Keep.of_wr W13).1) E15.1) (Keep.of_wr W18).1) E20.1) (Keep.of_wr W23).1) E25.1) E27.1) (Keep.of_wr W30).1) E32.1) (Keep.of_wr W35).1) E37.1) (Keep.of_wr W40).1) E42.1) (Keep.of_wr W45).1) (Nat.le_of_eq g47.symm))))).keep Kq95 nin0).other W107 (Nat.ne_of_lt (Nat.lt_of_lt_of_le y9.lt (Nat.le_trans (Nat.le_trans (Nat.le_trans (Nat.le_trans (Nat.le_trans (Nat.le_trans (Nat.le_trans (Nat.le_trans (Nat.le_trans (Nat.le_trans (Nat.le_trans (Nat.le_trans (Nat.le_trans (Nat.le_trans (Nat.le_trans (Nat.le_trans (Nat.le_trans (Nat.le_trans E3.1 E5.1) (Keep.of_wr W8).1) E10.1) (Keep.of_wr W13).1) E15.1) (Keep.of_wr W18).1) E20.1) (Keep.of_wr W23).1) E25.1) E27.1) (Keep.of_wr W30).1) E32.1) (Keep.of_wr W35).1) E37.1) (Keep.of_wr W40).1) E42.1) (Keep.of_wr W45).1) (Nat.le_of_eq g47.symm))))).ext E109).keep Kq112 (ninS (Nat.ne_of_lt (Nat.lt_of_lt_of_le y9.lt (Nat.le_trans (Nat.le_trans (Nat.le_trans (Nat.le_trans (Nat.le_trans (Nat.le_trans (Nat.le_trans (Nat.le_trans (Nat.le_trans (Nat.le_trans (Nat.le_trans (Nat.le_trans (Nat.le_trans (Nat.le_trans (Nat.le_trans (Nat.le_trans (Nat.le_trans (Nat.le_trans (Nat.le_trans (Nat.le_trans (Nat.le_trans (Nat.le_trans (Nat.le_trans (Nat.le_trans (Nat.le_trans (Nat.le_trans (Nat.le_trans E3.1 E5.1) (Keep.of_wr W8).1) E10.1) (Keep.of_wr W13).1) E15.1) (Keep.of_wr W18).1) E20.1) (Keep.of_wr W23).1) E25.1) E27.1) (Keep.of_wr W30).1) E32.1) (Keep.of_wr W35).1) E37.1) (Keep.of_wr W40).1) E42.1) (Keep.of_wr W45).1) E47.1) Kq50.1) (Keep.of_wr W62).1) Kq65.1) (Keep.of_wr W77).1) Kq80.1) (Keep.of_wr W92).1) Kq95.1) (Keep.of_wr W107).1) (Nat.le_of_eq g109.symm)))) nin0))
    have f205 := (f111.keep Kq112 (allS (Nat.le_trans Z0 sz_b109) all0))
    obtain ⟨cq206, kq206, q206a, q206b, q206c⟩ := isOf hZ rfl f112_4
    obtain ⟨_, _, ⟨T206, L206, k206, n206⟩, -, X206, ⟨Lc206, hQ206, l206, y206, z206⟩, st206⟩ := X112.virtualBack hx (y := own_y1) (z := own_y1) hown (mvT hZ (hw _ (List.mem_of_getElem? (i := 96) rfl))) (mvT hZ (hw _ (List.mem_of_getElem? (i := 97) rfl))) (notFace_of_selects (args := #[]) (mvT hZ (hw _ (List.mem_of_getElem? (i := 99) rfl)))) (mvT hZ (hw _ (List.mem_of_getElem? (i := 99) rfl))) (mvT hZ (hw _ (List.mem_of_getElem? (i := 98) rfl))) (by decide) (backOf (W := 0) (rm12 l Z a0 hw [] b109 b27 (own_pick s0 b5 b10 b15 b20) v50 b112_0 y5 y13 T112.heap n0 (Nat.le_trans Z0 K113.1) hr50 f112_5 f112_1 y33 f112_2 f112_3 f204 f112_0 (Nat.le_trans Z0 sz_b112_0) (Nat.ne_of_lt (Nat.lt_of_lt_of_le y9.lt (Nat.le_trans (Nat.le_trans (Nat.le_trans (Nat.le_trans (Nat.le_trans (Nat.le_trans (Nat.le_trans (Nat.le_trans (Nat.le_trans (Nat.le_trans (Nat.le_trans (Nat.le_trans (Nat.le_trans (Nat.le_trans (Nat.le_trans (Nat.le_trans (Nat.le_trans (Nat.le_trans (Nat.le_trans (Nat.le_trans (Nat.le_trans (Nat.le_trans (Nat.le_trans (Nat.le_trans (Nat.le_trans (Nat.le_trans (Nat.le_trans (Nat.le_trans E3.1 E5.1) (Keep.of_wr W8).1) E10.1) (Keep.of_wr W13).1) E15.1) (Keep.of_wr W18).1) E20.1) (Keep.of_wr W23).1) E25.1) E27.1) (Keep.of_wr W30).1) E32.1) (Keep.of_wr W35).1) E37.1) (Keep.of_wr W40).1) E42.1) (Keep.of_wr W45).1) E47.1) Kq50.1) (Keep.of_wr W62).1) Kq65.1) (Keep.of_wr W77).1) Kq80.1) (Keep.of_wr W92).1) Kq95.1) (Keep.of_wr W107).1) E109.1) sq112_0))) f205) hZ (hw _ (List.mem_of_getElem? (i := 100) rfl)) (hw _ (List.mem_of_getElem? (i := 53) rfl)) (by decide) (by decide)) q206a q206c (g := (mkF m 204 #[.val (.int i1), .val (.int i2), .val (.int i3), .val (.int (3 : Int32)), .val (.int qq), .val (.int s0), .val (.int s1), .val (.int s2), .val (.int s3), .val (.ref b3), .val (.ref b25), .val (.ref b47), .val (.ref b109), .unset, .unset] [v50, (.ref (own_pick s0 b5 b10 b15 b20)), (.ref b27), (.ref b109)])) rfl (by rw [hml]; rfl) (Steps.refl _) (argsL := [(.ref b27), (.ref (own_pick s0 b5 b10 b15 b20)), v50]) (rest := []) (lenOf pd_6 rfl) rfl (by show 2 * 0 + _ ≤ _; exact Nat.le_of_eq rfl) (hb hby at_204) (fun _ _ => ⟨rfl, rfl, (by decide : 29 + 2 ≤ _), (by decide : 88 + 13 ≤ _)⟩)
    dsimp only [Pt.U, Pt.locs, Pt.cells, Pt.slots] at X206 l206 y206 z206 st206 hQ206
    subst l206 y206 z206
    obtain ⟨b206_0, b206_1, k206_2, rfl, Nq206, Kq206, sq206_0, sq206_1, f206_0, f206_1, f206_2, f206_3, f206_4, f206_5, f206_6, f206_7, f206_8, f206_9, f206_10⟩ := hQ206
    have sz_b206_0 : h0.size ≤ b206_0 := Nat.le_trans K113.1 sq206_0
    have sz_b206_1 : h0.size ≤ b206_1 := Nat.le_trans K113.1 sq206_1
    have K207 : Keep h0 T206.heap [] := K113.trans Kq206 (allS (Or.inr sz_b112_0) all0)
    have N206 := Fr.app N112 Nq206
    have f208 := (f198.keep Kq206 (ninS (Nat.ne_of_lt (Nat.lt_of_lt_of_le V25.lt (Nat.le_trans (Nat.le_trans (Nat.le_trans (Nat.le_trans (Nat.le_trans (Nat.le_trans (Nat.le_trans (Nat.le_trans (Nat.le_trans (Nat.le_trans (Nat.le_trans (Nat.le_trans (Nat.le_trans (Nat.le_trans (Nat.le_trans (Nat.le_trans (Nat.le_trans (Nat.le_trans E27.1 (Keep.of_wr W30).1) E32.1) (Keep.of_wr W35).1) E37.1) (Keep.of_wr W40).1) E42.1) (Keep.of_wr W45).1) E47.1) Kq50.1) (Keep.of_wr W62).1) Kq65.1) (Keep.of_wr W77).1) Kq80.1) (Keep.of_wr W92).1) Kq95.1) (Keep.of_wr W107).1) E109.1) sq112_0))) nin0))
    obtain ⟨cl209, Ar209, Cq209, Sz209, Nn209, Hh209, Gg209⟩ := id f208
    have hin209 : ¬ ((1 : Int32) < 0 ∨ cl209.slots.size ≤ ((1 : Int32)).toNatClampNeg) := inb_of Sz209 ⟨by decide, by decide⟩
    have hat209 : cl209.slots[((1 : Int32)).toNatClampNeg]? = some (.ref b32) := Hh209.at hin209 rfl
    have f210 := (f200.keep Kq206 (ninS (Nat.ne_of_lt (Nat.lt_of_lt_of_le V3.lt (Nat.le_trans (Nat.le_trans (Nat.le_trans (Nat.le_trans (Nat.le_trans (Nat.le_trans (Nat.le_trans (Nat.le_trans (Nat.le_trans (Nat.le_trans (Nat.le_trans (Nat.le_trans (Nat.le_trans (Nat.le_trans (Nat.le_trans (Nat.le_trans (Nat.le_trans (Nat.le_trans (Nat.le_trans (Nat.le_trans (Nat.le_trans (Nat.le_trans (Nat.le_trans (Nat.le_trans (Nat.le_trans (Nat.le_trans (Nat.le_trans E5.1 (Keep.of_wr W8).1) E10.1) (Keep.of_wr W13).1) E15.1) (Keep.of_wr W18).1) E20.1) (Keep.of_wr W23).1) E25.1) E27.1) (Keep.of_wr W30).1) E32.1) (Keep.of_wr W35).1) E37.1) (Keep.of_wr W40).1) E42.1) (Keep.of_wr W45).1) E47.1) Kq50.1) (Keep.of_wr W62).1) Kq65.1) (Keep.of_wr W77).1) Kq80.1) (Keep.of_wr W92).1) Kq95.1) (Keep.of_wr W107).1) E109.1) sq112_0))) nin0))
    obtain ⟨cl211, Ar211, Cq211, Sz211, Nn211, Hh211, Gg211⟩ := id f210
    have hin211 : ¬ (s1 < 0 ∨ cl211.slots.size ≤ (s1).toNatClampNeg) := inb_of Sz211 (own_in4 d_s1)
    have hat211 : cl211.slots[(s1).toNatClampNeg]? = some (.ref (own_pick s1 b5 b10 b15 b20)) := Hh211.at hin211 (own_pickat d_s1 b5 b10 b15 b20)
    have f212 := (f202.keep Kq206 (ninS (Nat.ne_of_lt (Nat.lt_of_lt_of_le V47.lt (Nat.le_trans (Nat.le_trans (Nat.le_trans (Nat.le_trans (Nat.le_trans (Nat.le_trans (Nat.le_trans (Nat.le_trans (Nat.le_trans Kq50.1 (Keep.of_wr W62).1) Kq65.1) (Keep.of_wr W77).1) Kq80.1) (Keep.of_wr W92).1) Kq95.1) (Keep.of_wr W107).1) E109.1) sq112_0))) nin0))
    obtain ⟨cl213, Ar213, Cq213, Sz213, Nn213, Hh213, Gg213⟩ := id f212
    have hin213 : ¬ ((1 : Int32) < 0 ∨ cl213.slots.size ≤ ((1 : Int32)).toNatClampNeg) := inb_of Sz213 ⟨by decide, by decide⟩
    have hat213 : cl213.slots[((1 : Int32)).toNatClampNeg]? = some v65 := Hh213.at hin213 rfl
    have f214 := (f112_5.keep Kq206 (ninS (Nat.ne_of_lt (Nat.lt_of_lt_of_le A109.lt (Nat.le_trans (Nat.le_refl _) sq112_0))) nin0))
    have f216 := (f112_4.keep Kq206)
    obtain ⟨cq215, kq215, q215a, q215b, q215c⟩ := isOf hZ rfl f216
    obtain ⟨_, _, ⟨T215, L215, k215, n215⟩, -, X215, ⟨Lc215, hQ215, l215, y215, z215⟩, st215⟩ := X206.virtualBack hx (y := own_y1) (z := own_y1) hown (mvT hZ (hw _ (List.mem_of_getElem? (i := 96) rfl))) (mvT hZ (hw _ (List.mem_of_getElem? (i := 97) rfl))) (notFace_of_selects (args := #[]) (mvT hZ (hw _ (List.mem_of_getElem? (i := 99) rfl)))) (mvT hZ (hw _ (List.mem_of_getElem? (i := 99) rfl))) (mvT hZ (hw _ (List.mem_of_getElem? (i := 98) rfl))) (by decide) (backOf (W := 0) (rm12a l Z a0 hw [] b109 b32 (own_pick s1 b5 b10 b15 b20) v65 b112_0 b206_1 b206_0 k206_2 T206.heap n0 (Nat.le_trans Z0 K207.1) hr65 f214 f206_7 f206_5 f206_8 f206_10 f206_6 f206_4 (Nat.le_trans Z0 sz_b112_0) (Ne.symm (Nat.ne_of_lt (Nat.lt_of_lt_of_le f112_0.lt (Nat.le_trans (Nat.le_refl _) sq206_1)))) (Nat.le_trans Z0 sz_b206_1)) hZ (hw _ (List.mem_of_getElem? (i := 100) rfl)) (hw _ (List.mem_of_getElem? (i := 53) rfl)) (by decide) (by decide)) q215a q215c (g := (mkF m 227 #[.val (.int i1), .val (.int i2), .val (.int i3), .val (.int (3 : Int32)), .val (.int qq), .val (.int s0), .val (.int s1), .val (.int s2), .val (.int s3), .val (.ref b3), .val (.ref b25), .val (.ref b47), .val (.ref b109), .unset, .unset] [v65, (.ref (own_pick s1 b5 b10 b15 b20)), (.ref b32), (.ref b109)])) rfl (by rw [hml]; rfl) (Steps.refl _) (argsL := [(.ref b32), (.ref (own_pick s1 b5 b10 b15 b20)), v65]) (rest := []) (lenOf pd_6 rfl) rfl (by show 2 * 0 + _ ≤ _; exact Nat.le_of_eq rfl) (hb hby at_227) (fun _ _ => ⟨rfl, rfl, (by decide : 31 + 1 ≤ _), (by decide : 101 + 3 ≤ _)⟩)
    dsimp only [Pt.U, Pt.locs, Pt.cells, Pt.slots] at X215 l215 y215 z215 st215 hQ215
    subst l215 y215 z215
    obtain ⟨b215_0, rfl, Nq215, Kq215, sq215_0, f215_0, f215_1, f215_2, f215_3, f215_4, f215_5, f215_6, f215_7, f215_8, f215_9⟩ := hQ215
    have sz_b215_0 : h0.size ≤ b215_0 := Nat.le_trans K207.1 sq215_0
    have K217 : Keep h0 T215.heap [] := K207.trans Kq215 (allS (Or.inr sz_b206_1) (allS (Or.inr sz_b112_0) all0))
    have N215 := Fr.app N206 Nq215
    have f218 := (f208.keep Kq215 (ninS (Nat.ne_of_lt (Nat.lt_of_lt_of_le V25.lt (Nat.le_trans (Nat.le_trans (Nat.le_trans (Nat.le_trans (Nat.le_trans (Nat.le_trans (Nat.le_trans (Nat.le_trans (Nat.le_trans (Nat.le_trans (Nat.le_trans (Nat.le_trans (Nat.le_trans (Nat.le_trans (Nat.le_trans (Nat.le_trans (Nat.le_trans (Nat.le_trans (Nat.le_trans E27.1 (Keep.of_wr W30).1) E32.1) (Keep.of_wr W35).1) E37.1) (Keep.of_wr W40).1) E42.1) (Keep.of_wr W45).1) E47.1) Kq50.1) (Keep.of_wr W62).1) Kq65.1) (Keep.of_wr W77).1) Kq80.1) (Keep.of_wr W92).1) Kq95.1) (Keep.of_wr W107).1) E109.1) Kq112.1) sq206_1))) (ninS (Nat.ne_of_lt (Nat.lt_of_lt_of_le V25.lt (Nat.le_trans (Nat.le_trans (Nat.le_trans (Nat.le_trans (Nat.le_trans (Nat.le_trans (Nat.le_trans (Nat.le_trans (Nat.le_trans (Nat.le_trans (Nat.le_trans (Nat.le_trans (Nat.le_trans (Nat.le_trans (Nat.le_trans (Nat.le_trans (Nat.le_trans (Nat.le_trans E27.1 (Keep.of_wr W30).1) E32.1) (Keep.of_wr W35).1) E37.1) (Keep.of_wr W40).1) E42.1) (Keep.of_wr W45).1) E47.1) Kq50.1) (Keep.of_wr W62).1) Kq65.1) (Keep.of_wr W77).1) Kq80.1) (Keep.of_wr W92).1) Kq95.1) (Keep.of_wr W107).1) E109.1) sq112_0))) nin0)))
    obtain ⟨cl219, Ar219, Cq219, Sz219, Nn219, Hh219, Gg219⟩ := id f218
    have hin219 : ¬ ((2 : Int32) < 0 ∨ cl219.slots.size ≤ ((2 : Int32)).toNatClampNeg) := inb_of Sz219 ⟨by decide, by decide⟩
    have hat219 : cl219.slots[((2 : Int32)).toNatClampNeg]? = some (.ref b37) := Hh219.at hin219 rfl
    have f220 := (f210.keep Kq215 (ninS (Nat.ne_of_lt (Nat.lt_of_lt_of_le V3.lt (Nat.le_trans (Nat.le_trans (Nat.le_trans (Nat.le_trans (Nat.le_trans (Nat.le_trans (Nat.le_trans (Nat.le_trans (Nat.le_trans (Nat.le_trans (Nat.le_trans (Nat.le_trans (Nat.le_trans (Nat.le_trans (Nat.le_trans (Nat.le_trans (Nat.le_trans (Nat.le_trans (Nat.le_trans (Nat.le_trans (Nat.le_trans (Nat.le_trans (Nat.le_trans (Nat.le_trans (Nat.le_trans (Nat.le_trans (Nat.le_trans (Nat.le_trans E5.1 (Keep.of_wr W8).1) E10.1) (Keep.of_wr W13).1) E15.1) (Keep.of_wr W18).1) E20.1) (Keep.of_wr W23).1) E25.1) E27.1) (Keep.of_wr W30).1) E32.1) (Keep.of_wr W35).1) E37.1) (Keep.of_wr W40).1) E42.1) (Keep.of_wr W45).1) E47.1) Kq50.1) (Keep.of_wr W62).1) Kq65.1) (Keep.of_wr W77).1) Kq80.1) (Keep.of_wr W92).1) Kq95.1) (Keep.of_wr W107).1) E109.1) Kq112.1) sq206_1))) (ninS (Nat.ne_of_lt (Nat.lt_of_lt_of_le V3.lt (Nat.le_trans (Nat.le_trans (Nat.le_trans (Nat.le_trans (Nat.le_trans (Nat.le_trans (Nat.le_trans (Nat.le_trans (Nat.le_trans (Nat.le_trans (Nat.le_trans (Nat.le_trans (Nat.le_trans (Nat.le_trans (Nat.le_trans (Nat.le_trans (Nat.le_trans (Nat.le_trans (Nat.le_trans (Nat.le_trans (Nat.le_trans (Nat.le_trans (Nat.le_trans (Nat.le_trans (Nat.le_trans (Nat.le_trans (Nat.le_trans E5.1 (Keep.of_wr W8).1) E10.1) (Keep.of_wr W13).1) E15.1) (Keep.of_wr W18).1) E20.1) (Keep.of_wr W23).1) E25.1) E27.1) (Keep.of_wr W30).1) E32.1) (Keep.of_wr W35).1) E37.1) (Keep.of_wr W40).1) E42.1) (Keep.of_wr W45).1) E47.1) Kq50.1) (Keep.of_wr W62).1) Kq65.1) (Keep.of_wr W77).1) Kq80.1) (Keep.of_wr W92).1) Kq95.1) (Keep.of_wr W107).1) E109.1) sq112_0))) nin0)))
    obtain ⟨cl221, Ar221, Cq221, Sz221, Nn221, Hh221, Gg221⟩ := id f220
    have hin221 : ¬ (s2 < 0 ∨ cl221.slots.size ≤ (s2).toNatClampNeg) := inb_of Sz221 (own_in4 d_s2)
    have hat221 : cl221.slots[(s2).toNatClampNeg]? = some (.ref (own_pick s2 b5 b10 b15 b20)) := Hh221.at hin221 (own_pickat d_s2 b5 b10 b15 b20)
    have f222 := (f212.keep Kq215 (ninS (Nat.ne_of_lt (Nat.lt_of_lt_of_le V47.lt (Nat.le_trans (Nat.le_trans (Nat.le_trans (Nat.le_trans (Nat.le_trans (Nat.le_trans (Nat.le_trans (Nat.le_trans (Nat.le_trans (Nat.le_trans Kq50.1 (Keep.of_wr W62).1) Kq65.1) (Keep.of_wr W77).1) Kq80.1) (Keep.of_wr W92).1) Kq95.1) (Keep.of_wr W107).1) E109.1) Kq112.1) sq206_1))) (ninS (Nat.ne_of_lt (Nat.lt_of_lt_of_le V47.lt (Nat.le_trans (Nat.le_trans (Nat.le_trans (Nat.le_trans (Nat.le_trans (Nat.le_trans (Nat.le_trans (Nat.le_trans (Nat.le_trans Kq50.1 (Keep.of_wr W62).1) Kq65.1) (Keep.of_wr W77).1) Kq80.1) (Keep.of_wr W92).1) Kq95.1) (Keep.of_wr W107).1) E109.1) sq112_0))) nin0)))
    obtain ⟨cl223, Ar223, Cq223, Sz223, Nn223, Hh223, Gg223⟩ := id f222
    have hin223 : ¬ ((2 : Int32) < 0 ∨ cl223.slots.size ≤ ((2 : Int32)).toNatClampNeg) := inb_of Sz223 ⟨by decide, by decide⟩
    have hat223 : cl223.slots[((2 : Int32)).toNatClampNeg]? = some v80 := Hh223.at hin223 rfl
    have f224 := (f214.keep Kq215 (ninS (Nat.ne_of_lt (Nat.lt_of_lt_of_le A109.lt (Nat.le_trans Kq112.1 sq206_1))) (ninS (Nat.ne_of_lt (Nat.lt_of_lt_of_le A109.lt (Nat.le_trans (Nat.le_refl _) sq112_0))) nin0)))
    have f226 := (f216.keep Kq215)
    obtain ⟨cq225, kq225, q225a, q225b, q225c⟩ := isOf hZ rfl f226
    obtain ⟨_, _, ⟨T225, L225, k225, n225⟩, -, X225, ⟨Lc225, hQ225, l225, y225, z225⟩, st225⟩ := X215.virtualBack hx (y := own_y1) (z := own_y1) hown (mvT hZ (hw _ (List.mem_of_getElem? (i := 96) rfl))) (mvT hZ (hw _ (List.mem_of_getElem? (i := 97) rfl))) (notFace_of_selects (args := #[]) (mvT hZ (hw _ (List.mem_of_getElem? (i := 99) rfl)))) (mvT hZ (hw _ (List.mem_of_getElem? (i := 99) rfl))) (mvT hZ (hw _ (List.mem_of_getElem? (i := 98) rfl))) (by decide) (backOf (W := 0) (rm12b l Z a0 hw [] b109 b37 (own_pick s2 b5 b10 b15 b20) v80 b112_0 b206_1 b206_0 b215_0 k206_2 T215.heap n0 (Nat.le_trans Z0 K217.1) hr80 f224 f215_7 f215_8 f215_6 f215_9 f215_5 f215_4 (Nat.le_trans Z0 sz_b112_0) (Ne.symm (Nat.ne_of_lt (Nat.lt_of_lt_of_le f112_0.lt (Nat.le_trans (Nat.le_refl _) sq206_1)))) (Nat.le_trans Z0 sz_b206_1)) hZ (hw _ (List.mem_of_getElem? (i := 100) rfl)) (hw _ (List.mem_of_getElem? (i := 53) rfl)) (by decide) (by decide)) q225a q225c (g := (mkF m 250 #[.val (.int i1), .val (.int i2), .val (.int i3), .val (.int (3 : Int32)), .val (.int qq), .val (.int s0), .val (.int s1), .val (.int s2), .val (.int s3), .val (.ref b3), .val (.ref b25), .val (.ref b47), .val (.ref b109), .unset, .unset] [v80, (.ref (own_pick s2 b5 b10 b15 b20)), (.ref b37), (.ref b109)])) rfl (by rw [hml]; rfl) (Steps.refl _) (argsL := [(.ref b37), (.ref (own_pick s2 b5 b10 b15 b20)), v80]) (rest := []) (lenOf pd_6 rfl) rfl (by show 2 * 0 + _ ≤ _; exact Nat.le_of_eq rfl) (hb hby at_250) (fun _ _ => ⟨rfl, rfl, (by decide : 32 + 1 ≤ _), (by decide : 104 + 3 ≤ _)⟩)
    dsimp only [Pt.U, Pt.locs, Pt.cells, Pt.slots] at X225 l225 y225 z225 st225 hQ225
    subst l225 y225 z225
    obtain ⟨b225_0, rfl, Nq225, Kq225, sq225_0, f225_0, f225_1, f225_2, f225_3, f225_4, f225_5, f225_6, f225_7, f225_8, f225_9⟩ := hQ225
    have sz_b225_0 : h0.size ≤ b225_0 := Nat.le_trans K217.1 sq225_0
    have K227 : Keep h0 T225.heap [] := K217.trans Kq225 (allS (Or.inr sz_b206_1) (allS (Or.inr sz_b112_0) all0))
    have N225 := Fr.app N215 Nq225
    have f228 := (f220.keep Kq225 (ninS (Nat.ne_of_lt (Nat.lt_of_lt_of_le V3.lt (Nat.le_trans (Nat.le_trans (Nat.le_trans (Nat.le_trans (Nat.le_trans (Nat.le_trans (Nat.le_trans (Nat.le_trans (Nat.le_trans (Nat.le_trans (Nat.le_trans (Nat.le_trans (Nat.le_trans (Nat.le_trans (Nat.le_trans (Nat.le_trans (Nat.le_trans (Nat.le_trans (Nat.le_trans (Nat.le_trans (Nat.le_trans (Nat.le_trans (Nat.le_trans (Nat.le_trans (Nat.le_trans (Nat.le_trans (Nat.le_trans (Nat.le_trans E5.1 (Keep.of_wr W8).1) E10.1) (Keep.of_wr W13).1) E15.1) (Keep.of_wr W18).1) E20.1) (Keep.of_wr W23).1) E25.1) E27.1) (Keep.of_wr W30).1) E32.1) (Keep.of_wr W35).1) E37.1) (Keep.of_wr W40).1) E42.1) (Keep.of_wr W45).1) E47.1) Kq50.1) (Keep.of_wr W62).1) Kq65.1) (Keep.of_wr W77).1) Kq80.1) (Keep.of_wr W92).1) Kq95.1) (Keep.of_wr W107).1) E109.1) Kq112.1) sq206_1))) (ninS (Nat.ne_of_lt (Nat.lt_of_lt_of_le V3.lt (Nat.le_trans (Nat.le_trans (Nat.le_trans (Nat.le_trans (Nat.le_trans (Nat.le_trans (Nat.le_trans (Nat.le_trans (Nat.le_trans (Nat.le_trans (Nat.le_trans (Nat.le_trans (Nat.le_trans (Nat.le_trans (Nat.le_trans (Nat.le_trans (Nat.le_trans (Nat.le_trans (Nat.le_trans (Nat.le_trans (Nat.le_trans (Nat.le_trans (Nat.le_trans (Nat.le_trans (Nat.le_trans (Nat.le_trans (Nat.le_trans E5.1 (Keep.of_wr W8).1) E10.1) (Keep.of_wr W13).1) E15.1) (Keep.of_wr W18).1) E20.1) (Keep.of_wr W23).1) E25.1) E27.1) (Keep.of_wr W30).1) E32.1) (Keep.of_wr W35).1) E37.1) (Keep.of_wr W40).1) E42.1) (Keep.of_wr W45).1) E47.1) Kq50.1) (Keep.of_wr W62).1) Kq65.1) (Keep.of_wr W77).1) Kq80.1) (Keep.of_wr W92).1) Kq95.1) (Keep.of_wr W107).1) E109.1) sq112_0))) nin0)))
    obtain ⟨cl229, Ar229, Cq229, Sz229, Nn229, Hh229, Gg229⟩ := id f228
    have hin229 : ¬ (qq < 0 ∨ cl229.slots.size ≤ (qq).toNatClampNeg) := inb_of Sz229 (own_in4 d_qq)
    have hat229 : cl229.slots[(qq).toNatClampNeg]? = some (.ref (own_pick qq b5 b10 b15 b20)) := Hh229.at hin229 (own_pickat d_qq b5 b10 b15 b20)
    have f230 := (f224.keep Kq225 (ninS (Nat.ne_of_lt (Nat.lt_of_lt_of_le A109.lt (Nat.le_trans Kq112.1 sq206_1))) (ninS (Nat.ne_of_lt (Nat.lt_of_lt_of_le A109.lt (Nat.le_trans (Nat.le_refl _) sq112_0))) nin0)))
    have f231 := (f215_2.keep Kq225 (ninS (Ne.symm (Nat.ne_of_lt (Nat.lt_of_lt_of_le f206_6.lt (Nat.le_trans (Nat.le_refl _) sq215_0)))) (ninS (Ne.symm (Nat.ne_of_lt (Nat.lt_of_lt_of_le f112_0.lt (Nat.le_trans Kq206.1 sq215_0)))) nin0)))
    have f232 := (f215_3.keep Kq225 (ninS (Ne.symm (Nat.ne_of_lt (Nat.lt_of_lt_of_le f206_6.lt (Nat.le_trans (Nat.le_refl _) sq215_0)))) (ninS (Ne.symm (Nat.ne_of_lt (Nat.lt_of_lt_of_le f112_0.lt (Nat.le_trans Kq206.1 sq215_0)))) nin0)))
    have f233 := ((f206_2.keep Kq215 (ninS f206_9 (ninS (Ne.symm (Nat.ne_of_lt (Nat.lt_of_lt_of_le f112_0.lt (Nat.le_trans (Nat.le_refl _) sq206_0)))) nin0))).keep Kq225 (ninS f206_9 (ninS (Ne.symm (Nat.ne_of_lt (Nat.lt_of_lt_of_le f112_0.lt (Nat.le_trans (Nat.le_refl _) sq206_0)))) nin0)))
    have f234 := ((f206_3.keep Kq215 (ninS f206_9 (ninS (Ne.symm (Nat.ne_of_lt (Nat.lt_of_lt_of_le f112_0.lt (Nat.le_trans (Nat.le_refl _) sq206_0)))) nin0))).keep Kq225 (ninS f206_9 (ninS (Ne.symm (Nat.ne_of_lt (Nat.lt_of_lt_of_le f112_0.lt (Nat.le_trans (Nat.le_refl _) sq206_0)))) nin0)))
    obtain ⟨cl235, Ar235, Cq235, Sz235, Nn235, Hh235, Gg235⟩ := id f225_5
    have hin235 : ¬ ((2 : Int32) < 0 ∨ cl235.slots.size ≤ ((2 : Int32)).toNatClampNeg) := inb_of Sz235 ⟨by decide, by decide⟩
    have hat235 : cl235.slots[((2 : Int32)).toNatClampNeg]? = some (.ref b225_0) := Hh235.at hin235 rfl
    obtain ⟨cl236, Ar236, Cq236, Sz236, Nn236, Hh236, Gg236⟩ := id f225_5
    have hin236 : ¬ ((1 : Int32) < 0 ∨ cl236.slots.size ≤ ((1 : Int32)).toNatClampNeg) := inb_of Sz236 ⟨by decide, by decide⟩
    have hat236 : cl236.slots[((1 : Int32)).toNatClampNeg]? = some (.ref b215_0) := Hh236.at hin236 rfl
    have f237 := (f215_0.keep Kq225)
    obtain ⟨cl238, Ar238, Cq238, Sz238, Nn238, Hh238, Gg238⟩ := id f225_5
    have hin238 : ¬ ((0 : Int32) < 0 ∨ cl238.slots.size ≤ ((0 : Int32)).toNatClampNeg) := inb_of Sz238 ⟨by decide, by decide⟩
    have hat238 : cl238.slots[((0 : Int32)).toNatClampNeg]? = some (.ref b206_0) := Hh238.at hin238 rfl
    have f239 := ((f206_0.keep Kq215).keep Kq225)
    have f241 := (f226.keep Kq225)
    obtain ⟨cq240, kq240, q240a, q240b, q240c⟩ := isOf hZ rfl f241
    obtain ⟨_, _, ⟨T240, L240, k240, n240⟩, -, X240, ⟨Lc240, hQ240, l240, y240, z240⟩, st240⟩ := X225.virtualBack hx (y := own_y6) (z := own_y6) hown (mvT hZ (hw _ (List.mem_of_getElem? (i := 84) rfl))) (mvT hZ (hw _ (List.mem_of_getElem? (i := 85) rfl))) (notFace_of_selects (args := #[]) (mvT hZ (hw _ (List.mem_of_getElem? (i := 87) rfl)))) (mvT hZ (hw _ (List.mem_of_getElem? (i := 87) rfl))) (mvT hZ (hw _ (List.mem_of_getElem? (i := 86) rfl))) (by decide) (backOf (W := 0) (rm10c l Z a0 hw [] b109 (own_pick qq b5 b10 b15 b20) b112_0 b206_1 cl235 b225_0 (own_pick s2 b5 b10 b15 b20) v80 cl236 b215_0 (own_pick s1 b5 b10 b15 b20) v65 cl238 b206_0 (own_pick s0 b5 b10 b15 b20) v50 T225.heap n0 (Nat.le_trans Z0 K227.1) f230 f225_6 f225_4 f225_8 ⟨Ar235, hin235, hat235⟩ f225_0 f225_2 hr80 f225_3 ⟨Ar236, hin236, hat236⟩ f237 f231 hr65 f232 ⟨Ar238, hin238, hat238⟩ f239 f233 hr50 f234) hZ (hw _ (List.mem_of_getElem? (i := 88) rfl)) (hw _ (List.mem_of_getElem? (i := 53) rfl)) (by decide) (by decide)) q240a q240c (g := (mkF m 283 #[.val (.int i1), .val (.int i2), .val (.int i3), .val (.int (3 : Int32)), .val (.int qq), .val (.int s0), .val (.int s1), .val (.int s2), .val (.int s3), .val (.ref b3), .val (.ref b25), .val (.ref b47), .val (.ref b109), .unset, .unset] [(.ref (own_pick qq b5 b10 b15 b20)), (.ref b109)])) rfl (by rw [hml]; rfl) (Steps.refl _) (argsL := [(.ref (own_pick qq b5 b10 b15 b20))]) (rest := []) (lenOf pd_5 rfl) rfl (by show 2 * 0 + _ ≤ _; exact Nat.le_of_eq rfl) (hb hby at_283) (fun _ _ => ⟨rfl, rfl, (by decide : 33 + 0 ≤ _), (by decide : 107 + 0 ≤ _)⟩)
    dsimp only [Pt.U, Pt.locs, Pt.cells, Pt.slots] at X240 l240 y240 z240 st240 hQ240
    subst l240 y240 z240
    obtain ⟨rfl, Nq240, e240, f240_0⟩ := hQ240
    have N240 := Fr.app N225 Nq240
    have pre242 : ∀ t, Steps p.tables e below (T240.setTop (mkF m 299 #[.val (.int i1), .val (.int i2), .val (.int i3), .val (.int (3 : Int32)), .val (.int qq), .val (.int s0), .val (.int s1), .val (.int s2), .val (.int s3), .val (.ref b3), .val (.ref b25), .val (.ref b47), .val (.ref b109), .val (own_r10c (own_pick qq b5 b10 b15 b20) (own_pick s2 b5 b10 b15 b20) v80 (own_pick s1 b5 b10 b15 b20) v65 (own_pick s0 b5 b10 b15 b20) v50), .val .null] [(.int qq), (.int s0)])) t → Steps p.tables e below (s₁.setTop (entryFrame m #[(.int i1), (.int i2), (.int i3)] maxLocals)) t := by
      intro t k
      refine pre197 _ ?_
      show Steps p.tables e below (T112.setTop (mkF m 185 #[.val (.int i1), .val (.int i2), .val (.int i3), .val (.int (3 : Int32)), .val (.int qq), .val (.int s0), .val (.int s1), .val (.int s2), .val (.int s3), .val (.ref b3), .val (.ref b25), .val (.ref b47), .val (.ref b109), .unset, .unset] [])) _
      refine XS.iloadN X112.here hx rfl (hb hby at_185) rfl ?_
      refine XS.ifNo X112.here hx rfl (hb hby at_186) rfl ((if0 _ _).trans (tlt (by decide : (0 : Int32) < (3 : Int32))).2.2.2) ?_
      show Steps p.tables e below (T112.setTop (mkF m 189 #[.val (.int i1), .val (.int i2), .val (.int i3), .val (.int (3 : Int32)), .val (.int qq), .val (.int s0), .val (.int s1), .val (.int s2), .val (.int s3), .val (.ref b3), .val (.ref b25), .val (.ref b47), .val (.ref b109), .unset, .unset] [])) _
      refine XS.aload X112.here hx rfl (hb hby at_189) rfl rfl ?_
      refine XS.aload X112.here hx rfl (hb hby at_191) rfl rfl ?_
      show Steps p.tables e below (T112.setTop (mkF m 193 #[.val (.int i1), .val (.int i2), .val (.int i3), .val (.int (3 : Int32)), .val (.int qq), .val (.int s0), .val (.int s1), .val (.int s2), .val (.int s3), .val (.ref b3), .val (.ref b25), .val (.ref b47), .val (.ref b109), .unset, .unset] [(.ref b25), (.ref b109)])) _
      refine XS.iconst X112.here hx rfl (hb hby at_193) ?_
      show Steps p.tables e below (T112.setTop (mkF m 194 #[.val (.int i1), .val (.int i2), .val (.int i3), .val (.int (3 : Int32)), .val (.int qq), .val (.int s0), .val (.int s1), .val (.int s2), .val (.int s3), .val (.ref b3), .val (.ref b25), .val (.ref b47), .val (.ref b109), .unset, .unset] [(.int (0 : Int32)), (.ref b25), (.ref b109)])) _
      refine X112.aaload hx (j := (0 : Int32)) (v := (.ref b27)) (by exact Ar199.1) (State.isArrayOf_alike hZ.alike Ar199.2.1) rfl Ar199.2.2 hin199 hat199 (g := (mkF m 194 #[.val (.int i1), .val (.int i2), .val (.int i3), .val (.int (3 : Int32)), .val (.int qq), .val (.int s0), .val (.int s1), .val (.int s2), .val (.int s3), .val (.ref b3), .val (.ref b25), .val (.ref b47), .val (.ref b109), .unset, .unset] [(.int (0 : Int32)), (.ref b25), (.ref b109)])) rfl rfl (hb hby at_194) _ ?_
      show Steps p.tables e below (T112.setTop (mkF m 195 #[.val (.int i1), .val (.int i2), .val (.int i3), .val (.int (3 : Int32)), .val (.int qq), .val (.int s0), .val (.int s1), .val (.int s2), .val (.int s3), .val (.ref b3), .val (.ref b25), .val (.ref b47), .val (.ref b109), .unset, .unset] [(.ref b27), (.ref b109)])) _
      refine XS.aload X112.here hx rfl (hb hby at_195) rfl rfl ?_
      refine XS.iload X112.here hx rfl (hb hby at_197) rfl ?_
      show Steps p.tables e below (T112.setTop (mkF m 199 #[.val (.int i1), .val (.int i2), .val (.int i3), .val (.int (3 : Int32)), .val (.int qq), .val (.int s0), .val (.int s1), .val (.int s2), .val (.int s3), .val (.ref b3), .val (.ref b25), .val (.ref b47), .val (.ref b109), .unset, .unset] [(.int s0), (.ref b3), (.ref b27), (.ref b109)])) _
      refine X112.aaload hx (j := s0) (v := (.ref (own_pick s0 b5 b10 b15 b20))) (by exact Ar201.1) (State.isArrayOf_alike hZ.alike Ar201.2.1) rfl Ar201.2.2 hin201 hat201 (g := (mkF m 199 #[.val (.int i1), .val (.int i2), .val (.int i3), .val (.int (3 : Int32)), .val (.int qq), .val (.int s0), .val (.int s1), .val (.int s2), .val (.int s3), .val (.ref b3), .val (.ref b25), .val (.ref b47), .val (.ref b109), .unset, .unset] [(.int s0), (.ref b3), (.ref b27), (.ref b109)])) rfl rfl (hb hby at_199) _ ?_
      show Steps p.tables e below (T112.setTop (mkF m 200 #[.val (.int i1), .val (.int i2), .val (.int i3), .val (.int (3 : Int32)), .val (.int qq), .val (.int s0), .val (.int s1), .val (.int s2), .val (.int s3), .val (.ref b3), .val (.ref b25), .val (.ref b47), .val (.ref b109), .unset, .unset] [(.ref (own_pick s0 b5 b10 b15 b20)), (.ref b27), (.ref b109)])) _
      refine XS.aload X112.here hx rfl (hb hby at_200) rfl rfl ?_
      refine XS.iconst X112.here hx rfl (hb hby at_202) ?_
      show Steps p.tables e below (T112.setTop (mkF m 203 #[.val (.int i1), .val (.int i2), .val (.int i3), .val (.int (3 : Int32)), .val (.int qq), .val (.int s0), .val (.int s1), .val (.int s2), .val (.int s3), .val (.ref b3), .val (.ref b25), .val (.ref b47), .val (.ref b109), .unset, .unset] [(.int (0 : Int32)), (.ref b47), (.ref (own_pick s0 b5 b10 b15 b20)), (.ref b27), (.ref b109)])) _
      refine X112.aaload hx (j := (0 : Int32)) (v := v50) (by exact Ar203.1) (State.isArrayOf_alike hZ.alike Ar203.2.1) rfl Ar203.2.2 hin203 hat203 (g := (mkF m 203 #[.val (.int i1), .val (.int i2), .val (.int i3), .val (.int (3 : Int32)), .val (.int qq), .val (.int s0), .val (.int s1), .val (.int s2), .val (.int s3), .val (.ref b3), .val (.ref b25), .val (.ref b47), .val (.ref b109), .unset, .unset] [(.int (0 : Int32)), (.ref b47), (.ref (own_pick s0 b5 b10 b15 b20)), (.ref b27), (.ref b109)])) rfl rfl (hb hby at_203) _ ?_
      show Steps p.tables e below (T112.setTop (mkF m 204 #[.val (.int i1), .val (.int i2), .val (.int i3), .val (.int (3 : Int32)), .val (.int qq), .val (.int s0), .val (.int s1), .val (.int s2), .val (.int s3), .val (.ref b3), .val (.ref b25), .val (.ref b47), .val (.ref b109), .unset, .unset] [v50, (.ref (own_pick s0 b5 b10 b15 b20)), (.ref b27), (.ref b109)])) _
      refine st206.trans ?_
      show Steps p.tables e below (T206.setTop (mkF m 207 #[.val (.int i1), .val (.int i2), .val (.int i3), .val (.int (3 : Int32)), .val (.int qq), .val (.int s0), .val (.int s1), .val (.int s2), .val (.int s3), .val (.ref b3), .val (.ref b25), .val (.ref b47), .val (.ref b109), .unset, .unset] [])) _
      refine XS.iloadN X206.here hx rfl (hb hby at_207) rfl ?_
      refine XS.iconst X206.here hx rfl (hb hby at_208) ?_
      show Steps p.tables e below (T206.setTop (mkF m 209 #[.val (.int i1), .val (.int i2), .val (.int i3), .val (.int (3 : Int32)), .val (.int qq), .val (.int s0), .val (.int s1), .val (.int s2), .val (.int s3), .val (.ref b3), .val (.ref b25), .val (.ref b47), .val (.ref b109), .unset, .unset] [(.int (1 : Int32)), (.int (3 : Int32))])) _
      refine XS.icmpNo X206.here hx rfl (hb hby at_209) rfl (tlt (by decide : (1 : Int32) < (3 : Int32))).2.2.2 ?_
      refine XS.aload X206.here hx rfl (hb hby at_212) rfl rfl ?_
      show Steps p.tables e below (T206.setTop (mkF m 214 #[.val (.int i1), .val (.int i2), .val (.int i3), .val (.int (3 : Int32)), .val (.int qq), .val (.int s0), .val (.int s1), .val (.int s2), .val (.int s3), .val (.ref b3), .val (.ref b25), .val (.ref b47), .val (.ref b109), .unset, .unset] [(.ref b109)])) _
      refine XS.aload X206.here hx rfl (hb hby at_214) rfl rfl ?_
      refine XS.iconst X206.here hx rfl (hb hby at_216) ?_
      show Steps p.tables e below (T206.setTop (mkF m 217 #[.val (.int i1), .val (.int i2), .val (.int i3), .val (.int (3 : Int32)), .val (.int qq), .val (.int s0), .val (.int s1), .val (.int s2), .val (.int s3), .val (.ref b3), .val (.ref b25), .val (.ref b47), .val (.ref b109), .unset, .unset] [(.int (1 : Int32)), (.ref b25), (.ref b109)])) _
      refine X206.aaload hx (j := (1 : Int32)) (v := (.ref b32)) (by exact Ar209.1) (State.isArrayOf_alike hZ.alike Ar209.2.1) rfl Ar209.2.2 hin209 hat209 (g := (mkF m 217 #[.val (.int i1), .val (.int i2), .val (.int i3), .val (.int (3 : Int32)), .val (.int qq), .val (.int s0), .val (.int s1), .val (.int s2), .val (.int s3), .val (.ref b3), .val (.ref b25), .val (.ref b47), .val (.ref b109), .unset, .unset] [(.int (1 : Int32)), (.ref b25), (.ref b109)])) rfl rfl (hb hby at_217) _ ?_
      show Steps p.tables e below (T206.setTop (mkF m 218 #[.val (.int i1), .val (.int i2), .val (.int i3), .val (.int (3 : Int32)), .val (.int qq), .val (.int s0), .val (.int s1), .val (.int s2), .val (.int s3), .val (.ref b3), .val (.ref b25), .val (.ref b47), .val (.ref b109), .unset, .unset] [(.ref b32), (.ref b109)])) _
      refine XS.aload X206.here hx rfl (hb hby at_218) rfl rfl ?_
      refine XS.iload X206.here hx rfl (hb hby at_220) rfl ?_
      show Steps p.tables e below (T206.setTop (mkF m 222 #[.val (.int i1), .val (.int i2), .val (.int i3), .val (.int (3 : Int32)), .val (.int qq), .val (.int s0), .val (.int s1), .val (.int s2), .val (.int s3), .val (.ref b3), .val (.ref b25), .val (.ref b47), .val (.ref b109), .unset, .unset] [(.int s1), (.ref b3), (.ref b32), (.ref b109)])) _
      refine X206.aaload hx (j := s1) (v := (.ref (own_pick s1 b5 b10 b15 b20))) (by exact Ar211.1) (State.isArrayOf_alike hZ.alike Ar211.2.1) rfl Ar211.2.2 hin211 hat211 (g := (mkF m 222 #[.val (.int i1), .val (.int i2), .val (.int i3), .val (.int (3 : Int32)), .val (.int qq), .val (.int s0), .val (.int s1), .val (.int s2), .val (.int s3), .val (.ref b3), .val (.ref b25), .val (.ref b47), .val (.ref b109), .unset, .unset] [(.int s1), (.ref b3), (.ref b32), (.ref b109)])) rfl rfl (hb hby at_222) _ ?_
      show Steps p.tables e below (T206.setTop (mkF m 223 #[.val (.int i1), .val (.int i2), .val (.int i3), .val (.int (3 : Int32)), .val (.int qq), .val (.int s0), .val (.int s1), .val (.int s2), .val (.int s3), .val (.ref b3), .val (.ref b25), .val (.ref b47), .val (.ref b109), .unset, .unset] [(.ref (own_pick s1 b5 b10 b15 b20)), (.ref b32), (.ref b109)])) _
      refine XS.aload X206.here hx rfl (hb hby at_223) rfl rfl ?_
      refine XS.iconst X206.here hx rfl (hb hby at_225) ?_
      show Steps p.tables e below (T206.setTop (mkF m 226 #[.val (.int i1), .val (.int i2), .val (.int i3), .val (.int (3 : Int32)), .val (.int qq), .val (.int s0), .val (.int s1), .val (.int s2), .val (.int s3), .val (.ref b3), .val (.ref b25), .val (.ref b47), .val (.ref b109), .unset, .unset] [(.int (1 : Int32)), (.ref b47), (.ref (own_pick s1 b5 b10 b15 b20)), (.ref b32), (.ref b109)])) _
      refine X206.aaload hx (j := (1 : Int32)) (v := v65) (by exact Ar213.1) (State.isArrayOf_alike hZ.alike Ar213.2.1) rfl Ar213.2.2 hin213 hat213 (g := (mkF m 226 #[.val (.int i1), .val (.int i2), .val (.int i3), .val (.int (3 : Int32)), .val (.int qq), .val (.int s0), .val (.int s1), .val (.int s2), .val (.int s3), .val (.ref b3), .val (.ref b25), .val (.ref b47), .val (.ref b109), .unset, .unset] [(.int (1 : Int32)), (.ref b47), (.ref (own_pick s1 b5 b10 b15 b20)), (.ref b32), (.ref b109)])) rfl rfl (hb hby at_226) _ ?_
      show Steps p.tables e below (T206.setTop (mkF m 227 #[.val (.int i1), .val (.int i2), .val (.int i3), .val (.int (3 : Int32)), .val (.int qq), .val (.int s0), .val (.int s1), .val (.int s2), .val (.int s3), .val (.ref b3), .val (.ref b25), .val (.ref b47), .val (.ref b109), .unset, .unset] [v65, (.ref (own_pick s1 b5 b10 b15 b20)), (.ref b32), (.ref b109)])) _
      refine st215.trans ?_
      show Steps p.tables e below (T215.setTop (mkF m 230 #[.val (.int i1), .val (.int i2), .val (.int i3), .val (.int (3 : Int32)), .val (.int qq), .val (.int s0), .val (.int s1), .val (.int s2), .val (.int s3), .val (.ref b3), .val (.ref b25), .val (.ref b47), .val (.ref b109), .unset, .unset] [])) _
      refine XS.iloadN X215.here hx rfl (hb hby at_230) rfl ?_
      refine XS.iconst X215.here hx rfl (hb hby at_231) ?_
      show Steps p.tables e below (T215.setTop (mkF m 232 #[.val (.int i1), .val (.int i2), .val (.int i3), .val (.int (3 : Int32)), .val (.int qq), .val (.int s0), .val (.int s1), .val (.int s2), .val (.int s3), .val (.ref b3), .val (.ref b25), .val (.ref b47), .val (.ref b109), .unset, .unset] [(.int (2 : Int32)), (.int (3 : Int32))])) _
      refine XS.icmpNo X215.here hx rfl (hb hby at_232) rfl (tlt (by decide : (2 : Int32) < (3 : Int32))).2.2.2 ?_
      refine XS.aload X215.here hx rfl (hb hby at_235) rfl rfl ?_
      show Steps p.tables e below (T215.setTop (mkF m 237 #[.val (.int i1), .val (.int i2), .val (.int i3), .val (.int (3 : Int32)), .val (.int qq), .val (.int s0), .val (.int s1), .val (.int s2), .val (.int s3), .val (.ref b3), .val (.ref b25), .val (.ref b47), .val (.ref b109), .unset, .unset] [(.ref b109)])) _
      refine XS.aload X215.here hx rfl (hb hby at_237) rfl rfl ?_
      refine XS.iconst X215.here hx rfl (hb hby at_239) ?_
      show Steps p.tables e below (T215.setTop (mkF m 240 #[.val (.int i1), .val (.int i2), .val (.int i3), .val (.int (3 : Int32)), .val (.int qq), .val (.int s0), .val (.int s1), .val (.int s2), .val (.int s3), .val (.ref b3), .val (.ref b25), .val (.ref b47), .val (.ref b109), .unset, .unset] [(.int (2 : Int32)), (.ref b25), (.ref b109)])) _
      refine X215.aaload hx (j := (2 : Int32)) (v := (.ref b37)) (by exact Ar219.1) (State.isArrayOf_alike hZ.alike Ar219.2.1) rfl Ar219.2.2 hin219 hat219 (g := (mkF m 240 #[.val (.int i1), .val (.int i2), .val (.int i3), .val (.int (3 : Int32)), .val (.int qq), .val (.int s0), .val (.int s1), .val (.int s2), .val (.int s3), .val (.ref b3), .val (.ref b25), .val (.ref b47), .val (.ref b109), .unset, .unset] [(.int (2 : Int32)), (.ref b25), (.ref b109)])) rfl rfl (hb hby at_240) _ ?_
      show Steps p.tables e below (T215.setTop (mkF m 241 #[.val (.int i1), .val (.int i2), .val (.int i3), .val (.int (3 : Int32)), .val (.int qq), .val (.int s0), .val (.int s1), .val (.int s2), .val (.int s3), .val (.ref b3), .val (.ref b25), .val (.ref b47), .val (.ref b109), .unset, .unset] [(.ref b37), (.ref b109)])) _
      refine XS.aload X215.here hx rfl (hb hby at_241) rfl rfl ?_
      refine XS.iload X215.here hx rfl (hb hby at_243) rfl ?_
      show Steps p.tables e below (T215.setTop (mkF m 245 #[.val (.int i1), .val (.int i2), .val (.int i3), .val (.int (3 : Int32)), .val (.int qq), .val (.int s0), .val (.int s1), .val (.int s2), .val (.int s3), .val (.ref b3), .val (.ref b25), .val (.ref b47), .val (.ref b109), .unset, .unset] [(.int s2), (.ref b3), (.ref b37), (.ref b109)])) _
      refine X215.aaload hx (j := s2) (v := (.ref (own_pick s2 b5 b10 b15 b20))) (by exact Ar221.1) (State.isArrayOf_alike hZ.alike Ar221.2.1) rfl Ar221.2.2 hin221 hat221 (g := (mkF m 245 #[.val (.int i1), .val (.int i2), .val (.int i3), .val (.int (3 : Int32)), .val (.int qq), .val (.int s0), .val (.int s1), .val (.int s2), .val (.int s3), .val (.ref b3), .val (.ref b25), .val (.ref b47), .val (.ref b109), .unset, .unset] [(.int s2), (.ref b3), (.ref b37), (.ref b109)])) rfl rfl (hb hby at_245) _ ?_
      show Steps p.tables e below (T215.setTop (mkF m 246 #[.val (.int i1), .val (.int i2), .val (.int i3), .val (.int (3 : Int32)), .val (.int qq), .val (.int s0), .val (.int s1), .val (.int s2), .val (.int s3), .val (.ref b3), .val (.ref b25), .val (.ref b47), .val (.ref b109), .unset, .unset] [(.ref (own_pick s2 b5 b10 b15 b20)), (.ref b37), (.ref b109)])) _
      refine XS.aload X215.here hx rfl (hb hby at_246) rfl rfl ?_
      refine XS.iconst X215.here hx rfl (hb hby at_248) ?_
      show Steps p.tables e below (T215.setTop (mkF m 249 #[.val (.int i1), .val (.int i2), .val (.int i3), .val (.int (3 : Int32)), .val (.int qq), .val (.int s0), .val (.int s1), .val (.int s2), .val (.int s3), .val (.ref b3), .val (.ref b25), .val (.ref b47), .val (.ref b109), .unset, .unset] [(.int (2 : Int32)), (.ref b47), (.ref (own_pick s2 b5 b10 b15 b20)), (.ref b37), (.ref b109)])) _
      refine X215.aaload hx (j := (2 : Int32)) (v := v80) (by exact Ar223.1) (State.isArrayOf_alike hZ.alike Ar223.2.1) rfl Ar223.2.2 hin223 hat223 (g := (mkF m 249 #[.val (.int i1), .val (.int i2), .val (.int i3), .val (.int (3 : Int32)), .val (.int qq), .val (.int s0), .val (.int s1), .val (.int s2), .val (.int s3), .val (.ref b3), .val (.ref b25), .val (.ref b47), .val (.ref b109), .unset, .unset] [(.int (2 : Int32)), (.ref b47), (.ref (own_pick s2 b5 b10 b15 b20)), (.ref b37), (.ref b109)])) rfl rfl (hb hby at_249) _ ?_
      show Steps p.tables e below (T215.setTop (mkF m 250 #[.val (.int i1), .val (.int i2), .val (.int i3), .val (.int (3 : Int32)), .val (.int qq), .val (.int s0), .val (.int s1), .val (.int s2), .val (.int s3), .val (.ref b3), .val (.ref b25), .val (.ref b47), .val (.ref b109), .unset, .unset] [v80, (.ref (own_pick s2 b5 b10 b15 b20)), (.ref b37), (.ref b109)])) _
      refine st225.trans ?_
      show Steps p.tables e below (T225.setTop (mkF m 253 #[.val (.int i1), .val (.int i2), .val (.int i3), .val (.int (3 : Int32)), .val (.int qq), .val (.int s0), .val (.int s1), .val (.int s2), .val (.int s3), .val (.ref b3), .val (.ref b25), .val (.ref b47), .val (.ref b109), .unset, .unset] [])) _
      refine XS.iloadN X225.here hx rfl (hb hby at_253) rfl ?_
      refine XS.iconst X225.here hx rfl (hb hby at_254) ?_
      show Steps p.tables e below (T225.setTop (mkF m 255 #[.val (.int i1), .val (.int i2), .val (.int i3), .val (.int (3 : Int32)), .val (.int qq), .val (.int s0), .val (.int s1), .val (.int s2), .val (.int s3), .val (.ref b3), .val (.ref b25), .val (.ref b47), .val (.ref b109), .unset, .unset] [(.int (3 : Int32)), (.int (3 : Int32))])) _
      refine XS.icmpYes X225.here hx rfl (pc0 := 255) (pc' := 276) rfl (hb hby at_255) rfl (flt (by decide : ¬ ((3 : Int32) < (3 : Int32)))).2.2.2 (by decide) (by decide) ?_
      refine XS.aload X225.here hx rfl (hb hby at_276) rfl rfl ?_
      show Steps p.tables e below (T225.setTop (mkF m 278 #[.val (.int i1), .val (.int i2), .val (.int i3), .val (.int (3 : Int32)), .val (.int qq), .val (.int s0), .val (.int s1), .val (.int s2), .val (.int s3), .val (.ref b3), .val (.ref b25), .val (.ref b47), .val (.ref b109), .unset, .unset] [(.ref b109)])) _
      refine XS.aload X225.here hx rfl (hb hby at_278) rfl rfl ?_
      refine XS.iload X225.here hx rfl (hb hby at_280) rfl ?_
      show Steps p.tables e below (T225.setTop (mkF m 282 #[.val (.int i1), .val (.int i2), .val (.int i3), .val (.int (3 : Int32)), .val (.int qq), .val (.int s0), .val (.int s1), .val (.int s2), .val (.int s3), .val (.ref b3), .val (.ref b25), .val (.ref b47), .val (.ref b109), .unset, .unset] [(.int qq), (.ref b3), (.ref b109)])) _
      refine X225.aaload hx (j := qq) (v := (.ref (own_pick qq b5 b10 b15 b20))) (by exact Ar229.1) (State.isArrayOf_alike hZ.alike Ar229.2.1) rfl Ar229.2.2 hin229 hat229 (g := (mkF m 282 #[.val (.int i1), .val (.int i2), .val (.int i3), .val (.int (3 : Int32)), .val (.int qq), .val (.int s0), .val (.int s1), .val (.int s2), .val (.int s3), .val (.ref b3), .val (.ref b25), .val (.ref b47), .val (.ref b109), .unset, .unset] [(.int qq), (.ref b3), (.ref b109)])) rfl rfl (hb hby at_282) _ ?_
      show Steps p.tables e below (T225.setTop (mkF m 283 #[.val (.int i1), .val (.int i2), .val (.int i3), .val (.int (3 : Int32)), .val (.int qq), .val (.int s0), .val (.int s1), .val (.int s2), .val (.int s3), .val (.ref b3), .val (.ref b25), .val (.ref b47), .val (.ref b109), .unset, .unset] [(.ref (own_pick qq b5 b10 b15 b20)), (.ref b109)])) _
      refine st240.trans ?_
      show Steps p.tables e below (T240.setTop (mkF m 286 #[.val (.int i1), .val (.int i2), .val (.int i3), .val (.int (3 : Int32)), .val (.int qq), .val (.int s0), .val (.int s1), .val (.int s2), .val (.int s3), .val (.ref b3), .val (.ref b25), .val (.ref b47), .val (.ref b109), .unset, .unset] [(own_r10c (own_pick qq b5 b10 b15 b20) (own_pick s2 b5 b10 b15 b20) v80 (own_pick s1 b5 b10 b15 b20) v65 (own_pick s0 b5 b10 b15 b20) v50)])) _
      refine XS.astore X240.here hx rfl (hb hby at_286) rfl f240_0 (l' := #[.val (.int i1), .val (.int i2), .val (.int i3), .val (.int (3 : Int32)), .val (.int qq), .val (.int s0), .val (.int s1), .val (.int s2), .val (.int s3), .val (.ref b3), .val (.ref b25), .val (.ref b47), .val (.ref b109), .val (own_r10c (own_pick qq b5 b10 b15 b20) (own_pick s2 b5 b10 b15 b20) v80 (own_pick s1 b5 b10 b15 b20) v65 (own_pick s0 b5 b10 b15 b20) v50), .unset]) (show storeLocals #[.val (.int i1), .val (.int i2), .val (.int i3), .val (.int (3 : Int32)), .val (.int qq), .val (.int s0), .val (.int s1), .val (.int s2), .val (.int s3), .val (.ref b3), .val (.ref b25), .val (.ref b47), .val (.ref b109), .unset, .unset] 13 (own_r10c (own_pick qq b5 b10 b15 b20) (own_pick s2 b5 b10 b15 b20) v80 (own_pick s1 b5 b10 b15 b20) v65 (own_pick s0 b5 b10 b15 b20) v50) = some #[.val (.int i1), .val (.int i2), .val (.int i3), .val (.int (3 : Int32)), .val (.int qq), .val (.int s0), .val (.int s1), .val (.int s2), .val (.int s3), .val (.ref b3), .val (.ref b25), .val (.ref b47), .val (.ref b109), .val (own_r10c (own_pick qq b5 b10 b15 b20) (own_pick s2 b5 b10 b15 b20) v80 (own_pick s1 b5 b10 b15 b20) v65 (own_pick s0 b5 b10 b15 b20) v50), .unset] from XS.store1 (o := .unset) rfl (Or.inl rfl) (Jvm.Free.XT.cat1 f240_0)) ?_
      refine XS.aconstNull X240.here hx rfl (hb hby at_288) ?_
      show Steps p.tables e below (T240.setTop (mkF m 289 #[.val (.int i1), .val (.int i2), .val (.int i3), .val (.int (3 : Int32)), .val (.int qq), .val (.int s0), .val (.int s1), .val (.int s2), .val (.int s3), .val (.ref b3), .val (.ref b25), .val (.ref b47), .val (.ref b109), .val (own_r10c (own_pick qq b5 b10 b15 b20) (own_pick s2 b5 b10 b15 b20) v80 (own_pick s1 b5 b10 b15 b20) v65 (own_pick s0 b5 b10 b15 b20) v50), .unset] [.null])) _
      refine XS.astore X240.here hx rfl (hb hby at_289) rfl rfl (l' := #[.val (.int i1), .val (.int i2), .val (.int i3), .val (.int (3 : Int32)), .val (.int qq), .val (.int s0), .val (.int s1), .val (.int s2), .val (.int s3), .val (.ref b3), .val (.ref b25), .val (.ref b47), .val (.ref b109), .val (own_r10c (own_pick qq b5 b10 b15 b20) (own_pick s2 b5 b10 b15 b20) v80 (own_pick s1 b5 b10 b15 b20) v65 (own_pick s0 b5 b10 b15 b20) v50), .val .null]) rfl ?_
      refine XS.iloadN X240.here hx rfl (hb hby at_291) rfl ?_
      show Steps p.tables e below (T240.setTop (mkF m 292 #[.val (.int i1), .val (.int i2), .val (.int i3), .val (.int (3 : Int32)), .val (.int qq), .val (.int s0), .val (.int s1), .val (.int s2), .val (.int s3), .val (.ref b3), .val (.ref b25), .val (.ref b47), .val (.ref b109), .val (own_r10c (own_pick qq b5 b10 b15 b20) (own_pick s2 b5 b10 b15 b20) v80 (own_pick s1 b5 b10 b15 b20) v65 (own_pick s0 b5 b10 b15 b20) v50), .val .null] [(.int (3 : Int32))])) _
      refine XS.ifNo X240.here hx rfl (hb hby at_292) rfl ((if0 _ _).trans (tlt (by decide : (0 : Int32) < (3 : Int32))).2.2.2) ?_
      refine XS.iload X240.here hx rfl (hb hby at_295) rfl ?_
      show Steps p.tables e below (T240.setTop (mkF m 297 #[.val (.int i1), .val (.int i2), .val (.int i3), .val (.int (3 : Int32)), .val (.int qq), .val (.int s0), .val (.int s1), .val (.int s2), .val (.int s3), .val (.ref b3), .val (.ref b25), .val (.ref b47), .val (.ref b109), .val (own_r10c (own_pick qq b5 b10 b15 b20) (own_pick s2 b5 b10 b15 b20) v80 (own_pick s1 b5 b10 b15 b20) v65 (own_pick s0 b5 b10 b15 b20) v50), .val .null] [(.int s0)])) _
      refine XS.iload X240.here hx rfl (hb hby at_297) rfl ?_
      exact k
    have pre248 : ∀ t, Steps p.tables e below (T240.setTop (mkF m 308 #[.val (.int i1), .val (.int i2), .val (.int i3), .val (.int (3 : Int32)), .val (.int qq), .val (.int s0), .val (.int s1), .val (.int s2), .val (.int s3), .val (.ref b3), .val (.ref b25), .val (.ref b47), .val (.ref b109), .val (own_r10c (own_pick qq b5 b10 b15 b20) (own_pick s2 b5 b10 b15 b20) v80 (own_pick s1 b5 b10 b15 b20) v65 (own_pick s0 b5 b10 b15 b20) v50), .val (own_j0_299_0 qq s0 v50)] [])) t → Steps p.tables e below (s₁.setTop (entryFrame m #[(.int i1), (.int i2), (.int i3)] maxLocals)) t := by
      by_cases hc299_243 : s0 = qq
      · have f244 := (f222.keep Kq225 (ninS (Nat.ne_of_lt (Nat.lt_of_lt_of_le V47.lt (Nat.le_trans (Nat.le_trans (Nat.le_trans (Nat.le_trans (Nat.le_trans (Nat.le_trans (Nat.le_trans (Nat.le_trans (Nat.le_trans (Nat.le_trans Kq50.1 (Keep.of_wr W62).1) Kq65.1) (Keep.of_wr W77).1) Kq80.1) (Keep.of_wr W92).1) Kq95.1) (Keep.of_wr W107).1) E109.1) Kq112.1) sq206_1))) (ninS (Nat.ne_of_lt (Nat.lt_of_lt_of_le V47.lt (Nat.le_trans (Nat.le_trans (Nat.le_trans (Nat.le_trans (Nat.le_trans (Nat.le_trans (Nat.le_trans (Nat.le_trans (Nat.le_trans Kq50.1 (Keep.of_wr W62).1) Kq65.1) (Keep.of_wr W77).1) Kq80.1) (Keep.of_wr W92).1) Kq95.1) (Keep.of_wr W107).1) E109.1) sq112_0))) nin0)))
        obtain ⟨cl245, Ar245, Cq245, Sz245, Nn245, Hh245, Gg245⟩ := id f244
        have hin245 : ¬ ((0 : Int32) < 0 ∨ cl245.slots.size ≤ ((0 : Int32)).toNatClampNeg) := inb_of Sz245 ⟨by decide, by decide⟩
        have hat245 : cl245.slots[((0 : Int32)).toNatClampNeg]? = some v50 := Hh245.at hin245 rfl
        have pre246 : ∀ t, Steps p.tables e below (T240.setTop (mkF m 308 #[.val (.int i1), .val (.int i2), .val (.int i3), .val (.int (3 : Int32)), .val (.int qq), .val (.int s0), .val (.int s1), .val (.int s2), .val (.int s3), .val (.ref b3), .val (.ref b25), .val (.ref b47), .val (.ref b109), .val (own_r10c (own_pick qq b5 b10 b15 b20) (own_pick s2 b5 b10 b15 b20) v80 (own_pick s1 b5 b10 b15 b20) v65 (own_pick s0 b5 b10 b15 b20) v50), .val v50] [])) t → Steps p.tables e below (s₁.setTop (entryFrame m #[(.int i1), (.int i2), (.int i3)] maxLocals)) t := by
          intro t k
          refine pre242 _ ?_
          show Steps p.tables e below (T240.setTop (mkF m 299 #[.val (.int i1), .val (.int i2), .val (.int i3), .val (.int (3 : Int32)), .val (.int qq), .val (.int s0), .val (.int s1), .val (.int s2), .val (.int s3), .val (.ref b3), .val (.ref b25), .val (.ref b47), .val (.ref b109), .val (own_r10c (own_pick qq b5 b10 b15 b20) (own_pick s2 b5 b10 b15 b20) v80 (own_pick s1 b5 b10 b15 b20) v65 (own_pick s0 b5 b10 b15 b20) v50), .val .null] [(.int qq), (.int s0)])) _
          refine XS.icmpNo X240.here hx rfl (hb hby at_299) rfl (teq hc299_243).2 ?_
          refine XS.aload X240.here hx rfl (hb hby at_302) rfl rfl ?_
          show Steps p.tables e below (T240.setTop (mkF m 304 #[.val (.int i1), .val (.int i2), .val (.int i3), .val (.int (3 : Int32)), .val (.int qq), .val (.int s0), .val (.int s1), .val (.int s2), .val (.int s3), .val (.ref b3), .val (.ref b25), .val (.ref b47), .val (.ref b109), .val (own_r10c (own_pick qq b5 b10 b15 b20) (own_pick s2 b5 b10 b15 b20) v80 (own_pick s1 b5 b10 b15 b20) v65 (own_pick s0 b5 b10 b15 b20) v50), .val .null] [(.ref b47)])) _
          refine XS.iconst X240.here hx rfl (hb hby at_304) ?_
          show Steps p.tables e below (T240.setTop (mkF m 305 #[.val (.int i1), .val (.int i2), .val (.int i3), .val (.int (3 : Int32)), .val (.int qq), .val (.int s0), .val (.int s1), .val (.int s2), .val (.int s3), .val (.ref b3), .val (.ref b25), .val (.ref b47), .val (.ref b109), .val (own_r10c (own_pick qq b5 b10 b15 b20) (own_pick s2 b5 b10 b15 b20) v80 (own_pick s1 b5 b10 b15 b20) v65 (own_pick s0 b5 b10 b15 b20) v50), .val .null] [(.int (0 : Int32)), (.ref b47)])) _
          refine X240.aaload hx (j := (0 : Int32)) (v := v50) (by rw [e240]; exact Ar245.1) (State.isArrayOf_alike hZ.alike Ar245.2.1) rfl Ar245.2.2 hin245 hat245 (g := (mkF m 305 #[.val (.int i1), .val (.int i2), .val (.int i3), .val (.int (3 : Int32)), .val (.int qq), .val (.int s0), .val (.int s1), .val (.int s2), .val (.int s3), .val (.ref b3), .val (.ref b25), .val (.ref b47), .val (.ref b109), .val (own_r10c (own_pick qq b5 b10 b15 b20) (own_pick s2 b5 b10 b15 b20) v80 (own_pick s1 b5 b10 b15 b20) v65 (own_pick s0 b5 b10 b15 b20) v50), .val .null] [(.int (0 : Int32)), (.ref b47)])) rfl rfl (hb hby at_305) _ ?_
          show Steps p.tables e below (T240.setTop (mkF m 306 #[.val (.int i1), .val (.int i2), .val (.int i3), .val (.int (3 : Int32)), .val (.int qq), .val (.int s0), .val (.int s1), .val (.int s2), .val (.int s3), .val (.ref b3), .val (.ref b25), .val (.ref b47), .val (.ref b109), .val (own_r10c (own_pick qq b5 b10 b15 b20) (own_pick s2 b5 b10 b15 b20) v80 (own_pick s1 b5 b10 b15 b20) v65 (own_pick s0 b5 b10 b15 b20) v50), .val .null] [v50])) _
          refine XS.astore X240.here hx rfl (hb hby at_306) rfl hr50 (l' := #[.val (.int i1), .val (.int i2), .val (.int i3), .val (.int (3 : Int32)), .val (.int qq), .val (.int s0), .val (.int s1), .val (.int s2), .val (.int s3), .val (.ref b3), .val (.ref b25), .val (.ref b47), .val (.ref b109), .val (own_r10c (own_pick qq b5 b10 b15 b20) (own_pick s2 b5 b10 b15 b20) v80 (own_pick s1 b5 b10 b15 b20) v65 (own_pick s0 b5 b10 b15 b20) v50), .val v50]) (show storeLocals #[.val (.int i1), .val (.int i2), .val (.int i3), .val (.int (3 : Int32)), .val (.int qq), .val (.int s0), .val (.int s1), .val (.int s2), .val (.int s3), .val (.ref b3), .val (.ref b25), .val (.ref b47), .val (.ref b109), .val (own_r10c (own_pick qq b5 b10 b15 b20) (own_pick s2 b5 b10 b15 b20) v80 (own_pick s1 b5 b10 b15 b20) v65 (own_pick s0 b5 b10 b15 b20) v50), .val .null] 14 v50 = some #[.val (.int i1), .val (.int i2), .val (.int i3), .val (.int (3 : Int32)), .val (.int qq), .val (.int s0), .val (.int s1), .val (.int s2), .val (.int s3), .val (.ref b3), .val (.ref b25), .val (.ref b47), .val (.ref b109), .val (own_r10c (own_pick qq b5 b10 b15 b20) (own_pick s2 b5 b10 b15 b20) v80 (own_pick s1 b5 b10 b15 b20) v65 (own_pick s0 b5 b10 b15 b20) v50), .val v50] from XS.store1 (o := .val .null) rfl (Or.inr ⟨_, rfl, rfl⟩) (Jvm.Free.XT.cat1 hr50)) ?_
          exact k
        exact fun t k => pre246 t (by rw [show (own_j0_299_0 qq s0 v50) = v50 from (if_pos hc299_243)] at k; exact k)
      · have pre247 : ∀ t, Steps p.tables e below (T240.setTop (mkF m 308 #[.val (.int i1), .val (.int i2), .val (.int i3), .val (.int (3 : Int32)), .val (.int qq), .val (.int s0), .val (.int s1), .val (.int s2), .val (.int s3), .val (.ref b3), .val (.ref b25), .val (.ref b47), .val (.ref b109), .val (own_r10c (own_pick qq b5 b10 b15 b20) (own_pick s2 b5 b10 b15 b20) v80 (own_pick s1 b5 b10 b15 b20) v65 (own_pick s0 b5 b10 b15 b20) v50), .val .null] [])) t → Steps p.tables e below (s₁.setTop (entryFrame m #[(.int i1), (.int i2), (.int i3)] maxLocals)) t := by
          intro t k
          refine pre242 _ ?_
          show Steps p.tables e below (T240.setTop (mkF m 299 #[.val (.int i1), .val (.int i2), .val (.int i3), .val (.int (3 : Int32)), .val (.int qq), .val (.int s0), .val (.int s1), .val (.int s2), .val (.int s3), .val (.ref b3), .val (.ref b25), .val (.ref b47), .val (.ref b109), .val (own_r10c (own_pick qq b5 b10 b15 b20) (own_pick s2 b5 b10 b15 b20) v80 (own_pick s1 b5 b10 b15 b20) v65 (own_pick s0 b5 b10 b15 b20) v50), .val .null] [(.int qq), (.int s0)])) _
          refine XS.icmpYes X240.here hx rfl (pc0 := 299) (pc' := 308) rfl (hb hby at_299) rfl (feq hc299_243).2 (by decide) (by decide) ?_
          exact k
        exact fun t k => pre247 t (by rw [show (own_j0_299_0 qq s0 v50) = Value.null from (if_neg hc299_243)] at k; exact k)
    have hr249 : (own_j0_299_0 qq s0 v50).isRef = true := by
      unfold own_j0_299_0
      repeat' split
      all_goals first | rfl | assumption
    have pre250 : ∀ t, Steps p.tables e below (T240.setTop (mkF m 317 #[.val (.int i1), .val (.int i2), .val (.int i3), .val (.int (3 : Int32)), .val (.int qq), .val (.int s0), .val (.int s1), .val (.int s2), .val (.int s3), .val (.ref b3), .val (.ref b25), .val (.ref b47), .val (.ref b109), .val (own_r10c (own_pick qq b5 b10 b15 b20) (own_pick s2 b5 b10 b15 b20) v80 (own_pick s1 b5 b10 b15 b20) v65 (own_pick s0 b5 b10 b15 b20) v50), .val (own_j0_299_0 qq s0 v50)] [(.int qq), (.int s1)])) t → Steps p.tables e below (s₁.setTop (entryFrame m #[(.int i1), (.int i2), (.int i3)] maxLocals)) t := by
      intro t k
      refine pre248 _ ?_
      show Steps p.tables e below (T240.setTop (mkF m 308 #[.val (.int i1), .val (.int i2), .val (.int i3), .val (.int (3 : Int32)), .val (.int qq), .val (.int s0), .val (.int s1), .val (.int s2), .val (.int s3), .val (.ref b3), .val (.ref b25), .val (.ref b47), .val (.ref b109), .val (own_r10c (own_pick qq b5 b10 b15 b20) (own_pick s2 b5 b10 b15 b20) v80 (own_pick s1 b5 b10 b15 b20) v65 (own_pick s0 b5 b10 b15 b20) v50), .val (own_j0_299_0 qq s0 v50)] [])) _
      refine XS.iloadN X240.here hx rfl (hb hby at_308) rfl ?_
      refine XS.iconst X240.here hx rfl (hb hby at_309) ?_
      show Steps p.tables e below (T240.setTop (mkF m 310 #[.val (.int i1), .val (.int i2), .val (.int i3), .val (.int (3 : Int32)), .val (.int qq), .val (.int s0), .val (.int s1), .val (.int s2), .val (.int s3), .val (.ref b3), .val (.ref b25), .val (.ref b47), .val (.ref b109), .val (own_r10c (own_pick qq b5 b10 b15 b20) (own_pick s2 b5 b10 b15 b20) v80 (own_pick s1 b5 b10 b15 b20) v65 (own_pick s0 b5 b10 b15 b20) v50), .val (own_j0_299_0 qq s0 v50)] [(.int (1 : Int32)), (.int (3 : Int32))])) _
      refine XS.icmpNo X240.here hx rfl (hb hby at_310) rfl (tlt (by decide : (1 : Int32) < (3 : Int32))).2.2.2 ?_
      refine XS.iload X240.here hx rfl (hb hby at_313) rfl ?_
      show Steps p.tables e below (T240.setTop (mkF m 315 #[.val (.int i1), .val (.int i2), .val (.int i3), .val (.int (3 : Int32)), .val (.int qq), .val (.int s0), .val (.int s1), .val (.int s2), .val (.int s3), .val (.ref b3), .val (.ref b25), .val (.ref b47), .val (.ref b109), .val (own_r10c (own_pick qq b5 b10 b15 b20) (own_pick s2 b5 b10 b15 b20) v80 (own_pick s1 b5 b10 b15 b20) v65 (own_pick s0 b5 b10 b15 b20) v50), .val (own_j0_299_0 qq s0 v50)] [(.int s1)])) _
      refine XS.iload X240.here hx rfl (hb hby at_315) rfl ?_
      exact k
    have pre256 : ∀ t, Steps p.tables e below (T240.setTop (mkF m 326 #[.val (.int i1), .val (.int i2), .val (.int i3), .val (.int (3 : Int32)), .val (.int qq), .val (.int s0), .val (.int s1), .val (.int s2), .val (.int s3), .val (.ref b3), .val (.ref b25), .val (.ref b47), .val (.ref b109), .val (own_r10c (own_pick qq b5 b10 b15 b20) (own_pick s2 b5 b10 b15 b20) v80 (own_pick s1 b5 b10 b15 b20) v65 (own_pick s0 b5 b10 b15 b20) v50), .val (own_j0_317_0 qq s0 s1 v50 v65)] [])) t → Steps p.tables e below (s₁.setTop (entryFrame m #[(.int i1), (.int i2), (.int i3)] maxLocals)) t := by
      by_cases hc317_251 : s1 = qq
      · have f252 := (f222.keep Kq225 (ninS (Nat.ne_of_lt (Nat.lt_of_lt_of_le V47.lt (Nat.le_trans (Nat.le_trans (Nat.le_trans (Nat.le_trans (Nat.le_trans (Nat.le_trans (Nat.le_trans (Nat.le_trans (Nat.le_trans (Nat.le_trans Kq50.1 (Keep.of_wr W62).1) Kq65.1) (Keep.of_wr W77).1) Kq80.1) (Keep.of_wr W92).1) Kq95.1) (Keep.of_wr W107).1) E109.1) Kq112.1) sq206_1))) (ninS (Nat.ne_of_lt (Nat.lt_of_lt_of_le V47.lt (Nat.le_trans (Nat.le_trans (Nat.le_trans (Nat.le_trans (Nat.le_trans (Nat.le_trans (Nat.le_trans (Nat.le_trans (Nat.le_trans Kq50.1 (Keep.of_wr W62).1) Kq65.1) (Keep.of_wr W77).1) Kq80.1) (Keep.of_wr W92).1) Kq95.1) (Keep.of_wr W107).1) E109.1) sq112_0))) nin0)))
        obtain ⟨cl253, Ar253, Cq253, Sz253, Nn253, Hh253, Gg253⟩ := id f252
        have hin253 : ¬ ((1 : Int32) < 0 ∨ cl253.slots.size ≤ ((1 : Int32)).toNatClampNeg) := inb_of Sz253 ⟨by decide, by decide⟩
        have hat253 : cl253.slots[((1 : Int32)).toNatClampNeg]? = some v65 := Hh253.at hin253 rfl
        have pre254 : ∀ t, Steps p.tables e below (T240.setTop (mkF m 326 #[.val (.int i1), .val (.int i2), .val (.int i3), .val (.int (3 : Int32)), .val (.int qq), .val (.int s0), .val (.int s1), .val (.int s2), .val (.int s3), .val (.ref b3), .val (.ref b25), .val (.ref b47), .val (.ref b109), .val (own_r10c (own_pick qq b5 b10 b15 b20) (own_pick s2 b5 b10 b15 b20) v80 (own_pick s1 b5 b10 b15 b20) v65 (own_pick s0 b5 b10 b15 b20) v50), .val v65] [])) t → Steps p.tables e below (s₁.setTop (entryFrame m #[(.int i1), (.int i2), (.int i3)] maxLocals)) t := by
          intro t k
          refine pre250 _ ?_
          show Steps p.tables e below (T240.setTop (mkF m 317 #[.val (.int i1), .val (.int i2), .val (.int i3), .val (.int (3 : Int32)), .val (.int qq), .val (.int s0), .val (.int s1), .val (.int s2), .val (.int s3), .val (.ref b3), .val (.ref b25), .val (.ref b47), .val (.ref b109), .val (own_r10c (own_pick qq b5 b10 b15 b20) (own_pick s2 b5 b10 b15 b20) v80 (own_pick s1 b5 b10 b15 b20) v65 (own_pick s0 b5 b10 b15 b20) v50), .val (own_j0_299_0 qq s0 v50)] [(.int qq), (.int s1)])) _
          refine XS.icmpNo X240.here hx rfl (hb hby at_317) rfl (teq hc317_251).2 ?_
          refine XS.aload X240.here hx rfl (hb hby at_320) rfl rfl ?_
          show Steps p.tables e below (T240.setTop (mkF m 322 #[.val (.int i1), .val (.int i2), .val (.int i3), .val (.int (3 : Int32)), .val (.int qq), .val (.int s0), .val (.int s1), .val (.int s2), .val (.int s3), .val (.ref b3), .val (.ref b25), .val (.ref b47), .val (.ref b109), .val (own_r10c (own_pick qq b5 b10 b15 b20) (own_pick s2 b5 b10 b15 b20) v80 (own_pick s1 b5 b10 b15 b20) v65 (own_pick s0 b5 b10 b15 b20) v50), .val (own_j0_299_0 qq s0 v50)] [(.ref b47)])) _
          refine XS.iconst X240.here hx rfl (hb hby at_322) ?_
          show Steps p.tables e below (T240.setTop (mkF m 323 #[.val (.int i1), .val (.int i2), .val (.int i3), .val (.int (3 : Int32)), .val (.int qq), .val (.int s0), .val (.int s1), .val (.int s2), .val (.int s3), .val (.ref b3), .val (.ref b25), .val (.ref b47), .val (.ref b109), .val (own_r10c (own_pick qq b5 b10 b15 b20) (own_pick s2 b5 b10 b15 b20) v80 (own_pick s1 b5 b10 b15 b20) v65 (own_pick s0 b5 b10 b15 b20) v50), .val (own_j0_299_0 qq s0 v50)] [(.int (1 : Int32)), (.ref b47)])) _
          refine X240.aaload hx (j := (1 : Int32)) (v := v65) (by rw [e240]; exact Ar253.1) (State.isArrayOf_alike hZ.alike Ar253.2.1) rfl Ar253.2.2 hin253 hat253 (g := (mkF m 323 #[.val (.int i1), .val (.int i2), .val (.int i3), .val (.int (3 : Int32)), .val (.int qq), .val (.int s0), .val (.int s1), .val (.int s2), .val (.int s3), .val (.ref b3), .val (.ref b25), .val (.ref b47), .val (.ref b109), .val (own_r10c (own_pick qq b5 b10 b15 b20) (own_pick s2 b5 b10 b15 b20) v80 (own_pick s1 b5 b10 b15 b20) v65 (own_pick s0 b5 b10 b15 b20) v50), .val (own_j0_299_0 qq s0 v50)] [(.int (1 : Int32)), (.ref b47)])) rfl rfl (hb hby at_323) _ ?_
          show Steps p.tables e below (T240.setTop (mkF m 324 #[.val (.int i1), .val (.int i2), .val (.int i3), .val (.int (3 : Int32)), .val (.int qq), .val (.int s0), .val (.int s1), .val (.int s2), .val (.int s3), .val (.ref b3), .val (.ref b25), .val (.ref b47), .val (.ref b109), .val (own_r10c (own_pick qq b5 b10 b15 b20) (own_pick s2 b5 b10 b15 b20) v80 (own_pick s1 b5 b10 b15 b20) v65 (own_pick s0 b5 b10 b15 b20) v50), .val (own_j0_299_0 qq s0 v50)] [v65])) _
          refine XS.astore X240.here hx rfl (hb hby at_324) rfl hr65 (l' := #[.val (.int i1), .val (.int i2), .val (.int i3), .val (.int (3 : Int32)), .val (.int qq), .val (.int s0), .val (.int s1), .val (.int s2), .val (.int s3), .val (.ref b3), .val (.ref b25), .val (.ref b47), .val (.ref b109), .val (own_r10c (own_pick qq b5 b10 b15 b20) (own_pick s2 b5 b10 b15 b20) v80 (own_pick s1 b5 b10 b15 b20) v65 (own_pick s0 b5 b10 b15 b20) v50), .val v65]) (show storeLocals #[.val (.int i1), .val (.int i2), .val (.int i3), .val (.int (3 : Int32)), .val (.int qq), .val (.int s0), .val (.int s1), .val (.int s2), .val (.int s3), .val (.ref b3), .val (.ref b25), .val (.ref b47), .val (.ref b109), .val (own_r10c (own_pick qq b5 b10 b15 b20) (own_pick s2 b5 b10 b15 b20) v80 (own_pick s1 b5 b10 b15 b20) v65 (own_pick s0 b5 b10 b15 b20) v50), .val (own_j0_299_0 qq s0 v50)] 14 v65 = some #[.val (.int i1), .val (.int i2), .val (.int i3), .val (.int (3 : Int32)), .val (.int qq), .val (.int s0), .val (.int s1), .val (.int s2), .val (.int s3), .val (.ref b3), .val (.ref b25), .val (.ref b47), .val (.ref b109), .val (own_r10c (own_pick qq b5 b10 b15 b20) (own_pick s2 b5 b10 b15 b20) v80 (own_pick s1 b5 b10 b15 b20) v65 (own_pick s0 b5 b10 b15 b20) v50), .val v65] from XS.store1 (o := .val (own_j0_299_0 qq s0 v50)) rfl (Or.inr ⟨_, rfl, Jvm.Free.XT.cat1 hr249⟩) (Jvm.Free.XT.cat1 hr65)) ?_
          exact k
        exact fun t k => pre254 t (by rw [show (own_j0_317_0 qq s0 s1 v50 v65) = v65 from (if_pos hc317_251)] at k; exact k)
      · have pre255 : ∀ t, Steps p.tables e below (T240.setTop (mkF m 326 #[.val (.int i1), .val (.int i2), .val (.int i3), .val (.int (3 : Int32)), .val (.int qq), .val (.int s0), .val (.int s1), .val (.int s2), .val (.int s3), .val (.ref b3), .val (.ref b25), .val (.ref b47), .val (.ref b109), .val (own_r10c (own_pick qq b5 b10 b15 b20) (own_pick s2 b5 b10 b15 b20) v80 (own_pick s1 b5 b10 b15 b20) v65 (own_pick s0 b5 b10 b15 b20) v50), .val (own_j0_299_0 qq s0 v50)] [])) t → Steps p.tables e below (s₁.setTop (entryFrame m #[(.int i1), (.int i2), (.int i3)] maxLocals)) t := by
          intro t k
          refine pre250 _ ?_
          show Steps p.tables e below (T240.setTop (mkF m 317 #[.val (.int i1), .val (.int i2), .val (.int i3), .val (.int (3 : Int32)), .val (.int qq), .val (.int s0), .val (.int s1), .val (.int s2), .val (.int s3), .val (.ref b3), .val (.ref b25), .val (.ref b47), .val (.ref b109), .val (own_r10c (own_pick qq b5 b10 b15 b20) (own_pick s2 b5 b10 b15 b20) v80 (own_pick s1 b5 b10 b15 b20) v65 (own_pick s0 b5 b10 b15 b20) v50), .val (own_j0_299_0 qq s0 v50)] [(.int qq), (.int s1)])) _
          refine XS.icmpYes X240.here hx rfl (pc0 := 317) (pc' := 326) rfl (hb hby at_317) rfl (feq hc317_251).2 (by decide) (by decide) ?_
          exact k
        exact fun t k => pre255 t (by rw [show (own_j0_317_0 qq s0 s1 v50 v65) = (own_j0_299_0 qq s0 v50) from (if_neg hc317_251)] at k; exact k)
    have hr257 : (own_j0_317_0 qq s0 s1 v50 v65).isRef = true := by
      unfold own_j0_317_0
      repeat' split
      all_goals first | rfl | assumption
    have pre258 : ∀ t, Steps p.tables e below (T240.setTop (mkF m 335 #[.val (.int i1), .val (.int i2), .val (.int i3), .val (.int (3 : Int32)), .val (.int qq), .val (.int s0), .val (.int s1), .val (.int s2), .val (.int s3), .val (.ref b3), .val (.ref b25), .val (.ref b47), .val (.ref b109), .val (own_r10c (own_pick qq b5 b10 b15 b20) (own_pick s2 b5 b10 b15 b20) v80 (own_pick s1 b5 b10 b15 b20) v65 (own_pick s0 b5 b10 b15 b20) v50), .val (own_j0_317_0 qq s0 s1 v50 v65)] [(.int qq), (.int s2)])) t → Steps p.tables e below (s₁.setTop (entryFrame m #[(.int i1), (.int i2), (.int i3)] maxLocals)) t := by
      intro t k
      refine pre256 _ ?_
      show Steps p.tables e below (T240.setTop (mkF m 326 #[.val (.int i1), .val (.int i2), .val (.int i3), .val (.int (3 : Int32)), .val (.int qq), .val (.int s0), .val (.int s1), .val (.int s2), .val (.int s3), .val (.ref b3), .val (.ref b25), .val (.ref b47), .val (.ref b109), .val (own_r10c (own_pick qq b5 b10 b15 b20) (own_pick s2 b5 b10 b15 b20) v80 (own_pick s1 b5 b10 b15 b20) v65 (own_pick s0 b5 b10 b15 b20) v50), .val (own_j0_317_0 qq s0 s1 v50 v65)] [])) _
      refine XS.iloadN X240.here hx rfl (hb hby at_326) rfl ?_
      refine XS.iconst X240.here hx rfl (hb hby at_327) ?_
      show Steps p.tables e below (T240.setTop (mkF m 328 #[.val (.int i1), .val (.int i2), .val (.int i3), .val (.int (3 : Int32)), .val (.int qq), .val (.int s0), .val (.int s1), .val (.int s2), .val (.int s3), .val (.ref b3), .val (.ref b25), .val (.ref b47), .val (.ref b109), .val (own_r10c (own_pick qq b5 b10 b15 b20) (own_pick s2 b5 b10 b15 b20) v80 (own_pick s1 b5 b10 b15 b20) v65 (own_pick s0 b5 b10 b15 b20) v50), .val (own_j0_317_0 qq s0 s1 v50 v65)] [(.int (2 : Int32)), (.int (3 : Int32))])) _
      refine XS.icmpNo X240.here hx rfl (hb hby at_328) rfl (tlt (by decide : (2 : Int32) < (3 : Int32))).2.2.2 ?_
      refine XS.iload X240.here hx rfl (hb hby at_331) rfl ?_
      show Steps p.tables e below (T240.setTop (mkF m 333 #[.val (.int i1), .val (.int i2), .val (.int i3), .val (.int (3 : Int32)), .val (.int qq), .val (.int s0), .val (.int s1), .val (.int s2), .val (.int s3), .val (.ref b3), .val (.ref b25), .val (.ref b47), .val (.ref b109), .val (own_r10c (own_pick qq b5 b10 b15 b20) (own_pick s2 b5 b10 b15 b20) v80 (own_pick s1 b5 b10 b15 b20) v65 (own_pick s0 b5 b10 b15 b20) v50), .val (own_j0_317_0 qq s0 s1 v50 v65)] [(.int s2)])) _
      refine XS.iload X240.here hx rfl (hb hby at_333) rfl ?_
      exact k
    have pre264 : ∀ t, Steps p.tables e below (T240.setTop (mkF m 344 #[.val (.int i1), .val (.int i2), .val (.int i3), .val (.int (3 : Int32)), .val (.int qq), .val (.int s0), .val (.int s1), .val (.int s2), .val (.int s3), .val (.ref b3), .val (.ref b25), .val (.ref b47), .val (.ref b109), .val (own_r10c (own_pick qq b5 b10 b15 b20) (own_pick s2 b5 b10 b15 b20) v80 (own_pick s1 b5 b10 b15 b20) v65 (own_pick s0 b5 b10 b15 b20) v50), .val (own_j0_335_0 qq s0 s1 s2 v50 v65 v80)] [])) t → Steps p.tables e below (s₁.setTop (entryFrame m #[(.int i1), (.int i2), (.int i3)] maxLocals)) t := by
      by_cases hc335_259 : s2 = qq
      · have f260 := (f222.keep Kq225 (ninS (Nat.ne_of_lt (Nat.lt_of_lt_of_le V47.lt (Nat.le_trans (Nat.le_trans (Nat.le_trans (Nat.le_trans (Nat.le_trans (Nat.le_trans (Nat.le_trans (Nat.le_trans (Nat.le_trans (Nat.le_trans Kq50.1 (Keep.of_wr W62).1) Kq65.1) (Keep.of_wr W77).1) Kq80.1) (Keep.of_wr W92).1) Kq95.1) (Keep.of_wr W107).1) E109.1) Kq112.1) sq206_1))) (ninS (Nat.ne_of_lt (Nat.lt_of_lt_of_le V47.lt (Nat.le_trans (Nat.le_trans (Nat.le_trans (Nat.le_trans (Nat.le_trans (Nat.le_trans (Nat.le_trans (Nat.le_trans (Nat.le_trans Kq50.1 (Keep.of_wr W62).1) Kq65.1) (Keep.of_wr W77).1) Kq80.1) (Keep.of_wr W92).1) Kq95.1) (Keep.of_wr W107).1) E109.1) sq112_0))) nin0)))
        obtain ⟨cl261, Ar261, Cq261, Sz261, Nn261, Hh261, Gg261⟩ := id f260
        have hin261 : ¬ ((2 : Int32) < 0 ∨ cl261.slots.size ≤ ((2 : Int32)).toNatClampNeg) := inb_of Sz261 ⟨by decide, by decide⟩
        have hat261 : cl261.slots[((2 : Int32)).toNatClampNeg]? = some v80 := Hh261.at hin261 rfl
        have pre262 : ∀ t, Steps p.tables e below (T240.setTop (mkF m 344 #[.val (.int i1), .val (.int i2), .val (.int i3), .val (.int (3 : Int32)), .val (.int qq), .val (.int s0), .val (.int s1), .val (.int s2), .val (.int s3), .val (.ref b3), .val (.ref b25), .val (.ref b47), .val (.ref b109), .val (own_r10c (own_pick qq b5 b10 b15 b20) (own_pick s2 b5 b10 b15 b20) v80 (own_pick s1 b5 b10 b15 b20) v65 (own_pick s0 b5 b10 b15 b20) v50), .val v80] [])) t → Steps p.tables e below (s₁.setTop (entryFrame m #[(.int i1), (.int i2), (.int i3)] maxLocals)) t := by
          intro t k
          refine pre258 _ ?_
          show Steps p.tables e below (T240.setTop (mkF m 335 #[.val (.int i1), .val (.int i2), .val (.int i3), .val (.int (3 : Int32)), .val (.int qq), .val (.int s0), .val (.int s1), .val (.int s2), .val (.int s3), .val (.ref b3), .val (.ref b25), .val (.ref b47), .val (.ref b109), .val (own_r10c (own_pick qq b5 b10 b15 b20) (own_pick s2 b5 b10 b15 b20) v80 (own_pick s1 b5 b10 b15 b20) v65 (own_pick s0 b5 b10 b15 b20) v50), .val (own_j0_317_0 qq s0 s1 v50 v65)] [(.int qq), (.int s2)])) _
          refine XS.icmpNo X240.here hx rfl (hb hby at_335) rfl (teq hc335_259).2 ?_
          refine XS.aload X240.here hx rfl (hb hby at_338) rfl rfl ?_
          show Steps p.tables e below (T240.setTop (mkF m 340 #[.val (.int i1), .val (.int i2), .val (.int i3), .val (.int (3 : Int32)), .val (.int qq), .val (.int s0), .val (.int s1), .val (.int s2), .val (.int s3), .val (.ref b3), .val (.ref b25), .val (.ref b47), .val (.ref b109), .val (own_r10c (own_pick qq b5 b10 b15 b20) (own_pick s2 b5 b10 b15 b20) v80 (own_pick s1 b5 b10 b15 b20) v65 (own_pick s0 b5 b10 b15 b20) v50), .val (own_j0_317_0 qq s0 s1 v50 v65)] [(.ref b47)])) _
          refine XS.iconst X240.here hx rfl (hb hby at_340) ?_
          show Steps p.tables e below (T240.setTop (mkF m 341 #[.val (.int i1), .val (.int i2), .val (.int i3), .val (.int (3 : Int32)), .val (.int qq), .val (.int s0), .val (.int s1), .val (.int s2), .val (.int s3), .val (.ref b3), .val (.ref b25), .val (.ref b47), .val (.ref b109), .val (own_r10c (own_pick qq b5 b10 b15 b20) (own_pick s2 b5 b10 b15 b20) v80 (own_pick s1 b5 b10 b15 b20) v65 (own_pick s0 b5 b10 b15 b20) v50), .val (own_j0_317_0 qq s0 s1 v50 v65)] [(.int (2 : Int32)), (.ref b47)])) _
          refine X240.aaload hx (j := (2 : Int32)) (v := v80) (by rw [e240]; exact Ar261.1) (State.isArrayOf_alike hZ.alike Ar261.2.1) rfl Ar261.2.2 hin261 hat261 (g := (mkF m 341 #[.val (.int i1), .val (.int i2), .val (.int i3), .val (.int (3 : Int32)), .val (.int qq), .val (.int s0), .val (.int s1), .val (.int s2), .val (.int s3), .val (.ref b3), .val (.ref b25), .val (.ref b47), .val (.ref b109), .val (own_r10c (own_pick qq b5 b10 b15 b20) (own_pick s2 b5 b10 b15 b20) v80 (own_pick s1 b5 b10 b15 b20) v65 (own_pick s0 b5 b10 b15 b20) v50), .val (own_j0_317_0 qq s0 s1 v50 v65)] [(.int (2 : Int32)), (.ref b47)])) rfl rfl (hb hby at_341) _ ?_
          show Steps p.tables e below (T240.setTop (mkF m 342 #[.val (.int i1), .val (.int i2), .val (.int i3), .val (.int (3 : Int32)), .val (.int qq), .val (.int s0), .val (.int s1), .val (.int s2), .val (.int s3), .val (.ref b3), .val (.ref b25), .val (.ref b47), .val (.ref b109), .val (own_r10c (own_pick qq b5 b10 b15 b20) (own_pick s2 b5 b10 b15 b20) v80 (own_pick s1 b5 b10 b15 b20) v65 (own_pick s0 b5 b10 b15 b20) v50), .val (own_j0_317_0 qq s0 s1 v50 v65)] [v80])) _
          refine XS.astore X240.here hx rfl (hb hby at_342) rfl hr80 (l' := #[.val (.int i1), .val (.int i2), .val (.int i3), .val (.int (3 : Int32)), .val (.int qq), .val (.int s0), .val (.int s1), .val (.int s2), .val (.int s3), .val (.ref b3), .val (.ref b25), .val (.ref b47), .val (.ref b109), .val (own_r10c (own_pick qq b5 b10 b15 b20) (own_pick s2 b5 b10 b15 b20) v80 (own_pick s1 b5 b10 b15 b20) v65 (own_pick s0 b5 b10 b15 b20) v50), .val v80]) (show storeLocals #[.val (.int i1), .val (.int i2), .val (.int i3), .val (.int (3 : Int32)), .val (.int qq), .val (.int s0), .val (.int s1), .val (.int s2), .val (.int s3), .val (.ref b3), .val (.ref b25), .val (.ref b47), .val (.ref b109), .val (own_r10c (own_pick qq b5 b10 b15 b20) (own_pick s2 b5 b10 b15 b20) v80 (own_pick s1 b5 b10 b15 b20) v65 (own_pick s0 b5 b10 b15 b20) v50), .val (own_j0_317_0 qq s0 s1 v50 v65)] 14 v80 = some #[.val (.int i1), .val (.int i2), .val (.int i3), .val (.int (3 : Int32)), .val (.int qq), .val (.int s0), .val (.int s1), .val (.int s2), .val (.int s3), .val (.ref b3), .val (.ref b25), .val (.ref b47), .val (.ref b109), .val (own_r10c (own_pick qq b5 b10 b15 b20) (own_pick s2 b5 b10 b15 b20) v80 (own_pick s1 b5 b10 b15 b20) v65 (own_pick s0 b5 b10 b15 b20) v50), .val v80] from XS.store1 (o := .val (own_j0_317_0 qq s0 s1 v50 v65)) rfl (Or.inr ⟨_, rfl, Jvm.Free.XT.cat1 hr257⟩) (Jvm.Free.XT.cat1 hr80)) ?_
          exact k
        exact fun t k => pre262 t (by rw [show (own_j0_335_0 qq s0 s1 s2 v50 v65 v80) = v80 from (if_pos hc335_259)] at k; exact k)
      · have pre263 : ∀ t, Steps p.tables e below (T240.setTop (mkF m 344 #[.val (.int i1), .val (.int i2), .val (.int i3), .val (.int (3 : Int32)), .val (.int qq), .val (.int s0), .val (.int s1), .val (.int s2), .val (.int s3), .val (.ref b3), .val (.ref b25), .val (.ref b47), .val (.ref b109), .val (own_r10c (own_pick qq b5 b10 b15 b20) (own_pick s2 b5 b10 b15 b20) v80 (own_pick s1 b5 b10 b15 b20) v65 (own_pick s0 b5 b10 b15 b20) v50), .val (own_j0_317_0 qq s0 s1 v50 v65)] [])) t → Steps p.tables e below (s₁.setTop (entryFrame m #[(.int i1), (.int i2), (.int i3)] maxLocals)) t := by
          intro t k
          refine pre258 _ ?_
          show Steps p.tables e below (T240.setTop (mkF m 335 #[.val (.int i1), .val (.int i2), .val (.int i3), .val (.int (3 : Int32)), .val (.int qq), .val (.int s0), .val (.int s1), .val (.int s2), .val (.int s3), .val (.ref b3), .val (.ref b25), .val (.ref b47), .val (.ref b109), .val (own_r10c (own_pick qq b5 b10 b15 b20) (own_pick s2 b5 b10 b15 b20) v80 (own_pick s1 b5 b10 b15 b20) v65 (own_pick s0 b5 b10 b15 b20) v50), .val (own_j0_317_0 qq s0 s1 v50 v65)] [(.int qq), (.int s2)])) _
          refine XS.icmpYes X240.here hx rfl (pc0 := 335) (pc' := 344) rfl (hb hby at_335) rfl (feq hc335_259).2 (by decide) (by decide) ?_
          exact k
        exact fun t k => pre263 t (by rw [show (own_j0_335_0 qq s0 s1 s2 v50 v65 v80) = (own_j0_317_0 qq s0 s1 v50 v65) from (if_neg hc335_259)] at k; exact k)
    have hr265 : (own_j0_335_0 qq s0 s1 s2 v50 v65 v80).isRef = true := by
      unfold own_j0_335_0
      repeat' split
      all_goals first | rfl | assumption
    have hr266 : ((own_r10c (own_pick qq b5 b10 b15 b20) (own_pick s2 b5 b10 b15 b20) v80 (own_pick s1 b5 b10 b15 b20) v65 (own_pick s0 b5 b10 b15 b20) v50) : Value) = ((own_j0_335_0 qq s0 s1 s2 v50 v65 v80) : Value) := (own_ob0_r366xx qq s0 s1 s2 b5 b10 b15 b20 v50 v65 v80 s3 d_qq d_s0 d_s1 d_s2 d_s3 (Nat.ne_of_lt (Nat.lt_of_lt_of_le V5.lt (Nat.le_trans (Keep.of_wr W8).1 (Nat.le_of_eq g10.symm)))) (Nat.ne_of_lt (Nat.lt_of_lt_of_le V5.lt (Nat.le_trans (Nat.le_trans (Nat.le_trans (Keep.of_wr W8).1 E10.1) (Keep.of_wr W13).1) (Nat.le_of_eq g15.symm)))) (Nat.ne_of_lt (Nat.lt_of_lt_of_le V5.lt (Nat.le_trans (Nat.le_trans (Nat.le_trans (Nat.le_trans (Nat.le_trans (Keep.of_wr W8).1 E10.1) (Keep.of_wr W13).1) E15.1) (Keep.of_wr W18).1) (Nat.le_of_eq g20.symm)))) (Nat.ne_of_lt (Nat.lt_of_lt_of_le V10.lt (Nat.le_trans (Keep.of_wr W13).1 (Nat.le_of_eq g15.symm)))) (Nat.ne_of_lt (Nat.lt_of_lt_of_le V10.lt (Nat.le_trans (Nat.le_trans (Nat.le_trans (Keep.of_wr W13).1 E15.1) (Keep.of_wr W18).1) (Nat.le_of_eq g20.symm)))) (Nat.ne_of_lt (Nat.lt_of_lt_of_le V15.lt (Nat.le_trans (Keep.of_wr W18).1 (Nat.le_of_eq g20.symm)))))
    have pre267 : ∀ t, Steps p.tables e below (T240.setTop (mkF m 374 #[.val (.int i1), .val (.int i2), .val (.int i3), .val (.int (3 : Int32)), .val (.int qq), .val (.int s0), .val (.int s1), .val (.int s2), .val (.int s3), .val (.ref b3), .val (.ref b25), .val (.ref b47), .val (.ref b109), .val (own_r10c (own_pick qq b5 b10 b15 b20) (own_pick s2 b5 b10 b15 b20) v80 (own_pick s1 b5 b10 b15 b20) v65 (own_pick s0 b5 b10 b15 b20) v50), .val (own_j0_335_0 qq s0 s1 s2 v50 v65 v80)] [(.int (1 : Int32))])) t → Steps p.tables e below (s₁.setTop (entryFrame m #[(.int i1), (.int i2), (.int i3)] maxLocals)) t := by
      intro t k
      refine pre264 _ ?_
      show Steps p.tables e below (T240.setTop (mkF m 344 #[.val (.int i1), .val (.int i2), .val (.int i3), .val (.int (3 : Int32)), .val (.int qq), .val (.int s0), .val (.int s1), .val (.int s2), .val (.int s3), .val (.ref b3), .val (.ref b25), .val (.ref b47), .val (.ref b109), .val (own_r10c (own_pick qq b5 b10 b15 b20) (own_pick s2 b5 b10 b15 b20) v80 (own_pick s1 b5 b10 b15 b20) v65 (own_pick s0 b5 b10 b15 b20) v50), .val (own_j0_335_0 qq s0 s1 s2 v50 v65 v80)] [])) _
      refine XS.iloadN X240.here hx rfl (hb hby at_344) rfl ?_
      refine XS.iconst X240.here hx rfl (hb hby at_345) ?_
      show Steps p.tables e below (T240.setTop (mkF m 346 #[.val (.int i1), .val (.int i2), .val (.int i3), .val (.int (3 : Int32)), .val (.int qq), .val (.int s0), .val (.int s1), .val (.int s2), .val (.int s3), .val (.ref b3), .val (.ref b25), .val (.ref b47), .val (.ref b109), .val (own_r10c (own_pick qq b5 b10 b15 b20) (own_pick s2 b5 b10 b15 b20) v80 (own_pick s1 b5 b10 b15 b20) v65 (own_pick s0 b5 b10 b15 b20) v50), .val (own_j0_335_0 qq s0 s1 s2 v50 v65 v80)] [(.int (3 : Int32)), (.int (3 : Int32))])) _
      refine XS.icmpYes X240.here hx rfl (pc0 := 346) (pc' := 362) rfl (hb hby at_346) rfl (flt (by decide : ¬ ((3 : Int32) < (3 : Int32)))).2.2.2 (by decide) (by decide) ?_
      refine XS.aload X240.here hx rfl (hb hby at_362) rfl f240_0 ?_
      show Steps p.tables e below (T240.setTop (mkF m 364 #[.val (.int i1), .val (.int i2), .val (.int i3), .val (.int (3 : Int32)), .val (.int qq), .val (.int s0), .val (.int s1), .val (.int s2), .val (.int s3), .val (.ref b3), .val (.ref b25), .val (.ref b47), .val (.ref b109), .val (own_r10c (own_pick qq b5 b10 b15 b20) (own_pick s2 b5 b10 b15 b20) v80 (own_pick s1 b5 b10 b15 b20) v65 (own_pick s0 b5 b10 b15 b20) v50), .val (own_j0_335_0 qq s0 s1 s2 v50 v65 v80)] [(own_r10c (own_pick qq b5 b10 b15 b20) (own_pick s2 b5 b10 b15 b20) v80 (own_pick s1 b5 b10 b15 b20) v65 (own_pick s0 b5 b10 b15 b20) v50)])) _
      refine XS.aload X240.here hx rfl (hb hby at_364) rfl hr265 ?_
      show Steps p.tables e below (T240.setTop (mkF m 366 #[.val (.int i1), .val (.int i2), .val (.int i3), .val (.int (3 : Int32)), .val (.int qq), .val (.int s0), .val (.int s1), .val (.int s2), .val (.int s3), .val (.ref b3), .val (.ref b25), .val (.ref b47), .val (.ref b109), .val (own_r10c (own_pick qq b5 b10 b15 b20) (own_pick s2 b5 b10 b15 b20) v80 (own_pick s1 b5 b10 b15 b20) v65 (own_pick s0 b5 b10 b15 b20) v50), .val (own_j0_335_0 qq s0 s1 s2 v50 v65 v80)] [(own_j0_335_0 qq s0 s1 s2 v50 v65 v80), (own_r10c (own_pick qq b5 b10 b15 b20) (own_pick s2 b5 b10 b15 b20) v80 (own_pick s1 b5 b10 b15 b20) v65 (own_pick s0 b5 b10 b15 b20) v50)])) _
      refine Jvm.RoadKit.acmp (g := (mkF m 366 #[.val (.int i1), .val (.int i2), .val (.int i3), .val (.int (3 : Int32)), .val (.int qq), .val (.int s0), .val (.int s1), .val (.int s2), .val (.int s3), .val (.ref b3), .val (.ref b25), .val (.ref b47), .val (.ref b109), .val (own_r10c (own_pick qq b5 b10 b15 b20) (own_pick s2 b5 b10 b15 b20) v80 (own_pick s1 b5 b10 b15 b20) v65 (own_pick s0 b5 b10 b15 b20) v50), .val (own_j0_335_0 qq s0 s1 s2 v50 v65 v80)] [(own_j0_335_0 qq s0 s1 s2 v50 v65 v80), (own_r10c (own_pick qq b5 b10 b15 b20) (own_pick s2 b5 b10 b15 b20) v80 (own_pick s1 b5 b10 b15 b20) v65 (own_pick s0 b5 b10 b15 b20) v50)])) X240 hx rfl f240_0 hr265 (pc0 := 366) (pc' := 369) (same := true) rfl (hb hby at_366) rfl (decide_eq_true hr266) (by decide) (by decide) ?_
      show Steps p.tables e below (T240.setTop (mkF m 369 #[.val (.int i1), .val (.int i2), .val (.int i3), .val (.int (3 : Int32)), .val (.int qq), .val (.int s0), .val (.int s1), .val (.int s2), .val (.int s3), .val (.ref b3), .val (.ref b25), .val (.ref b47), .val (.ref b109), .val (own_r10c (own_pick qq b5 b10 b15 b20) (own_pick s2 b5 b10 b15 b20) v80 (own_pick s1 b5 b10 b15 b20) v65 (own_pick s0 b5 b10 b15 b20) v50), .val (own_j0_335_0 qq s0 s1 s2 v50 v65 v80)] [])) _
      refine XS.iconst X240.here hx rfl (hb hby at_369) ?_
      refine XS.goto X240.here hx rfl (pc0 := 370) (pc' := 374) rfl (hb hby at_370) (by decide) (by decide) ?_
      exact k
    obtain ⟨fs, hr, hrun, hended, hRW⟩ := Stand.leaveW (s := s) (vm₁ := T95.vm) (show Stand p l e room_1 (s.setVm T95.vm) m #[(.int i1), (.int i2), (.int i3)] below meth c T240 _ _ _ from X240) S95 (by rw [e240]; exact Nat.le_trans (Nat.le_of_eq (congrArg Array.size e95)) (Nat.le_trans (Nat.le_trans (Nat.le_trans (Nat.le_trans (Nat.le_trans (Keep.of_wr W107).1 E109.1) Kq112.1) Kq206.1) Kq215.1) Kq225.1)) (v := some (.int (1 : Int32))) (fun h => by rw [Bd.returns] at h; cases h)
    refine ⟨_, _, pre267 _ ?_, hrun, hended, _, _, rfl, ?_, hRW.1, hRW.2.1, hRW.2.2.1, hRW.2.2.2.mono (by decide) (by decide)⟩
    · show Steps p.tables e below (T240.setTop (mkF m 374 #[.val (.int i1), .val (.int i2), .val (.int i3), .val (.int (3 : Int32)), .val (.int qq), .val (.int s0), .val (.int s1), .val (.int s2), .val (.int s3), .val (.ref b3), .val (.ref b25), .val (.ref b47), .val (.ref b109), .val (own_r10c (own_pick qq b5 b10 b15 b20) (own_pick s2 b5 b10 b15 b20) v80 (own_pick s1 b5 b10 b15 b20) v65 (own_pick s0 b5 b10 b15 b20) v50), .val (own_j0_335_0 qq s0 s1 s2 v50 v65 v80)] [(.int (1 : Int32))])) _
      exact retN X240 hx (t := .boolean) Bd.returns (by simp) (hb hby at_374) hr
    · show Q0 Z i1 i2 i3 y5 y13 h0 n0 _ T240.heap _
      rw [e240]
      exact ⟨rfl, N240⟩
  · have pre268 : ∀ t, Steps p.tables e below (T112.setTop (mkF m 185 #[.val (.int i1), .val (.int i2), .val (.int i3), .val (.int (4 : Int32)), .val (.int qq), .val (.int s0), .val (.int s1), .val (.int s2), .val (.int s3), .val (.ref b3), .val (.ref b25), .val (.ref b47), .val (.ref b109), .unset, .unset] [])) t → Steps p.tables e below (s₁.setTop (entryFrame m #[(.int i1), (.int i2), (.int i3)] maxLocals)) t := fun t k => pre114 t (by rw [hk115]; exact k)
    have f269 := (((((((((((V45.ext E47).keep Kq50 nin0).other W62 (Nat.ne_of_lt (Nat.lt_of_lt_of_le V25.lt (Nat.le_trans (Nat.le_trans (Nat.le_trans (Nat.le_trans (Nat.le_trans (Nat.le_trans (Nat.le_trans (Nat.le_trans E27.1 (Keep.of_wr W30).1) E32.1) (Keep.of_wr W35).1) E37.1) (Keep.of_wr W40).1) E42.1) (Keep.of_wr W45).1) (Nat.le_of_eq g47.symm))))).keep Kq65 nin0).other W77 (Nat.ne_of_lt (Nat.lt_of_lt_of_le V25.lt (Nat.le_trans (Nat.le_trans (Nat.le_trans (Nat.le_trans (Nat.le_trans (Nat.le_trans (Nat.le_trans (Nat.le_trans E27.1 (Keep.of_wr W30).1) E32.1) (Keep.of_wr W35).1) E37.1) (Keep.of_wr W40).1) E42.1) (Keep.of_wr W45).1) (Nat.le_of_eq g47.symm))))).keep Kq80 nin0).other W92 (Nat.ne_of_lt (Nat.lt_of_lt_of_le V25.lt (Nat.le_trans (Nat.le_trans (Nat.le_trans (Nat.le_trans (Nat.le_trans (Nat.le_trans (Nat.le_trans (Nat.le_trans E27.1 (Keep.of_wr W30).1) E32.1) (Keep.of_wr W35).1) E37.1) (Keep.of_wr W40).1) E42.1) (Keep.of_wr W45).1) (Nat.le_of_eq g47.symm))))).keep Kq95 nin0).other W107 (Nat.ne_of_lt (Nat.lt_of_lt_of_le V25.lt (Nat.le_trans (Nat.le_trans (Nat.le_trans (Nat.le_trans (Nat.le_trans (Nat.le_trans (Nat.le_trans (Nat.le_trans E27.1 (Keep.of_wr W30).1) E32.1) (Keep.of_wr W35).1) E37.1) (Keep.of_wr W40).1) E42.1) (Keep.of_wr W45).1) (Nat.le_of_eq g47.symm))))).ext E109).keep Kq112 (ninS (Nat.ne_of_lt (Nat.lt_of_lt_of_le V25.lt (Nat.le_trans (Nat.le_trans (Nat.le_trans (Nat.le_trans (Nat.le_trans (Nat.le_trans (Nat.le_trans (Nat.le_trans (Nat.le_trans (Nat.le_trans (Nat.le_trans (Nat.le_trans (Nat.le_trans (Nat.le_trans (Nat.le_trans (Nat.le_trans (Nat.le_trans E27.1 (Keep.of_wr W30).1) E32.1) (Keep.of_wr W35).1) E37.1) (Keep.of_wr W40).1) E42.1) (Keep.of_wr W45).1) E47.1) Kq50.1) (Keep.of_wr W62).1) Kq65.1) (Keep.of_wr W77).1) Kq80.1) (Keep.of_wr W92).1) Kq95.1) (Keep.of_wr W107).1) (Nat.le_of_eq g109.symm)))) nin0))
    obtain ⟨cl270, Ar270, Cq270, Sz270, Nn270, Hh270, Gg270⟩ := id f269
    have hin270 : ¬ ((0 : Int32) < 0 ∨ cl270.slots.size ≤ ((0 : Int32)).toNatClampNeg) := inb_of Sz270 ⟨by decide, by decide⟩
    have hat270 : cl270.slots[((0 : Int32)).toNatClampNeg]? = some (.ref b27) := Hh270.at hin270 rfl
    have f271 := ((((((((((((((((((((V23.ext E25).ext E27).other W30 (Nat.ne_of_lt (Nat.lt_of_lt_of_le V3.lt (Nat.le_trans (Nat.le_trans (Nat.le_trans (Nat.le_trans (Nat.le_trans (Nat.le_trans (Nat.le_trans (Nat.le_trans E5.1 (Keep.of_wr W8).1) E10.1) (Keep.of_wr W13).1) E15.1) (Keep.of_wr W18).1) E20.1) (Keep.of_wr W23).1) (Nat.le_of_eq g25.symm))))).ext E32).other W35 (Nat.ne_of_lt (Nat.lt_of_lt_of_le V3.lt (Nat.le_trans (Nat.le_trans (Nat.le_trans (Nat.le_trans (Nat.le_trans (Nat.le_trans (Nat.le_trans (Nat.le_trans E5.1 (Keep.of_wr W8).1) E10.1) (Keep.of_wr W13).1) E15.1) (Keep.of_wr W18).1) E20.1) (Keep.of_wr W23).1) (Nat.le_of_eq g25.symm))))).ext E37).other W40 (Nat.ne_of_lt (Nat.lt_of_lt_of_le V3.lt (Nat.le_trans (Nat.le_trans (Nat.le_trans (Nat.le_trans (Nat.le_trans (Nat.le_trans (Nat.le_trans (Nat.le_trans E5.1 (Keep.of_wr W8).1) E10.1) (Keep.of_wr W13).1) E15.1) (Keep.of_wr W18).1) E20.1) (Keep.of_wr W23).1) (Nat.le_of_eq g25.symm))))).ext E42).other W45 (Nat.ne_of_lt (Nat.lt_of_lt_of_le V3.lt (Nat.le_trans (Nat.le_trans (Nat.le_trans (Nat.le_trans (Nat.le_trans (Nat.le_trans (Nat.le_trans (Nat.le_trans E5.1 (Keep.of_wr W8).1) E10.1) (Keep.of_wr W13).1) E15.1) (Keep.of_wr W18).1) E20.1) (Keep.of_wr W23).1) (Nat.le_of_eq g25.symm))))).ext E47).keep Kq50 nin0).other W62 (Nat.ne_of_lt (Nat.lt_of_lt_of_le V3.lt (Nat.le_trans (Nat.le_trans (Nat.le_trans (Nat.le_trans (Nat.le_trans (Nat.le_trans (Nat.le_trans (Nat.le_trans (Nat.le_trans (Nat.le_trans (Nat.le_trans (Nat.le_trans (Nat.le_trans (Nat.le_trans (Nat.le_trans (Nat.le_trans (Nat.le_trans E5.1 (Keep.of_wr W8).1) E10.1) (Keep.of_wr W13).1) E15.1) (Keep.of_wr W18).1) E20.1) (Keep.of_wr W23).1) E25.1) E27.1) (Keep.of_wr W30).1) E32.1) (Keep.of_wr W35).1) E37.1) (Keep.of_wr W40).1) E42.1) (Keep.of_wr W45).1) (Nat.le_of_eq g47.symm))))).keep Kq65 nin0).other W77 (Nat.ne_of_lt (Nat.lt_of_lt_of_le V3.lt (Nat.le_trans (Nat.le_trans (Nat.le_trans (Nat.le_trans (Nat.le_trans (Nat.le_trans (Nat.le_trans (Nat.le_trans (Nat.le_trans (Nat.le_trans (Nat.le_trans (Nat.le_trans (Nat.le_trans (Nat.le_trans (Nat.le_trans (Nat.le_trans (Nat.le_trans E5.1 (Keep.of_wr W8).1) E10.1) (Keep.of_wr W13).1) E15.1) (Keep.of_wr W18).1) E20.1) (Keep.of_wr W23).1) E25.1) E27.1) (Keep.of_wr W30).1) E32.1) (Keep.of_wr W35).1) E37.1) (Keep.of_wr W40).1) E42.1) (Keep.of_wr W45).1) (Nat.le_of_eq g47.symm))))).keep Kq80 nin0).other W92 (Nat.ne_of_lt (Nat.lt_of_lt_of_le V3.lt (Nat.le_trans (Nat.le_trans (Nat.le_trans (Nat.le_trans (Nat.le_trans (Nat.le_trans (Nat.le_trans (Nat.le_trans (Nat.le_trans (Nat.le_trans (Nat.le_trans (Nat.le_trans (Nat.le_trans (Nat.le_trans (Nat.le_trans (Nat.le_trans (Nat.le_trans E5.1 (Keep.of_wr W8).1) E10.1) (Keep.of_wr W13).1) E15.1) (Keep.of_wr W18).1) E20.1) (Keep.of_wr W23).1) E25.1) E27.1) (Keep.of_wr W30).1) E32.1) (Keep.of_wr W35).1) E37.1) (Keep.of_wr W40).1) E42.1) (Keep.of_wr W45).1) (Nat.le_of_eq g47.symm))))).keep Kq95 nin0).other W107 (Nat.ne_of_lt (Nat.lt_of_lt_of_le V3.lt (Nat.le_trans (Nat.le_trans (Nat.le_trans (Nat.le_trans (Nat.le_trans (Nat.le_trans (Nat.le_trans (Nat.le_trans (Nat.le_trans (Nat.le_trans (Nat.le_trans (Nat.le_trans (Nat.le_trans (Nat.le_trans (Nat.le_trans (Nat.le_trans (Nat.le_trans E5.1 (Keep.of_wr W8).1) E10.1) (Keep.of_wr W13).1) E15.1) (Keep.of_wr W18).1) E20.1) (Keep.of_wr W23).1) E25.1) E27.1) (Keep.of_wr W30).1) E32.1) (Keep.of_wr W35).1) E37.1) (Keep.of_wr W40).1) E42.1) (Keep.of_wr W45).1) (Nat.le_of_eq g47.symm))))).ext E109).keep Kq112 (ninS (Nat.ne_of_lt (Nat.lt_of_lt_of_le V3.lt (Nat.le_trans (Nat.le_trans (Nat.le_trans (Nat.le_trans (Nat.le_trans (Nat.le_trans (Nat.le_trans (Nat.le_trans (Nat.le_trans (Nat.le_trans (Nat.le_trans (Nat.le_trans (Nat.le_trans (Nat.le_trans (Nat.le_trans (Nat.le_trans (Nat.le_trans (Nat.le_trans (Nat.le_trans (Nat.le_trans (Nat.le_trans (Nat.le_trans (Nat.le_trans (Nat.le_trans (Nat.le_trans (Nat.le_trans E5.1 (Keep.of_wr W8).1) E10.1) (Keep.of_wr W13).1) E15.1) (Keep.of_wr W18).1) E20.1) (Keep.of_wr W23).1) E25.1) E27.1) (Keep.of_wr W30).1) E32.1) (Keep.of_wr W35).1) E37.1) (Keep.of_wr W40).1) E42.1) (Keep.of_wr W45).1) E47.1) Kq50.1) (Keep.of_wr W62).1) Kq65.1) (Keep.of_wr W77).1) Kq80.1) (Keep.of_wr W92).1) Kq95.1) (Keep.of_wr W107).1) (Nat.le_of_eq g109.symm)))) nin0))
    obtain ⟨cl272, Ar272, Cq272, Sz272, Nn272, Hh272, Gg272⟩ := id f271
    have hin272 : ¬ (s0 < 0 ∨ cl272.slots.size ≤ (s0).toNatClampNeg) := inb_of Sz272 (own_in4 d_s0)
    have hat272 : cl272.slots[(s0).toNatClampNeg]? = some (.ref (own_pick s0 b5 b10 b15 b20)) := Hh272.at hin272 (own_pickat d_s0 b5 b10 b15 b20)
    have f273 := ((V107.ext E109).keep Kq112 (ninS (Nat.ne_of_lt (Nat.lt_of_lt_of_le V47.lt (Nat.le_trans (Nat.le_trans (Nat.le_trans (Nat.le_trans (Nat.le_trans (Nat.le_trans (Nat.le_trans (Nat.le_trans Kq50.1 (Keep.of_wr W62).1) Kq65.1) (Keep.of_wr W77).1) Kq80.1) (Keep.of_wr W92).1) Kq95.1) (Keep.of_wr W107).1) (Nat.le_of_eq g109.symm)))) nin0))
    obtain ⟨cl274, Ar274, Cq274, Sz274, Nn274, Hh274, Gg274⟩ := id f273
    have hin274 : ¬ ((0 : Int32) < 0 ∨ cl274.slots.size ≤ ((0 : Int32)).toNatClampNeg) := inb_of Sz274 ⟨by decide, by decide⟩
    have hat274 : cl274.slots[((0 : Int32)).toNatClampNeg]? = some v50 := Hh274.at hin274 rfl
    have f275 := (((((((((((((((((((((((((((((y9.ext E3).ext E5).other W8 (Nat.ne_of_lt (Nat.lt_of_lt_of_le y9.lt (Nat.le_trans (Nat.le_refl _) (Nat.le_of_eq g3.symm))))).ext E10).other W13 (Nat.ne_of_lt (Nat.lt_of_lt_of_le y9.lt (Nat.le_trans (Nat.le_refl _) (Nat.le_of_eq g3.symm))))).ext E15).other W18 (Nat.ne_of_lt (Nat.lt_of_lt_of_le y9.lt (Nat.le_trans (Nat.le_refl _) (Nat.le_of_eq g3.symm))))).ext E20).other W23 (Nat.ne_of_lt (Nat.lt_of_lt_of_le y9.lt (Nat.le_trans (Nat.le_refl _) (Nat.le_of_eq g3.symm))))).ext E25).ext E27).other W30 (Nat.ne_of_lt (Nat.lt_of_lt_of_le y9.lt (Nat.le_trans (Nat.le_trans (Nat.le_trans (Nat.le_trans (Nat.le_trans (Nat.le_trans (Nat.le_trans (Nat.le_trans (Nat.le_trans E3.1 E5.1) (Keep.of_wr W8).1) E10.1) (Keep.of_wr W13).1) E15.1) (Keep.of_wr W18).1) E20.1) (Keep.of_wr W23).1) (Nat.le_of_eq g25.symm))))).ext E32).other W35 (Nat.ne_of_lt (Nat.lt_of_lt_of_le y9.lt (Nat.le_trans (Nat.le_trans (Nat.le_trans (Nat.le_trans (Nat.le_trans (Nat.le_trans (Nat.le_trans (Nat.le_trans (Nat.le_trans E3.1 E5.1) (Keep.of_wr W8).1) E10.1) (Keep.of_wr W13).1) E15.1) (Keep.of_wr W18).1) E20.1) (Keep.of_wr W23).1) (Nat.le_of_eq g25.symm))))).ext E37).other W40 (Nat.ne_of_lt (Nat.lt_of_lt_of_le y9.lt (Nat.le_trans (Nat.le_trans (Nat.le_trans (Nat.le_trans (Nat.le_trans (Nat.le_trans (Nat.le_trans (Nat.le_trans (Nat.le_trans E3.1 E5.1) (Keep.of_wr W8).1) E10.1) (Keep.of_wr W13).1) E15.1) (Keep.of_wr W18).1) E20.1) (Keep.of_wr W23).1) (Nat.le_of_eq g25.symm))))).ext E42).other W45 (Nat.ne_of_lt (Nat.lt_of_lt_of_le y9.lt (Nat.le_trans (Nat.le_trans (Nat.le_trans (Nat.le_trans (Nat.le_trans (Nat.le_trans (Nat.le_trans (Nat.le_trans (Nat.le_trans E3.1 E5.1) (Keep.of_wr W8).1) E10.1) (Keep.of_wr W13).1) E15.1) (Keep.of_wr W18).1) E20.1) (Keep.of_wr W23).1) (Nat.le_of_eq g25.symm))))).ext E47).keep Kq50 nin0).other W62 (Nat.ne_of_lt (Nat.lt_of_lt_of_le y9.lt (Nat.le_trans (Nat.le_trans (Nat.le_trans (Nat.le_trans (Nat.le_trans (Nat.le_trans (Nat.le_trans (Nat.le_trans (Nat.le_trans (Nat.le_trans (Nat.le_trans (Nat.le_trans (Nat.le_trans (Nat.le_trans (Nat.le_trans (Nat.le_trans (Nat.le_trans (Nat.le_trans E3.1 E5.1) (Keep.of_wr W8).1) E10.1) (Keep.of_wr W13).1) E15.1) (Keep.of_wr W18).1) E20.1) (Keep.of_wr W23).1) E25.1) E27.1) (Keep.of_wr W30).1) E32.1) (Keep.of_wr W35).1) E37.1) (Keep.of_wr W40).1) E42.1) (Keep.of_wr W45).1) (Nat.le_of_eq g47.symm))))).keep Kq65 nin0).other W77 (Nat.ne_of_lt (Nat.lt_of_lt_of_le y9.lt (Nat.le_trans (Nat.le_trans (Nat.le_trans (Nat.le_trans (Nat.le_trans (Nat.le_trans (Nat.le_trans (Nat.le_trans (Nat.le_trans (Nat.le_trans (Nat.le_trans (Nat.le_trans (Nat.le_trans (Nat.le_trans (Nat.le_trans (Nat.le_trans (Nat.le_trans (Nat.le_trans E3.1 E5.1) (Keep.of_wr W8).1) E10.1) (Keep.of_wr W13).1) E15.1) (Keep.of_wr W18).1) E20.1) (Keep.of_wr W23).1) E25.1) E27.1) (Keep.of_wr W30).1) E32.1) (Keep.of_wr W35).1) E37.1) (Keep.of_wr W40).1) E42.1) (Keep.of_wr W45).1) (Nat.le_of_eq g47.symm))))).keep Kq80 nin0).other W92 (Nat.ne_of_lt (Nat.lt_of_lt_of_le y9.lt (Nat.le_trans (Nat.le_trans (Nat.le_trans (Nat.le_trans (Nat.le_trans (Nat.le_trans (Nat.le_trans (Nat.le_trans (Nat.le_trans (Nat.le_trans (Nat.le_trans (Nat.le_trans (Nat.le_trans (Nat.le_trans (Nat.le_trans (Nat.le_trans (Nat.le_trans (Nat.le_trans E3.1 E5.1) (Keep.of_wr W8).1) E10.1) (Keep.of_wr W13).1) E15.1) (Keep.of_wr W18).1) E20.1) (Keep.of_wr W23).1) E25.1) E27.1) (Keep.of_wr W30).1) E32.1) (Keep.of_wr W35).1) E37.1) (Keep.of_wr W40).1) E42.1) (Keep.of_wr W45).1) (Nat.le_of_eq g47.symm))))).keep Kq95 nin0).other W107 (Nat.ne_of_lt (Nat.lt_of_lt_of_le y9.lt (Nat.le_trans (Nat.le_trans (Nat.le_trans (Nat.le_trans (Nat.le_trans (Nat.le_trans (Nat.le_trans (Nat.le_trans (Nat.le_trans (Nat.le_trans (Nat.le_trans (Nat.le_trans (Nat.le_trans (Nat.le_trans (Nat.le_trans (Nat.le_trans (Nat.le_trans (Nat.le_trans E3.1 E5.1) (Keep.of_wr W8).1) E10.1) (Keep.of_wr W13).1) E15.1) (Keep.of_wr W18).1) E20.1) (Keep.of_wr W23).1) E25.1) E27.1) (Keep.of_wr W30).1) E32.1) (Keep.of_wr W35).1) E37.1) (Keep.of_wr W40).1) E42.1) (Keep.of_wr W45).1) (Nat.le_of_eq g47.symm))))).ext E109).keep Kq112 (ninS (Nat.ne_of_lt (Nat.lt_of_lt_of_le y9.lt (Nat.le_trans (Nat.le_trans (Nat.le_trans (Nat.le_trans (Nat.le_trans (Nat.le_trans (Nat.le_trans (Nat.le_trans (Nat.le_trans (Nat.le_trans (Nat.le_trans (Nat.le_trans (Nat.le_trans (Nat.le_trans (Nat.le_trans (Nat.le_trans (Nat.le_trans (Nat.le_trans (Nat.le_trans (Nat.le_trans (Nat.le_trans (Nat.le_trans (Nat.le_trans (Nat.le_trans (Nat.le_trans (Nat.le_trans (Nat.le_trans E3.1 E5.1) (Keep.of_wr W8).1) E10.1) (Keep.of_wr W13).1) E15.1) (Keep.of_wr W18).1) E20.1) (Keep.of_wr W23).1) E25.1) E27.1) (Keep.of_wr W30).1) E32.1) (Keep.of_wr W35).1) E37.1) (Keep.of_wr W40).1) E42.1) (Keep.of_wr W45).1) E47.1) Kq50.1) (Keep.of_wr W62).1) Kq65.1) (Keep.of_wr W77).1) Kq80.1) (Keep.of_wr W92).1) Kq95.1) (Keep.of_wr W107).1) (Nat.le_of_eq g109.symm)))) nin0))
    have f276 := (f111.keep Kq112 (allS (Nat.le_trans Z0 sz_b109) all0))
    obtain ⟨cq277, kq277, q277a, q277b, q277c⟩ := isOf hZ rfl f112_4
    obtain ⟨_, _, ⟨T277, L277, k277, n277⟩, -, X277, ⟨Lc277, hQ277, l277, y277, z277⟩, st277⟩ := X112.virtualBack hx (y := own_y1) (z := own_y1) hown (mvT hZ (hw _ (List.mem_of_getElem? (i := 96) rfl))) (mvT hZ (hw _ (List.mem_of_getElem? (i := 97) rfl))) (notFace_of_selects (args := #[]) (mvT hZ (hw _ (List.mem_of_getElem? (i := 99) rfl)))) (mvT hZ (hw _ (List.mem_of_getElem? (i := 99) rfl))) (mvT hZ (hw _ (List.mem_of_getElem? (i := 98) rfl))) (by decide) (backOf (W := 0) (rm12 l Z a0 hw [] b109 b27 (own_pick s0 b5 b10 b15 b20) v50 b112_0 y5 y13 T112.heap n0 (Nat.le_trans Z0 K113.1) hr50 f112_5 f112_1 y33 f112_2 f112_3 f275 f112_0 (Nat.le_trans Z0 sz_b112_0) (Nat.ne_of_lt (Nat.lt_of_lt_of_le y9.lt (Nat.le_trans (Nat.le_trans (Nat.le_trans (Nat.le_trans (Nat.le_trans (Nat.le_trans (Nat.le_trans (Nat.le_trans (Nat.le_trans (Nat.le_trans (Nat.le_trans (Nat.le_trans (Nat.le_trans (Nat.le_trans (Nat.le_trans (Nat.le_trans (Nat.le_trans (Nat.le_trans (Nat.le_trans (Nat.le_trans (Nat.le_trans (Nat.le_trans (Nat.le_trans (Nat.le_trans (Nat.le_trans (Nat.le_trans (Nat.le_trans (Nat.le_trans E3.1 E5.1) (Keep.of_wr W8).1) E10.1) (Keep.of_wr W13).1) E15.1) (Keep.of_wr W18).1) E20.1) (Keep.of_wr W23).1) E25.1) E27.1) (Keep.of_wr W30).1) E32.1) (Keep.of_wr W35).1) E37.1) (Keep.of_wr W40).1) E42.1) (Keep.of_wr W45).1) E47.1) Kq50.1) (Keep.of_wr W62).1) Kq65.1) (Keep.of_wr W77).1) Kq80.1) (Keep.of_wr W92).1) Kq95.1) (Keep.of_wr W107).1) E109.1) sq112_0))) f276) hZ (hw _ (List.mem_of_getElem? (i := 100) rfl)) (hw _ (List.mem_of_getElem? (i := 53) rfl)) (by decide) (by decide)) q277a q277c (g := (mkF m 204 #[.val (.int i1), .val (.int i2), .val (.int i3), .val (.int (4 : Int32)), .val (.int qq), .val (.int s0), .val (.int s1), .val (.int s2), .val (.int s3), .val (.ref b3), .val (.ref b25), .val (.ref b47), .val (.ref b109), .unset, .unset] [v50, (.ref (own_pick s0 b5 b10 b15 b20)), (.ref b27), (.ref b109)])) rfl (by rw [hml]; rfl) (Steps.refl _) (argsL := [(.ref b27), (.ref (own_pick s0 b5 b10 b15 b20)), v50]) (rest := []) (lenOf pd_6 rfl) rfl (by show 2 * 0 + _ ≤ _; exact Nat.le_of_eq rfl) (hb hby at_204) (fun _ _ => ⟨rfl, rfl, (by decide : 29 + 2 ≤ _), (by decide : 88 + 13 ≤ _)⟩)
    dsimp only [Pt.U, Pt.locs, Pt.cells, Pt.slots] at X277 l277 y277 z277 st277 hQ277
    subst l277 y277 z277
    obtain ⟨b277_0, b277_1, k277_2, rfl, Nq277, Kq277, sq277_0, sq277_1, f277_0, f277_1, f277_2, f277_3, f277_4, f277_5, f277_6, f277_7, f277_8, f277_9, f277_10⟩ := hQ277
    have sz_b277_0 : h0.size ≤ b277_0 := Nat.le_trans K113.1 sq277_0
    have sz_b277_1 : h0.size ≤ b277_1 := Nat.le_trans K113.1 sq277_1
    have K278 : Keep h0 T277.heap [] := K113.trans Kq277 (allS (Or.inr sz_b112_0) all0)
    have N277 := Fr.app N112 Nq277
    have f279 := (f269.keep Kq277 (ninS (Nat.ne_of_lt (Nat.lt_of_lt_of_le V25.lt (Nat.le_trans (Nat.le_trans (Nat.le_trans (Nat.le_trans (Nat.le_trans (Nat.le_trans (Nat.le_trans (Nat.le_trans (Nat.le_trans (Nat.le_trans (Nat.le_trans (Nat.le_trans (Nat.le_trans (Nat.le_trans (Nat.le_trans (Nat.le_trans (Nat.le_trans (Nat.le_trans E27.1 (Keep.of_wr W30).1) E32.1) (Keep.of_wr W35).1) E37.1) (Keep.of_wr W40).1) E42.1) (Keep.of_wr W45).1) E47.1) Kq50.1) (Keep.of_wr W62).1) Kq65.1) (Keep.of_wr W77).1) Kq80.1) (Keep.of_wr W92).1) Kq95.1) (Keep.of_wr W107).1) E109.1) sq112_0))) nin0))
    obtain ⟨cl280, Ar280, Cq280, Sz280, Nn280, Hh280, Gg280⟩ := id f279
    have hin280 : ¬ ((1 : Int32) < 0 ∨ cl280.slots.size ≤ ((1 : Int32)).toNatClampNeg) := inb_of Sz280 ⟨by decide, by decide⟩
    have hat280 : cl280.slots[((1 : Int32)).toNatClampNeg]? = some (.ref b32) := Hh280.at hin280 rfl
    have f281 := (f271.keep Kq277 (ninS (Nat.ne_of_lt (Nat.lt_of_lt_of_le V3.lt (Nat.le_trans (Nat.le_trans (Nat.le_trans (Nat.le_trans (Nat.le_trans (Nat.le_trans (Nat.le_trans (Nat.le_trans (Nat.le_trans (Nat.le_trans (Nat.le_trans (Nat.le_trans (Nat.le_trans (Nat.le_trans (Nat.le_trans (Nat.le_trans (Nat.le_trans (Nat.le_trans (Nat.le_trans (Nat.le_trans (Nat.le_trans (Nat.le_trans (Nat.le_trans (Nat.le_trans (Nat.le_trans (Nat.le_trans (Nat.le_trans E5.1 (Keep.of_wr W8).1) E10.1) (Keep.of_wr W13).1) E15.1) (Keep.of_wr W18).1) E20.1) (Keep.of_wr W23).1) E25.1) E27.1) (Keep.of_wr W30).1) E32.1) (Keep.of_wr W35).1) E37.1) (Keep.of_wr W40).1) E42.1) (Keep.of_wr W45).1) E47.1) Kq50.1) (Keep.of_wr W62).1) Kq65.1) (Keep.of_wr W77).1) Kq80.1) (Keep.of_wr W92).1) Kq95.1) (Keep.of_wr W107).1) E109.1) sq112_0))) nin0))
    obtain ⟨cl282, Ar282, Cq282, Sz282, Nn282, Hh282, Gg282⟩ := id f281
    have hin282 : ¬ (s1 < 0 ∨ cl282.slots.size ≤ (s1).toNatClampNeg) := inb_of Sz282 (own_in4 d_s1)
    have hat282 : cl282.slots[(s1).toNatClampNeg]? = some (.ref (own_pick s1 b5 b10 b15 b20)) := Hh282.at hin282 (own_pickat d_s1 b5 b10 b15 b20)
    have f283 := (f273.keep Kq277 (ninS (Nat.ne_of_lt (Nat.lt_of_lt_of_le V47.lt (Nat.le_trans (Nat.le_trans (Nat.le_trans (Nat.le_trans (Nat.le_trans (Nat.le_trans (Nat.le_trans (Nat.le_trans (Nat.le_trans Kq50.1 (Keep.of_wr W62).1) Kq65.1) (Keep.of_wr W77).1) Kq80.1) (Keep.of_wr W92).1) Kq95.1) (Keep.of_wr W107).1) E109.1) sq112_0))) nin0))
    obtain ⟨cl284, Ar284, Cq284, Sz284, Nn284, Hh284, Gg284⟩ := id f283
    have hin284 : ¬ ((1 : Int32) < 0 ∨ cl284.slots.size ≤ ((1 : Int32)).toNatClampNeg) := inb_of Sz284 ⟨by decide, by decide⟩
    have hat284 : cl284.slots[((1 : Int32)).toNatClampNeg]? = some v65 := Hh284.at hin284 rfl
    have f285 := (f112_5.keep Kq277 (ninS (Nat.ne_of_lt (Nat.lt_of_lt_of_le A109.lt (Nat.le_trans (Nat.le_refl _) sq112_0))) nin0))
    have f287 := (f112_4.keep Kq277)
    obtain ⟨cq286, kq286, q286a, q286b, q286c⟩ := isOf hZ rfl f287
    obtain ⟨_, _, ⟨T286, L286, k286, n286⟩, -, X286, ⟨Lc286, hQ286, l286, y286, z286⟩, st286⟩ := X277.virtualBack hx (y := own_y1) (z := own_y1) hown (mvT hZ (hw _ (List.mem_of_getElem? (i := 96) rfl))) (mvT hZ (hw _ (List.mem_of_getElem? (i := 97) rfl))) (notFace_of_selects (args := #[]) (mvT hZ (hw _ (List.mem_of_getElem? (i := 99) rfl)))) (mvT hZ (hw _ (List.mem_of_getElem? (i := 99) rfl))) (mvT hZ (hw _ (List.mem_of_getElem? (i := 98) rfl))) (by decide) (backOf (W := 0) (rm12a l Z a0 hw [] b109 b32 (own_pick s1 b5 b10 b15 b20) v65 b112_0 b277_1 b277_0 k277_2 T277.heap n0 (Nat.le_trans Z0 K278.1) hr65 f285 f277_7 f277_5 f277_8 f277_10 f277_6 f277_4 (Nat.le_trans Z0 sz_b112_0) (Ne.symm (Nat.ne_of_lt (Nat.lt_of_lt_of_le f112_0.lt (Nat.le_trans (Nat.le_refl _) sq277_1)))) (Nat.le_trans Z0 sz_b277_1)) hZ (hw _ (List.mem_of_getElem? (i := 100) rfl)) (hw _ (List.mem_of_getElem? (i := 53) rfl)) (by decide) (by decide)) q286a q286c (g := (mkF m 227 #[.val (.int i1), .val (.int i2), .val (.int i3), .val (.int (4 : Int32)), .val (.int qq), .val (.int s0), .val (.int s1), .val (.int s2), .val (.int s3), .val (.ref b3), .val (.ref b25), .val (.ref b47), .val (.ref b109), .unset, .unset] [v65, (.ref (own_pick s1 b5 b10 b15 b20)), (.ref b32), (.ref b109)])) rfl (by rw [hml]; rfl) (Steps.refl _) (argsL := [(.ref b32), (.ref (own_pick s1 b5 b10 b15 b20)), v65]) (rest := []) (lenOf pd_6 rfl) rfl (by show 2 * 0 + _ ≤ _; exact Nat.le_of_eq rfl) (hb hby at_227) (fun _ _ => ⟨rfl, rfl, (by decide : 31 + 1 ≤ _), (by decide : 101 + 3 ≤ _)⟩)
    dsimp only [Pt.U, Pt.locs, Pt.cells, Pt.slots] at X286 l286 y286 z286 st286 hQ286
    subst l286 y286 z286
    obtain ⟨b286_0, rfl, Nq286, Kq286, sq286_0, f286_0, f286_1, f286_2, f286_3, f286_4, f286_5, f286_6, f286_7, f286_8, f286_9⟩ := hQ286
    have sz_b286_0 : h0.size ≤ b286_0 := Nat.le_trans K278.1 sq286_0
    have K288 : Keep h0 T286.heap [] := K278.trans Kq286 (allS (Or.inr sz_b277_1) (allS (Or.inr sz_b112_0) all0))
    have N286 := Fr.app N277 Nq286
    have f289 := (f279.keep Kq286 (ninS (Nat.ne_of_lt (Nat.lt_of_lt_of_le V25.lt (Nat.le_trans (Nat.le_trans (Nat.le_trans (Nat.le_trans (Nat.le_trans (Nat.le_trans (Nat.le_trans (Nat.le_trans (Nat.le_trans (Nat.le_trans (Nat.le_trans (Nat.le_trans (Nat.le_trans (Nat.le_trans (Nat.le_trans (Nat.le_trans (Nat.le_trans (Nat.le_trans (Nat.le_trans E27.1 (Keep.of_wr W30).1) E32.1) (Keep.of_wr W35).1) E37.1) (Keep.of_wr W40).1) E42.1) (Keep.of_wr W45).1) E47.1) Kq50.1) (Keep.of_wr W62).1) Kq65.1) (Keep.of_wr W77).1) Kq80.1) (Keep.of_wr W92).1) Kq95.1) (Keep.of_wr W107).1) E109.1) Kq112.1) sq277_1))) (ninS (Nat.ne_of_lt (Nat.lt_of_lt_of_le V25.lt (Nat.le_trans (Nat.le_trans (Nat.le_trans (Nat.le_trans (Nat.le_trans (Nat.le_trans (Nat.le_trans (Nat.le_trans (Nat.le_trans (Nat.le_trans (Nat.le_trans (Nat.le_trans (Nat.le_trans (Nat.le_trans (Nat.le_trans (Nat.le_trans (Nat.le_trans (Nat.le_trans E27.1 (Keep.of_wr W30).1) E32.1) (Keep.of_wr W35).1) E37.1) (Keep.of_wr W40).1) E42.1) (Keep.of_wr W45).1) E47.1) Kq50.1) (Keep.of_wr W62).1) Kq65.1) (Keep.of_wr W77).1) Kq80.1) (Keep.of_wr W92).1) Kq95.1) (Keep.of_wr W107).1) E109.1) sq112_0))) nin0)))
    obtain ⟨cl290, Ar290, Cq290, Sz290, Nn290, Hh290, Gg290⟩ := id f289
    have hin290 : ¬ ((2 : Int32) < 0 ∨ cl290.slots.size ≤ ((2 : Int32)).toNatClampNeg) := inb_of Sz290 ⟨by decide, by decide⟩
    have hat290 : cl290.slots[((2 : Int32)).toNatClampNeg]? = some (.ref b37) := Hh290.at hin290 rfl
    have f291 := (f281.keep Kq286 (ninS (Nat.ne_of_lt (Nat.lt_of_lt_of_le V3.lt (Nat.le_trans (Nat.le_trans (Nat.le_trans (Nat.le_trans (Nat.le_trans (Nat.le_trans (Nat.le_trans (Nat.le_trans (Nat.le_trans (Nat.le_trans (Nat.le_trans (Nat.le_trans (Nat.le_trans (Nat.le_trans (Nat.le_trans (Nat.le_trans (Nat.le_trans (Nat.le_trans (Nat.le_trans (Nat.le_trans (Nat.le_trans (Nat.le_trans (Nat.le_trans (Nat.le_trans (Nat.le_trans (Nat.le_trans (Nat.le_trans (Nat.le_trans E5.1 (Keep.of_wr W8).1) E10.1) (Keep.of_wr W13).1) E15.1) (Keep.of_wr W18).1) E20.1) (Keep.of_wr W23).1) E25.1) E27.1) (Keep.of_wr W30).1) E32.1) (Keep.of_wr W35).1) E37.1) (Keep.of_wr W40).1) E42.1) (Keep.of_wr W45).1) E47.1) Kq50.1) (Keep.of_wr W62).1) Kq65.1) (Keep.of_wr W77).1) Kq80.1) (Keep.of_wr W92).1) Kq95.1) (Keep.of_wr W107).1) E109.1) Kq112.1) sq277_1))) (ninS (Nat.ne_of_lt (Nat.lt_of_lt_of_le V3.lt (Nat.le_trans (Nat.le_trans (Nat.le_trans (Nat.le_trans (Nat.le_trans (Nat.le_trans (Nat.le_trans (Nat.le_trans (Nat.le_trans (Nat.le_trans (Nat.le_trans (Nat.le_trans (Nat.le_trans (Nat.le_trans (Nat.le_trans (Nat.le_trans (Nat.le_trans (Nat.le_trans (Nat.le_trans (Nat.le_trans (Nat.le_trans (Nat.le_trans (Nat.le_trans (Nat.le_trans (Nat.le_trans (Nat.le_trans (Nat.le_trans E5.1 (Keep.of_wr W8).1) E10.1) (Keep.of_wr W13).1) E15.1) (Keep.of_wr W18).1) E20.1) (Keep.of_wr W23).1) E25.1) E27.1) (Keep.of_wr W30).1) E32.1) (Keep.of_wr W35).1) E37.1) (Keep.of_wr W40).1) E42.1) (Keep.of_wr W45).1) E47.1) Kq50.1) (Keep.of_wr W62).1) Kq65.1) (Keep.of_wr W77).1) Kq80.1) (Keep.of_wr W92).1) Kq95.1) (Keep.of_wr W107).1) E109.1) sq112_0))) nin0)))
    obtain ⟨cl292, Ar292, Cq292, Sz292, Nn292, Hh292, Gg292⟩ := id f291
    have hin292 : ¬ (s2 < 0 ∨ cl292.slots.size ≤ (s2).toNatClampNeg) := inb_of Sz292 (own_in4 d_s2)
    have hat292 : cl292.slots[(s2).toNatClampNeg]? = some (.ref (own_pick s2 b5 b10 b15 b20)) := Hh292.at hin292 (own_pickat d_s2 b5 b10 b15 b20)
    have f293 := (f283.keep Kq286 (ninS (Nat.ne_of_lt (Nat.lt_of_lt_of_le V47.lt (Nat.le_trans (Nat.le_trans (Nat.le_trans (Nat.le_trans (Nat.le_trans (Nat.le_trans (Nat.le_trans (Nat.le_trans (Nat.le_trans (Nat.le_trans Kq50.1 (Keep.of_wr W62).1) Kq65.1) (Keep.of_wr W77).1) Kq80.1) (Keep.of_wr W92).1) Kq95.1) (Keep.of_wr W107).1) E109.1) Kq112.1) sq277_1))) (ninS (Nat.ne_of_lt (Nat.lt_of_lt_of_le V47.lt (Nat.le_trans (Nat.le_trans (Nat.le_trans (Nat.le_trans (Nat.le_trans (Nat.le_trans (Nat.le_trans (Nat.le_trans (Nat.le_trans Kq50.1 (Keep.of_wr W62).1) Kq65.1) (Keep.of_wr W77).1) Kq80.1) (Keep.of_wr W92).1) Kq95.1) (Keep.of_wr W107).1) E109.1) sq112_0))) nin0)))
    obtain ⟨cl294, Ar294, Cq294, Sz294, Nn294, Hh294, Gg294⟩ := id f293
    have hin294 : ¬ ((2 : Int32) < 0 ∨ cl294.slots.size ≤ ((2 : Int32)).toNatClampNeg) := inb_of Sz294 ⟨by decide, by decide⟩
    have hat294 : cl294.slots[((2 : Int32)).toNatClampNeg]? = some v80 := Hh294.at hin294 rfl
    have f295 := (f285.keep Kq286 (ninS (Nat.ne_of_lt (Nat.lt_of_lt_of_le A109.lt (Nat.le_trans Kq112.1 sq277_1))) (ninS (Nat.ne_of_lt (Nat.lt_of_lt_of_le A109.lt (Nat.le_trans (Nat.le_refl _) sq112_0))) nin0)))
    have f297 := (f287.keep Kq286)
    obtain ⟨cq296, kq296, q296a, q296b, q296c⟩ := isOf hZ rfl f297
    obtain ⟨_, _, ⟨T296, L296, k296, n296⟩, -, X296, ⟨Lc296, hQ296, l296, y296, z296⟩, st296⟩ := X286.virtualBack hx (y := own_y1) (z := own_y1) hown (mvT hZ (hw _ (List.mem_of_getElem? (i := 96) rfl))) (mvT hZ (hw _ (List.mem_of_getElem? (i := 97) rfl))) (notFace_of_selects (args := #[]) (mvT hZ (hw _ (List.mem_of_getElem? (i := 99) rfl)))) (mvT hZ (hw _ (List.mem_of_getElem? (i := 99) rfl))) (mvT hZ (hw _ (List.mem_of_getElem? (i := 98) rfl))) (by decide) (backOf (W := 0) (rm12b l Z a0 hw [] b109 b37 (own_pick s2 b5 b10 b15 b20) v80 b112_0 b277_1 b277_0 b286_0 k277_2 T286.heap n0 (Nat.le_trans Z0 K288.1) hr80 f295 f286_7 f286_8 f286_6 f286_9 f286_5 f286_4 (Nat.le_trans Z0 sz_b112_0) (Ne.symm (Nat.ne_of_lt (Nat.lt_of_lt_of_le f112_0.lt (Nat.le_trans (Nat.le_refl _) sq277_1)))) (Nat.le_trans Z0 sz_b277_1)) hZ (hw _ (List.mem_of_getElem? (i := 100) rfl)) (hw _ (List.mem_of_getElem? (i := 53) rfl)) (by decide) (by decide)) q296a q296c (g := (mkF m 250 #[.val (.int i1), .val (.int i2), .val (.int i3), .val (.int (4 : Int32)), .val (.int qq), .val (.int s0), .val (.int s1), .val (.int s2), .val (.int s3), .val (.ref b3), .val (.ref b25), .val (.ref b47), .val (.ref b109), .unset, .unset] [v80, (.ref (own_pick s2 b5 b10 b15 b20)), (.ref b37), (.ref b109)])) rfl (by rw [hml]; rfl) (Steps.refl _) (argsL := [(.ref b37), (.ref (own_pick s2 b5 b10 b15 b20)), v80]) (rest := []) (lenOf pd_6 rfl) rfl (by show 2 * 0 + _ ≤ _; exact Nat.le_of_eq rfl) (hb hby at_250) (fun _ _ => ⟨rfl, rfl, (by decide : 32 + 1 ≤ _), (by decide : 104 + 3 ≤ _)⟩)
    dsimp only [Pt.U, Pt.locs, Pt.cells, Pt.slots] at X296 l296 y296 z296 st296 hQ296
    subst l296 y296 z296
    obtain ⟨b296_0, rfl, Nq296, Kq296, sq296_0, f296_0, f296_1, f296_2, f296_3, f296_4, f296_5, f296_6, f296_7, f296_8, f296_9⟩ := hQ296
    have sz_b296_0 : h0.size ≤ b296_0 := Nat.le_trans K288.1 sq296_0
    have K298 : Keep h0 T296.heap [] := K288.trans Kq296 (allS (Or.inr sz_b277_1) (allS (Or.inr sz_b112_0) all0))
    have N296 := Fr.app N286 Nq296
    have f299 := (f289.keep Kq296 (ninS (Nat.ne_of_lt (Nat.lt_of_lt_of_le V25.lt (Nat.le_trans (Nat.le_trans (Nat.le_trans (Nat.le_trans (Nat.le_trans (Nat.le_trans (Nat.le_trans (Nat.le_trans (Nat.le_trans (Nat.le_trans (Nat.le_trans (Nat.le_trans (Nat.le_trans (Nat.le_trans (Nat.le_trans (Nat.le_trans (Nat.le_trans (Nat.le_trans (Nat.le_trans E27.1 (Keep.of_wr W30).1) E32.1) (Keep.of_wr W35).1) E37.1) (Keep.of_wr W40).1) E42.1) (Keep.of_wr W45).1) E47.1) Kq50.1) (Keep.of_wr W62).1) Kq65.1) (Keep.of_wr W77).1) Kq80.1) (Keep.of_wr W92).1) Kq95.1) (Keep.of_wr W107).1) E109.1) Kq112.1) sq277_1))) (ninS (Nat.ne_of_lt (Nat.lt_of_lt_of_le V25.lt (Nat.le_trans (Nat.le_trans (Nat.le_trans (Nat.le_trans (Nat.le_trans (Nat.le_trans (Nat.le_trans (Nat.le_trans (Nat.le_trans (Nat.le_trans (Nat.le_trans (Nat.le_trans (Nat.le_trans (Nat.le_trans (Nat.le_trans (Nat.le_trans (Nat.le_trans (Nat.le_trans E27.1 (Keep.of_wr W30).1) E32.1) (Keep.of_wr W35).1) E37.1) (Keep.of_wr W40).1) E42.1) (Keep.of_wr W45).1) E47.1) Kq50.1) (Keep.of_wr W62).1) Kq65.1) (Keep.of_wr W77).1) Kq80.1) (Keep.of_wr W92).1) Kq95.1) (Keep.of_wr W107).1) E109.1) sq112_0))) nin0)))
    obtain ⟨cl300, Ar300, Cq300, Sz300, Nn300, Hh300, Gg300⟩ := id f299
    have hin300 : ¬ ((3 : Int32) < 0 ∨ cl300.slots.size ≤ ((3 : Int32)).toNatClampNeg) := inb_of Sz300 ⟨by decide, by decide⟩
    have hat300 : cl300.slots[((3 : Int32)).toNatClampNeg]? = some (.ref b42) := Hh300.at hin300 rfl
    have f301 := (f291.keep Kq296 (ninS (Nat.ne_of_lt (Nat.lt_of_lt_of_le V3.lt (Nat.le_trans (Nat.le_trans (Nat.le_trans (Nat.le_trans (Nat.le_trans (Nat.le_trans (Nat.le_trans (Nat.le_trans (Nat.le_trans (Nat.le_trans (Nat.le_trans (Nat.le_trans (Nat.le_trans (Nat.le_trans (Nat.le_trans (Nat.le_trans (Nat.le_trans (Nat.le_trans (Nat.le_trans (Nat.le_trans (Nat.le_trans (Nat.le_trans (Nat.le_trans (Nat.le_trans (Nat.le_trans (Nat.le_trans (Nat.le_trans (Nat.le_trans E5.1 (Keep.of_wr W8).1) E10.1) (Keep.of_wr W13).1) E15.1) (Keep.of_wr W18).1) E20.1) (Keep.of_wr W23).1) E25.1) E27.1) (Keep.of_wr W30).1) E32.1) (Keep.of_wr W35).1) E37.1) (Keep.of_wr W40).1) E42.1) (Keep.of_wr W45).1) E47.1) Kq50.1) (Keep.of_wr W62).1) Kq65.1) (Keep.of_wr W77).1) Kq80.1) (Keep.of_wr W92).1) Kq95.1) (Keep.of_wr W107).1) E109.1) Kq112.1) sq277_1))) (ninS (Nat.ne_of_lt (Nat.lt_of_lt_of_le V3.lt (Nat.le_trans (Nat.le_trans (Nat.le_trans (Nat.le_trans (Nat.le_trans (Nat.le_trans (Nat.le_trans (Nat.le_trans (Nat.le_trans (Nat.le_trans (Nat.le_trans (Nat.le_trans (Nat.le_trans (Nat.le_trans (Nat.le_trans (Nat.le_trans (Nat.le_trans (Nat.le_trans (Nat.le_trans (Nat.le_trans (Nat.le_trans (Nat.le_trans (Nat.le_trans (Nat.le_trans (Nat.le_trans (Nat.le_trans (Nat.le_trans E5.1 (Keep.of_wr W8).1) E10.1) (Keep.of_wr W13).1) E15.1) (Keep.of_wr W18).1) E20.1) (Keep.of_wr W23).1) E25.1) E27.1) (Keep.of_wr W30).1) E32.1) (Keep.of_wr W35).1) E37.1) (Keep.of_wr W40).1) E42.1) (Keep.of_wr W45).1) E47.1) Kq50.1) (Keep.of_wr W62).1) Kq65.1) (Keep.of_wr W77).1) Kq80.1) (Keep.of_wr W92).1) Kq95.1) (Keep.of_wr W107).1) E109.1) sq112_0))) nin0)))
    obtain ⟨cl302, Ar302, Cq302, Sz302, Nn302, Hh302, Gg302⟩ := id f301
    have hin302 : ¬ (s3 < 0 ∨ cl302.slots.size ≤ (s3).toNatClampNeg) := inb_of Sz302 (own_in4 d_s3)
    have hat302 : cl302.slots[(s3).toNatClampNeg]? = some (.ref (own_pick s3 b5 b10 b15 b20)) := Hh302.at hin302 (own_pickat d_s3 b5 b10 b15 b20)
    have f303 := (f293.keep Kq296 (ninS (Nat.ne_of_lt (Nat.lt_of_lt_of_le V47.lt (Nat.le_trans (Nat.le_trans (Nat.le_trans (Nat.le_trans (Nat.le_trans (Nat.le_trans (Nat.le_trans (Nat.le_trans (Nat.le_trans (Nat.le_trans Kq50.1 (Keep.of_wr W62).1) Kq65.1) (Keep.of_wr W77).1) Kq80.1) (Keep.of_wr W92).1) Kq95.1) (Keep.of_wr W107).1) E109.1) Kq112.1) sq277_1))) (ninS (Nat.ne_of_lt (Nat.lt_of_lt_of_le V47.lt (Nat.le_trans (Nat.le_trans (Nat.le_trans (Nat.le_trans (Nat.le_trans (Nat.le_trans (Nat.le_trans (Nat.le_trans (Nat.le_trans Kq50.1 (Keep.of_wr W62).1) Kq65.1) (Keep.of_wr W77).1) Kq80.1) (Keep.of_wr W92).1) Kq95.1) (Keep.of_wr W107).1) E109.1) sq112_0))) nin0)))
    obtain ⟨cl304, Ar304, Cq304, Sz304, Nn304, Hh304, Gg304⟩ := id f303
    have hin304 : ¬ ((3 : Int32) < 0 ∨ cl304.slots.size ≤ ((3 : Int32)).toNatClampNeg) := inb_of Sz304 ⟨by decide, by decide⟩
    have hat304 : cl304.slots[((3 : Int32)).toNatClampNeg]? = some v95 := Hh304.at hin304 rfl
    have f305 := (f295.keep Kq296 (ninS (Nat.ne_of_lt (Nat.lt_of_lt_of_le A109.lt (Nat.le_trans Kq112.1 sq277_1))) (ninS (Nat.ne_of_lt (Nat.lt_of_lt_of_le A109.lt (Nat.le_trans (Nat.le_refl _) sq112_0))) nin0)))
    have f307 := (f297.keep Kq296)
    obtain ⟨cq306, kq306, q306a, q306b, q306c⟩ := isOf hZ rfl f307
    obtain ⟨_, _, ⟨T306, L306, k306, n306⟩, -, X306, ⟨Lc306, hQ306, l306, y306, z306⟩, st306⟩ := X296.virtualBack hx (y := own_y1) (z := own_y1) hown (mvT hZ (hw _ (List.mem_of_getElem? (i := 96) rfl))) (mvT hZ (hw _ (List.mem_of_getElem? (i := 97) rfl))) (notFace_of_selects (args := #[]) (mvT hZ (hw _ (List.mem_of_getElem? (i := 99) rfl)))) (mvT hZ (hw _ (List.mem_of_getElem? (i := 99) rfl))) (mvT hZ (hw _ (List.mem_of_getElem? (i := 98) rfl))) (by decide) (backOf (W := 0) (rm12c l Z a0 hw [] b109 b42 (own_pick s3 b5 b10 b15 b20) v95 b112_0 b277_1 b277_0 b286_0 b296_0 k277_2 T296.heap n0 (Nat.le_trans Z0 K298.1) hr95 f305 f296_7 f296_8 f296_6 f296_9 f296_5 f296_4 (Nat.le_trans Z0 sz_b112_0) (Ne.symm (Nat.ne_of_lt (Nat.lt_of_lt_of_le f112_0.lt (Nat.le_trans (Nat.le_refl _) sq277_1)))) (Nat.le_trans Z0 sz_b277_1)) hZ (hw _ (List.mem_of_getElem? (i := 100) rfl)) (hw _ (List.mem_of_getElem? (i := 53) rfl)) (by decide) (by decide)) q306a q306c (g := (mkF m 273 #[.val (.int i1), .val (.int i2), .val (.int i3), .val (.int (4 : Int32)), .val (.int qq), .val (.int s0), .val (.int s1), .val (.int s2), .val (.int s3), .val (.ref b3), .val (.ref b25), .val (.ref b47), .val (.ref b109), .unset, .unset] [v95, (.ref (own_pick s3 b5 b10 b15 b20)), (.ref b42), (.ref b109)])) rfl (by rw [hml]; rfl) (Steps.refl _) (argsL := [(.ref b42), (.ref (own_pick s3 b5 b10 b15 b20)), v95]) (rest := []) (lenOf pd_6 rfl) rfl (by show 2 * 0 + _ ≤ _; exact Nat.le_of_eq rfl) (hb hby at_273) (fun _ _ => ⟨rfl, rfl, (by decide : 33 + 1 ≤ _), (by decide : 107 + 3 ≤ _)⟩)
    dsimp only [Pt.U, Pt.locs, Pt.cells, Pt.slots] at X306 l306 y306 z306 st306 hQ306
    subst l306 y306 z306
    obtain ⟨b306_0, rfl, Nq306, Kq306, sq306_0, f306_0, f306_1, f306_2, f306_3, f306_4, f306_5, f306_6, f306_7, f306_8, f306_9⟩ := hQ306
    have sz_b306_0 : h0.size ≤ b306_0 := Nat.le_trans K298.1 sq306_0
    have K308 : Keep h0 T306.heap [] := K298.trans Kq306 (allS (Or.inr sz_b277_1) (allS (Or.inr sz_b112_0) all0))
    have N306 := Fr.app N296 Nq306
    have f309 := (f301.keep Kq306 (ninS (Nat.ne_of_lt (Nat.lt_of_lt_of_le V3.lt (Nat.le_trans (Nat.le_trans (Nat.le_trans (Nat.le_trans (Nat.le_trans (Nat.le_trans (Nat.le_trans (Nat.le_trans (Nat.le_trans (Nat.le_trans (Nat.le_trans (Nat.le_trans (Nat.le_trans (Nat.le_trans (Nat.le_trans (Nat.le_trans (Nat.le_trans (Nat.le_trans (Nat.le_trans (Nat.le_trans (Nat.le_trans (Nat.le_trans (Nat.le_trans (Nat.le_trans (Nat.le_trans (Nat.le_trans (Nat.le_trans (Nat.le_trans E5.1 (Keep.of_wr W8).1) E10.1) (Keep.of_wr W13).1) E15.1) (Keep.of_wr W18).1) E20.1) (Keep.of_wr W23).1) E25.1) E27.1) (Keep.of_wr W30).1) E32.1) (Keep.of_wr W35).1) E37.1) (Keep.of_wr W40).1) E42.1) (Keep.of_wr W45).1) E47.1) Kq50.1) (Keep.of_wr W62).1) Kq65.1) (Keep.of_wr W77).1) Kq80.1) (Keep.of_wr W92).1) Kq95.1) (Keep.of_wr W107).1) E109.1) Kq112.1) sq277_1))) (ninS (Nat.ne_of_lt (Nat.lt_of_lt_of_le V3.lt (Nat.le_trans (Nat.le_trans (Nat.le_trans (Nat.le_trans (Nat.le_trans (Nat.le_trans (Nat.le_trans (Nat.le_trans (Nat.le_trans (Nat.le_trans (Nat.le_trans (Nat.le_trans (Nat.le_trans (Nat.le_trans (Nat.le_trans (Nat.le_trans (Nat.le_trans (Nat.le_trans (Nat.le_trans (Nat.le_trans (Nat.le_trans (Nat.le_trans (Nat.le_trans (Nat.le_trans (Nat.le_trans (Nat.le_trans (Nat.le_trans E5.1 (Keep.of_wr W8).1) E10.1) (Keep.of_wr W13).1) E15.1) (Keep.of_wr W18).1) E20.1) (Keep.of_wr W23).1) E25.1) E27.1) (Keep.of_wr W30).1) E32.1) (Keep.of_wr W35).1) E37.1) (Keep.of_wr W40).1) E42.1) (Keep.of_wr W45).1) E47.1) Kq50.1) (Keep.of_wr W62).1) Kq65.1) (Keep.of_wr W77).1) Kq80.1) (Keep.of_wr W92).1) Kq95.1) (Keep.of_wr W107).1) E109.1) sq112_0))) nin0)))
    obtain ⟨cl310, Ar310, Cq310, Sz310, Nn310, Hh310, Gg310⟩ := id f309
    have hin310 : ¬ (qq < 0 ∨ cl310.slots.size ≤ (qq).toNatClampNeg) := inb_of Sz310 (own_in4 d_qq)
    have hat310 : cl310.slots[(qq).toNatClampNeg]? = some (.ref (own_pick qq b5 b10 b15 b20)) := Hh310.at hin310 (own_pickat d_qq b5 b10 b15 b20)
    have f311 := (f305.keep Kq306 (ninS (Nat.ne_of_lt (Nat.lt_of_lt_of_le A109.lt (Nat.le_trans Kq112.1 sq277_1))) (ninS (Nat.ne_of_lt (Nat.lt_of_lt_of_le A109.lt (Nat.le_trans (Nat.le_refl _) sq112_0))) nin0)))
    have f312 := (f296_2.keep Kq306 (ninS (Ne.symm (Nat.ne_of_lt (Nat.lt_of_lt_of_le f277_6.lt (Nat.le_trans Kq286.1 sq296_0)))) (ninS (Ne.symm (Nat.ne_of_lt (Nat.lt_of_lt_of_le f112_0.lt (Nat.le_trans (Nat.le_trans Kq277.1 Kq286.1) sq296_0)))) nin0)))
    have f313 := (f296_3.keep Kq306 (ninS (Ne.symm (Nat.ne_of_lt (Nat.lt_of_lt_of_le f277_6.lt (Nat.le_trans Kq286.1 sq296_0)))) (ninS (Ne.symm (Nat.ne_of_lt (Nat.lt_of_lt_of_le f112_0.lt (Nat.le_trans (Nat.le_trans Kq277.1 Kq286.1) sq296_0)))) nin0)))
    have f314 := ((f286_2.keep Kq296 (ninS (Ne.symm (Nat.ne_of_lt (Nat.lt_of_lt_of_le f277_6.lt (Nat.le_trans (Nat.le_refl _) sq286_0)))) (ninS (Ne.symm (Nat.ne_of_lt (Nat.lt_of_lt_of_le f112_0.lt (Nat.le_trans Kq277.1 sq286_0)))) nin0))).keep Kq306 (ninS (Ne.symm (Nat.ne_of_lt (Nat.lt_of_lt_of_le f277_6.lt (Nat.le_trans (Nat.le_refl _) sq286_0)))) (ninS (Ne.symm (Nat.ne_of_lt (Nat.lt_of_lt_of_le f112_0.lt (Nat.le_trans Kq277.1 sq286_0)))) nin0)))
    have f315 := ((f286_3.keep Kq296 (ninS (Ne.symm (Nat.ne_of_lt (Nat.lt_of_lt_of_le f277_6.lt (Nat.le_trans (Nat.le_refl _) sq286_0)))) (ninS (Ne.symm (Nat.ne_of_lt (Nat.lt_of_lt_of_le f112_0.lt (Nat.le_trans Kq277.1 sq286_0)))) nin0))).keep Kq306 (ninS (Ne.symm (Nat.ne_of_lt (Nat.lt_of_lt_of_le f277_6.lt (Nat.le_trans (Nat.le_refl _) sq286_0)))) (ninS (Ne.symm (Nat.ne_of_lt (Nat.lt_of_lt_of_le f112_0.lt (Nat.le_trans Kq277.1 sq286_0)))) nin0)))
    have f316 := (((f277_2.keep Kq286 (ninS f277_9 (ninS (Ne.symm (Nat.ne_of_lt (Nat.lt_of_lt_of_le f112_0.lt (Nat.le_trans (Nat.le_refl _) sq277_0)))) nin0))).keep Kq296 (ninS f277_9 (ninS (Ne.symm (Nat.ne_of_lt (Nat.lt_of_lt_of_le f112_0.lt (Nat.le_trans (Nat.le_refl _) sq277_0)))) nin0))).keep Kq306 (ninS f277_9 (ninS (Ne.symm (Nat.ne_of_lt (Nat.lt_of_lt_of_le f112_0.lt (Nat.le_trans (Nat.le_refl _) sq277_0)))) nin0)))
    have f317 := (((f277_3.keep Kq286 (ninS f277_9 (ninS (Ne.symm (Nat.ne_of_lt (Nat.lt_of_lt_of_le f112_0.lt (Nat.le_trans (Nat.le_refl _) sq277_0)))) nin0))).keep Kq296 (ninS f277_9 (ninS (Ne.symm (Nat.ne_of_lt (Nat.lt_of_lt_of_le f112_0.lt (Nat.le_trans (Nat.le_refl _) sq277_0)))) nin0))).keep Kq306 (ninS f277_9 (ninS (Ne.symm (Nat.ne_of_lt (Nat.lt_of_lt_of_le f112_0.lt (Nat.le_trans (Nat.le_refl _) sq277_0)))) nin0)))
    obtain ⟨cl318, Ar318, Cq318, Sz318, Nn318, Hh318, Gg318⟩ := id f306_5
    have hin318 : ¬ ((3 : Int32) < 0 ∨ cl318.slots.size ≤ ((3 : Int32)).toNatClampNeg) := inb_of Sz318 ⟨by decide, by decide⟩
    have hat318 : cl318.slots[((3 : Int32)).toNatClampNeg]? = some (.ref b306_0) := Hh318.at hin318 rfl
    obtain ⟨cl319, Ar319, Cq319, Sz319, Nn319, Hh319, Gg319⟩ := id f306_5
    have hin319 : ¬ ((2 : Int32) < 0 ∨ cl319.slots.size ≤ ((2 : Int32)).toNatClampNeg) := inb_of Sz319 ⟨by decide, by decide⟩
    have hat319 : cl319.slots[((2 : Int32)).toNatClampNeg]? = some (.ref b296_0) := Hh319.at hin319 rfl
    have f320 := (f296_0.keep Kq306)
    obtain ⟨cl321, Ar321, Cq321, Sz321, Nn321, Hh321, Gg321⟩ := id f306_5
    have hin321 : ¬ ((1 : Int32) < 0 ∨ cl321.slots.size ≤ ((1 : Int32)).toNatClampNeg) := inb_of Sz321 ⟨by decide, by decide⟩
    have hat321 : cl321.slots[((1 : Int32)).toNatClampNeg]? = some (.ref b286_0) := Hh321.at hin321 rfl
    have f322 := ((f286_0.keep Kq296).keep Kq306)
    obtain ⟨cl323, Ar323, Cq323, Sz323, Nn323, Hh323, Gg323⟩ := id f306_5
    have hin323 : ¬ ((0 : Int32) < 0 ∨ cl323.slots.size ≤ ((0 : Int32)).toNatClampNeg) := inb_of Sz323 ⟨by decide, by decide⟩
    have hat323 : cl323.slots[((0 : Int32)).toNatClampNeg]? = some (.ref b277_0) := Hh323.at hin323 rfl
    have f324 := (((f277_0.keep Kq286).keep Kq296).keep Kq306)
    have f326 := (f307.keep Kq306)
    obtain ⟨cq325, kq325, q325a, q325b, q325c⟩ := isOf hZ rfl f326
    obtain ⟨_, _, ⟨T325, L325, k325, n325⟩, -, X325, ⟨Lc325, hQ325, l325, y325, z325⟩, st325⟩ := X306.virtualBack hx (y := own_y6) (z := own_y6) hown (mvT hZ (hw _ (List.mem_of_getElem? (i := 84) rfl))) (mvT hZ (hw _ (List.mem_of_getElem? (i := 85) rfl))) (notFace_of_selects (args := #[]) (mvT hZ (hw _ (List.mem_of_getElem? (i := 87) rfl)))) (mvT hZ (hw _ (List.mem_of_getElem? (i := 87) rfl))) (mvT hZ (hw _ (List.mem_of_getElem? (i := 86) rfl))) (by decide) (backOf (W := 0) (rm10d l Z a0 hw [] b109 (own_pick qq b5 b10 b15 b20) b112_0 b277_1 cl318 b306_0 (own_pick s3 b5 b10 b15 b20) v95 cl319 b296_0 (own_pick s2 b5 b10 b15 b20) v80 cl321 b286_0 (own_pick s1 b5 b10 b15 b20) v65 cl323 b277_0 (own_pick s0 b5 b10 b15 b20) v50 T306.heap n0 (Nat.le_trans Z0 K308.1) f311 f306_6 f306_4 f306_8 ⟨Ar318, hin318, hat318⟩ f306_0 f306_2 hr95 f306_3 ⟨Ar319, hin319, hat319⟩ f320 f312 hr80 f313 ⟨Ar321, hin321, hat321⟩ f322 f314 hr65 f315 ⟨Ar323, hin323, hat323⟩ f324 f316 hr50 f317) hZ (hw _ (List.mem_of_getElem? (i := 88) rfl)) (hw _ (List.mem_of_getElem? (i := 53) rfl)) (by decide) (by decide)) q325a q325c (g := (mkF m 283 #[.val (.int i1), .val (.int i2), .val (.int i3), .val (.int (4 : Int32)), .val (.int qq), .val (.int s0), .val (.int s1), .val (.int s2), .val (.int s3), .val (.ref b3), .val (.ref b25), .val (.ref b47), .val (.ref b109), .unset, .unset] [(.ref (own_pick qq b5 b10 b15 b20)), (.ref b109)])) rfl (by rw [hml]; rfl) (Steps.refl _) (argsL := [(.ref (own_pick qq b5 b10 b15 b20))]) (rest := []) (lenOf pd_5 rfl) rfl (by show 2 * 0 + _ ≤ _; exact Nat.le_of_eq rfl) (hb hby at_283) (fun _ _ => ⟨rfl, rfl, (by decide : 34 + 0 ≤ _), (by decide : 110 + 0 ≤ _)⟩)
    dsimp only [Pt.U, Pt.locs, Pt.cells, Pt.slots] at X325 l325 y325 z325 st325 hQ325
    subst l325 y325 z325
    obtain ⟨rfl, Nq325, e325, f325_0⟩ := hQ325
    have N325 := Fr.app N306 Nq325
    have pre327 : ∀ t, Steps p.tables e below (T325.setTop (mkF m 299 #[.val (.int i1), .val (.int i2), .val (.int i3), .val (.int (4 : Int32)), .val (.int qq), .val (.int s0), .val (.int s1), .val (.int s2), .val (.int s3), .val (.ref b3), .val (.ref b25), .val (.ref b47), .val (.ref b109), .val (own_r10d (own_pick qq b5 b10 b15 b20) (own_pick s3 b5 b10 b15 b20) v95 (own_pick s2 b5 b10 b15 b20) v80 (own_pick s1 b5 b10 b15 b20) v65 (own_pick s0 b5 b10 b15 b20) v50), .val .null] [(.int qq), (.int s0)])) t → Steps p.tables e below (s₁.setTop (entryFrame m #[(.int i1), (.int i2), (.int i3)] maxLocals)) t := by
      intro t k
      refine pre268 _ ?_
      show Steps p.tables e below (T112.setTop (mkF m 185 #[.val (.int i1), .val (.int i2), .val (.int i3), .val (.int (4 : Int32)), .val (.int qq), .val (.int s0), .val (.int s1), .val (.int s2), .val (.int s3), .val (.ref b3), .val (.ref b25), .val (.ref b47), .val (.ref b109), .unset, .unset] [])) _
      refine XS.iloadN X112.here hx rfl (hb hby at_185) rfl ?_
      refine XS.ifNo X112.here hx rfl (hb hby at_186) rfl ((if0 _ _).trans (tlt (by decide : (0 : Int32) < (4 : Int32))).2.2.2) ?_
      show Steps p.tables e below (T112.setTop (mkF m 189 #[.val (.int i1), .val (.int i2), .val (.int i3), .val (.int (4 : Int32)), .val (.int qq), .val (.int s0), .val (.int s1), .val (.int s2), .val (.int s3), .val (.ref b3), .val (.ref b25), .val (.ref b47), .val (.ref b109), .unset, .unset] [])) _
      refine XS.aload X112.here hx rfl (hb hby at_189) rfl rfl ?_
      refine XS.aload X112.here hx rfl (hb hby at_191) rfl rfl ?_
      show Steps p.tables e below (T112.setTop (mkF m 193 #[.val (.int i1), .val (.int i2), .val (.int i3), .val (.int (4 : Int32)), .val (.int qq), .val (.int s0), .val (.int s1), .val (.int s2), .val (.int s3), .val (.ref b3), .val (.ref b25), .val (.ref b47), .val (.ref b109), .unset, .unset] [(.ref b25), (.ref b109)])) _
      refine XS.iconst X112.here hx rfl (hb hby at_193) ?_
      show Steps p.tables e below (T112.setTop (mkF m 194 #[.val (.int i1), .val (.int i2), .val (.int i3), .val (.int (4 : Int32)), .val (.int qq), .val (.int s0), .val (.int s1), .val (.int s2), .val (.int s3), .val (.ref b3), .val (.ref b25), .val (.ref b47), .val (.ref b109), .unset, .unset] [(.int (0 : Int32)), (.ref b25), (.ref b109)])) _
      refine X112.aaload hx (j := (0 : Int32)) (v := (.ref b27)) (by exact Ar270.1) (State.isArrayOf_alike hZ.alike Ar270.2.1) rfl Ar270.2.2 hin270 hat270 (g := (mkF m 194 #[.val (.int i1), .val (.int i2), .val (.int i3), .val (.int (4 : Int32)), .val (.int qq), .val (.int s0), .val (.int s1), .val (.int s2), .val (.int s3), .val (.ref b3), .val (.ref b25), .val (.ref b47), .val (.ref b109), .unset, .unset] [(.int (0 : Int32)), (.ref b25), (.ref b109)])) rfl rfl (hb hby at_194) _ ?_
      show Steps p.tables e below (T112.setTop (mkF m 195 #[.val (.int i1), .val (.int i2), .val (.int i3), .val (.int (4 : Int32)), .val (.int qq), .val (.int s0), .val (.int s1), .val (.int s2), .val (.int s3), .val (.ref b3), .val (.ref b25), .val (.ref b47), .val (.ref b109), .unset, .unset] [(.ref b27), (.ref b109)])) _
      refine XS.aload X112.here hx rfl (hb hby at_195) rfl rfl ?_
      refine XS.iload X112.here hx rfl (hb hby at_197) rfl ?_
      show Steps p.tables e below (T112.setTop (mkF m 199 #[.val (.int i1), .val (.int i2), .val (.int i3), .val (.int (4 : Int32)), .val (.int qq), .val (.int s0), .val (.int s1), .val (.int s2), .val (.int s3), .val (.ref b3), .val (.ref b25), .val (.ref b47), .val (.ref b109), .unset, .unset] [(.int s0), (.ref b3), (.ref b27), (.ref b109)])) _
      refine X112.aaload hx (j := s0) (v := (.ref (own_pick s0 b5 b10 b15 b20))) (by exact Ar272.1) (State.isArrayOf_alike hZ.alike Ar272.2.1) rfl Ar272.2.2 hin272 hat272 (g := (mkF m 199 #[.val (.int i1), .val (.int i2), .val (.int i3), .val (.int (4 : Int32)), .val (.int qq), .val (.int s0), .val (.int s1), .val (.int s2), .val (.int s3), .val (.ref b3), .val (.ref b25), .val (.ref b47), .val (.ref b109), .unset, .unset] [(.int s0), (.ref b3), (.ref b27), (.ref b109)])) rfl rfl (hb hby at_199) _ ?_
      show Steps p.tables e below (T112.setTop (mkF m 200 #[.val (.int i1), .val (.int i2), .val (.int i3), .val (.int (4 : Int32)), .val (.int qq), .val (.int s0), .val (.int s1), .val (.int s2), .val (.int s3), .val (.ref b3), .val (.ref b25), .val (.ref b47), .val (.ref b109), .unset, .unset] [(.ref (own_pick s0 b5 b10 b15 b20)), (.ref b27), (.ref b109)])) _
      refine XS.aload X112.here hx rfl (hb hby at_200) rfl rfl ?_
      refine XS.iconst X112.here hx rfl (hb hby at_202) ?_
      show Steps p.tables e below (T112.setTop (mkF m 203 #[.val (.int i1), .val (.int i2), .val (.int i3), .val (.int (4 : Int32)), .val (.int qq), .val (.int s0), .val (.int s1), .val (.int s2), .val (.int s3), .val (.ref b3), .val (.ref b25), .val (.ref b47), .val (.ref b109), .unset, .unset] [(.int (0 : Int32)), (.ref b47), (.ref (own_pick s0 b5 b10 b15 b20)), (.ref b27), (.ref b109)])) _
      refine X112.aaload hx (j := (0 : Int32)) (v := v50) (by exact Ar274.1) (State.isArrayOf_alike hZ.alike Ar274.2.1) rfl Ar274.2.2 hin274 hat274 (g := (mkF m 203 #[.val (.int i1), .val (.int i2), .val (.int i3), .val (.int (4 : Int32)), .val (.int qq), .val (.int s0), .val (.int s1), .val (.int s2), .val (.int s3), .val (.ref b3), .val (.ref b25), .val (.ref b47), .val (.ref b109), .unset, .unset] [(.int (0 : Int32)), (.ref b47), (.ref (own_pick s0 b5 b10 b15 b20)), (.ref b27), (.ref b109)])) rfl rfl (hb hby at_203) _ ?_
      show Steps p.tables e below (T112.setTop (mkF m 204 #[.val (.int i1), .val (.int i2), .val (.int i3), .val (.int (4 : Int32)), .val (.int qq), .val (.int s0), .val (.int s1), .val (.int s2), .val (.int s3), .val (.ref b3), .val (.ref b25), .val (.ref b47), .val (.ref b109), .unset, .unset] [v50, (.ref (own_pick s0 b5 b10 b15 b20)), (.ref b27), (.ref b109)])) _
      refine st277.trans ?_
      show Steps p.tables e below (T277.setTop (mkF m 207 #[.val (.int i1), .val (.int i2), .val (.int i3), .val (.int (4 : Int32)), .val (.int qq), .val (.int s0), .val (.int s1), .val (.int s2), .val (.int s3), .val (.ref b3), .val (.ref b25), .val (.ref b47), .val (.ref b109), .unset, .unset] [])) _
      refine XS.iloadN X277.here hx rfl (hb hby at_207) rfl ?_
      refine XS.iconst X277.here hx rfl (hb hby at_208) ?_
      show Steps p.tables e below (T277.setTop (mkF m 209 #[.val (.int i1), .val (.int i2), .val (.int i3), .val (.int (4 : Int32)), .val (.int qq), .val (.int s0), .val (.int s1), .val (.int s2), .val (.int s3), .val (.ref b3), .val (.ref b25), .val (.ref b47), .val (.ref b109), .unset, .unset] [(.int (1 : Int32)), (.int (4 : Int32))])) _
      refine XS.icmpNo X277.here hx rfl (hb hby at_209) rfl (tlt (by decide : (1 : Int32) < (4 : Int32))).2.2.2 ?_
      refine XS.aload X277.here hx rfl (hb hby at_212) rfl rfl ?_
      show Steps p.tables e below (T277.setTop (mkF m 214 #[.val (.int i1), .val (.int i2), .val (.int i3), .val (.int (4 : Int32)), .val (.int qq), .val (.int s0), .val (.int s1), .val (.int s2), .val (.int s3), .val (.ref b3), .val (.ref b25), .val (.ref b47), .val (.ref b109), .unset, .unset] [(.ref b109)])) _
      refine XS.aload X277.here hx rfl (hb hby at_214) rfl rfl ?_
      refine XS.iconst X277.here hx rfl (hb hby at_216) ?_
      show Steps p.tables e below (T277.setTop (mkF m 217 #[.val (.int i1), .val (.int i2), .val (.int i3), .val (.int (4 : Int32)), .val (.int qq), .val (.int s0), .val (.int s1), .val (.int s2), .val (.int s3), .val (.ref b3), .val (.ref b25), .val (.ref b47), .val (.ref b109), .unset, .unset] [(.int (1 : Int32)), (.ref b25), (.ref b109)])) _
      refine X277.aaload hx (j := (1 : Int32)) (v := (.ref b32)) (by exact Ar280.1) (State.isArrayOf_alike hZ.alike Ar280.2.1) rfl Ar280.2.2 hin280 hat280 (g := (mkF m 217 #[.val (.int i1), .val (.int i2), .val (.int i3), .val (.int (4 : Int32)), .val (.int qq), .val (.int s0), .val (.int s1), .val (.int s2), .val (.int s3), .val (.ref b3), .val (.ref b25), .val (.ref b47), .val (.ref b109), .unset, .unset] [(.int (1 : Int32)), (.ref b25), (.ref b109)])) rfl rfl (hb hby at_217) _ ?_
      show Steps p.tables e below (T277.setTop (mkF m 218 #[.val (.int i1), .val (.int i2), .val (.int i3), .val (.int (4 : Int32)), .val (.int qq), .val (.int s0), .val (.int s1), .val (.int s2), .val (.int s3), .val (.ref b3), .val (.ref b25), .val (.ref b47), .val (.ref b109), .unset, .unset] [(.ref b32), (.ref b109)])) _
      refine XS.aload X277.here hx rfl (hb hby at_218) rfl rfl ?_
      refine XS.iload X277.here hx rfl (hb hby at_220) rfl ?_
      show Steps p.tables e below (T277.setTop (mkF m 222 #[.val (.int i1), .val (.int i2), .val (.int i3), .val (.int (4 : Int32)), .val (.int qq), .val (.int s0), .val (.int s1), .val (.int s2), .val (.int s3), .val (.ref b3), .val (.ref b25), .val (.ref b47), .val (.ref b109), .unset, .unset] [(.int s1), (.ref b3), (.ref b32), (.ref b109)])) _
      refine X277.aaload hx (j := s1) (v := (.ref (own_pick s1 b5 b10 b15 b20))) (by exact Ar282.1) (State.isArrayOf_alike hZ.alike Ar282.2.1) rfl Ar282.2.2 hin282 hat282 (g := (mkF m 222 #[.val (.int i1), .val (.int i2), .val (.int i3), .val (.int (4 : Int32)), .val (.int qq), .val (.int s0), .val (.int s1), .val (.int s2), .val (.int s3), .val (.ref b3), .val (.ref b25), .val (.ref b47), .val (.ref b109), .unset, .unset] [(.int s1), (.ref b3), (.ref b32), (.ref b109)])) rfl rfl (hb hby at_222) _ ?_
      show Steps p.tables e below (T277.setTop (mkF m 223 #[.val (.int i1), .val (.int i2), .val (.int i3), .val (.int (4 : Int32)), .val (.int qq), .val (.int s0), .val (.int s1), .val (.int s2), .val (.int s3), .val (.ref b3), .val (.ref b25), .val (.ref b47), .val (.ref b109), .unset, .unset] [(.ref (own_pick s1 b5 b10 b15 b20)), (.ref b32), (.ref b109)])) _
      refine XS.aload X277.here hx rfl (hb hby at_223) rfl rfl ?_
      refine XS.iconst X277.here hx rfl (hb hby at_225) ?_
      show Steps p.tables e below (T277.setTop (mkF m 226 #[.val (.int i1), .val (.int i2), .val (.int i3), .val (.int (4 : Int32)), .val (.int qq), .val (.int s0), .val (.int s1), .val (.int s2), .val (.int s3), .val (.ref b3), .val (.ref b25), .val (.ref b47), .val (.ref b109), .unset, .unset] [(.int (1 : Int32)), (.ref b47), (.ref (own_pick s1 b5 b10 b15 b20)), (.ref b32), (.ref b109)])) _
      refine X277.aaload hx (j := (1 : Int32)) (v := v65) (by exact Ar284.1) (State.isArrayOf_alike hZ.alike Ar284.2.1) rfl Ar284.2.2 hin284 hat284 (g := (mkF m 226 #[.val (.int i1), .val (.int i2), .val (.int i3), .val (.int (4 : Int32)), .val (.int qq), .val (.int s0), .val (.int s1), .val (.int s2), .val (.int s3), .val (.ref b3), .val (.ref b25), .val (.ref b47), .val (.ref b109), .unset, .unset] [(.int (1 : Int32)), (.ref b47), (.ref (own_pick s1 b5 b10 b15 b20)), (.ref b32), (.ref b109)])) rfl rfl (hb hby at_226) _ ?_
      show Steps p.tables e below (T277.setTop (mkF m 227 #[.val (.int i1), .val (.int i2), .val (.int i3), .val (.int (4 : Int32)), .val (.int qq), .val (.int s0), .val (.int s1), .val (.int s2), .val (.int s3), .val (.ref b3), .val (.ref b25), .val (.ref b47), .val (.ref b109), .unset, .unset] [v65, (.ref (own_pick s1 b5 b10 b15 b20)), (.ref b32), (.ref b109)])) _
      refine st286.trans ?_
      show Steps p.tables e below (T286.setTop (mkF m 230 #[.val (.int i1), .val (.int i2), .val (.int i3), .val (.int (4 : Int32)), .val (.int qq), .val (.int s0), .val (.int s1), .val (.int s2), .val (.int s3), .val (.ref b3), .val (.ref b25), .val (.ref b47), .val (.ref b109), .unset, .unset] [])) _
      refine XS.iloadN X286.here hx rfl (hb hby at_230) rfl ?_
      refine XS.iconst X286.here hx rfl (hb hby at_231) ?_
      show Steps p.tables e below (T286.setTop (mkF m 232 #[.val (.int i1), .val (.int i2), .val (.int i3), .val (.int (4 : Int32)), .val (.int qq), .val (.int s0), .val (.int s1), .val (.int s2), .val (.int s3), .val (.ref b3), .val (.ref b25), .val (.ref b47), .val (.ref b109), .unset, .unset] [(.int (2 : Int32)), (.int (4 : Int32))])) _
      refine XS.icmpNo X286.here hx rfl (hb hby at_232) rfl (tlt (by decide : (2 : Int32) < (4 : Int32))).2.2.2 ?_
      refine XS.aload X286.here hx rfl (hb hby at_235) rfl rfl ?_
      show Steps p.tables e below (T286.setTop (mkF m 237 #[.val (.int i1), .val (.int i2), .val (.int i3), .val (.int (4 : Int32)), .val (.int qq), .val (.int s0), .val (.int s1), .val (.int s2), .val (.int s3), .val (.ref b3), .val (.ref b25), .val (.ref b47), .val (.ref b109), .unset, .unset] [(.ref b109)])) _
      refine XS.aload X286.here hx rfl (hb hby at_237) rfl rfl ?_
      refine XS.iconst X286.here hx rfl (hb hby at_239) ?_
      show Steps p.tables e below (T286.setTop (mkF m 240 #[.val (.int i1), .val (.int i2), .val (.int i3), .val (.int (4 : Int32)), .val (.int qq), .val (.int s0), .val (.int s1), .val (.int s2), .val (.int s3), .val (.ref b3), .val (.ref b25), .val (.ref b47), .val (.ref b109), .unset, .unset] [(.int (2 : Int32)), (.ref b25), (.ref b109)])) _
      refine X286.aaload hx (j := (2 : Int32)) (v := (.ref b37)) (by exact Ar290.1) (State.isArrayOf_alike hZ.alike Ar290.2.1) rfl Ar290.2.2 hin290 hat290 (g := (mkF m 240 #[.val (.int i1), .val (.int i2), .val (.int i3), .val (.int (4 : Int32)), .val (.int qq), .val (.int s0), .val (.int s1), .val (.int s2), .val (.int s3), .val (.ref b3), .val (.ref b25), .val (.ref b47), .val (.ref b109), .unset, .unset] [(.int (2 : Int32)), (.ref b25), (.ref b109)])) rfl rfl (hb hby at_240) _ ?_
      show Steps p.tables e below (T286.setTop (mkF m 241 #[.val (.int i1), .val (.int i2), .val (.int i3), .val (.int (4 : Int32)), .val (.int qq), .val (.int s0), .val (.int s1), .val (.int s2), .val (.int s3), .val (.ref b3), .val (.ref b25), .val (.ref b47), .val (.ref b109), .unset, .unset] [(.ref b37), (.ref b109)])) _
      refine XS.aload X286.here hx rfl (hb hby at_241) rfl rfl ?_
      refine XS.iload X286.here hx rfl (hb hby at_243) rfl ?_
      show Steps p.tables e below (T286.setTop (mkF m 245 #[.val (.int i1), .val (.int i2), .val (.int i3), .val (.int (4 : Int32)), .val (.int qq), .val (.int s0), .val (.int s1), .val (.int s2), .val (.int s3), .val (.ref b3), .val (.ref b25), .val (.ref b47), .val (.ref b109), .unset, .unset] [(.int s2), (.ref b3), (.ref b37), (.ref b109)])) _
      refine X286.aaload hx (j := s2) (v := (.ref (own_pick s2 b5 b10 b15 b20))) (by exact Ar292.1) (State.isArrayOf_alike hZ.alike Ar292.2.1) rfl Ar292.2.2 hin292 hat292 (g := (mkF m 245 #[.val (.int i1), .val (.int i2), .val (.int i3), .val (.int (4 : Int32)), .val (.int qq), .val (.int s0), .val (.int s1), .val (.int s2), .val (.int s3), .val (.ref b3), .val (.ref b25), .val (.ref b47), .val (.ref b109), .unset, .unset] [(.int s2), (.ref b3), (.ref b37), (.ref b109)])) rfl rfl (hb hby at_245) _ ?_
      show Steps p.tables e below (T286.setTop (mkF m 246 #[.val (.int i1), .val (.int i2), .val (.int i3), .val (.int (4 : Int32)), .val (.int qq), .val (.int s0), .val (.int s1), .val (.int s2), .val (.int s3), .val (.ref b3), .val (.ref b25), .val (.ref b47), .val (.ref b109), .unset, .unset] [(.ref (own_pick s2 b5 b10 b15 b20)), (.ref b37), (.ref b109)])) _
      refine XS.aload X286.here hx rfl (hb hby at_246) rfl rfl ?_
      refine XS.iconst X286.here hx rfl (hb hby at_248) ?_
      show Steps p.tables e below (T286.setTop (mkF m 249 #[.val (.int i1), .val (.int i2), .val (.int i3), .val (.int (4 : Int32)), .val (.int qq), .val (.int s0), .val (.int s1), .val (.int s2), .val (.int s3), .val (.ref b3), .val (.ref b25), .val (.ref b47), .val (.ref b109), .unset, .unset] [(.int (2 : Int32)), (.ref b47), (.ref (own_pick s2 b5 b10 b15 b20)), (.ref b37), (.ref b109)])) _
      refine X286.aaload hx (j := (2 : Int32)) (v := v80) (by exact Ar294.1) (State.isArrayOf_alike hZ.alike Ar294.2.1) rfl Ar294.2.2 hin294 hat294 (g := (mkF m 249 #[.val (.int i1), .val (.int i2), .val (.int i3), .val (.int (4 : Int32)), .val (.int qq), .val (.int s0), .val (.int s1), .val (.int s2), .val (.int s3), .val (.ref b3), .val (.ref b25), .val (.ref b47), .val (.ref b109), .unset, .unset] [(.int (2 : Int32)), (.ref b47), (.ref (own_pick s2 b5 b10 b15 b20)), (.ref b37), (.ref b109)])) rfl rfl (hb hby at_249) _ ?_
      show Steps p.tables e below (T286.setTop (mkF m 250 #[.val (.int i1), .val (.int i2), .val (.int i3), .val (.int (4 : Int32)), .val (.int qq), .val (.int s0), .val (.int s1), .val (.int s2), .val (.int s3), .val (.ref b3), .val (.ref b25), .val (.ref b47), .val (.ref b109), .unset, .unset] [v80, (.ref (own_pick s2 b5 b10 b15 b20)), (.ref b37), (.ref b109)])) _
      refine st296.trans ?_
      show Steps p.tables e below (T296.setTop (mkF m 253 #[.val (.int i1), .val (.int i2), .val (.int i3), .val (.int (4 : Int32)), .val (.int qq), .val (.int s0), .val (.int s1), .val (.int s2), .val (.int s3), .val (.ref b3), .val (.ref b25), .val (.ref b47), .val (.ref b109), .unset, .unset] [])) _
      refine XS.iloadN X296.here hx rfl (hb hby at_253) rfl ?_
      refine XS.iconst X296.here hx rfl (hb hby at_254) ?_
      show Steps p.tables e below (T296.setTop (mkF m 255 #[.val (.int i1), .val (.int i2), .val (.int i3), .val (.int (4 : Int32)), .val (.int qq), .val (.int s0), .val (.int s1), .val (.int s2), .val (.int s3), .val (.ref b3), .val (.ref b25), .val (.ref b47), .val (.ref b109), .unset, .unset] [(.int (3 : Int32)), (.int (4 : Int32))])) _
      refine XS.icmpNo X296.here hx rfl (hb hby at_255) rfl (tlt (by decide : (3 : Int32) < (4 : Int32))).2.2.2 ?_
      refine XS.aload X296.here hx rfl (hb hby at_258) rfl rfl ?_
      show Steps p.tables e below (T296.setTop (mkF m 260 #[.val (.int i1), .val (.int i2), .val (.int i3), .val (.int (4 : Int32)), .val (.int qq), .val (.int s0), .val (.int s1), .val (.int s2), .val (.int s3), .val (.ref b3), .val (.ref b25), .val (.ref b47), .val (.ref b109), .unset, .unset] [(.ref b109)])) _
      refine XS.aload X296.here hx rfl (hb hby at_260) rfl rfl ?_
      refine XS.iconst X296.here hx rfl (hb hby at_262) ?_
      show Steps p.tables e below (T296.setTop (mkF m 263 #[.val (.int i1), .val (.int i2), .val (.int i3), .val (.int (4 : Int32)), .val (.int qq), .val (.int s0), .val (.int s1), .val (.int s2), .val (.int s3), .val (.ref b3), .val (.ref b25), .val (.ref b47), .val (.ref b109), .unset, .unset] [(.int (3 : Int32)), (.ref b25), (.ref b109)])) _
      refine X296.aaload hx (j := (3 : Int32)) (v := (.ref b42)) (by exact Ar300.1) (State.isArrayOf_alike hZ.alike Ar300.2.1) rfl Ar300.2.2 hin300 hat300 (g := (mkF m 263 #[.val (.int i1), .val (.int i2), .val (.int i3), .val (.int (4 : Int32)), .val (.int qq), .val (.int s0), .val (.int s1), .val (.int s2), .val (.int s3), .val (.ref b3), .val (.ref b25), .val (.ref b47), .val (.ref b109), .unset, .unset] [(.int (3 : Int32)), (.ref b25), (.ref b109)])) rfl rfl (hb hby at_263) _ ?_
      show Steps p.tables e below (T296.setTop (mkF m 264 #[.val (.int i1), .val (.int i2), .val (.int i3), .val (.int (4 : Int32)), .val (.int qq), .val (.int s0), .val (.int s1), .val (.int s2), .val (.int s3), .val (.ref b3), .val (.ref b25), .val (.ref b47), .val (.ref b109), .unset, .unset] [(.ref b42), (.ref b109)])) _
      refine XS.aload X296.here hx rfl (hb hby at_264) rfl rfl ?_
      refine XS.iload X296.here hx rfl (hb hby at_266) rfl ?_
      show Steps p.tables e below (T296.setTop (mkF m 268 #[.val (.int i1), .val (.int i2), .val (.int i3), .val (.int (4 : Int32)), .val (.int qq), .val (.int s0), .val (.int s1), .val (.int s2), .val (.int s3), .val (.ref b3), .val (.ref b25), .val (.ref b47), .val (.ref b109), .unset, .unset] [(.int s3), (.ref b3), (.ref b42), (.ref b109)])) _
      refine X296.aaload hx (j := s3) (v := (.ref (own_pick s3 b5 b10 b15 b20))) (by exact Ar302.1) (State.isArrayOf_alike hZ.alike Ar302.2.1) rfl Ar302.2.2 hin302 hat302 (g := (mkF m 268 #[.val (.int i1), .val (.int i2), .val (.int i3), .val (.int (4 : Int32)), .val (.int qq), .val (.int s0), .val (.int s1), .val (.int s2), .val (.int s3), .val (.ref b3), .val (.ref b25), .val (.ref b47), .val (.ref b109), .unset, .unset] [(.int s3), (.ref b3), (.ref b42), (.ref b109)])) rfl rfl (hb hby at_268) _ ?_
      show Steps p.tables e below (T296.setTop (mkF m 269 #[.val (.int i1), .val (.int i2), .val (.int i3), .val (.int (4 : Int32)), .val (.int qq), .val (.int s0), .val (.int s1), .val (.int s2), .val (.int s3), .val (.ref b3), .val (.ref b25), .val (.ref b47), .val (.ref b109), .unset, .unset] [(.ref (own_pick s3 b5 b10 b15 b20)), (.ref b42), (.ref b109)])) _
      refine XS.aload X296.here hx rfl (hb hby at_269) rfl rfl ?_
      refine XS.iconst X296.here hx rfl (hb hby at_271) ?_
      show Steps p.tables e below (T296.setTop (mkF m 272 #[.val (.int i1), .val (.int i2), .val (.int i3), .val (.int (4 : Int32)), .val (.int qq), .val (.int s0), .val (.int s1), .val (.int s2), .val (.int s3), .val (.ref b3), .val (.ref b25), .val (.ref b47), .val (.ref b109), .unset, .unset] [(.int (3 : Int32)), (.ref b47), (.ref (own_pick s3 b5 b10 b15 b20)), (.ref b42), (.ref b109)])) _
      refine X296.aaload hx (j := (3 : Int32)) (v := v95) (by exact Ar304.1) (State.isArrayOf_alike hZ.alike Ar304.2.1) rfl Ar304.2.2 hin304 hat304 (g := (mkF m 272 #[.val (.int i1), .val (.int i2), .val (.int i3), .val (.int (4 : Int32)), .val (.int qq), .val (.int s0), .val (.int s1), .val (.int s2), .val (.int s3), .val (.ref b3), .val (.ref b25), .val (.ref b47), .val (.ref b109), .unset, .unset] [(.int (3 : Int32)), (.ref b47), (.ref (own_pick s3 b5 b10 b15 b20)), (.ref b42), (.ref b109)])) rfl rfl (hb hby at_272) _ ?_
      show Steps p.tables e below (T296.setTop (mkF m 273 #[.val (.int i1), .val (.int i2), .val (.int i3), .val (.int (4 : Int32)), .val (.int qq), .val (.int s0), .val (.int s1), .val (.int s2), .val (.int s3), .val (.ref b3), .val (.ref b25), .val (.ref b47), .val (.ref b109), .unset, .unset] [v95, (.ref (own_pick s3 b5 b10 b15 b20)), (.ref b42), (.ref b109)])) _
      refine st306.trans ?_
      show Steps p.tables e below (T306.setTop (mkF m 276 #[.val (.int i1), .val (.int i2), .val (.int i3), .val (.int (4 : Int32)), .val (.int qq), .val (.int s0), .val (.int s1), .val (.int s2), .val (.int s3), .val (.ref b3), .val (.ref b25), .val (.ref b47), .val (.ref b109), .unset, .unset] [])) _
      refine XS.aload X306.here hx rfl (hb hby at_276) rfl rfl ?_
      refine XS.aload X306.here hx rfl (hb hby at_278) rfl rfl ?_
      show Steps p.tables e below (T306.setTop (mkF m 280 #[.val (.int i1), .val (.int i2), .val (.int i3), .val (.int (4 : Int32)), .val (.int qq), .val (.int s0), .val (.int s1), .val (.int s2), .val (.int s3), .val (.ref b3), .val (.ref b25), .val (.ref b47), .val (.ref b109), .unset, .unset] [(.ref b3), (.ref b109)])) _
      refine XS.iload X306.here hx rfl (hb hby at_280) rfl ?_
      show Steps p.tables e below (T306.setTop (mkF m 282 #[.val (.int i1), .val (.int i2), .val (.int i3), .val (.int (4 : Int32)), .val (.int qq), .val (.int s0), .val (.int s1), .val (.int s2), .val (.int s3), .val (.ref b3), .val (.ref b25), .val (.ref b47), .val (.ref b109), .unset, .unset] [(.int qq), (.ref b3), (.ref b109)])) _
      refine X306.aaload hx (j := qq) (v := (.ref (own_pick qq b5 b10 b15 b20))) (by exact Ar310.1) (State.isArrayOf_alike hZ.alike Ar310.2.1) rfl Ar310.2.2 hin310 hat310 (g := (mkF m 282 #[.val (.int i1), .val (.int i2), .val (.int i3), .val (.int (4 : Int32)), .val (.int qq), .val (.int s0), .val (.int s1), .val (.int s2), .val (.int s3), .val (.ref b3), .val (.ref b25), .val (.ref b47), .val (.ref b109), .unset, .unset] [(.int qq), (.ref b3), (.ref b109)])) rfl rfl (hb hby at_282) _ ?_
      show Steps p.tables e below (T306.setTop (mkF m 283 #[.val (.int i1), .val (.int i2), .val (.int i3), .val (.int (4 : Int32)), .val (.int qq), .val (.int s0), .val (.int s1), .val (.int s2), .val (.int s3), .val (.ref b3), .val (.ref b25), .val (.ref b47), .val (.ref b109), .unset, .unset] [(.ref (own_pick qq b5 b10 b15 b20)), (.ref b109)])) _
      refine st325.trans ?_
      show Steps p.tables e below (T325.setTop (mkF m 286 #[.val (.int i1), .val (.int i2), .val (.int i3), .val (.int (4 : Int32)), .val (.int qq), .val (.int s0), .val (.int s1), .val (.int s2), .val (.int s3), .val (.ref b3), .val (.ref b25), .val (.ref b47), .val (.ref b109), .unset, .unset] [(own_r10d (own_pick qq b5 b10 b15 b20) (own_pick s3 b5 b10 b15 b20) v95 (own_pick s2 b5 b10 b15 b20) v80 (own_pick s1 b5 b10 b15 b20) v65 (own_pick s0 b5 b10 b15 b20) v50)])) _
      refine XS.astore X325.here hx rfl (hb hby at_286) rfl f325_0 (l' := #[.val (.int i1), .val (.int i2), .val (.int i3), .val (.int (4 : Int32)), .val (.int qq), .val (.int s0), .val (.int s1), .val (.int s2), .val (.int s3), .val (.ref b3), .val (.ref b25), .val (.ref b47), .val (.ref b109), .val (own_r10d (own_pick qq b5 b10 b15 b20) (own_pick s3 b5 b10 b15 b20) v95 (own_pick s2 b5 b10 b15 b20) v80 (own_pick s1 b5 b10 b15 b20) v65 (own_pick s0 b5 b10 b15 b20) v50), .unset]) (show storeLocals #[.val (.int i1), .val (.int i2), .val (.int i3), .val (.int (4 : Int32)), .val (.int qq), .val (.int s0), .val (.int s1), .val (.int s2), .val (.int s3), .val (.ref b3), .val (.ref b25), .val (.ref b47), .val (.ref b109), .unset, .unset] 13 (own_r10d (own_pick qq b5 b10 b15 b20) (own_pick s3 b5 b10 b15 b20) v95 (own_pick s2 b5 b10 b15 b20) v80 (own_pick s1 b5 b10 b15 b20) v65 (own_pick s0 b5 b10 b15 b20) v50) = some #[.val (.int i1), .val (.int i2), .val (.int i3), .val (.int (4 : Int32)), .val (.int qq), .val (.int s0), .val (.int s1), .val (.int s2), .val (.int s3), .val (.ref b3), .val (.ref b25), .val (.ref b47), .val (.ref b109), .val (own_r10d (own_pick qq b5 b10 b15 b20) (own_pick s3 b5 b10 b15 b20) v95 (own_pick s2 b5 b10 b15 b20) v80 (own_pick s1 b5 b10 b15 b20) v65 (own_pick s0 b5 b10 b15 b20) v50), .unset] from XS.store1 (o := .unset) rfl (Or.inl rfl) (Jvm.Free.XT.cat1 f325_0)) ?_
      refine XS.aconstNull X325.here hx rfl (hb hby at_288) ?_
      show Steps p.tables e below (T325.setTop (mkF m 289 #[.val (.int i1), .val (.int i2), .val (.int i3), .val (.int (4 : Int32)), .val (.int qq), .val (.int s0), .val (.int s1), .val (.int s2), .val (.int s3), .val (.ref b3), .val (.ref b25), .val (.ref b47), .val (.ref b109), .val (own_r10d (own_pick qq b5 b10 b15 b20) (own_pick s3 b5 b10 b15 b20) v95 (own_pick s2 b5 b10 b15 b20) v80 (own_pick s1 b5 b10 b15 b20) v65 (own_pick s0 b5 b10 b15 b20) v50), .unset] [.null])) _
      refine XS.astore X325.here hx rfl (hb hby at_289) rfl rfl (l' := #[.val (.int i1), .val (.int i2), .val (.int i3), .val (.int (4 : Int32)), .val (.int qq), .val (.int s0), .val (.int s1), .val (.int s2), .val (.int s3), .val (.ref b3), .val (.ref b25), .val (.ref b47), .val (.ref b109), .val (own_r10d (own_pick qq b5 b10 b15 b20) (own_pick s3 b5 b10 b15 b20) v95 (own_pick s2 b5 b10 b15 b20) v80 (own_pick s1 b5 b10 b15 b20) v65 (own_pick s0 b5 b10 b15 b20) v50), .val .null]) rfl ?_
      refine XS.iloadN X325.here hx rfl (hb hby at_291) rfl ?_
      show Steps p.tables e below (T325.setTop (mkF m 292 #[.val (.int i1), .val (.int i2), .val (.int i3), .val (.int (4 : Int32)), .val (.int qq), .val (.int s0), .val (.int s1), .val (.int s2), .val (.int s3), .val (.ref b3), .val (.ref b25), .val (.ref b47), .val (.ref b109), .val (own_r10d (own_pick qq b5 b10 b15 b20) (own_pick s3 b5 b10 b15 b20) v95 (own_pick s2 b5 b10 b15 b20) v80 (own_pick s1 b5 b10 b15 b20) v65 (own_pick s0 b5 b10 b15 b20) v50), .val .null] [(.int (4 : Int32))])) _
      refine XS.ifNo X325.here hx rfl (hb hby at_292) rfl ((if0 _ _).trans (tlt (by decide : (0 : Int32) < (4 : Int32))).2.2.2) ?_
      refine XS.iload X325.here hx rfl (hb hby at_295) rfl ?_
      show Steps p.tables e below (T325.setTop (mkF m 297 #[.val (.int i1), .val (.int i2), .val (.int i3), .val (.int (4 : Int32)), .val (.int qq), .val (.int s0), .val (.int s1), .val (.int s2), .val (.int s3), .val (.ref b3), .val (.ref b25), .val (.ref b47), .val (.ref b109), .val (own_r10d (own_pick qq b5 b10 b15 b20) (own_pick s3 b5 b10 b15 b20) v95 (own_pick s2 b5 b10 b15 b20) v80 (own_pick s1 b5 b10 b15 b20) v65 (own_pick s0 b5 b10 b15 b20) v50), .val .null] [(.int s0)])) _
      refine XS.iload X325.here hx rfl (hb hby at_297) rfl ?_
      exact k
    have pre333 : ∀ t, Steps p.tables e below (T325.setTop (mkF m 308 #[.val (.int i1), .val (.int i2), .val (.int i3), .val (.int (4 : Int32)), .val (.int qq), .val (.int s0), .val (.int s1), .val (.int s2), .val (.int s3), .val (.ref b3), .val (.ref b25), .val (.ref b47), .val (.ref b109), .val (own_r10d (own_pick qq b5 b10 b15 b20) (own_pick s3 b5 b10 b15 b20) v95 (own_pick s2 b5 b10 b15 b20) v80 (own_pick s1 b5 b10 b15 b20) v65 (own_pick s0 b5 b10 b15 b20) v50), .val (own_j0_299_0 qq s0 v50)] [])) t → Steps p.tables e below (s₁.setTop (entryFrame m #[(.int i1), (.int i2), (.int i3)] maxLocals)) t := by
      by_cases hc299_328 : s0 = qq
      · have f329 := (f303.keep Kq306 (ninS (Nat.ne_of_lt (Nat.lt_of_lt_of_le V47.lt (Nat.le_trans (Nat.le_trans (Nat.le_trans (Nat.le_trans (Nat.le_trans (Nat.le_trans (Nat.le_trans (Nat.le_trans (Nat.le_trans (Nat.le_trans Kq50.1 (Keep.of_wr W62).1) Kq65.1) (Keep.of_wr W77).1) Kq80.1) (Keep.of_wr W92).1) Kq95.1) (Keep.of_wr W107).1) E109.1) Kq112.1) sq277_1))) (ninS (Nat.ne_of_lt (Nat.lt_of_lt_of_le V47.lt (Nat.le_trans (Nat.le_trans (Nat.le_trans (Nat.le_trans (Nat.le_trans (Nat.le_trans (Nat.le_trans (Nat.le_trans (Nat.le_trans Kq50.1 (Keep.of_wr W62).1) Kq65.1) (Keep.of_wr W77).1) Kq80.1) (Keep.of_wr W92).1) Kq95.1) (Keep.of_wr W107).1) E109.1) sq112_0))) nin0)))
        obtain ⟨cl330, Ar330, Cq330, Sz330, Nn330, Hh330, Gg330⟩ := id f329
        have hin330 : ¬ ((0 : Int32) < 0 ∨ cl330.slots.size ≤ ((0 : Int32)).toNatClampNeg) := inb_of Sz330 ⟨by decide, by decide⟩
        have hat330 : cl330.slots[((0 : Int32)).toNatClampNeg]? = some v50 := Hh330.at hin330 rfl
        have pre331 : ∀ t, Steps p.tables e below (T325.setTop (mkF m 308 #[.val (.int i1), .val (.int i2), .val (.int i3), .val (.int (4 : Int32)), .val (.int qq), .val (.int s0), .val (.int s1), .val (.int s2), .val (.int s3), .val (.ref b3), .val (.ref b25), .val (.ref b47), .val (.ref b109), .val (own_r10d (own_pick qq b5 b10 b15 b20) (own_pick s3 b5 b10 b15 b20) v95 (own_pick s2 b5 b10 b15 b20) v80 (own_pick s1 b5 b10 b15 b20) v65 (own_pick s0 b5 b10 b15 b20) v50), .val v50] [])) t → Steps p.tables e below (s₁.setTop (entryFrame m #[(.int i1), (.int i2), (.int i3)] maxLocals)) t := by
          intro t k
          refine pre327 _ ?_
          show Steps p.tables e below (T325.setTop (mkF m 299 #[.val (.int i1), .val (.int i2), .val (.int i3), .val (.int (4 : Int32)), .val (.int qq), .val (.int s0), .val (.int s1), .val (.int s2), .val (.int s3), .val (.ref b3), .val (.ref b25), .val (.ref b47), .val (.ref b109), .val (own_r10d (own_pick qq b5 b10 b15 b20) (own_pick s3 b5 b10 b15 b20) v95 (own_pick s2 b5 b10 b15 b20) v80 (own_pick s1 b5 b10 b15 b20) v65 (own_pick s0 b5 b10 b15 b20) v50), .val .null] [(.int qq), (.int s0)])) _
          refine XS.icmpNo X325.here hx rfl (hb hby at_299) rfl (teq hc299_328).2 ?_
          refine XS.aload X325.here hx rfl (hb hby at_302) rfl rfl ?_
          show Steps p.tables e below (T325.setTop (mkF m 304 #[.val (.int i1), .val (.int i2), .val (.int i3), .val (.int (4 : Int32)), .val (.int qq), .val (.int s0), .val (.int s1), .val (.int s2), .val (.int s3), .val (.ref b3), .val (.ref b25), .val (.ref b47), .val (.ref b109), .val (own_r10d (own_pick qq b5 b10 b15 b20) (own_pick s3 b5 b10 b15 b20) v95 (own_pick s2 b5 b10 b15 b20) v80 (own_pick s1 b5 b10 b15 b20) v65 (own_pick s0 b5 b10 b15 b20) v50), .val .null] [(.ref b47)])) _
          refine XS.iconst X325.here hx rfl (hb hby at_304) ?_
          show Steps p.tables e below (T325.setTop (mkF m 305 #[.val (.int i1), .val (.int i2), .val (.int i3), .val (.int (4 : Int32)), .val (.int qq), .val (.int s0), .val (.int s1), .val (.int s2), .val (.int s3), .val (.ref b3), .val (.ref b25), .val (.ref b47), .val (.ref b109), .val (own_r10d (own_pick qq b5 b10 b15 b20) (own_pick s3 b5 b10 b15 b20) v95 (own_pick s2 b5 b10 b15 b20) v80 (own_pick s1 b5 b10 b15 b20) v65 (own_pick s0 b5 b10 b15 b20) v50), .val .null] [(.int (0 : Int32)), (.ref b47)])) _
          refine X325.aaload hx (j := (0 : Int32)) (v := v50) (by rw [e325]; exact Ar330.1) (State.isArrayOf_alike hZ.alike Ar330.2.1) rfl Ar330.2.2 hin330 hat330 (g := (mkF m 305 #[.val (.int i1), .val (.int i2), .val (.int i3), .val (.int (4 : Int32)), .val (.int qq), .val (.int s0), .val (.int s1), .val (.int s2), .val (.int s3), .val (.ref b3), .val (.ref b25), .val (.ref b47), .val (.ref b109), .val (own_r10d (own_pick qq b5 b10 b15 b20) (own_pick s3 b5 b10 b15 b20) v95 (own_pick s2 b5 b10 b15 b20) v80 (own_pick s1 b5 b10 b15 b20) v65 (own_pick s0 b5 b10 b15 b20) v50), .val .null] [(.int (0 : Int32)), (.ref b47)])) rfl rfl (hb hby at_305) _ ?_
          show Steps p.tables e below (T325.setTop (mkF m 306 #[.val (.int i1), .val (.int i2), .val (.int i3), .val (.int (4 : Int32)), .val (.int qq), .val (.int s0), .val (.int s1), .val (.int s2), .val (.int s3), .val (.ref b3), .val (.ref b25), .val (.ref b47), .val (.ref b109), .val (own_r10d (own_pick qq b5 b10 b15 b20) (own_pick s3 b5 b10 b15 b20) v95 (own_pick s2 b5 b10 b15 b20) v80 (own_pick s1 b5 b10 b15 b20) v65 (own_pick s0 b5 b10 b15 b20) v50), .val .null] [v50])) _
          refine XS.astore X325.here hx rfl (hb hby at_306) rfl hr50 (l' := #[.val (.int i1), .val (.int i2), .val (.int i3), .val (.int (4 : Int32)), .val (.int qq), .val (.int s0), .val (.int s1), .val (.int s2), .val (.int s3), .val (.ref b3), .val (.ref b25), .val (.ref b47), .val (.ref b109), .val (own_r10d (own_pick qq b5 b10 b15 b20) (own_pick s3 b5 b10 b15 b20) v95 (own_pick s2 b5 b10 b15 b20) v80 (own_pick s1 b5 b10 b15 b20) v65 (own_pick s0 b5 b10 b15 b20) v50), .val v50]) (show storeLocals #[.val (.int i1), .val (.int i2), .val (.int i3), .val (.int (4 : Int32)), .val (.int qq), .val (.int s0), .val (.int s1), .val (.int s2), .val (.int s3), .val (.ref b3), .val (.ref b25), .val (.ref b47), .val (.ref b109), .val (own_r10d (own_pick qq b5 b10 b15 b20) (own_pick s3 b5 b10 b15 b20) v95 (own_pick s2 b5 b10 b15 b20) v80 (own_pick s1 b5 b10 b15 b20) v65 (own_pick s0 b5 b10 b15 b20) v50), .val .null] 14 v50 = some #[.val (.int i1), .val (.int i2), .val (.int i3), .val (.int (4 : Int32)), .val (.int qq), .val (.int s0), .val (.int s1), .val (.int s2), .val (.int s3), .val (.ref b3), .val (.ref b25), .val (.ref b47), .val (.ref b109), .val (own_r10d (own_pick qq b5 b10 b15 b20) (own_pick s3 b5 b10 b15 b20) v95 (own_pick s2 b5 b10 b15 b20) v80 (own_pick s1 b5 b10 b15 b20) v65 (own_pick s0 b5 b10 b15 b20) v50), .val v50] from XS.store1 (o := .val .null) rfl (Or.inr ⟨_, rfl, rfl⟩) (Jvm.Free.XT.cat1 hr50)) ?_
          exact k
        exact fun t k => pre331 t (by rw [show (own_j0_299_0 qq s0 v50) = v50 from (if_pos hc299_328)] at k; exact k)
      · have pre332 : ∀ t, Steps p.tables e below (T325.setTop (mkF m 308 #[.val (.int i1), .val (.int i2), .val (.int i3), .val (.int (4 : Int32)), .val (.int qq), .val (.int s0), .val (.int s1), .val (.int s2), .val (.int s3), .val (.ref b3), .val (.ref b25), .val (.ref b47), .val (.ref b109), .val (own_r10d (own_pick qq b5 b10 b15 b20) (own_pick s3 b5 b10 b15 b20) v95 (own_pick s2 b5 b10 b15 b20) v80 (own_pick s1 b5 b10 b15 b20) v65 (own_pick s0 b5 b10 b15 b20) v50), .val .null] [])) t → Steps p.tables e below (s₁.setTop (entryFrame m #[(.int i1), (.int i2), (.int i3)] maxLocals)) t := by
          intro t k
          refine pre327 _ ?_
          show Steps p.tables e below (T325.setTop (mkF m 299 #[.val (.int i1), .val (.int i2), .val (.int i3), .val (.int (4 : Int32)), .val (.int qq), .val (.int s0), .val (.int s1), .val (.int s2), .val (.int s3), .val (.ref b3), .val (.ref b25), .val (.ref b47), .val (.ref b109), .val (own_r10d (own_pick qq b5 b10 b15 b20) (own_pick s3 b5 b10 b15 b20) v95 (own_pick s2 b5 b10 b15 b20) v80 (own_pick s1 b5 b10 b15 b20) v65 (own_pick s0 b5 b10 b15 b20) v50), .val .null] [(.int qq), (.int s0)])) _
          refine XS.icmpYes X325.here hx rfl (pc0 := 299) (pc' := 308) rfl (hb hby at_299) rfl (feq hc299_328).2 (by decide) (by decide) ?_
          exact k
        exact fun t k => pre332 t (by rw [show (own_j0_299_0 qq s0 v50) = Value.null from (if_neg hc299_328)] at k; exact k)
    have hr334 : (own_j0_299_0 qq s0 v50).isRef = true := by
      unfold own_j0_299_0
      repeat' split
      all_goals first | rfl | assumption
    have pre335 : ∀ t, Steps p.tables e below (T325.setTop (mkF m 317 #[.val (.int i1), .val (.int i2), .val (.int i3), .val (.int (4 : Int32)), .val (.int qq), .val (.int s0), .val (.int s1), .val (.int s2), .val (.int s3), .val (.ref b3), .val (.ref b25), .val (.ref b47), .val (.ref b109), .val (own_r10d (own_pick qq b5 b10 b15 b20) (own_pick s3 b5 b10 b15 b20) v95 (own_pick s2 b5 b10 b15 b20) v80 (own_pick s1 b5 b10 b15 b20) v65 (own_pick s0 b5 b10 b15 b20) v50), .val (own_j0_299_0 qq s0 v50)] [(.int qq), (.int s1)])) t → Steps p.tables e below (s₁.setTop (entryFrame m #[(.int i1), (.int i2), (.int i3)] maxLocals)) t := by
      intro t k
      refine pre333 _ ?_
      show Steps p.tables e below (T325.setTop (mkF m 308 #[.val (.int i1), .val (.int i2), .val (.int i3), .val (.int (4 : Int32)), .val (.int qq), .val (.int s0), .val (.int s1), .val (.int s2), .val (.int s3), .val (.ref b3), .val (.ref b25), .val (.ref b47), .val (.ref b109), .val (own_r10d (own_pick qq b5 b10 b15 b20) (own_pick s3 b5 b10 b15 b20) v95 (own_pick s2 b5 b10 b15 b20) v80 (own_pick s1 b5 b10 b15 b20) v65 (own_pick s0 b5 b10 b15 b20) v50), .val (own_j0_299_0 qq s0 v50)] [])) _
      refine XS.iloadN X325.here hx rfl (hb hby at_308) rfl ?_
      refine XS.iconst X325.here hx rfl (hb hby at_309) ?_
      show Steps p.tables e below (T325.setTop (mkF m 310 #[.val (.int i1), .val (.int i2), .val (.int i3), .val (.int (4 : Int32)), .val (.int qq), .val (.int s0), .val (.int s1), .val (.int s2), .val (.int s3), .val (.ref b3), .val (.ref b25), .val (.ref b47), .val (.ref b109), .val (own_r10d (own_pick qq b5 b10 b15 b20) (own_pick s3 b5 b10 b15 b20) v95 (own_pick s2 b5 b10 b15 b20) v80 (own_pick s1 b5 b10 b15 b20) v65 (own_pick s0 b5 b10 b15 b20) v50), .val (own_j0_299_0 qq s0 v50)] [(.int (1 : Int32)), (.int (4 : Int32))])) _
      refine XS.icmpNo X325.here hx rfl (hb hby at_310) rfl (tlt (by decide : (1 : Int32) < (4 : Int32))).2.2.2 ?_
      refine XS.iload X325.here hx rfl (hb hby at_313) rfl ?_
      show Steps p.tables e below (T325.setTop (mkF m 315 #[.val (.int i1), .val (.int i2), .val (.int i3), .val (.int (4 : Int32)), .val (.int qq), .val (.int s0), .val (.int s1), .val (.int s2), .val (.int s3), .val (.ref b3), .val (.ref b25), .val (.ref b47), .val (.ref b109), .val (own_r10d (own_pick qq b5 b10 b15 b20) (own_pick s3 b5 b10 b15 b20) v95 (own_pick s2 b5 b10 b15 b20) v80 (own_pick s1 b5 b10 b15 b20) v65 (own_pick s0 b5 b10 b15 b20) v50), .val (own_j0_299_0 qq s0 v50)] [(.int s1)])) _
      refine XS.iload X325.here hx rfl (hb hby at_315) rfl ?_
      exact k
    have pre341 : ∀ t, Steps p.tables e below (T325.setTop (mkF m 326 #[.val (.int i1), .val (.int i2), .val (.int i3), .val (.int (4 : Int32)), .val (.int qq), .val (.int s0), .val (.int s1), .val (.int s2), .val (.int s3), .val (.ref b3), .val (.ref b25), .val (.ref b47), .val (.ref b109), .val (own_r10d (own_pick qq b5 b10 b15 b20) (own_pick s3 b5 b10 b15 b20) v95 (own_pick s2 b5 b10 b15 b20) v80 (own_pick s1 b5 b10 b15 b20) v65 (own_pick s0 b5 b10 b15 b20) v50), .val (own_j0_317_0 qq s0 s1 v50 v65)] [])) t → Steps p.tables e below (s₁.setTop (entryFrame m #[(.int i1), (.int i2), (.int i3)] maxLocals)) t := by
      by_cases hc317_336 : s1 = qq
      · have f337 := (f303.keep Kq306 (ninS (Nat.ne_of_lt (Nat.lt_of_lt_of_le V47.lt (Nat.le_trans (Nat.le_trans (Nat.le_trans (Nat.le_trans (Nat.le_trans (Nat.le_trans (Nat.le_trans (Nat.le_trans (Nat.le_trans (Nat.le_trans Kq50.1 (Keep.of_wr W62).1) Kq65.1) (Keep.of_wr W77).1) Kq80.1) (Keep.of_wr W92).1) Kq95.1) (Keep.of_wr W107).1) E109.1) Kq112.1) sq277_1))) (ninS (Nat.ne_of_lt (Nat.lt_of_lt_of_le V47.lt (Nat.le_trans (Nat.le_trans (Nat.le_trans (Nat.le_trans (Nat.le_trans (Nat.le_trans (Nat.le_trans (Nat.le_trans (Nat.le_trans Kq50.1 (Keep.of_wr W62).1) Kq65.1) (Keep.of_wr W77).1) Kq80.1) (Keep.of_wr W92).1) Kq95.1) (Keep.of_wr W107).1) E109.1) sq112_0))) nin0)))
        obtain ⟨cl338, Ar338, Cq338, Sz338, Nn338, Hh338, Gg338⟩ := id f337
        have hin338 : ¬ ((1 : Int32) < 0 ∨ cl338.slots.size ≤ ((1 : Int32)).toNatClampNeg) := inb_of Sz338 ⟨by decide, by decide⟩
        have hat338 : cl338.slots[((1 : Int32)).toNatClampNeg]? = some v65 := Hh338.at hin338 rfl
        have pre339 : ∀ t, Steps p.tables e below (T325.setTop (mkF m 326 #[.val (.int i1), .val (.int i2), .val (.int i3), .val (.int (4 : Int32)), .val (.int qq), .val (.int s0), .val (.int s1), .val (.int s2), .val (.int s3), .val (.ref b3), .val (.ref b25), .val (.ref b47), .val (.ref b109), .val (own_r10d (own_pick qq b5 b10 b15 b20) (own_pick s3 b5 b10 b15 b20) v95 (own_pick s2 b5 b10 b15 b20) v80 (own_pick s1 b5 b10 b15 b20) v65 (own_pick s0 b5 b10 b15 b20) v50), .val v65] [])) t → Steps p.tables e below (s₁.setTop (entryFrame m #[(.int i1), (.int i2), (.int i3)] maxLocals)) t := by
          intro t k
          refine pre335 _ ?_
          show Steps p.tables e below (T325.setTop (mkF m 317 #[.val (.int i1), .val (.int i2), .val (.int i3), .val (.int (4 : Int32)), .val (.int qq), .val (.int s0), .val (.int s1), .val (.int s2), .val (.int s3), .val (.ref b3), .val (.ref b25), .val (.ref b47), .val (.ref b109), .val (own_r10d (own_pick qq b5 b10 b15 b20) (own_pick s3 b5 b10 b15 b20) v95 (own_pick s2 b5 b10 b15 b20) v80 (own_pick s1 b5 b10 b15 b20) v65 (own_pick s0 b5 b10 b15 b20) v50), .val (own_j0_299_0 qq s0 v50)] [(.int qq), (.int s1)])) _
          refine XS.icmpNo X325.here hx rfl (hb hby at_317) rfl (teq hc317_336).2 ?_
          refine XS.aload X325.here hx rfl (hb hby at_320) rfl rfl ?_
          show Steps p.tables e below (T325.setTop (mkF m 322 #[.val (.int i1), .val (.int i2), .val (.int i3), .val (.int (4 : Int32)), .val (.int qq), .val (.int s0), .val (.int s1), .val (.int s2), .val (.int s3), .val (.ref b3), .val (.ref b25), .val (.ref b47), .val (.ref b109), .val (own_r10d (own_pick qq b5 b10 b15 b20) (own_pick s3 b5 b10 b15 b20) v95 (own_pick s2 b5 b10 b15 b20) v80 (own_pick s1 b5 b10 b15 b20) v65 (own_pick s0 b5 b10 b15 b20) v50), .val (own_j0_299_0 qq s0 v50)] [(.ref b47)])) _
          refine XS.iconst X325.here hx rfl (hb hby at_322) ?_
          show Steps p.tables e below (T325.setTop (mkF m 323 #[.val (.int i1), .val (.int i2), .val (.int i3), .val (.int (4 : Int32)), .val (.int qq), .val (.int s0), .val (.int s1), .val (.int s2), .val (.int s3), .val (.ref b3), .val (.ref b25), .val (.ref b47), .val (.ref b109), .val (own_r10d (own_pick qq b5 b10 b15 b20) (own_pick s3 b5 b10 b15 b20) v95 (own_pick s2 b5 b10 b15 b20) v80 (own_pick s1 b5 b10 b15 b20) v65 (own_pick s0 b5 b10 b15 b20) v50), .val (own_j0_299_0 qq s0 v50)] [(.int (1 : Int32)), (.ref b47)])) _
          refine X325.aaload hx (j := (1 : Int32)) (v := v65) (by rw [e325]; exact Ar338.1) (State.isArrayOf_alike hZ.alike Ar338.2.1) rfl Ar338.2.2 hin338 hat338 (g := (mkF m 323 #[.val (.int i1), .val (.int i2), .val (.int i3), .val (.int (4 : Int32)), .val (.int qq), .val (.int s0), .val (.int s1), .val (.int s2), .val (.int s3), .val (.ref b3), .val (.ref b25), .val (.ref b47), .val (.ref b109), .val (own_r10d (own_pick qq b5 b10 b15 b20) (own_pick s3 b5 b10 b15 b20) v95 (own_pick s2 b5 b10 b15 b20) v80 (own_pick s1 b5 b10 b15 b20) v65 (own_pick s0 b5 b10 b15 b20) v50), .val (own_j0_299_0 qq s0 v50)] [(.int (1 : Int32)), (.ref b47)])) rfl rfl (hb hby at_323) _ ?_
          show Steps p.tables e below (T325.setTop (mkF m 324 #[.val (.int i1), .val (.int i2), .val (.int i3), .val (.int (4 : Int32)), .val (.int qq), .val (.int s0), .val (.int s1), .val (.int s2), .val (.int s3), .val (.ref b3), .val (.ref b25), .val (.ref b47), .val (.ref b109), .val (own_r10d (own_pick qq b5 b10 b15 b20) (own_pick s3 b5 b10 b15 b20) v95 (own_pick s2 b5 b10 b15 b20) v80 (own_pick s1 b5 b10 b15 b20) v65 (own_pick s0 b5 b10 b15 b20) v50), .val (own_j0_299_0 qq s0 v50)] [v65])) _
          refine XS.astore X325.here hx rfl (hb hby at_324) rfl hr65 (l' := #[.val (.int i1), .val (.int i2), .val (.int i3), .val (.int (4 : Int32)), .val (.int qq), .val (.int s0), .val (.int s1), .val (.int s2), .val (.int s3), .val (.ref b3), .val (.ref b25), .val (.ref b47), .val (.ref b109), .val (own_r10d (own_pick qq b5 b10 b15 b20) (own_pick s3 b5 b10 b15 b20) v95 (own_pick s2 b5 b10 b15 b20) v80 (own_pick s1 b5 b10 b15 b20) v65 (own_pick s0 b5 b10 b15 b20) v50), .val v65]) (show storeLocals #[.val (.int i1), .val (.int i2), .val (.int i3), .val (.int (4 : Int32)), .val (.int qq), .val (.int s0), .val (.int s1), .val (.int s2), .val (.int s3), .val (.ref b3), .val (.ref b25), .val (.ref b47), .val (.ref b109), .val (own_r10d (own_pick qq b5 b10 b15 b20) (own_pick s3 b5 b10 b15 b20) v95 (own_pick s2 b5 b10 b15 b20) v80 (own_pick s1 b5 b10 b15 b20) v65 (own_pick s0 b5 b10 b15 b20) v50), .val (own_j0_299_0 qq s0 v50)] 14 v65 = some #[.val (.int i1), .val (.int i2), .val (.int i3), .val (.int (4 : Int32)), .val (.int qq), .val (.int s0), .val (.int s1), .val (.int s2), .val (.int s3), .val (.ref b3), .val (.ref b25), .val (.ref b47), .val (.ref b109), .val (own_r10d (own_pick qq b5 b10 b15 b20) (own_pick s3 b5 b10 b15 b20) v95 (own_pick s2 b5 b10 b15 b20) v80 (own_pick s1 b5 b10 b15 b20) v65 (own_pick s0 b5 b10 b15 b20) v50), .val v65] from XS.store1 (o := .val (own_j0_299_0 qq s0 v50)) rfl (Or.inr ⟨_, rfl, Jvm.Free.XT.cat1 hr334⟩) (Jvm.Free.XT.cat1 hr65)) ?_
          exact k
        exact fun t k => pre339 t (by rw [show (own_j0_317_0 qq s0 s1 v50 v65) = v65 from (if_pos hc317_336)] at k; exact k)
      · have pre340 : ∀ t, Steps p.tables e below (T325.setTop (mkF m 326 #[.val (.int i1), .val (.int i2), .val (.int i3), .val (.int (4 : Int32)), .val (.int qq), .val (.int s0), .val (.int s1), .val (.int s2), .val (.int s3), .val (.ref b3), .val (.ref b25), .val (.ref b47), .val (.ref b109), .val (own_r10d (own_pick qq b5 b10 b15 b20) (own_pick s3 b5 b10 b15 b20) v95 (own_pick s2 b5 b10 b15 b20) v80 (own_pick s1 b5 b10 b15 b20) v65 (own_pick s0 b5 b10 b15 b20) v50), .val (own_j0_299_0 qq s0 v50)] [])) t → Steps p.tables e below (s₁.setTop (entryFrame m #[(.int i1), (.int i2), (.int i3)] maxLocals)) t := by
          intro t k
          refine pre335 _ ?_
          show Steps p.tables e below (T325.setTop (mkF m 317 #[.val (.int i1), .val (.int i2), .val (.int i3), .val (.int (4 : Int32)), .val (.int qq), .val (.int s0), .val (.int s1), .val (.int s2), .val (.int s3), .val (.ref b3), .val (.ref b25), .val (.ref b47), .val (.ref b109), .val (own_r10d (own_pick qq b5 b10 b15 b20) (own_pick s3 b5 b10 b15 b20) v95 (own_pick s2 b5 b10 b15 b20) v80 (own_pick s1 b5 b10 b15 b20) v65 (own_pick s0 b5 b10 b15 b20) v50), .val (own_j0_299_0 qq s0 v50)] [(.int qq), (.int s1)])) _
          refine XS.icmpYes X325.here hx rfl (pc0 := 317) (pc' := 326) rfl (hb hby at_317) rfl (feq hc317_336).2 (by decide) (by decide) ?_
          exact k
        exact fun t k => pre340 t (by rw [show (own_j0_317_0 qq s0 s1 v50 v65) = (own_j0_299_0 qq s0 v50) from (if_neg hc317_336)] at k; exact k)
    have hr342 : (own_j0_317_0 qq s0 s1 v50 v65).isRef = true := by
      unfold own_j0_317_0
      repeat' split
      all_goals first | rfl | assumption
    have pre343 : ∀ t, Steps p.tables e below (T325.setTop (mkF m 335 #[.val (.int i1), .val (.int i2), .val (.int i3), .val (.int (4 : Int32)), .val (.int qq), .val (.int s0), .val (.int s1), .val (.int s2), .val (.int s3), .val (.ref b3), .val (.ref b25), .val (.ref b47), .val (.ref b109), .val (own_r10d (own_pick qq b5 b10 b15 b20) (own_pick s3 b5 b10 b15 b20) v95 (own_pick s2 b5 b10 b15 b20) v80 (own_pick s1 b5 b10 b15 b20) v65 (own_pick s0 b5 b10 b15 b20) v50), .val (own_j0_317_0 qq s0 s1 v50 v65)] [(.int qq), (.int s2)])) t → Steps p.tables e below (s₁.setTop (entryFrame m #[(.int i1), (.int i2), (.int i3)] maxLocals)) t := by
      intro t k
      refine pre341 _ ?_
      show Steps p.tables e below (T325.setTop (mkF m 326 #[.val (.int i1), .val (.int i2), .val (.int i3), .val (.int (4 : Int32)), .val (.int qq), .val (.int s0), .val (.int s1), .val (.int s2), .val (.int s3), .val (.ref b3), .val (.ref b25), .val (.ref b47), .val (.ref b109), .val (own_r10d (own_pick qq b5 b10 b15 b20) (own_pick s3 b5 b10 b15 b20) v95 (own_pick s2 b5 b10 b15 b20) v80 (own_pick s1 b5 b10 b15 b20) v65 (own_pick s0 b5 b10 b15 b20) v50), .val (own_j0_317_0 qq s0 s1 v50 v65)] [])) _
      refine XS.iloadN X325.here hx rfl (hb hby at_326) rfl ?_
      refine XS.iconst X325.here hx rfl (hb hby at_327) ?_
      show Steps p.tables e below (T325.setTop (mkF m 328 #[.val (.int i1), .val (.int i2), .val (.int i3), .val (.int (4 : Int32)), .val (.int qq), .val (.int s0), .val (.int s1), .val (.int s2), .val (.int s3), .val (.ref b3), .val (.ref b25), .val (.ref b47), .val (.ref b109), .val (own_r10d (own_pick qq b5 b10 b15 b20) (own_pick s3 b5 b10 b15 b20) v95 (own_pick s2 b5 b10 b15 b20) v80 (own_pick s1 b5 b10 b15 b20) v65 (own_pick s0 b5 b10 b15 b20) v50), .val (own_j0_317_0 qq s0 s1 v50 v65)] [(.int (2 : Int32)), (.int (4 : Int32))])) _
      refine XS.icmpNo X325.here hx rfl (hb hby at_328) rfl (tlt (by decide : (2 : Int32) < (4 : Int32))).2.2.2 ?_
      refine XS.iload X325.here hx rfl (hb hby at_331) rfl ?_
      show Steps p.tables e below (T325.setTop (mkF m 333 #[.val (.int i1), .val (.int i2), .val (.int i3), .val (.int (4 : Int32)), .val (.int qq), .val (.int s0), .val (.int s1), .val (.int s2), .val (.int s3), .val (.ref b3), .val (.ref b25), .val (.ref b47), .val (.ref b109), .val (own_r10d (own_pick qq b5 b10 b15 b20) (own_pick s3 b5 b10 b15 b20) v95 (own_pick s2 b5 b10 b15 b20) v80 (own_pick s1 b5 b10 b15 b20) v65 (own_pick s0 b5 b10 b15 b20) v50), .val (own_j0_317_0 qq s0 s1 v50 v65)] [(.int s2)])) _
      refine XS.iload X325.here hx rfl (hb hby at_333) rfl ?_
      exact k
    have pre349 : ∀ t, Steps p.tables e below (T325.setTop (mkF m 344 #[.val (.int i1), .val (.int i2), .val (.int i3), .val (.int (4 : Int32)), .val (.int qq), .val (.int s0), .val (.int s1), .val (.int s2), .val (.int s3), .val (.ref b3), .val (.ref b25), .val (.ref b47), .val (.ref b109), .val (own_r10d (own_pick qq b5 b10 b15 b20) (own_pick s3 b5 b10 b15 b20) v95 (own_pick s2 b5 b10 b15 b20) v80 (own_pick s1 b5 b10 b15 b20) v65 (own_pick s0 b5 b10 b15 b20) v50), .val (own_j0_335_0 qq s0 s1 s2 v50 v65 v80)] [])) t → Steps p.tables e below (s₁.setTop (entryFrame m #[(.int i1), (.int i2), (.int i3)] maxLocals)) t := by
      by_cases hc335_344 : s2 = qq
      · have f345 := (f303.keep Kq306 (ninS (Nat.ne_of_lt (Nat.lt_of_lt_of_le V47.lt (Nat.le_trans (Nat.le_trans (Nat.le_trans (Nat.le_trans (Nat.le_trans (Nat.le_trans (Nat.le_trans (Nat.le_trans (Nat.le_trans (Nat.le_trans Kq50.1 (Keep.of_wr W62).1) Kq65.1) (Keep.of_wr W77).1) Kq80.1) (Keep.of_wr W92).1) Kq95.1) (Keep.of_wr W107).1) E109.1) Kq112.1) sq277_1))) (ninS (Nat.ne_of_lt (Nat.lt_of_lt_of_le V47.lt (Nat.le_trans (Nat.le_trans (Nat.le_trans (Nat.le_trans (Nat.le_trans (Nat.le_trans (Nat.le_trans (Nat.le_trans (Nat.le_trans Kq50.1 (Keep.of_wr W62).1) Kq65.1) (Keep.of_wr W77).1) Kq80.1) (Keep.of_wr W92).1) Kq95.1) (Keep.of_wr W107).1) E109.1) sq112_0))) nin0)))
        obtain ⟨cl346, Ar346, Cq346, Sz346, Nn346, Hh346, Gg346⟩ := id f345
        have hin346 : ¬ ((2 : Int32) < 0 ∨ cl346.slots.size ≤ ((2 : Int32)).toNatClampNeg) := inb_of Sz346 ⟨by decide, by decide⟩
        have hat346 : cl346.slots[((2 : Int32)).toNatClampNeg]? = some v80 := Hh346.at hin346 rfl
        have pre347 : ∀ t, Steps p.tables e below (T325.setTop (mkF m 344 #[.val (.int i1), .val (.int i2), .val (.int i3), .val (.int (4 : Int32)), .val (.int qq), .val (.int s0), .val (.int s1), .val (.int s2), .val (.int s3), .val (.ref b3), .val (.ref b25), .val (.ref b47), .val (.ref b109), .val (own_r10d (own_pick qq b5 b10 b15 b20) (own_pick s3 b5 b10 b15 b20) v95 (own_pick s2 b5 b10 b15 b20) v80 (own_pick s1 b5 b10 b15 b20) v65 (own_pick s0 b5 b10 b15 b20) v50), .val v80] [])) t → Steps p.tables e below (s₁.setTop (entryFrame m #[(.int i1), (.int i2), (.int i3)] maxLocals)) t := by
          intro t k
          refine pre343 _ ?_
          show Steps p.tables e below (T325.setTop (mkF m 335 #[.val (.int i1), .val (.int i2), .val (.int i3), .val (.int (4 : Int32)), .val (.int qq), .val (.int s0), .val (.int s1), .val (.int s2), .val (.int s3), .val (.ref b3), .val (.ref b25), .val (.ref b47), .val (.ref b109), .val (own_r10d (own_pick qq b5 b10 b15 b20) (own_pick s3 b5 b10 b15 b20) v95 (own_pick s2 b5 b10 b15 b20) v80 (own_pick s1 b5 b10 b15 b20) v65 (own_pick s0 b5 b10 b15 b20) v50), .val (own_j0_317_0 qq s0 s1 v50 v65)] [(.int qq), (.int s2)])) _
          refine XS.icmpNo X325.here hx rfl (hb hby at_335) rfl (teq hc335_344).2 ?_
          refine XS.aload X325.here hx rfl (hb hby at_338) rfl rfl ?_
          show Steps p.tables e below (T325.setTop (mkF m 340 #[.val (.int i1), .val (.int i2), .val (.int i3), .val (.int (4 : Int32)), .val (.int qq), .val (.int s0), .val (.int s1), .val (.int s2), .val (.int s3), .val (.ref b3), .val (.ref b25), .val (.ref b47), .val (.ref b109), .val (own_r10d (own_pick qq b5 b10 b15 b20) (own_pick s3 b5 b10 b15 b20) v95 (own_pick s2 b5 b10 b15 b20) v80 (own_pick s1 b5 b10 b15 b20) v65 (own_pick s0 b5 b10 b15 b20) v50), .val (own_j0_317_0 qq s0 s1 v50 v65)] [(.ref b47)])) _
          refine XS.iconst X325.here hx rfl (hb hby at_340) ?_
          show Steps p.tables e below (T325.setTop (mkF m 341 #[.val (.int i1), .val (.int i2), .val (.int i3), .val (.int (4 : Int32)), .val (.int qq), .val (.int s0), .val (.int s1), .val (.int s2), .val (.int s3), .val (.ref b3), .val (.ref b25), .val (.ref b47), .val (.ref b109), .val (own_r10d (own_pick qq b5 b10 b15 b20) (own_pick s3 b5 b10 b15 b20) v95 (own_pick s2 b5 b10 b15 b20) v80 (own_pick s1 b5 b10 b15 b20) v65 (own_pick s0 b5 b10 b15 b20) v50), .val (own_j0_317_0 qq s0 s1 v50 v65)] [(.int (2 : Int32)), (.ref b47)])) _
          refine X325.aaload hx (j := (2 : Int32)) (v := v80) (by rw [e325]; exact Ar346.1) (State.isArrayOf_alike hZ.alike Ar346.2.1) rfl Ar346.2.2 hin346 hat346 (g := (mkF m 341 #[.val (.int i1), .val (.int i2), .val (.int i3), .val (.int (4 : Int32)), .val (.int qq), .val (.int s0), .val (.int s1), .val (.int s2), .val (.int s3), .val (.ref b3), .val (.ref b25), .val (.ref b47), .val (.ref b109), .val (own_r10d (own_pick qq b5 b10 b15 b20) (own_pick s3 b5 b10 b15 b20) v95 (own_pick s2 b5 b10 b15 b20) v80 (own_pick s1 b5 b10 b15 b20) v65 (own_pick s0 b5 b10 b15 b20) v50), .val (own_j0_317_0 qq s0 s1 v50 v65)] [(.int (2 : Int32)), (.ref b47)])) rfl rfl (hb hby at_341) _ ?_
          show Steps p.tables e below (T325.setTop (mkF m 342 #[.val (.int i1), .val (.int i2), .val (.int i3), .val (.int (4 : Int32)), .val (.int qq), .val (.int s0), .val (.int s1), .val (.int s2), .val (.int s3), .val (.ref b3), .val (.ref b25), .val (.ref b47), .val (.ref b109), .val (own_r10d (own_pick qq b5 b10 b15 b20) (own_pick s3 b5 b10 b15 b20) v95 (own_pick s2 b5 b10 b15 b20) v80 (own_pick s1 b5 b10 b15 b20) v65 (own_pick s0 b5 b10 b15 b20) v50), .val (own_j0_317_0 qq s0 s1 v50 v65)] [v80])) _
          refine XS.astore X325.here hx rfl (hb hby at_342) rfl hr80 (l' := #[.val (.int i1), .val (.int i2), .val (.int i3), .val (.int (4 : Int32)), .val (.int qq), .val (.int s0), .val (.int s1), .val (.int s2), .val (.int s3), .val (.ref b3), .val (.ref b25), .val (.ref b47), .val (.ref b109), .val (own_r10d (own_pick qq b5 b10 b15 b20) (own_pick s3 b5 b10 b15 b20) v95 (own_pick s2 b5 b10 b15 b20) v80 (own_pick s1 b5 b10 b15 b20) v65 (own_pick s0 b5 b10 b15 b20) v50), .val v80]) (show storeLocals #[.val (.int i1), .val (.int i2), .val (.int i3), .val (.int (4 : Int32)), .val (.int qq), .val (.int s0), .val (.int s1), .val (.int s2), .val (.int s3), .val (.ref b3), .val (.ref b25), .val (.ref b47), .val (.ref b109), .val (own_r10d (own_pick qq b5 b10 b15 b20) (own_pick s3 b5 b10 b15 b20) v95 (own_pick s2 b5 b10 b15 b20) v80 (own_pick s1 b5 b10 b15 b20) v65 (own_pick s0 b5 b10 b15 b20) v50), .val (own_j0_317_0 qq s0 s1 v50 v65)] 14 v80 = some #[.val (.int i1), .val (.int i2), .val (.int i3), .val (.int (4 : Int32)), .val (.int qq), .val (.int s0), .val (.int s1), .val (.int s2), .val (.int s3), .val (.ref b3), .val (.ref b25), .val (.ref b47), .val (.ref b109), .val (own_r10d (own_pick qq b5 b10 b15 b20) (own_pick s3 b5 b10 b15 b20) v95 (own_pick s2 b5 b10 b15 b20) v80 (own_pick s1 b5 b10 b15 b20) v65 (own_pick s0 b5 b10 b15 b20) v50), .val v80] from XS.store1 (o := .val (own_j0_317_0 qq s0 s1 v50 v65)) rfl (Or.inr ⟨_, rfl, Jvm.Free.XT.cat1 hr342⟩) (Jvm.Free.XT.cat1 hr80)) ?_
          exact k
        exact fun t k => pre347 t (by rw [show (own_j0_335_0 qq s0 s1 s2 v50 v65 v80) = v80 from (if_pos hc335_344)] at k; exact k)
      · have pre348 : ∀ t, Steps p.tables e below (T325.setTop (mkF m 344 #[.val (.int i1), .val (.int i2), .val (.int i3), .val (.int (4 : Int32)), .val (.int qq), .val (.int s0), .val (.int s1), .val (.int s2), .val (.int s3), .val (.ref b3), .val (.ref b25), .val (.ref b47), .val (.ref b109), .val (own_r10d (own_pick qq b5 b10 b15 b20) (own_pick s3 b5 b10 b15 b20) v95 (own_pick s2 b5 b10 b15 b20) v80 (own_pick s1 b5 b10 b15 b20) v65 (own_pick s0 b5 b10 b15 b20) v50), .val (own_j0_317_0 qq s0 s1 v50 v65)] [])) t → Steps p.tables e below (s₁.setTop (entryFrame m #[(.int i1), (.int i2), (.int i3)] maxLocals)) t := by
          intro t k
          refine pre343 _ ?_
          show Steps p.tables e below (T325.setTop (mkF m 335 #[.val (.int i1), .val (.int i2), .val (.int i3), .val (.int (4 : Int32)), .val (.int qq), .val (.int s0), .val (.int s1), .val (.int s2), .val (.int s3), .val (.ref b3), .val (.ref b25), .val (.ref b47), .val (.ref b109), .val (own_r10d (own_pick qq b5 b10 b15 b20) (own_pick s3 b5 b10 b15 b20) v95 (own_pick s2 b5 b10 b15 b20) v80 (own_pick s1 b5 b10 b15 b20) v65 (own_pick s0 b5 b10 b15 b20) v50), .val (own_j0_317_0 qq s0 s1 v50 v65)] [(.int qq), (.int s2)])) _
          refine XS.icmpYes X325.here hx rfl (pc0 := 335) (pc' := 344) rfl (hb hby at_335) rfl (feq hc335_344).2 (by decide) (by decide) ?_
          exact k
        exact fun t k => pre348 t (by rw [show (own_j0_335_0 qq s0 s1 s2 v50 v65 v80) = (own_j0_317_0 qq s0 s1 v50 v65) from (if_neg hc335_344)] at k; exact k)
    have hr350 : (own_j0_335_0 qq s0 s1 s2 v50 v65 v80).isRef = true := by
      unfold own_j0_335_0
      repeat' split
      all_goals first | rfl | assumption
    have pre351 : ∀ t, Steps p.tables e below (T325.setTop (mkF m 353 #[.val (.int i1), .val (.int i2), .val (.int i3), .val (.int (4 : Int32)), .val (.int qq), .val (.int s0), .val (.int s1), .val (.int s2), .val (.int s3), .val (.ref b3), .val (.ref b25), .val (.ref b47), .val (.ref b109), .val (own_r10d (own_pick qq b5 b10 b15 b20) (own_pick s3 b5 b10 b15 b20) v95 (own_pick s2 b5 b10 b15 b20) v80 (own_pick s1 b5 b10 b15 b20) v65 (own_pick s0 b5 b10 b15 b20) v50), .val (own_j0_335_0 qq s0 s1 s2 v50 v65 v80)] [(.int qq), (.int s3)])) t → Steps p.tables e below (s₁.setTop (entryFrame m #[(.int i1), (.int i2), (.int i3)] maxLocals)) t := by
      intro t k
      refine pre349 _ ?_
      show Steps p.tables e below (T325.setTop (mkF m 344 #[.val (.int i1), .val (.int i2), .val (.int i3), .val (.int (4 : Int32)), .val (.int qq), .val (.int s0), .val (.int s1), .val (.int s2), .val (.int s3), .val (.ref b3), .val (.ref b25), .val (.ref b47), .val (.ref b109), .val (own_r10d (own_pick qq b5 b10 b15 b20) (own_pick s3 b5 b10 b15 b20) v95 (own_pick s2 b5 b10 b15 b20) v80 (own_pick s1 b5 b10 b15 b20) v65 (own_pick s0 b5 b10 b15 b20) v50), .val (own_j0_335_0 qq s0 s1 s2 v50 v65 v80)] [])) _
      refine XS.iloadN X325.here hx rfl (hb hby at_344) rfl ?_
      refine XS.iconst X325.here hx rfl (hb hby at_345) ?_
      show Steps p.tables e below (T325.setTop (mkF m 346 #[.val (.int i1), .val (.int i2), .val (.int i3), .val (.int (4 : Int32)), .val (.int qq), .val (.int s0), .val (.int s1), .val (.int s2), .val (.int s3), .val (.ref b3), .val (.ref b25), .val (.ref b47), .val (.ref b109), .val (own_r10d (own_pick qq b5 b10 b15 b20) (own_pick s3 b5 b10 b15 b20) v95 (own_pick s2 b5 b10 b15 b20) v80 (own_pick s1 b5 b10 b15 b20) v65 (own_pick s0 b5 b10 b15 b20) v50), .val (own_j0_335_0 qq s0 s1 s2 v50 v65 v80)] [(.int (3 : Int32)), (.int (4 : Int32))])) _
      refine XS.icmpNo X325.here hx rfl (hb hby at_346) rfl (tlt (by decide : (3 : Int32) < (4 : Int32))).2.2.2 ?_
      refine XS.iload X325.here hx rfl (hb hby at_349) rfl ?_
      show Steps p.tables e below (T325.setTop (mkF m 351 #[.val (.int i1), .val (.int i2), .val (.int i3), .val (.int (4 : Int32)), .val (.int qq), .val (.int s0), .val (.int s1), .val (.int s2), .val (.int s3), .val (.ref b3), .val (.ref b25), .val (.ref b47), .val (.ref b109), .val (own_r10d (own_pick qq b5 b10 b15 b20) (own_pick s3 b5 b10 b15 b20) v95 (own_pick s2 b5 b10 b15 b20) v80 (own_pick s1 b5 b10 b15 b20) v65 (own_pick s0 b5 b10 b15 b20) v50), .val (own_j0_335_0 qq s0 s1 s2 v50 v65 v80)] [(.int s3)])) _
      refine XS.iload X325.here hx rfl (hb hby at_351) rfl ?_
      exact k
    have pre357 : ∀ t, Steps p.tables e below (T325.setTop (mkF m 362 #[.val (.int i1), .val (.int i2), .val (.int i3), .val (.int (4 : Int32)), .val (.int qq), .val (.int s0), .val (.int s1), .val (.int s2), .val (.int s3), .val (.ref b3), .val (.ref b25), .val (.ref b47), .val (.ref b109), .val (own_r10d (own_pick qq b5 b10 b15 b20) (own_pick s3 b5 b10 b15 b20) v95 (own_pick s2 b5 b10 b15 b20) v80 (own_pick s1 b5 b10 b15 b20) v65 (own_pick s0 b5 b10 b15 b20) v50), .val (own_j0_353_0 qq s0 s1 s2 s3 v50 v65 v80 v95)] [])) t → Steps p.tables e below (s₁.setTop (entryFrame m #[(.int i1), (.int i2), (.int i3)] maxLocals)) t := by
      by_cases hc353_352 : s3 = qq
      · have f353 := (f303.keep Kq306 (ninS (Nat.ne_of_lt (Nat.lt_of_lt_of_le V47.lt (Nat.le_trans (Nat.le_trans (Nat.le_trans (Nat.le_trans (Nat.le_trans (Nat.le_trans (Nat.le_trans (Nat.le_trans (Nat.le_trans (Nat.le_trans Kq50.1 (Keep.of_wr W62).1) Kq65.1) (Keep.of_wr W77).1) Kq80.1) (Keep.of_wr W92).1) Kq95.1) (Keep.of_wr W107).1) E109.1) Kq112.1) sq277_1))) (ninS (Nat.ne_of_lt (Nat.lt_of_lt_of_le V47.lt (Nat.le_trans (Nat.le_trans (Nat.le_trans (Nat.le_trans (Nat.le_trans (Nat.le_trans (Nat.le_trans (Nat.le_trans (Nat.le_trans Kq50.1 (Keep.of_wr W62).1) Kq65.1) (Keep.of_wr W77).1) Kq80.1) (Keep.of_wr W92).1) Kq95.1) (Keep.of_wr W107).1) E109.1) sq112_0))) nin0)))
        obtain ⟨cl354, Ar354, Cq354, Sz354, Nn354, Hh354, Gg354⟩ := id f353
        have hin354 : ¬ ((3 : Int32) < 0 ∨ cl354.slots.size ≤ ((3 : Int32)).toNatClampNeg) := inb_of Sz354 ⟨by decide, by decide⟩
        have hat354 : cl354.slots[((3 : Int32)).toNatClampNeg]? = some v95 := Hh354.at hin354 rfl
        have pre355 : ∀ t, Steps p.tables e below (T325.setTop (mkF m 362 #[.val (.int i1), .val (.int i2), .val (.int i3), .val (.int (4 : Int32)), .val (.int qq), .val (.int s0), .val (.int s1), .val (.int s2), .val (.int s3), .val (.ref b3), .val (.ref b25), .val (.ref b47), .val (.ref b109), .val (own_r10d (own_pick qq b5 b10 b15 b20) (own_pick s3 b5 b10 b15 b20) v95 (own_pick s2 b5 b10 b15 b20) v80 (own_pick s1 b5 b10 b15 b20) v65 (own_pick s0 b5 b10 b15 b20) v50), .val v95] [])) t → Steps p.tables e below (s₁.setTop (entryFrame m #[(.int i1), (.int i2), (.int i3)] maxLocals)) t := by
          intro t k
          refine pre351 _ ?_
          show Steps p.tables e below (T325.setTop (mkF m 353 #[.val (.int i1), .val (.int i2), .val (.int i3), .val (.int (4 : Int32)), .val (.int qq), .val (.int s0), .val (.int s1), .val (.int s2), .val (.int s3), .val (.ref b3), .val (.ref b25), .val (.ref b47), .val (.ref b109), .val (own_r10d (own_pick qq b5 b10 b15 b20) (own_pick s3 b5 b10 b15 b20) v95 (own_pick s2 b5 b10 b15 b20) v80 (own_pick s1 b5 b10 b15 b20) v65 (own_pick s0 b5 b10 b15 b20) v50), .val (own_j0_335_0 qq s0 s1 s2 v50 v65 v80)] [(.int qq), (.int s3)])) _
          refine XS.icmpNo X325.here hx rfl (hb hby at_353) rfl (teq hc353_352).2 ?_
          refine XS.aload X325.here hx rfl (hb hby at_356) rfl rfl ?_
          show Steps p.tables e below (T325.setTop (mkF m 358 #[.val (.int i1), .val (.int i2), .val (.int i3), .val (.int (4 : Int32)), .val (.int qq), .val (.int s0), .val (.int s1), .val (.int s2), .val (.int s3), .val (.ref b3), .val (.ref b25), .val (.ref b47), .val (.ref b109), .val (own_r10d (own_pick qq b5 b10 b15 b20) (own_pick s3 b5 b10 b15 b20) v95 (own_pick s2 b5 b10 b15 b20) v80 (own_pick s1 b5 b10 b15 b20) v65 (own_pick s0 b5 b10 b15 b20) v50), .val (own_j0_335_0 qq s0 s1 s2 v50 v65 v80)] [(.ref b47)])) _
          refine XS.iconst X325.here hx rfl (hb hby at_358) ?_
          show Steps p.tables e below (T325.setTop (mkF m 359 #[.val (.int i1), .val (.int i2), .val (.int i3), .val (.int (4 : Int32)), .val (.int qq), .val (.int s0), .val (.int s1), .val (.int s2), .val (.int s3), .val (.ref b3), .val (.ref b25), .val (.ref b47), .val (.ref b109), .val (own_r10d (own_pick qq b5 b10 b15 b20) (own_pick s3 b5 b10 b15 b20) v95 (own_pick s2 b5 b10 b15 b20) v80 (own_pick s1 b5 b10 b15 b20) v65 (own_pick s0 b5 b10 b15 b20) v50), .val (own_j0_335_0 qq s0 s1 s2 v50 v65 v80)] [(.int (3 : Int32)), (.ref b47)])) _
          refine X325.aaload hx (j := (3 : Int32)) (v := v95) (by rw [e325]; exact Ar354.1) (State.isArrayOf_alike hZ.alike Ar354.2.1) rfl Ar354.2.2 hin354 hat354 (g := (mkF m 359 #[.val (.int i1), .val (.int i2), .val (.int i3), .val (.int (4 : Int32)), .val (.int qq), .val (.int s0), .val (.int s1), .val (.int s2), .val (.int s3), .val (.ref b3), .val (.ref b25), .val (.ref b47), .val (.ref b109), .val (own_r10d (own_pick qq b5 b10 b15 b20) (own_pick s3 b5 b10 b15 b20) v95 (own_pick s2 b5 b10 b15 b20) v80 (own_pick s1 b5 b10 b15 b20) v65 (own_pick s0 b5 b10 b15 b20) v50), .val (own_j0_335_0 qq s0 s1 s2 v50 v65 v80)] [(.int (3 : Int32)), (.ref b47)])) rfl rfl (hb hby at_359) _ ?_
          show Steps p.tables e below (T325.setTop (mkF m 360 #[.val (.int i1), .val (.int i2), .val (.int i3), .val (.int (4 : Int32)), .val (.int qq), .val (.int s0), .val (.int s1), .val (.int s2), .val (.int s3), .val (.ref b3), .val (.ref b25), .val (.ref b47), .val (.ref b109), .val (own_r10d (own_pick qq b5 b10 b15 b20) (own_pick s3 b5 b10 b15 b20) v95 (own_pick s2 b5 b10 b15 b20) v80 (own_pick s1 b5 b10 b15 b20) v65 (own_pick s0 b5 b10 b15 b20) v50), .val (own_j0_335_0 qq s0 s1 s2 v50 v65 v80)] [v95])) _
          refine XS.astore X325.here hx rfl (hb hby at_360) rfl hr95 (l' := #[.val (.int i1), .val (.int i2), .val (.int i3), .val (.int (4 : Int32)), .val (.int qq), .val (.int s0), .val (.int s1), .val (.int s2), .val (.int s3), .val (.ref b3), .val (.ref b25), .val (.ref b47), .val (.ref b109), .val (own_r10d (own_pick qq b5 b10 b15 b20) (own_pick s3 b5 b10 b15 b20) v95 (own_pick s2 b5 b10 b15 b20) v80 (own_pick s1 b5 b10 b15 b20) v65 (own_pick s0 b5 b10 b15 b20) v50), .val v95]) (show storeLocals #[.val (.int i1), .val (.int i2), .val (.int i3), .val (.int (4 : Int32)), .val (.int qq), .val (.int s0), .val (.int s1), .val (.int s2), .val (.int s3), .val (.ref b3), .val (.ref b25), .val (.ref b47), .val (.ref b109), .val (own_r10d (own_pick qq b5 b10 b15 b20) (own_pick s3 b5 b10 b15 b20) v95 (own_pick s2 b5 b10 b15 b20) v80 (own_pick s1 b5 b10 b15 b20) v65 (own_pick s0 b5 b10 b15 b20) v50), .val (own_j0_335_0 qq s0 s1 s2 v50 v65 v80)] 14 v95 = some #[.val (.int i1), .val (.int i2), .val (.int i3), .val (.int (4 : Int32)), .val (.int qq), .val (.int s0), .val (.int s1), .val (.int s2), .val (.int s3), .val (.ref b3), .val (.ref b25), .val (.ref b47), .val (.ref b109), .val (own_r10d (own_pick qq b5 b10 b15 b20) (own_pick s3 b5 b10 b15 b20) v95 (own_pick s2 b5 b10 b15 b20) v80 (own_pick s1 b5 b10 b15 b20) v65 (own_pick s0 b5 b10 b15 b20) v50), .val v95] from XS.store1 (o := .val (own_j0_335_0 qq s0 s1 s2 v50 v65 v80)) rfl (Or.inr ⟨_, rfl, Jvm.Free.XT.cat1 hr350⟩) (Jvm.Free.XT.cat1 hr95)) ?_
          exact k
        exact fun t k => pre355 t (by rw [show (own_j0_353_0 qq s0 s1 s2 s3 v50 v65 v80 v95) = v95 from (if_pos hc353_352)] at k; exact k)
      · have pre356 : ∀ t, Steps p.tables e below (T325.setTop (mkF m 362 #[.val (.int i1), .val (.int i2), .val (.int i3), .val (.int (4 : Int32)), .val (.int qq), .val (.int s0), .val (.int s1), .val (.int s2), .val (.int s3), .val (.ref b3), .val (.ref b25), .val (.ref b47), .val (.ref b109), .val (own_r10d (own_pick qq b5 b10 b15 b20) (own_pick s3 b5 b10 b15 b20) v95 (own_pick s2 b5 b10 b15 b20) v80 (own_pick s1 b5 b10 b15 b20) v65 (own_pick s0 b5 b10 b15 b20) v50), .val (own_j0_335_0 qq s0 s1 s2 v50 v65 v80)] [])) t → Steps p.tables e below (s₁.setTop (entryFrame m #[(.int i1), (.int i2), (.int i3)] maxLocals)) t := by
          intro t k
          refine pre351 _ ?_
          show Steps p.tables e below (T325.setTop (mkF m 353 #[.val (.int i1), .val (.int i2), .val (.int i3), .val (.int (4 : Int32)), .val (.int qq), .val (.int s0), .val (.int s1), .val (.int s2), .val (.int s3), .val (.ref b3), .val (.ref b25), .val (.ref b47), .val (.ref b109), .val (own_r10d (own_pick qq b5 b10 b15 b20) (own_pick s3 b5 b10 b15 b20) v95 (own_pick s2 b5 b10 b15 b20) v80 (own_pick s1 b5 b10 b15 b20) v65 (own_pick s0 b5 b10 b15 b20) v50), .val (own_j0_335_0 qq s0 s1 s2 v50 v65 v80)] [(.int qq), (.int s3)])) _
          refine XS.icmpYes X325.here hx rfl (pc0 := 353) (pc' := 362) rfl (hb hby at_353) rfl (feq hc353_352).2 (by decide) (by decide) ?_
          exact k
        exact fun t k => pre356 t (by rw [show (own_j0_353_0 qq s0 s1 s2 s3 v50 v65 v80 v95) = (own_j0_335_0 qq s0 s1 s2 v50 v65 v80) from (if_neg hc353_352)] at k; exact k)
    have hr358 : (own_j0_353_0 qq s0 s1 s2 s3 v50 v65 v80 v95).isRef = true := by
      unfold own_j0_353_0
      repeat' split
      all_goals first | rfl | assumption
    have hr359 : ((own_r10d (own_pick qq b5 b10 b15 b20) (own_pick s3 b5 b10 b15 b20) v95 (own_pick s2 b5 b10 b15 b20) v80 (own_pick s1 b5 b10 b15 b20) v65 (own_pick s0 b5 b10 b15 b20) v50) : Value) = ((own_j0_353_0 qq s0 s1 s2 s3 v50 v65 v80 v95) : Value) := (own_ob0_r366xxx qq s0 s1 s2 s3 b5 b10 b15 b20 v50 v65 v80 v95 d_qq d_s0 d_s1 d_s2 d_s3 (Nat.ne_of_lt (Nat.lt_of_lt_of_le V5.lt (Nat.le_trans (Keep.of_wr W8).1 (Nat.le_of_eq g10.symm)))) (Nat.ne_of_lt (Nat.lt_of_lt_of_le V5.lt (Nat.le_trans (Nat.le_trans (Nat.le_trans (Keep.of_wr W8).1 E10.1) (Keep.of_wr W13).1) (Nat.le_of_eq g15.symm)))) (Nat.ne_of_lt (Nat.lt_of_lt_of_le V5.lt (Nat.le_trans (Nat.le_trans (Nat.le_trans (Nat.le_trans (Nat.le_trans (Keep.of_wr W8).1 E10.1) (Keep.of_wr W13).1) E15.1) (Keep.of_wr W18).1) (Nat.le_of_eq g20.symm)))) (Nat.ne_of_lt (Nat.lt_of_lt_of_le V10.lt (Nat.le_trans (Keep.of_wr W13).1 (Nat.le_of_eq g15.symm)))) (Nat.ne_of_lt (Nat.lt_of_lt_of_le V10.lt (Nat.le_trans (Nat.le_trans (Nat.le_trans (Keep.of_wr W13).1 E15.1) (Keep.of_wr W18).1) (Nat.le_of_eq g20.symm)))) (Nat.ne_of_lt (Nat.lt_of_lt_of_le V15.lt (Nat.le_trans (Keep.of_wr W18).1 (Nat.le_of_eq g20.symm)))))
    have pre360 : ∀ t, Steps p.tables e below (T325.setTop (mkF m 374 #[.val (.int i1), .val (.int i2), .val (.int i3), .val (.int (4 : Int32)), .val (.int qq), .val (.int s0), .val (.int s1), .val (.int s2), .val (.int s3), .val (.ref b3), .val (.ref b25), .val (.ref b47), .val (.ref b109), .val (own_r10d (own_pick qq b5 b10 b15 b20) (own_pick s3 b5 b10 b15 b20) v95 (own_pick s2 b5 b10 b15 b20) v80 (own_pick s1 b5 b10 b15 b20) v65 (own_pick s0 b5 b10 b15 b20) v50), .val (own_j0_353_0 qq s0 s1 s2 s3 v50 v65 v80 v95)] [(.int (1 : Int32))])) t → Steps p.tables e below (s₁.setTop (entryFrame m #[(.int i1), (.int i2), (.int i3)] maxLocals)) t := by
      intro t k
      refine pre357 _ ?_
      show Steps p.tables e below (T325.setTop (mkF m 362 #[.val (.int i1), .val (.int i2), .val (.int i3), .val (.int (4 : Int32)), .val (.int qq), .val (.int s0), .val (.int s1), .val (.int s2), .val (.int s3), .val (.ref b3), .val (.ref b25), .val (.ref b47), .val (.ref b109), .val (own_r10d (own_pick qq b5 b10 b15 b20) (own_pick s3 b5 b10 b15 b20) v95 (own_pick s2 b5 b10 b15 b20) v80 (own_pick s1 b5 b10 b15 b20) v65 (own_pick s0 b5 b10 b15 b20) v50), .val (own_j0_353_0 qq s0 s1 s2 s3 v50 v65 v80 v95)] [])) _
      refine XS.aload X325.here hx rfl (hb hby at_362) rfl f325_0 ?_
      refine XS.aload X325.here hx rfl (hb hby at_364) rfl hr358 ?_
      show Steps p.tables e below (T325.setTop (mkF m 366 #[.val (.int i1), .val (.int i2), .val (.int i3), .val (.int (4 : Int32)), .val (.int qq), .val (.int s0), .val (.int s1), .val (.int s2), .val (.int s3), .val (.ref b3), .val (.ref b25), .val (.ref b47), .val (.ref b109), .val (own_r10d (own_pick qq b5 b10 b15 b20) (own_pick s3 b5 b10 b15 b20) v95 (own_pick s2 b5 b10 b15 b20) v80 (own_pick s1 b5 b10 b15 b20) v65 (own_pick s0 b5 b10 b15 b20) v50), .val (own_j0_353_0 qq s0 s1 s2 s3 v50 v65 v80 v95)] [(own_j0_353_0 qq s0 s1 s2 s3 v50 v65 v80 v95), (own_r10d (own_pick qq b5 b10 b15 b20) (own_pick s3 b5 b10 b15 b20) v95 (own_pick s2 b5 b10 b15 b20) v80 (own_pick s1 b5 b10 b15 b20) v65 (own_pick s0 b5 b10 b15 b20) v50)])) _
      refine Jvm.RoadKit.acmp (g := (mkF m 366 #[.val (.int i1), .val (.int i2), .val (.int i3), .val (.int (4 : Int32)), .val (.int qq), .val (.int s0), .val (.int s1), .val (.int s2), .val (.int s3), .val (.ref b3), .val (.ref b25), .val (.ref b47), .val (.ref b109), .val (own_r10d (own_pick qq b5 b10 b15 b20) (own_pick s3 b5 b10 b15 b20) v95 (own_pick s2 b5 b10 b15 b20) v80 (own_pick s1 b5 b10 b15 b20) v65 (own_pick s0 b5 b10 b15 b20) v50), .val (own_j0_353_0 qq s0 s1 s2 s3 v50 v65 v80 v95)] [(own_j0_353_0 qq s0 s1 s2 s3 v50 v65 v80 v95), (own_r10d (own_pick qq b5 b10 b15 b20) (own_pick s3 b5 b10 b15 b20) v95 (own_pick s2 b5 b10 b15 b20) v80 (own_pick s1 b5 b10 b15 b20) v65 (own_pick s0 b5 b10 b15 b20) v50)])) X325 hx rfl f325_0 hr358 (pc0 := 366) (pc' := 369) (same := true) rfl (hb hby at_366) rfl (decide_eq_true hr359) (by decide) (by decide) ?_
      show Steps p.tables e below (T325.setTop (mkF m 369 #[.val (.int i1), .val (.int i2), .val (.int i3), .val (.int (4 : Int32)), .val (.int qq), .val (.int s0), .val (.int s1), .val (.int s2), .val (.int s3), .val (.ref b3), .val (.ref b25), .val (.ref b47), .val (.ref b109), .val (own_r10d (own_pick qq b5 b10 b15 b20) (own_pick s3 b5 b10 b15 b20) v95 (own_pick s2 b5 b10 b15 b20) v80 (own_pick s1 b5 b10 b15 b20) v65 (own_pick s0 b5 b10 b15 b20) v50), .val (own_j0_353_0 qq s0 s1 s2 s3 v50 v65 v80 v95)] [])) _
      refine XS.iconst X325.here hx rfl (hb hby at_369) ?_
      refine XS.goto X325.here hx rfl (pc0 := 370) (pc' := 374) rfl (hb hby at_370) (by decide) (by decide) ?_
      exact k
    obtain ⟨fs, hr, hrun, hended, hRW⟩ := Stand.leaveW (s := s) (vm₁ := T95.vm) (show Stand p l e room_1 (s.setVm T95.vm) m #[(.int i1), (.int i2), (.int i3)] below meth c T325 _ _ _ from X325) S95 (by rw [e325]; exact Nat.le_trans (Nat.le_of_eq (congrArg Array.size e95)) (Nat.le_trans (Nat.le_trans (Nat.le_trans (Nat.le_trans (Nat.le_trans (Nat.le_trans (Keep.of_wr W107).1 E109.1) Kq112.1) Kq277.1) Kq286.1) Kq296.1) Kq306.1)) (v := some (.int (1 : Int32))) (fun h => by rw [Bd.returns] at h; cases h)
    refine ⟨_, _, pre360 _ ?_, hrun, hended, _, _, rfl, ?_, hRW.1, hRW.2.1, hRW.2.2.1, hRW.2.2.2.mono (by decide) (by decide)⟩
    · show Steps p.tables e below (T325.setTop (mkF m 374 #[.val (.int i1), .val (.int i2), .val (.int i3), .val (.int (4 : Int32)), .val (.int qq), .val (.int s0), .val (.int s1), .val (.int s2), .val (.int s3), .val (.ref b3), .val (.ref b25), .val (.ref b47), .val (.ref b109), .val (own_r10d (own_pick qq b5 b10 b15 b20) (own_pick s3 b5 b10 b15 b20) v95 (own_pick s2 b5 b10 b15 b20) v80 (own_pick s1 b5 b10 b15 b20) v65 (own_pick s0 b5 b10 b15 b20) v50), .val (own_j0_353_0 qq s0 s1 s2 s3 v50 v65 v80 v95)] [(.int (1 : Int32))])) _
      exact retN X325 hx (t := .boolean) Bd.returns (by simp) (hb hby at_374) hr
    · show Q0 Z i1 i2 i3 y5 y13 h0 n0 _ T325.heap _
      rw [e325]
      exact ⟨rfl, N325⟩
theorem own_law (i1 : Int32) (i2 : Int32) (i3 : Int32) : (1 : Int32) = 1 := rfl
set_option maxRecDepth 65536 in
set_option maxHeartbeats 40000000 in
theorem comes_1 {Post : Tables → Env → Array Value → State → Outcome → State → Prop} (hpost : ∀ tb e args s v u, (limb_1_1.after args s (.returned v) u = true ∧ limb_1_2.after args s (.returned v) u = true ∧ True) → ReturnedEndW s (.returned v) u (Jvm.fieldLocs frame_1_writes args s ++ Jvm.arrayLocs frame_1_arrays args s ++ Jvm.staticLocs frame_1_statics s) 64 1280 → Post tb e args s (.returned v) u) :
    ArmFor flags0 classFile x code maxLocals ret World_1 tables_1 room_1 Calls_1 rest_1 Pre_1 Post := by
  intro l hfl _ _ p e ha hc hk s m args below hf hA hF happ hP
  obtain ⟨hcalls, hrest, hpre⟩ := hP
  obtain ⟨-, -, -, hnamed, -, -, -, hat⟩ := (Spec.applies_iff hf).mp happ
  obtain ⟨hg, hn⟩ := and_e (Cond.before_iff.mp (show (Jvm.Cond.and given_1 narrow_1).before args s = true from hpre))
  obtain ⟨g1, g2⟩ := and_e hg
  obtain ⟨g3, g4⟩ := and_e g2
  obtain ⟨g5, g6⟩ := and_e g4
  obtain ⟨w0, w1, w2, rfl⟩ : ∃ w0 w1 w2 : Value, args = #[w0, w1, w2] := by
    have hs : args.size = 3 := by simpa [Cond.value, given_1] using g1
    obtain ⟨L⟩ := args
    match L, hs with
    | [w0, w1, w2], _ => exact ⟨w0, w1, w2, rfl⟩
  have hw := fun d (hd : d ∈ tables_1) => atoms_spec (ws := Jvm.Cond.code x code maxLocals ret :: tables_1) hat d (List.mem_cons_of_mem _ hd)
  have hfit : Fit s := fun {y c} hc i hi => by
    obtain ⟨ha, rfl⟩ := Array.getElem?_eq_some_iff.mp hc
    have q := List.all_eq_true.mp ((Array.all_eq_true_iff_forall_mem.mp hF) _ (Array.getElem_mem ha)) i (List.mem_range.mpr hi)
    simpa [Array.getElem?_eq_getElem hi] using q
  obtain ⟨hsets, hown0⟩ := atoms_of _ (rest_1_c_eq ▸ (show rest_1_c.before _ s = true from hrest))
  obtain ⟨i0, ei0⟩ := is_v g3
  obtain rfl : w0 = (.int i0) := Option.some.inj ei0
  obtain ⟨i1, ei1⟩ := is_v g5
  obtain rfl : w1 = (.int i1) := Option.some.inj ei1
  obtain ⟨i2, ei2⟩ := is_v g6
  obtain rfl : w2 = (.int i2) := Option.some.inj ei2
  obtain ⟨y5, es_w_DEFAULTCAPACITY_EMPTY_ELEMENTDATA⟩ := arr_v (Cond.before_iff.mp (hsets _ (List.mem_of_getElem? (i := 6) rfl)))
  obtain ⟨y80, y81⟩ := Arr.start es_w_DEFAULTCAPACITY_EMPTY_ELEMENTDATA (Cond.before_iff.mp (hsets _ (List.mem_of_getElem? (i := 6) rfl)))
  have y82 : y80.slots.size = 0 := own_len0 es_w_DEFAULTCAPACITY_EMPTY_ELEMENTDATA y81 (Cond.before_iff.mp (hsets _ (List.mem_of_getElem? (i := 8) rfl)))
  obtain ⟨n, o, h1, h2, h3, _, L, rfl, ⟨hv, N⟩, hq⟩ := rm0 l s _ hw tables_1 i0 i1 i2 y5 y80.cls s.heap s.heap.size (Nat.le_refl _) (Sta.start es_w_DEFAULTCAPACITY_EMPTY_ELEMENTDATA (Or.inr ⟨(hw _ (List.mem_of_getElem? (i := 60) rfl)), (hsets _ (List.mem_of_getElem? (i := 2) rfl))⟩)) (Old.start s) (Arv.start hfit y81 (by rw [y82]; decide) (by rw [y82]; rfl) (by decide) rfl trivial) p e ha hc hk s m _ below hf ((Spec.applies_iff_loose hf).mp happ).1 ⟨rfl, State.Warmed39.refl s, rfl⟩ trivial
  subst hv
  refine ⟨n, _, h1, h2, h3, hpost _ _ _ _ _ _ ⟨Cond.after_iff.mpr rfl, Cond.after_iff.mpr (eq_i res_at (Term.int_eval (1)) rfl), trivial⟩ ⟨hq.1, hq.2.1, hq.2.2.1, (hq.2.2.2.sift fun y hy => Or.inr (N y hy)).mono (by decide) (by decide)⟩⟩
theorem main_1_1 : Claimed_1_1 := comes_1 fun _ _ _ _ _ _ h hF => ⟨h.1, hF⟩
theorem main_1_2 : Claimed_1_2 := comes_1 fun _ _ _ _ _ _ h hF => ⟨h.2.1, hF⟩
end Jvm.Pilot.@@N@@
namespace Jvm.Pilot.@@N@@
open Jvm Jvm.ClassFile Sem Op Lib Jvm.Free Jvm.Stand Jvm.Pilot.@@N@@.Jvm.D
/-! MADE BY PROGRAM (witnessworld.py) out of the Statement's table words and the real class files: 31 classes; the members and pool entries that the words name. The judged class is class 1, her method 1. -/
namespace start1
open Jvm.ClassFile
def u (s : String) : CpInfo := .utf8 (stringToUtf16 s)
/-- a pool by its gaps: so many unusable entries, then the entry; so many at the end -/
def gap : Nat → List CpInfo → List CpInfo
  | 0, r => r
  | n + 1, r => .unusable :: gap n r
def poolList (es : List (Nat × CpInfo)) (last : Nat) : List CpInfo := es.foldr (fun e r => gap e.1 (e.2 :: r)) (gap last [])
def pool (es : List (Nat × CpInfo)) (last : Nat) : Array CpInfo := ⟨poolList es last⟩
def fileOf (pool : Array CpInfo) (this : Nat) (attrs : Array Attribute := #[]) (ms : Array MethodInfo := #[]) (fl : Nat := 33) (sup : Nat := 0) (ifs : Array Nat := #[]) (fds : Array FieldInfo := #[]) : ClassFile where
  minorVersion := 0
  majorVersion := 65
  constantPool := pool
  accessFlags := fl
  thisClass := this
  superClass := sup
  interfaces := ifs
  fields := fds
  methods := ms
  attributes := attrs
def plain (name : String) (sup : Option ClassId) : Class where
  name := name
  kind := .ordinary
  loader := none
  accessFlags := 33
  super := sup
  interfaces := #[]
  cf := none
  fields := #[]
  methods := #[]
  instanceTypes := #[]
  staticTypes := #[]
  resolved := #[]
  callSites := []
  init := .initialized
  statics := none
  mirror := none

def pool0 : Array CpInfo := pool [(5, u "<init>"), (0, u "()V"), (1, .class_ 10), (1, u "java/lang/Object")] 113

def k0c0 : Code := { maxStack := 0, maxLocals := 1, code := object_method_1_code, exceptionTable := #[], attributes := #[] }
def k0m0 : Method := { name := "<init>", desc := "()V", sig := { parameters := [], returnType := none }, accessFlags := 1, code := some k0c0 }
/-- java/lang/Object -/
def k0 : Class := { plain "java/lang/Object" none with
  accessFlags := 33
  interfaces := #[]
  cf := some (fileOf pool0 8 #[] #[{ accessFlags := 1, nameIndex := 5, descriptorIndex := 6, attributes := #[] }] 33 0 #[] #[])
  fields := #[]
  methods := #[k0m0]
  instanceTypes := #[]
  staticTypes := #[]
  resolved := Array.replicate 124 none
  statics := none }

def pool1 : Array CpInfo := pool [(2, .class_ 4), (0, .nameAndType 5 6), (0, u "java/lang/Object"), (0, u "<init>"), (0, u "()V"), (0, .class_ 8), (0, u "com/example/fetchwright/fetchwright/service/SecondaryLoad"), (0, .methodref 7 10), (0, .nameAndType 11 12), (0, u "ofProxy"), (0, u "()Lcom/example/fetchwright/fetchwright/service/SecondaryLoad;"), (0, .class_ 14), (0, u "com/example/fetchwright/fetchwright/service/LoadsInProgress"), (0, .methodref 13 3), (0, .methodref 13 17), (0, .nameAndType 18 19), (0, u "started"), (0, u "(Ljava/lang/Object;Ljava/lang/Object;Lcom/example/fetchwright/fetchwright/service/SecondaryLoad;)V"), (0, .methodref 13 21), (0, .nameAndType 22 23), (0, u "innermost"), (0, u "(Ljava/lang/Object;)Lcom/example/fetchwright/fetchwright/service/SecondaryLoad;"), (0, .class_ 25), (0, u "com/example/fetchwright/fetchwright/service/LoadsInProgressInnermostPinLaw"), (2, u "law"), (0, u "(III)Z")] 7

def k1m0 : Method := { name := "<init>", desc := "()V", sig := { parameters := [], returnType := none }, accessFlags := 1, code := none }
def k1c1 : Code := { maxStack := 5, maxLocals := 15, code := code, exceptionTable := #[], attributes := #[] }
def k1m1 : Method := { name := "law", desc := "(III)Z", sig := { parameters := [.int, .int, .int], returnType := some .boolean }, accessFlags := 9, code := some k1c1 }
/-- com/example/fetchwright/fetchwright/service/LoadsInProgressInnermostPinLaw -/
def k1 : Class := { plain "com/example/fetchwright/fetchwright/service/LoadsInProgressInnermostPinLaw" (some 0) with
  accessFlags := 49
  interfaces := #[]
  cf := some (fileOf pool1 24 #[] #[{ accessFlags := 1, nameIndex := 5, descriptorIndex := 6, attributes := #[] }, { accessFlags := 9, nameIndex := 28, descriptorIndex := 29, attributes := #[] }] 49 2 #[] #[])
  fields := #[]
  methods := #[k1m0, k1m1]
  instanceTypes := #[]
  staticTypes := #[]
  resolved := Array.replicate 37 none
  statics := none }

def pool2 : Array CpInfo := pool [(1, .methodref 2 3), (0, .class_ 4), (0, .nameAndType 5 6), (0, u "java/lang/Object"), (0, u "<init>"), (0, u "()V"), (0, .class_ 8), (0, u "com/example/fetchwright/fetchwright/service/Origin"), (0, .string 10), (0, u ""), (0, .methodref 7 12), (0, .nameAndType 5 13), (0, u "(Lcom/example/fetchwright/fetchwright/service/SecondaryLoad;Ljava/lang/String;)V"), (0, .fieldref 15 16), (0, .class_ 17), (0, .nameAndType 18 19), (0, u "com/example/fetchwright/fetchwright/service/SecondaryLoad"), (0, u "resultOrigin"), (0, u "Lcom/example/fetchwright/fetchwright/service/Origin;"), (0, .fieldref 15 21), (0, .nameAndType 22 23), (0, u "ofCollection"), (0, u "Z"), (0, .fieldref 15 25), (0, .nameAndType 26 23), (0, u "claimedLater"), (0, .fieldref 15 28), (0, .nameAndType 29 23), (0, u "withOthers"), (0, .methodref 15 31), (0, .nameAndType 5 32), (0, u "(ZZZ)V"), (2, u "role"), (0, u "Ljava/lang/String;"), (2, u "ended"), (2, u "statements"), (0, u "J"), (2, u "loaded"), (2, u "owner"), (2, u "cacheHit"), (26, u "()Lcom/example/fetchwright/fetchwright/service/SecondaryLoad;"), (21, u "ofProxy")] 33

def k2c0 : Code := { maxStack := 5, maxLocals := 4, code := prog_16_method_1_code, exceptionTable := #[], attributes := #[] }
def k2m0 : Method := { name := "<init>", desc := "(ZZZ)V", sig := { parameters := [.boolean, .boolean, .boolean], returnType := none }, accessFlags := 2, code := some k2c0 }
def k2c1 : Code := { maxStack := 5, maxLocals := 0, code := prog_16_method_3_code, exceptionTable := #[], attributes := #[] }
def k2m1 : Method := { name := "ofProxy", desc := "()Lcom/example/fetchwright/fetchwright/service/SecondaryLoad;", sig := { parameters := [], returnType := some (.object "com/example/fetchwright/fetchwright/service/SecondaryLoad") }, accessFlags := 8, code := some k2c1 }
/-- com/example/fetchwright/fetchwright/service/SecondaryLoad -/
def k2 : Class := { plain "com/example/fetchwright/fetchwright/service/SecondaryLoad" (some 0) with
  accessFlags := 48
  interfaces := #[]
  cf := some (fileOf pool2 15 #[] #[{ accessFlags := 2, nameIndex := 5, descriptorIndex := 32, attributes := #[] }, { accessFlags := 8, nameIndex := 101, descriptorIndex := 79, attributes := #[] }] 48 2 #[] #[{ accessFlags := 18, nameIndex := 22, descriptorIndex := 23, attributes := #[] }, { accessFlags := 18, nameIndex := 26, descriptorIndex := 23, attributes := #[] }, { accessFlags := 18, nameIndex := 29, descriptorIndex := 23, attributes := #[] }, { accessFlags := 18, nameIndex := 18, descriptorIndex := 19, attributes := #[] }, { accessFlags := 2, nameIndex := 35, descriptorIndex := 36, attributes := #[] }, { accessFlags := 2, nameIndex := 49, descriptorIndex := 19, attributes := #[] }, { accessFlags := 2, nameIndex := 42, descriptorIndex := 43, attributes := #[] }, { accessFlags := 2, nameIndex := 46, descriptorIndex := 43, attributes := #[] }, { accessFlags := 2, nameIndex := 52, descriptorIndex := 23, attributes := #[] }, { accessFlags := 2, nameIndex := 39, descriptorIndex := 23, attributes := #[] }])
  fields := #[{ name := "ofCollection", type := .boolean, accessFlags := 18, slot := 0, constantValue := 0 }, { name := "claimedLater", type := .boolean, accessFlags := 18, slot := 1, constantValue := 0 }, { name := "withOthers", type := .boolean, accessFlags := 18, slot := 2, constantValue := 0 }, { name := "resultOrigin", type := (.object "com/example/fetchwright/fetchwright/service/Origin"), accessFlags := 18, slot := 3, constantValue := 0 }, { name := "role", type := (.object "java/lang/String"), accessFlags := 2, slot := 4, constantValue := 0 }, { name := "owner", type := (.object "com/example/fetchwright/fetchwright/service/Origin"), accessFlags := 2, slot := 5, constantValue := 0 }, { name := "statements", type := .long, accessFlags := 2, slot := 6, constantValue := 0 }, { name := "loaded", type := .long, accessFlags := 2, slot := 7, constantValue := 0 }, { name := "cacheHit", type := .boolean, accessFlags := 2, slot := 8, constantValue := 0 }, { name := "ended", type := .boolean, accessFlags := 2, slot := 9, constantValue := 0 }]
  methods := #[k2m0, k2m1]
  instanceTypes := #[.boolean, .boolean, .boolean, (.object "com/example/fetchwright/fetchwright/service/Origin"), (.object "java/lang/String"), (.object "com/example/fetchwright/fetchwright/service/Origin"), .long, .long, .boolean, .boolean]
  staticTypes := #[]
  resolved := Array.replicate 135 none
  statics := none }

def pool3 : Array CpInfo := pool [(1, .methodref 2 3), (0, .class_ 4), (0, .nameAndType 5 6), (0, u "java/lang/Object"), (0, u "<init>"), (0, u "()V"), (0, .class_ 8), (0, u "java/lang/Record")] 13

def k3c0 : Code := { maxStack := 1, maxLocals := 1, code := jdk_30_method_1_code, exceptionTable := #[], attributes := #[] }
def k3m0 : Method := { name := "<init>", desc := "()V", sig := { parameters := [], returnType := none }, accessFlags := 4, code := some k3c0 }
/-- java/lang/Record -/
def k3 : Class := { plain "java/lang/Record" (some 0) with
  accessFlags := 1057
  interfaces := #[]
  cf := some (fileOf pool3 7 #[] #[{ accessFlags := 4, nameIndex := 5, descriptorIndex := 6, attributes := #[] }] 1057 2 #[] #[])
  fields := #[]
  methods := #[k3m0]
  instanceTypes := #[]
  staticTypes := #[]
  resolved := Array.replicate 22 none
  statics := none }

def pool4 : Array CpInfo := pool [(1, .methodref 2 3), (0, .class_ 4), (0, .nameAndType 5 6), (0, u "java/lang/Record"), (0, u "<init>"), (0, u "()V"), (0, .fieldref 8 9), (0, .class_ 10), (0, .nameAndType 11 12), (0, u "com/example/fetchwright/fetchwright/service/Origin"), (0, u "load"), (0, u "Lcom/example/fetchwright/fetchwright/service/SecondaryLoad;"), (0, .fieldref 8 14), (0, .nameAndType 15 16), (0, u "path"), (0, u "Ljava/lang/String;"), (2, u "UNIT_OF_WORK"), (0, u "Lcom/example/fetchwright/fetchwright/service/Origin;"), (32, u "(Lcom/example/fetchwright/fetchwright/service/SecondaryLoad;Ljava/lang/String;)V")] 42

def k4c0 : Code := { maxStack := 2, maxLocals := 3, code := prog_12_method_1_code, exceptionTable := #[], attributes := #[] }
def k4m0 : Method := { name := "<init>", desc := "(Lcom/example/fetchwright/fetchwright/service/SecondaryLoad;Ljava/lang/String;)V", sig := { parameters := [(.object "com/example/fetchwright/fetchwright/service/SecondaryLoad"), (.object "java/lang/String")], returnType := none }, accessFlags := 0, code := some k4c0 }
/-- com/example/fetchwright/fetchwright/service/Origin -/
def k4 : Class := { plain "com/example/fetchwright/fetchwright/service/Origin" (some 3) with
  accessFlags := 48
  interfaces := #[]
  cf := some (fileOf pool4 8 #[] #[{ accessFlags := 0, nameIndex := 5, descriptorIndex := 53, attributes := #[] }] 48 2 #[] #[{ accessFlags := 18, nameIndex := 11, descriptorIndex := 12, attributes := #[] }, { accessFlags := 18, nameIndex := 15, descriptorIndex := 16, attributes := #[] }, { accessFlags := 24, nameIndex := 19, descriptorIndex := 20, attributes := #[] }])
  fields := #[{ name := "load", type := (.object "com/example/fetchwright/fetchwright/service/SecondaryLoad"), accessFlags := 18, slot := 0, constantValue := 0 }, { name := "path", type := (.object "java/lang/String"), accessFlags := 18, slot := 1, constantValue := 0 }, { name := "UNIT_OF_WORK", type := (.object "com/example/fetchwright/fetchwright/service/Origin"), accessFlags := 24, slot := 0, constantValue := 0 }]
  methods := #[k4m0]
  instanceTypes := #[(.object "com/example/fetchwright/fetchwright/service/SecondaryLoad"), (.object "java/lang/String")]
  staticTypes := #[(.object "com/example/fetchwright/fetchwright/service/Origin")]
  resolved := Array.replicate 96 none
  statics := none }

def pool5 : Array CpInfo := pool [(1, .class_ 2), (0, u "java/io/Serializable"), (0, .class_ 4), (0, u "java/lang/Object")] 2

/-- java/io/Serializable -/
def k5 : Class := { plain "java/io/Serializable" (some 0) with
  accessFlags := 1537
  interfaces := #[]
  cf := some (fileOf pool5 1 #[] #[] 1537 3 #[] #[])
  fields := #[]
  methods := #[]
  instanceTypes := #[]
  staticTypes := #[]
  resolved := Array.replicate 7 none
  statics := none }

def pool6 : Array CpInfo := pool [(1, .class_ 2), (0, u "java/lang/Comparable"), (0, .class_ 4), (0, u "java/lang/Object")] 7

/-- java/lang/Comparable -/
def k6 : Class := { plain "java/lang/Comparable" (some 0) with
  accessFlags := 1537
  interfaces := #[]
  cf := some (fileOf pool6 1 #[] #[] 1537 3 #[] #[])
  fields := #[]
  methods := #[]
  instanceTypes := #[]
  staticTypes := #[]
  resolved := Array.replicate 12 none
  statics := none }

def pool7 : Array CpInfo := pool [(2, .class_ 4), (1, u "java/lang/CharSequence"), (42, .class_ 48), (0, u "java/lang/CharSequence$1CodePointIterator"), (10, .class_ 60), (0, u "java/lang/CharSequence$1CharIterator"), (5, .class_ 67), (0, u "java/lang/Object")] 63

/-- java/lang/CharSequence -/
def k7 : Class := { plain "java/lang/CharSequence" (some 0) with
  accessFlags := 1537
  interfaces := #[]
  cf := some (fileOf pool7 2 #[.nestMembers #[47, 59]] #[] 1537 66 #[] #[])
  fields := #[]
  methods := #[]
  instanceTypes := #[]
  staticTypes := #[]
  resolved := Array.replicate 131 none
  statics := none }

def pool8 : Array CpInfo := pool [(1, .class_ 2), (0, u "java/lang/constant/Constable"), (0, .class_ 4), (0, u "java/lang/Object")] 6

/-- java/lang/constant/Constable -/
def k8 : Class := { plain "java/lang/constant/Constable" (some 0) with
  accessFlags := 1537
  interfaces := #[]
  cf := some (fileOf pool8 1 #[] #[] 1537 3 #[] #[])
  fields := #[]
  methods := #[]
  instanceTypes := #[]
  staticTypes := #[]
  resolved := Array.replicate 11 none
  statics := none }

def pool9 : Array CpInfo := pool [(1, .class_ 2), (0, u "java/lang/constant/ConstantDesc"), (0, .class_ 4), (0, u "java/lang/Object")] 32

/-- java/lang/constant/ConstantDesc -/
def k9 : Class := { plain "java/lang/constant/ConstantDesc" (some 0) with
  accessFlags := 1537
  interfaces := #[]
  cf := some (fileOf pool9 1 #[] #[] 1537 3 #[] #[])
  fields := #[]
  methods := #[]
  instanceTypes := #[]
  staticTypes := #[]
  resolved := Array.replicate 37 none
  statics := none }

def pool10 : Array CpInfo := pool [(2, .class_ 4), (1, u "java/lang/Object"), (0, u "<init>"), (0, u "()V"), (3, .class_ 12), (1, u "java/lang/String"), (0, u "value"), (0, u "[B"), (2, u "coder"), (0, u "B"), (2, u "hash"), (0, u "I"), (2, u "hashIsZero"), (0, u "Z"), (13, u "COMPACT_STRINGS"), (534, .class_ 576), (0, u "java/lang/CharSequence"), (22, u "CASE_INSENSITIVE_ORDER"), (0, u "Ljava/util/Comparator;"), (500, u "serialPersistentFields"), (0, u "[Ljava/io/ObjectStreamField;"), (0, .class_ 1104), (0, u "java/lang/String$CaseInsensitiveComparator"), (1, .class_ 1107), (0, u "java/io/Serializable"), (0, .class_ 1109), (0, u "java/lang/Comparable"), (0, .class_ 1111), (0, u "java/lang/constant/Constable"), (0, .class_ 1113), (0, u "java/lang/constant/ConstantDesc"), (2, u "serialVersionUID"), (0, u "J"), (3, u "REPL"), (0, u "C"), (2, u "LATIN1"), (1, u "UTF16")] 323

def k10m0 : Method := { name := "<init>", desc := "()V", sig := { parameters := [], returnType := none }, accessFlags := 1, code := none }
/-- java/lang/String -/
def k10 : Class := { plain "java/lang/String" (some 0) with
  accessFlags := 49
  interfaces := #[5, 6, 7, 8, 9]
  cf := some (fileOf pool10 10 #[.nestMembers #[1103]] #[{ accessFlags := 1, nameIndex := 5, descriptorIndex := 6, attributes := #[] }] 49 2 #[1106, 1108, 575, 1110, 1112] #[{ accessFlags := 18, nameIndex := 13, descriptorIndex := 14, attributes := #[] }, { accessFlags := 18, nameIndex := 17, descriptorIndex := 18, attributes := #[] }, { accessFlags := 2, nameIndex := 21, descriptorIndex := 22, attributes := #[] }, { accessFlags := 2, nameIndex := 25, descriptorIndex := 26, attributes := #[] }, { accessFlags := 26, nameIndex := 1116, descriptorIndex := 1117, attributes := #[] }, { accessFlags := 24, nameIndex := 40, descriptorIndex := 26, attributes := #[] }, { accessFlags := 26, nameIndex := 1101, descriptorIndex := 1102, attributes := #[] }, { accessFlags := 26, nameIndex := 1121, descriptorIndex := 1122, attributes := #[] }, { accessFlags := 25, nameIndex := 599, descriptorIndex := 600, attributes := #[] }, { accessFlags := 24, nameIndex := 1125, descriptorIndex := 18, attributes := #[] }, { accessFlags := 24, nameIndex := 1127, descriptorIndex := 18, attributes := #[] }])
  fields := #[{ name := "value", type := (.array .byte), accessFlags := 18, slot := 0, constantValue := 0 }, { name := "coder", type := .byte, accessFlags := 18, slot := 1, constantValue := 0 }, { name := "hash", type := .int, accessFlags := 2, slot := 2, constantValue := 0 }, { name := "hashIsZero", type := .boolean, accessFlags := 2, slot := 3, constantValue := 0 }, { name := "serialVersionUID", type := .long, accessFlags := 26, slot := 0, constantValue := 0 }, { name := "COMPACT_STRINGS", type := .boolean, accessFlags := 24, slot := 1, constantValue := 0 }, { name := "serialPersistentFields", type := (.array (.object "java/io/ObjectStreamField")), accessFlags := 26, slot := 2, constantValue := 0 }, { name := "REPL", type := .char, accessFlags := 26, slot := 3, constantValue := 0 }, { name := "CASE_INSENSITIVE_ORDER", type := (.object "java/util/Comparator"), accessFlags := 25, slot := 4, constantValue := 0 }, { name := "LATIN1", type := .byte, accessFlags := 24, slot := 5, constantValue := 0 }, { name := "UTF16", type := .byte, accessFlags := 24, slot := 6, constantValue := 0 }]
  methods := #[k10m0]
  instanceTypes := #[(.array .byte), .byte, .int, .boolean]
  staticTypes := #[.long, .boolean, (.array (.object "java/io/ObjectStreamField")), .char, (.object "java/util/Comparator"), .byte, .byte]
  resolved := Array.replicate 1451 none
  statics := none }

def pool11 : Array CpInfo := pool [(1, .methodref 2 3), (0, .class_ 4), (0, .nameAndType 5 6), (0, u "java/lang/Object"), (0, u "<init>"), (0, u "()V"), (0, .class_ 8), (0, u "java/util/ArrayList"), (0, .methodref 7 3), (0, .fieldref 11 12), (0, .class_ 13), (0, .nameAndType 14 15), (0, u "com/example/fetchwright/fetchwright/service/LoadsInProgress"), (0, u "loads"), (0, u "Ljava/util/ArrayList;"), (0, .class_ 17), (0, u "com/example/fetchwright/fetchwright/service/LoadsInProgress$Load"), (0, .methodref 16 19), (0, .nameAndType 5 20), (0, u "(Ljava/lang/Object;Ljava/lang/Object;Lcom/example/fetchwright/fetchwright/service/SecondaryLoad;)V"), (0, .methodref 7 22), (0, .nameAndType 23 24), (0, u "add"), (0, u "(Ljava/lang/Object;)Z"), (0, .methodref 7 26), (0, .nameAndType 27 28), (0, u "size"), (0, u "()I"), (0, .methodref 7 30), (0, .nameAndType 31 32), (0, u "get"), (0, u "(I)Ljava/lang/Object;"), (3, u "()Ljava/lang/Object;"), (3, .methodref 16 41), (0, .nameAndType 42 43), (0, u "secondary"), (0, u "()Lcom/example/fetchwright/fetchwright/service/SecondaryLoad;"), (0, .methodref 16 45), (0, .nameAndType 46 36), (0, u "session"), (8, u "started"), (1, u "(Ljava/lang/Object;)Lcom/example/fetchwright/fetchwright/service/SecondaryLoad;"), (1, u "innermost")] 7

def k11c0 : Code := { maxStack := 3, maxLocals := 1, code := prog_9_method_1_code, exceptionTable := #[], attributes := #[] }
def k11m0 : Method := { name := "<init>", desc := "()V", sig := { parameters := [], returnType := none }, accessFlags := 0, code := some k11c0 }
def k11c1 : Code := { maxStack := 6, maxLocals := 4, code := prog_9_method_2_code, exceptionTable := #[], attributes := #[] }
def k11m1 : Method := { name := "started", desc := "(Ljava/lang/Object;Ljava/lang/Object;Lcom/example/fetchwright/fetchwright/service/SecondaryLoad;)V", sig := { parameters := [(.object "java/lang/Object"), (.object "java/lang/Object"), (.object "com/example/fetchwright/fetchwright/service/SecondaryLoad")], returnType := none }, accessFlags := 0, code := some k11c1 }
def k11c2 : Code := { maxStack := 2, maxLocals := 4, code := prog_9_method_4_code, exceptionTable := #[], attributes := #[] }
def k11m2 : Method := { name := "innermost", desc := "(Ljava/lang/Object;)Lcom/example/fetchwright/fetchwright/service/SecondaryLoad;", sig := { parameters := [(.object "java/lang/Object")], returnType := some (.object "com/example/fetchwright/fetchwright/service/SecondaryLoad") }, accessFlags := 0, code := some k11c2 }
/-- com/example/fetchwright/fetchwright/service/LoadsInProgress -/
def k11 : Class := { plain "com/example/fetchwright/fetchwright/service/LoadsInProgress" (some 0) with
  accessFlags := 48
  interfaces := #[]
  cf := some (fileOf pool11 11 #[.nestMembers #[16]] #[{ accessFlags := 0, nameIndex := 5, descriptorIndex := 6, attributes := #[] }, { accessFlags := 0, nameIndex := 55, descriptorIndex := 20, attributes := #[] }, { accessFlags := 0, nameIndex := 59, descriptorIndex := 57, attributes := #[] }] 48 2 #[] #[{ accessFlags := 18, nameIndex := 14, descriptorIndex := 15, attributes := #[] }])
  fields := #[{ name := "loads", type := (.object "java/util/ArrayList"), accessFlags := 18, slot := 0, constantValue := 0 }]
  methods := #[k11m0, k11m1, k11m2]
  instanceTypes := #[(.object "java/util/ArrayList")]
  staticTypes := #[]
  resolved := ⟨List.replicate 16 none ++ [some (.cls 21), none, some (.method ⟨21, 0⟩)] ++ List.replicate 48 none⟩
  statics := none }

def pool12 : Array CpInfo := pool [(8, .class_ 10), (1, u "java/lang/Iterable"), (24, .class_ 36), (0, u "java/lang/Object")] 25

/-- java/lang/Iterable -/
def k12 : Class := { plain "java/lang/Iterable" (some 0) with
  accessFlags := 1537
  interfaces := #[]
  cf := some (fileOf pool12 8 #[] #[] 1537 35 #[] #[])
  fields := #[]
  methods := #[]
  instanceTypes := #[]
  staticTypes := #[]
  resolved := Array.replicate 62 none
  statics := none }

def pool13 : Array CpInfo := pool [(10, .class_ 12), (1, u "java/util/Collection"), (47, .class_ 61), (0, u "java/lang/Object"), (0, .class_ 63), (0, u "java/lang/Iterable")] 51

/-- java/util/Collection -/
def k13 : Class := { plain "java/util/Collection" (some 0) with
  accessFlags := 1537
  interfaces := #[12]
  cf := some (fileOf pool13 10 #[] #[] 1537 60 #[62] #[])
  fields := #[]
  methods := #[]
  instanceTypes := #[]
  staticTypes := #[]
  resolved := Array.replicate 115 none
  statics := none }

def pool14 : Array CpInfo := pool [(1, .methodref 2 3), (0, .class_ 4), (0, .nameAndType 5 6), (0, u "java/lang/Object"), (0, u "<init>"), (0, u "()V"), (1, .class_ 10), (1, u "java/util/AbstractCollection"), (66, .class_ 78), (0, u "java/util/Collection")] 81

def k14c0 : Code := { maxStack := 1, maxLocals := 1, code := jdk_22_method_1_code, exceptionTable := #[], attributes := #[] }
def k14m0 : Method := { name := "<init>", desc := "()V", sig := { parameters := [], returnType := none }, accessFlags := 4, code := some k14c0 }
/-- java/util/AbstractCollection -/
def k14 : Class := { plain "java/util/AbstractCollection" (some 0) with
  accessFlags := 1057
  interfaces := #[13]
  cf := some (fileOf pool14 8 #[] #[{ accessFlags := 4, nameIndex := 5, descriptorIndex := 6, attributes := #[] }] 1057 2 #[77] #[])
  fields := #[]
  methods := #[k14m0]
  instanceTypes := #[]
  staticTypes := #[]
  resolved := Array.replicate 160 none
  statics := none }

def pool15 : Array CpInfo := pool [(8, .class_ 10), (1, u "java/util/SequencedCollection"), (15, .class_ 27), (0, u "java/lang/Object"), (0, .class_ 29), (0, u "java/util/Collection")] 27

/-- java/util/SequencedCollection -/
def k15 : Class := { plain "java/util/SequencedCollection" (some 0) with
  accessFlags := 1537
  interfaces := #[13]
  cf := some (fileOf pool15 8 #[] #[] 1537 26 #[28] #[])
  fields := #[]
  methods := #[]
  instanceTypes := #[]
  staticTypes := #[]
  resolved := Array.replicate 57 none
  statics := none }

def pool16 : Array CpInfo := pool [(8, .class_ 10), (1, u "java/util/List"), (92, .class_ 104), (0, u "java/lang/Object"), (15, .class_ 121), (0, u "java/util/SequencedCollection")] 129

/-- java/util/List -/
def k16 : Class := { plain "java/util/List" (some 0) with
  accessFlags := 1537
  interfaces := #[15]
  cf := some (fileOf pool16 8 #[] #[] 1537 103 #[120] #[])
  fields := #[]
  methods := #[]
  instanceTypes := #[]
  staticTypes := #[]
  resolved := Array.replicate 251 none
  statics := none }

def pool17 : Array CpInfo := pool [(1, .methodref 2 3), (0, .class_ 4), (0, .nameAndType 5 6), (0, u "java/util/AbstractCollection"), (0, u "<init>"), (0, u "()V"), (0, .fieldref 8 9), (0, .class_ 10), (0, .nameAndType 11 12), (0, u "java/util/AbstractList"), (0, u "modCount"), (0, u "I"), (64, .class_ 78), (0, u "java/util/AbstractList$Itr"), (3, .class_ 83), (0, u "java/util/AbstractList$ListItr"), (9, .class_ 94), (0, u "java/util/AbstractList$RandomAccessSubList"), (3, .class_ 99), (0, u "java/util/AbstractList$SubList"), (33, .class_ 134), (0, u "java/util/List"), (73, .class_ 209), (0, u "java/util/AbstractList$SubList$1"), (0, .class_ 211), (0, u "java/util/AbstractList$RandomAccessSpliterator")] 6

def k17c0 : Code := { maxStack := 2, maxLocals := 1, code := jdk_39_method_1_code, exceptionTable := #[], attributes := #[] }
def k17m0 : Method := { name := "<init>", desc := "()V", sig := { parameters := [], returnType := none }, accessFlags := 4, code := some k17c0 }
/-- java/util/AbstractList -/
def k17 : Class := { plain "java/util/AbstractList" (some 14) with
  accessFlags := 1057
  interfaces := #[16]
  cf := some (fileOf pool17 8 #[.nestMembers #[93, 98, 208, 210, 82, 77]] #[{ accessFlags := 4, nameIndex := 5, descriptorIndex := 6, attributes := #[] }] 1057 2 #[133] #[{ accessFlags := 132, nameIndex := 11, descriptorIndex := 12, attributes := #[] }])
  fields := #[{ name := "modCount", type := .int, accessFlags := 132, slot := 0, constantValue := 0 }]
  methods := #[k17m0]
  instanceTypes := #[.int]
  staticTypes := #[]
  resolved := Array.replicate 218 none
  statics := none }

def pool18 : Array CpInfo := pool [(1, .class_ 2), (0, u "java/util/RandomAccess"), (0, .class_ 4), (0, u "java/lang/Object")] 2

/-- java/util/RandomAccess -/
def k18 : Class := { plain "java/util/RandomAccess" (some 0) with
  accessFlags := 1537
  interfaces := #[]
  cf := some (fileOf pool18 1 #[] #[] 1537 3 #[] #[])
  fields := #[]
  methods := #[]
  instanceTypes := #[]
  staticTypes := #[]
  resolved := Array.replicate 7 none
  statics := none }

def pool19 : Array CpInfo := pool [(1, .class_ 2), (0, u "java/lang/Cloneable"), (0, .class_ 4), (0, u "java/lang/Object")] 2

/-- java/lang/Cloneable -/
def k19 : Class := { plain "java/lang/Cloneable" (some 0) with
  accessFlags := 1537
  interfaces := #[]
  cf := some (fileOf pool19 1 #[] #[] 1537 3 #[] #[])
  fields := #[]
  methods := #[]
  instanceTypes := #[]
  staticTypes := #[]
  resolved := Array.replicate 7 none
  statics := none }

def pool20 : Array CpInfo := pool [(1, .methodref 2 3), (0, .class_ 4), (0, .nameAndType 5 6), (0, u "java/util/AbstractList"), (0, u "<init>"), (0, u "()V"), (0, .class_ 8), (0, u "java/lang/Object"), (0, .fieldref 10 11), (0, .class_ 12), (0, .nameAndType 13 14), (0, u "java/util/ArrayList"), (0, u "elementData"), (0, u "[Ljava/lang/Object;"), (2, u "EMPTY_ELEMENTDATA"), (21, .fieldref 10 40), (0, .nameAndType 41 14), (0, u "DEFAULTCAPACITY_EMPTY_ELEMENTDATA"), (5, u "()[Ljava/lang/Object;"), (0, .fieldref 10 49), (0, .nameAndType 50 51), (0, u "size"), (0, u "I"), (11, .fieldref 10 64), (0, .nameAndType 65 51), (0, u "modCount"), (3, .methodref 10 70), (0, .nameAndType 71 72), (0, u "grow"), (0, u "(I)[Ljava/lang/Object;"), (6, .methodref 80 81), (0, .class_ 82), (0, .nameAndType 83 84), (0, u "java/lang/Math"), (0, u "max"), (0, u "(II)I"), (11, u "(Ljava/lang/Object;)Z"), (21, .methodref 119 120), (0, .class_ 121), (0, .nameAndType 122 84), (0, u "java/util/Objects"), (0, u "checkIndex"), (0, .methodref 10 124), (0, .nameAndType 13 125), (0, u "(I)Ljava/lang/Object;"), (3, .methodref 10 130), (0, .nameAndType 71 47), (0, .methodref 10 132), (0, .nameAndType 133 134), (0, u "add"), (0, u "(Ljava/lang/Object;[Ljava/lang/Object;I)V"), (13, .class_ 149), (0, u "java/util/List"), (36, u "()I"), (75, .class_ 263), (0, u "java/util/ArrayList$ListItr"), (3, .class_ 268), (0, u "java/util/ArrayList$Itr"), (7, .class_ 277), (0, u "java/util/ArrayList$SubList"), (12, .class_ 291), (0, u "java/util/ArrayList$ArrayListSpliterator"), (37, .class_ 330), (0, u "java/util/RandomAccess"), (0, .class_ 332), (0, u "java/lang/Cloneable"), (0, .class_ 334), (0, u "java/io/Serializable"), (0, u "serialVersionUID"), (0, u "J"), (3, u "DEFAULT_CAPACITY"), (40, u "get"), (118, .class_ 501), (0, u "java/util/ArrayList$SubList$2"), (0, .class_ 503), (0, u "java/util/ArrayList$SubList$1")] 5

def k20c0 : Code := { maxStack := 2, maxLocals := 1, code := jdk_38_method_2_code, exceptionTable := #[], attributes := #[] }
def k20m0 : Method := { name := "<init>", desc := "()V", sig := { parameters := [], returnType := none }, accessFlags := 1, code := some k20c0 }
def k20c1 : Code := { maxStack := 4, maxLocals := 4, code := jdk_38_method_6_code, exceptionTable := #[], attributes := #[] }
def k20m1 : Method := { name := "grow", desc := "(I)[Ljava/lang/Object;", sig := { parameters := [.int], returnType := some (.array (.object "java/lang/Object")) }, accessFlags := 2, code := some k20c1 }
def k20c2 : Code := { maxStack := 3, maxLocals := 1, code := jdk_38_method_7_code, exceptionTable := #[], attributes := #[] }
def k20m2 : Method := { name := "grow", desc := "()[Ljava/lang/Object;", sig := { parameters := [], returnType := some (.array (.object "java/lang/Object")) }, accessFlags := 2, code := some k20c2 }
def k20c3 : Code := { maxStack := 1, maxLocals := 1, code := jdk_38_method_8_code, exceptionTable := #[], attributes := #[] }
def k20m3 : Method := { name := "size", desc := "()I", sig := { parameters := [], returnType := some .int }, accessFlags := 1, code := some k20c3 }
def k20c4 : Code := { maxStack := 2, maxLocals := 2, code := jdk_38_method_18_code, exceptionTable := #[], attributes := #[] }
def k20m4 : Method := { name := "elementData", desc := "(I)Ljava/lang/Object;", sig := { parameters := [.int], returnType := some (.object "java/lang/Object") }, accessFlags := 0, code := some k20c4 }
def k20c5 : Code := { maxStack := 2, maxLocals := 2, code := jdk_38_method_20_code, exceptionTable := #[], attributes := #[] }
def k20m5 : Method := { name := "get", desc := "(I)Ljava/lang/Object;", sig := { parameters := [.int], returnType := some (.object "java/lang/Object") }, accessFlags := 1, code := some k20c5 }
def k20c6 : Code := { maxStack := 3, maxLocals := 4, code := jdk_38_method_24_code, exceptionTable := #[], attributes := #[] }
def k20m6 : Method := { name := "add", desc := "(Ljava/lang/Object;[Ljava/lang/Object;I)V", sig := { parameters := [(.object "java/lang/Object"), (.array (.object "java/lang/Object")), .int], returnType := none }, accessFlags := 2, code := some k20c6 }
def k20c7 : Code := { maxStack := 4, maxLocals := 2, code := jdk_38_method_25_code, exceptionTable := #[], attributes := #[] }
def k20m7 : Method := { name := "add", desc := "(Ljava/lang/Object;)Z", sig := { parameters := [(.object "java/lang/Object")], returnType := some .boolean }, accessFlags := 1, code := some k20c7 }
/-- java/util/ArrayList -/
def k20 : Class := { plain "java/util/ArrayList" (some 17) with
  accessFlags := 33
  interfaces := #[16, 18, 19, 5]
  cf := some (fileOf pool20 10 #[.nestMembers #[290, 276, 500, 502, 262, 267]] #[{ accessFlags := 1, nameIndex := 5, descriptorIndex := 6, attributes := #[] }, { accessFlags := 2, nameIndex := 71, descriptorIndex := 72, attributes := #[] }, { accessFlags := 2, nameIndex := 71, descriptorIndex := 47, attributes := #[] }, { accessFlags := 1, nameIndex := 50, descriptorIndex := 186, attributes := #[] }, { accessFlags := 0, nameIndex := 13, descriptorIndex := 125, attributes := #[] }, { accessFlags := 1, nameIndex := 381, descriptorIndex := 125, attributes := #[] }, { accessFlags := 2, nameIndex := 133, descriptorIndex := 134, attributes := #[] }, { accessFlags := 1, nameIndex := 133, descriptorIndex := 96, attributes := #[] }] 33 2 #[148, 329, 331, 333] #[{ accessFlags := 26, nameIndex := 335, descriptorIndex := 336, attributes := #[] }, { accessFlags := 26, nameIndex := 340, descriptorIndex := 51, attributes := #[] }, { accessFlags := 26, nameIndex := 17, descriptorIndex := 14, attributes := #[] }, { accessFlags := 26, nameIndex := 41, descriptorIndex := 14, attributes := #[] }, { accessFlags := 128, nameIndex := 13, descriptorIndex := 14, attributes := #[] }, { accessFlags := 2, nameIndex := 50, descriptorIndex := 51, attributes := #[] }])
  fields := #[{ name := "serialVersionUID", type := .long, accessFlags := 26, slot := 0, constantValue := 0 }, { name := "DEFAULT_CAPACITY", type := .int, accessFlags := 26, slot := 1, constantValue := 0 }, { name := "EMPTY_ELEMENTDATA", type := (.array (.object "java/lang/Object")), accessFlags := 26, slot := 2, constantValue := 0 }, { name := "DEFAULTCAPACITY_EMPTY_ELEMENTDATA", type := (.array (.object "java/lang/Object")), accessFlags := 26, slot := 3, constantValue := 0 }, { name := "elementData", type := (.array (.object "java/lang/Object")), accessFlags := 128, slot := 1, constantValue := 0 }, { name := "size", type := .int, accessFlags := 2, slot := 2, constantValue := 0 }]
  methods := #[k20m0, k20m1, k20m2, k20m3, k20m4, k20m5, k20m6, k20m7]
  instanceTypes := #[.int, (.array (.object "java/lang/Object")), .int]
  staticTypes := #[.long, .int, (.array (.object "java/lang/Object")), (.array (.object "java/lang/Object"))]
  resolved := Array.replicate 509 none
  statics := some 0 }

def pool21 : Array CpInfo := pool [(1, .methodref 2 3), (0, .class_ 4), (0, .nameAndType 5 6), (0, u "java/lang/Record"), (0, u "<init>"), (0, u "()V"), (0, .fieldref 8 9), (0, .class_ 10), (0, .nameAndType 11 12), (0, u "com/example/fetchwright/fetchwright/service/LoadsInProgress$Load"), (0, u "token"), (0, u "Ljava/lang/Object;"), (0, .fieldref 8 14), (0, .nameAndType 15 12), (0, u "session"), (0, .fieldref 8 17), (0, .nameAndType 18 19), (0, u "secondary"), (0, u "Lcom/example/fetchwright/fetchwright/service/SecondaryLoad;"), (12, u "(Ljava/lang/Object;Ljava/lang/Object;Lcom/example/fetchwright/fetchwright/service/SecondaryLoad;)V"), (6, u "()Ljava/lang/Object;"), (0, u "()Lcom/example/fetchwright/fetchwright/service/SecondaryLoad;"), (3, .class_ 45), (0, u "com/example/fetchwright/fetchwright/service/LoadsInProgress")] 21

def k21c0 : Code := { maxStack := 2, maxLocals := 4, code := prog_10_method_1_code, exceptionTable := #[], attributes := #[] }
def k21m0 : Method := { name := "<init>", desc := "(Ljava/lang/Object;Ljava/lang/Object;Lcom/example/fetchwright/fetchwright/service/SecondaryLoad;)V", sig := { parameters := [(.object "java/lang/Object"), (.object "java/lang/Object"), (.object "com/example/fetchwright/fetchwright/service/SecondaryLoad")], returnType := none }, accessFlags := 2, code := some k21c0 }
def k21c1 : Code := { maxStack := 1, maxLocals := 1, code := prog_10_method_6_code, exceptionTable := #[], attributes := #[] }
def k21m1 : Method := { name := "session", desc := "()Ljava/lang/Object;", sig := { parameters := [], returnType := some (.object "java/lang/Object") }, accessFlags := 1, code := some k21c1 }
def k21c2 : Code := { maxStack := 1, maxLocals := 1, code := prog_10_method_7_code, exceptionTable := #[], attributes := #[] }
def k21m2 : Method := { name := "secondary", desc := "()Lcom/example/fetchwright/fetchwright/service/SecondaryLoad;", sig := { parameters := [], returnType := some (.object "com/example/fetchwright/fetchwright/service/SecondaryLoad") }, accessFlags := 1, code := some k21c2 }
/-- com/example/fetchwright/fetchwright/service/LoadsInProgress$Load -/
def k21 : Class := { plain "com/example/fetchwright/fetchwright/service/LoadsInProgress$Load" (some 3) with
  accessFlags := 48
  interfaces := #[]
  cf := some (fileOf pool21 8 #[.nestHost 44] #[{ accessFlags := 2, nameIndex := 5, descriptorIndex := 32, attributes := #[] }, { accessFlags := 1, nameIndex := 15, descriptorIndex := 39, attributes := #[] }, { accessFlags := 1, nameIndex := 18, descriptorIndex := 40, attributes := #[] }] 48 2 #[] #[{ accessFlags := 18, nameIndex := 11, descriptorIndex := 12, attributes := #[] }, { accessFlags := 18, nameIndex := 15, descriptorIndex := 12, attributes := #[] }, { accessFlags := 18, nameIndex := 18, descriptorIndex := 19, attributes := #[] }])
  fields := #[{ name := "token", type := (.object "java/lang/Object"), accessFlags := 18, slot := 0, constantValue := 0 }, { name := "session", type := (.object "java/lang/Object"), accessFlags := 18, slot := 1, constantValue := 0 }, { name := "secondary", type := (.object "com/example/fetchwright/fetchwright/service/SecondaryLoad"), accessFlags := 18, slot := 2, constantValue := 0 }]
  methods := #[k21m0, k21m1, k21m2]
  instanceTypes := #[(.object "java/lang/Object"), (.object "java/lang/Object"), (.object "com/example/fetchwright/fetchwright/service/SecondaryLoad")]
  staticTypes := #[]
  resolved := Array.replicate 67 none
  statics := none }

def pool22 : Array CpInfo := pool [(1, .class_ 2), (0, u "java/lang/Math"), (1, .class_ 6), (1, u "java/lang/Object"), (0, u "<init>"), (0, u "()V"), (89, .class_ 100), (1, u "java/lang/Math$RandomNumberGeneratorHolder"), (71, u "negativeZeroFloatBits"), (0, u "J"), (2, u "negativeZeroDoubleBits"), (21, u "max"), (46, u "$assertionsDisabled"), (0, u "Z"), (88, u "(II)I"), (2, u "twoToTheDoubleScaleDown"), (0, u "D"), (4, u "twoToTheDoubleScaleUp"), (9, u "E"), (3, u "PI"), (2, u "TAU"), (2, u "DEGREES_TO_RADIANS"), (0, u "RADIANS_TO_DEGREES")] 94

def k22m0 : Method := { name := "<init>", desc := "()V", sig := { parameters := [], returnType := none }, accessFlags := 2, code := none }
def k22c1 : Code := { maxStack := 2, maxLocals := 2, code := jdk_29_method_65_code, exceptionTable := #[], attributes := #[] }
def k22m1 : Method := { name := "max", desc := "(II)I", sig := { parameters := [.int, .int], returnType := some .int }, accessFlags := 9, code := some k22c1 }
/-- java/lang/Math -/
def k22 : Class := { plain "java/lang/Math" (some 0) with
  accessFlags := 49
  interfaces := #[]
  cf := some (fileOf pool22 1 #[.nestMembers #[98]] #[{ accessFlags := 2, nameIndex := 7, descriptorIndex := 8, attributes := #[] }, { accessFlags := 9, nameIndex := 198, descriptorIndex := 335, attributes := #[] }] 49 4 #[] #[{ accessFlags := 25, nameIndex := 354, descriptorIndex := 339, attributes := #[] }, { accessFlags := 25, nameIndex := 358, descriptorIndex := 339, attributes := #[] }, { accessFlags := 25, nameIndex := 361, descriptorIndex := 339, attributes := #[] }, { accessFlags := 26, nameIndex := 364, descriptorIndex := 339, attributes := #[] }, { accessFlags := 26, nameIndex := 365, descriptorIndex := 339, attributes := #[] }, { accessFlags := 26, nameIndex := 172, descriptorIndex := 173, attributes := #[] }, { accessFlags := 26, nameIndex := 176, descriptorIndex := 173, attributes := #[] }, { accessFlags := 8, nameIndex := 344, descriptorIndex := 339, attributes := #[] }, { accessFlags := 8, nameIndex := 338, descriptorIndex := 339, attributes := #[] }, { accessFlags := 4120, nameIndex := 245, descriptorIndex := 246, attributes := #[] }])
  fields := #[{ name := "E", type := .double, accessFlags := 25, slot := 0, constantValue := 0 }, { name := "PI", type := .double, accessFlags := 25, slot := 1, constantValue := 0 }, { name := "TAU", type := .double, accessFlags := 25, slot := 2, constantValue := 0 }, { name := "DEGREES_TO_RADIANS", type := .double, accessFlags := 26, slot := 3, constantValue := 0 }, { name := "RADIANS_TO_DEGREES", type := .double, accessFlags := 26, slot := 4, constantValue := 0 }, { name := "negativeZeroFloatBits", type := .long, accessFlags := 26, slot := 5, constantValue := 0 }, { name := "negativeZeroDoubleBits", type := .long, accessFlags := 26, slot := 6, constantValue := 0 }, { name := "twoToTheDoubleScaleUp", type := .double, accessFlags := 8, slot := 7, constantValue := 0 }, { name := "twoToTheDoubleScaleDown", type := .double, accessFlags := 8, slot := 8, constantValue := 0 }, { name := "$assertionsDisabled", type := .boolean, accessFlags := 4120, slot := 9, constantValue := 0 }]
  methods := #[k22m0, k22m1]
  instanceTypes := #[]
  staticTypes := #[.double, .double, .double, .double, .double, .long, .long, .double, .double, .boolean]
  resolved := Array.replicate 460 none
  statics := none }

def pool23 : Array CpInfo := pool [(2, .class_ 4), (1, u "java/lang/Object"), (0, u "<init>"), (0, u "()V"), (35, .class_ 44), (1, u "java/util/Objects"), (60, .methodref 106 107), (0, .class_ 108), (0, .nameAndType 109 110), (0, u "jdk/internal/util/Preconditions"), (0, u "checkIndex"), (0, u "(IILjava/util/function/BiFunction;)I"), (60, u "(II)I")] 12

def k23m0 : Method := { name := "<init>", desc := "()V", sig := { parameters := [], returnType := none }, accessFlags := 2, code := none }
def k23c1 : Code := { maxStack := 3, maxLocals := 2, code := jdk_31_method_17_code, exceptionTable := #[], attributes := #[] }
def k23m1 : Method := { name := "checkIndex", desc := "(II)I", sig := { parameters := [.int, .int], returnType := some .int }, accessFlags := 9, code := some k23c1 }
/-- java/util/Objects -/
def k23 : Class := { plain "java/util/Objects" (some 0) with
  accessFlags := 49
  interfaces := #[]
  cf := some (fileOf pool23 42 #[] #[{ accessFlags := 2, nameIndex := 5, descriptorIndex := 6, attributes := #[] }, { accessFlags := 9, nameIndex := 109, descriptorIndex := 171, attributes := #[] }] 49 2 #[] #[])
  fields := #[]
  methods := #[k23m0, k23m1]
  instanceTypes := #[]
  staticTypes := #[]
  resolved := Array.replicate 184 none
  statics := none }

def pool24 : Array CpInfo := pool [(2, .class_ 4), (1, u "java/lang/Object"), (0, u "<init>"), (0, u "()V"), (17, .class_ 26), (1, u "jdk/internal/util/Preconditions"), (6, u "checkIndex"), (21, .class_ 56), (0, u "jdk/internal/util/Preconditions$4"), (57, .class_ 115), (0, u "jdk/internal/util/Preconditions$1"), (7, u "SIOOBE_FORMATTER"), (0, u "Ljava/util/function/BiFunction;"), (0, .class_ 126), (0, u "jdk/internal/util/Preconditions$2"), (3, u "AIOOBE_FORMATTER"), (0, .class_ 132), (0, u "jdk/internal/util/Preconditions$3"), (3, u "IOOBE_FORMATTER"), (41, u "(IILjava/util/function/BiFunction;)I")] 15

def k24m0 : Method := { name := "<init>", desc := "()V", sig := { parameters := [], returnType := none }, accessFlags := 1, code := none }
def k24c1 : Code := { maxStack := 3, maxLocals := 3, code := jdk_41_method_11_code, exceptionTable := #[], attributes := #[] }
def k24m1 : Method := { name := "checkIndex", desc := "(IILjava/util/function/BiFunction;)I", sig := { parameters := [.int, .int, (.object "java/util/function/BiFunction")], returnType := some .int }, accessFlags := 9, code := some k24c1 }
/-- jdk/internal/util/Preconditions -/
def k24 : Class := { plain "jdk/internal/util/Preconditions" (some 0) with
  accessFlags := 33
  interfaces := #[]
  cf := some (fileOf pool24 24 #[.nestMembers #[55, 131, 125, 114]] #[{ accessFlags := 1, nameIndex := 5, descriptorIndex := 6, attributes := #[] }, { accessFlags := 9, nameIndex := 33, descriptorIndex := 178, attributes := #[] }] 33 2 #[] #[{ accessFlags := 25, nameIndex := 123, descriptorIndex := 124, attributes := #[] }, { accessFlags := 25, nameIndex := 130, descriptorIndex := 124, attributes := #[] }, { accessFlags := 25, nameIndex := 136, descriptorIndex := 124, attributes := #[] }])
  fields := #[{ name := "SIOOBE_FORMATTER", type := (.object "java/util/function/BiFunction"), accessFlags := 25, slot := 0, constantValue := 0 }, { name := "AIOOBE_FORMATTER", type := (.object "java/util/function/BiFunction"), accessFlags := 25, slot := 1, constantValue := 0 }, { name := "IOOBE_FORMATTER", type := (.object "java/util/function/BiFunction"), accessFlags := 25, slot := 2, constantValue := 0 }]
  methods := #[k24m0, k24m1]
  instanceTypes := #[]
  staticTypes := #[(.object "java/util/function/BiFunction"), (.object "java/util/function/BiFunction"), (.object "java/util/function/BiFunction")]
  resolved := Array.replicate 194 none
  statics := none }

/-- the primitive byte -/
def k25 : Class := { plain "byte" none with kind := .primitive 'B', accessFlags := 0x411 }
/-- [B -/
def k26 : Class := { plain "[B" (some 0) with kind := .array 25 .byte, interfaces := #[19, 5], accessFlags := 1041 }

/-- the primitive int -/
def k27 : Class := { plain "int" none with kind := .primitive 'I', accessFlags := 0x411 }
/-- [I -/
def k28 : Class := { plain "[I" (some 0) with kind := .array 27 .int, interfaces := #[19, 5], accessFlags := 1041 }

/-- [Lcom/example/fetchwright/fetchwright/service/SecondaryLoad; -/
def k29 : Class := { plain "[Lcom/example/fetchwright/fetchwright/service/SecondaryLoad;" (some 0) with kind := .array 2 (.object "com/example/fetchwright/fetchwright/service/SecondaryLoad"), interfaces := #[19, 5], accessFlags := 1041 }

/-- [Ljava/lang/Object; -/
def k30 : Class := { plain "[Ljava/lang/Object;" (some 0) with kind := .array 0 (.object "java/lang/Object"), interfaces := #[19, 5], accessFlags := 1041 }

def heap : Heap := #[{ cls := 20, slots := #[.long 0, .int 0, .ref 1, .ref 2], vm := .statics 20 },
  { cls := 30, slots := #[], vm := .none },
  { cls := 30, slots := #[], vm := .none }]
def classes : Array Class := #[k0, k1, k2, k3, k4, k5, k6, k7, k8, k9, k10, k11, k12, k13, k14, k15, k16, k17, k18, k19, k20, k21, k22, k23, k24, k25, k26, k27, k28, k29, k30]
def interned : List (Array UInt16 × Addr) := []
def slotsUsed : Nat := 4
def theMethod : MethodId := ⟨1, 1⟩
def args0 : Array Value := #[.int 5, .int 6, .int 7]
def aboutOver (below : List Frame) : State where
  vm := { classes := classes, interned := interned.toArray }
  heap := heap
  slotsUsed := slotsUsed
  threads := #[{ frames := .invoking theMethod args0 :: below }]
def below0 : List Frame := [.native { method := ⟨0, 0⟩, args := #[] }]
def about1 : State := aboutOver below0
def p0 : Program := .bare "" "" ""
def e0 : Env := launch0.env 0 0 0
theorem w_frames : about1.frames = Frame.invoking theMethod args0 :: below0 := rfl
set_option maxRecDepth 65536 in
theorem w_args : argsFit about1.vm theMethod args0 = true := by decide +kernel
set_option maxRecDepth 65536 in
theorem w_heap : heapFits about1 = true := by decide +kernel
set_option maxRecDepth 65536 in
theorem w_runnable : about1.curStatus? = some .runnable := by decide +kernel
set_option maxRecDepth 65536 in
theorem w_alone : about1.alone = true := by decide +kernel
set_option maxRecDepth 65536 in
theorem w_named : about1.methodNamed? x = some theMethod := by decide +kernel
set_option maxRecDepth 65536 in
theorem w_hears : about1.hears theMethod below0 = true := by decide +kernel
set_option maxRecDepth 65536 in
theorem w_ripe : about1.ripe theMethod args0 below0 = true := by decide +kernel
theorem w_running : about1.status = .running := rfl
set_option maxRecDepth 65536 in
theorem w_room : about1.hasRoom e0.platform room_1 = true :=
  launch0.hasRoom_least _ room_1 (by decide +kernel) (by decide +kernel) (by decide +kernel) (by decide +kernel) (by decide +kernel) (by decide +kernel)
theorem allAtoms_all (ts : List Jvm.Cond) (a : Array Jvm.Value) (st : Jvm.State) : (allAtoms ts).before a st = ts.all (fun c => c.before a st) := by
  induction ts with
  | nil => rfl
  | cons c t ih =>
    show (Jvm.Cond.and c (allAtoms t)).before a st = _
    rw [Jvm.Cond.before_and, ih, List.all_cons]
def words1 : List Jvm.Cond := Jvm.Cond.code x code maxLocals ret :: tables_1
/-- a 'code' word, met by the world's own term for the bytes: nothing is compared byte by byte -/
theorem code_word {y : MethodName} {bytes : ByteArray} {mx : Nat} {rt : Option FieldType} {a : Array Value} {s : State} {m : MethodId} {meth : Method} {c : Code} (h1 : s.methodNamed? y = some m) (h2 : s.vm.method? m = some meth) (h3 : meth.code = some c) (h4 : c.code = bytes)
    (h5 : (c.maxLocals == mx && c.exceptionTable.isEmpty && decide (c.maxStack ≤ mostOperands) && decide (meth.sig.returnType = rt) && !meth.locks && decide (parseMethodDescriptor y.desc = some meth.sig)) = true) : (Jvm.Cond.code y bytes mx rt).before a s = true := by
  simp only [Bool.and_eq_true, beq_iff_eq, Bool.not_eq_true', decide_eq_true_eq] at h5
  obtain ⟨⟨⟨⟨⟨g1, g2⟩, g3⟩, g4⟩, g5⟩, g6⟩ := h5
  simp [Cond.before, Cond.holds, Cond.value, h1, h2, h3, h4, g1, g2, g3, g4, g5, g6]
def isCode : Jvm.Cond → Bool
  | .code _ _ _ _ => true
  | _ => false
theorem all_split {L : List Jvm.Cond} {P : Jvm.Cond → Bool} (h1 : L.all (fun c => isCode c || P c) = true) (h2 : ∀ c ∈ L.filter isCode, P c = true) : L.all P = true := by
  refine List.all_eq_true.mpr fun c hc => ?_
  have h := List.all_eq_true.mp h1 c hc
  rcases Bool.eq_false_or_eq_true (isCode c) with hi | hi
  · exact h2 c (List.mem_filter.mpr ⟨hc, hi⟩)
  · simpa [hi] using h
set_option maxRecDepth 65536 in
theorem w_c0 : (Jvm.Cond.code x code maxLocals ret).before args0 about1 = true := code_word (m := ⟨1, 1⟩) (meth := k1m1) (c := k1c1) (by decide +kernel) rfl rfl rfl (by decide +kernel)
set_option maxRecDepth 65536 in
theorem w_c1 : (Jvm.Cond.code ({ cls := "com/example/fetchwright/fetchwright/service/SecondaryLoad", name := "ofProxy", desc := "()Lcom/example/fetchwright/fetchwright/service/SecondaryLoad;" } : Jvm.MethodName) prog_16_method_3_code (0 : Nat) (Option.some (Jvm.ClassFile.FieldType.object "com/example/fetchwright/fetchwright/service/SecondaryLoad"))).before args0 about1 = true := code_word (m := ⟨2, 1⟩) (meth := k2m1) (c := k2c1) (by decide +kernel) rfl rfl rfl (by decide +kernel)
set_option maxRecDepth 65536 in
theorem w_c2 : (Jvm.Cond.code ({ cls := "com/example/fetchwright/fetchwright/service/SecondaryLoad", name := "<init>", desc := "(ZZZ)V" } : Jvm.MethodName) prog_16_method_1_code (4 : Nat) (Option.none : Option Jvm.ClassFile.FieldType)).before args0 about1 = true := code_word (m := ⟨2, 0⟩) (meth := k2m0) (c := k2c0) (by decide +kernel) rfl rfl rfl (by decide +kernel)
set_option maxRecDepth 65536 in
theorem w_c3 : (Jvm.Cond.code ({ cls := "java/lang/Object", name := "<init>", desc := "()V" } : Jvm.MethodName) object_method_1_code (1 : Nat) (Option.none : Option Jvm.ClassFile.FieldType)).before args0 about1 = true := code_word (m := ⟨0, 0⟩) (meth := k0m0) (c := k0c0) (by decide +kernel) rfl rfl rfl (by decide +kernel)
set_option maxRecDepth 65536 in
theorem w_c4 : (Jvm.Cond.code ({ cls := "com/example/fetchwright/fetchwright/service/Origin", name := "<init>", desc := "(Lcom/example/fetchwright/fetchwright/service/SecondaryLoad;Ljava/lang/String;)V" } : Jvm.MethodName) prog_12_method_1_code (3 : Nat) (Option.none : Option Jvm.ClassFile.FieldType)).before args0 about1 = true := code_word (m := ⟨4, 0⟩) (meth := k4m0) (c := k4c0) (by decide +kernel) rfl rfl rfl (by decide +kernel)
set_option maxRecDepth 65536 in
theorem w_c5 : (Jvm.Cond.code ({ cls := "java/lang/Record", name := "<init>", desc := "()V" } : Jvm.MethodName) jdk_30_method_1_code (1 : Nat) (Option.none : Option Jvm.ClassFile.FieldType)).before args0 about1 = true := code_word (m := ⟨3, 0⟩) (meth := k3m0) (c := k3c0) (by decide +kernel) rfl rfl rfl (by decide +kernel)
set_option maxRecDepth 65536 in
theorem w_c6 : (Jvm.Cond.code ({ cls := "com/example/fetchwright/fetchwright/service/LoadsInProgress", name := "<init>", desc := "()V" } : Jvm.MethodName) prog_9_method_1_code (1 : Nat) (Option.none : Option Jvm.ClassFile.FieldType)).before args0 about1 = true := code_word (m := ⟨11, 0⟩) (meth := k11m0) (c := k11c0) (by decide +kernel) rfl rfl rfl (by decide +kernel)
set_option maxRecDepth 65536 in
theorem w_c7 : (Jvm.Cond.code ({ cls := "java/util/ArrayList", name := "<init>", desc := "()V" } : Jvm.MethodName) jdk_38_method_2_code (1 : Nat) (Option.none : Option Jvm.ClassFile.FieldType)).before args0 about1 = true := code_word (m := ⟨20, 0⟩) (meth := k20m0) (c := k20c0) (by decide +kernel) rfl rfl rfl (by decide +kernel)
set_option maxRecDepth 65536 in
theorem w_c8 : (Jvm.Cond.code ({ cls := "java/util/AbstractList", name := "<init>", desc := "()V" } : Jvm.MethodName) jdk_39_method_1_code (1 : Nat) (Option.none : Option Jvm.ClassFile.FieldType)).before args0 about1 = true := code_word (m := ⟨17, 0⟩) (meth := k17m0) (c := k17c0) (by decide +kernel) rfl rfl rfl (by decide +kernel)
set_option maxRecDepth 65536 in
theorem w_c9 : (Jvm.Cond.code ({ cls := "java/util/AbstractCollection", name := "<init>", desc := "()V" } : Jvm.MethodName) jdk_22_method_1_code (1 : Nat) (Option.none : Option Jvm.ClassFile.FieldType)).before args0 about1 = true := code_word (m := ⟨14, 0⟩) (meth := k14m0) (c := k14c0) (by decide +kernel) rfl rfl rfl (by decide +kernel)
set_option maxRecDepth 65536 in
theorem w_c10 : (Jvm.Cond.code ({ cls := "com/example/fetchwright/fetchwright/service/LoadsInProgress", name := "innermost", desc := "(Ljava/lang/Object;)Lcom/example/fetchwright/fetchwright/service/SecondaryLoad;" } : Jvm.MethodName) prog_9_method_4_code (4 : Nat) (Option.some (Jvm.ClassFile.FieldType.object "com/example/fetchwright/fetchwright/service/SecondaryLoad"))).before args0 about1 = true := code_word (m := ⟨11, 2⟩) (meth := k11m2) (c := k11c2) (by decide +kernel) rfl rfl rfl (by decide +kernel)
set_option maxRecDepth 65536 in
theorem w_c11 : (Jvm.Cond.code ({ cls := "java/util/ArrayList", name := "size", desc := "()I" } : Jvm.MethodName) jdk_38_method_8_code (1 : Nat) (Option.some Jvm.ClassFile.FieldType.int)).before args0 about1 = true := code_word (m := ⟨20, 3⟩) (meth := k20m3) (c := k20c3) (by decide +kernel) rfl rfl rfl (by decide +kernel)
set_option maxRecDepth 65536 in
theorem w_c12 : (Jvm.Cond.code ({ cls := "com/example/fetchwright/fetchwright/service/LoadsInProgress", name := "started", desc := "(Ljava/lang/Object;Ljava/lang/Object;Lcom/example/fetchwright/fetchwright/service/SecondaryLoad;)V" } : Jvm.MethodName) prog_9_method_2_code (4 : Nat) (Option.none : Option Jvm.ClassFile.FieldType)).before args0 about1 = true := code_word (m := ⟨11, 1⟩) (meth := k11m1) (c := k11c1) (by decide +kernel) rfl rfl rfl (by decide +kernel)
set_option maxRecDepth 65536 in
theorem w_c13 : (Jvm.Cond.code ({ cls := "com/example/fetchwright/fetchwright/service/LoadsInProgress$Load", name := "<init>", desc := "(Ljava/lang/Object;Ljava/lang/Object;Lcom/example/fetchwright/fetchwright/service/SecondaryLoad;)V" } : Jvm.MethodName) prog_10_method_1_code (4 : Nat) (Option.none : Option Jvm.ClassFile.FieldType)).before args0 about1 = true := code_word (m := ⟨21, 0⟩) (meth := k21m0) (c := k21c0) (by decide +kernel) rfl rfl rfl (by decide +kernel)
set_option maxRecDepth 65536 in
theorem w_c14 : (Jvm.Cond.code ({ cls := "java/util/ArrayList", name := "add", desc := "(Ljava/lang/Object;)Z" } : Jvm.MethodName) jdk_38_method_25_code (2 : Nat) (Option.some Jvm.ClassFile.FieldType.boolean)).before args0 about1 = true := code_word (m := ⟨20, 7⟩) (meth := k20m7) (c := k20c7) (by decide +kernel) rfl rfl rfl (by decide +kernel)
set_option maxRecDepth 65536 in
theorem w_c15 : (Jvm.Cond.code ({ cls := "java/util/ArrayList", name := "add", desc := "(Ljava/lang/Object;[Ljava/lang/Object;I)V" } : Jvm.MethodName) jdk_38_method_24_code (4 : Nat) (Option.none : Option Jvm.ClassFile.FieldType)).before args0 about1 = true := code_word (m := ⟨20, 6⟩) (meth := k20m6) (c := k20c6) (by decide +kernel) rfl rfl rfl (by decide +kernel)
set_option maxRecDepth 65536 in
theorem w_c16 : (Jvm.Cond.code ({ cls := "java/util/ArrayList", name := "grow", desc := "()[Ljava/lang/Object;" } : Jvm.MethodName) jdk_38_method_7_code (1 : Nat) (Option.some (Jvm.ClassFile.FieldType.array (Jvm.ClassFile.FieldType.object "java/lang/Object")))).before args0 about1 = true := code_word (m := ⟨20, 2⟩) (meth := k20m2) (c := k20c2) (by decide +kernel) rfl rfl rfl (by decide +kernel)
set_option maxRecDepth 65536 in
theorem w_c17 : (Jvm.Cond.code ({ cls := "java/util/ArrayList", name := "grow", desc := "(I)[Ljava/lang/Object;" } : Jvm.MethodName) jdk_38_method_6_code (4 : Nat) (Option.some (Jvm.ClassFile.FieldType.array (Jvm.ClassFile.FieldType.object "java/lang/Object")))).before args0 about1 = true := code_word (m := ⟨20, 1⟩) (meth := k20m1) (c := k20c1) (by decide +kernel) rfl rfl rfl (by decide +kernel)
set_option maxRecDepth 65536 in
theorem w_c18 : (Jvm.Cond.code ({ cls := "java/lang/Math", name := "max", desc := "(II)I" } : Jvm.MethodName) jdk_29_method_65_code (2 : Nat) (Option.some Jvm.ClassFile.FieldType.int)).before args0 about1 = true := code_word (m := ⟨22, 1⟩) (meth := k22m1) (c := k22c1) (by decide +kernel) rfl rfl rfl (by decide +kernel)
set_option maxRecDepth 65536 in
theorem w_c19 : (Jvm.Cond.code ({ cls := "java/util/ArrayList", name := "get", desc := "(I)Ljava/lang/Object;" } : Jvm.MethodName) jdk_38_method_20_code (2 : Nat) (Option.some (Jvm.ClassFile.FieldType.object "java/lang/Object"))).before args0 about1 = true := code_word (m := ⟨20, 5⟩) (meth := k20m5) (c := k20c5) (by decide +kernel) rfl rfl rfl (by decide +kernel)
set_option maxRecDepth 65536 in
theorem w_c20 : (Jvm.Cond.code ({ cls := "java/util/Objects", name := "checkIndex", desc := "(II)I" } : Jvm.MethodName) jdk_31_method_17_code (2 : Nat) (Option.some Jvm.ClassFile.FieldType.int)).before args0 about1 = true := code_word (m := ⟨23, 1⟩) (meth := k23m1) (c := k23c1) (by decide +kernel) rfl rfl rfl (by decide +kernel)
set_option maxRecDepth 65536 in
theorem w_c21 : (Jvm.Cond.code ({ cls := "jdk/internal/util/Preconditions", name := "checkIndex", desc := "(IILjava/util/function/BiFunction;)I" } : Jvm.MethodName) jdk_41_method_11_code (3 : Nat) (Option.some Jvm.ClassFile.FieldType.int)).before args0 about1 = true := code_word (m := ⟨24, 1⟩) (meth := k24m1) (c := k24c1) (by decide +kernel) rfl rfl rfl (by decide +kernel)
set_option maxRecDepth 65536 in
theorem w_c22 : (Jvm.Cond.code ({ cls := "java/util/ArrayList", name := "elementData", desc := "(I)Ljava/lang/Object;" } : Jvm.MethodName) jdk_38_method_18_code (2 : Nat) (Option.some (Jvm.ClassFile.FieldType.object "java/lang/Object"))).before args0 about1 = true := code_word (m := ⟨20, 4⟩) (meth := k20m4) (c := k20c4) (by decide +kernel) rfl rfl rfl (by decide +kernel)
set_option maxRecDepth 65536 in
theorem w_c23 : (Jvm.Cond.code ({ cls := "com/example/fetchwright/fetchwright/service/LoadsInProgress$Load", name := "session", desc := "()Ljava/lang/Object;" } : Jvm.MethodName) prog_10_method_6_code (1 : Nat) (Option.some (Jvm.ClassFile.FieldType.object "java/lang/Object"))).before args0 about1 = true := code_word (m := ⟨21, 1⟩) (meth := k21m1) (c := k21c1) (by decide +kernel) rfl rfl rfl (by decide +kernel)
set_option maxRecDepth 65536 in
theorem w_c24 : (Jvm.Cond.code ({ cls := "com/example/fetchwright/fetchwright/service/LoadsInProgress$Load", name := "secondary", desc := "()Lcom/example/fetchwright/fetchwright/service/SecondaryLoad;" } : Jvm.MethodName) prog_10_method_7_code (1 : Nat) (Option.some (Jvm.ClassFile.FieldType.object "com/example/fetchwright/fetchwright/service/SecondaryLoad"))).before args0 about1 = true := code_word (m := ⟨21, 2⟩) (meth := k21m2) (c := k21c2) (by decide +kernel) rfl rfl rfl (by decide +kernel)
def codes1 : List Jvm.Cond := [Jvm.Cond.code x code maxLocals ret, Jvm.Cond.code ({ cls := "com/example/fetchwright/fetchwright/service/SecondaryLoad", name := "ofProxy", desc := "()Lcom/example/fetchwright/fetchwright/service/SecondaryLoad;" } : Jvm.MethodName) prog_16_method_3_code (0 : Nat) (Option.some (Jvm.ClassFile.FieldType.object "com/example/fetchwright/fetchwright/service/SecondaryLoad")), Jvm.Cond.code ({ cls := "com/example/fetchwright/fetchwright/service/SecondaryLoad", name := "<init>", desc := "(ZZZ)V" } : Jvm.MethodName) prog_16_method_1_code (4 : Nat) (Option.none : Option Jvm.ClassFile.FieldType), Jvm.Cond.code ({ cls := "java/lang/Object", name := "<init>", desc := "()V" } : Jvm.MethodName) object_method_1_code (1 : Nat) (Option.none : Option Jvm.ClassFile.FieldType), Jvm.Cond.code ({ cls := "com/example/fetchwright/fetchwright/service/Origin", name := "<init>", desc := "(Lcom/example/fetchwright/fetchwright/service/SecondaryLoad;Ljava/lang/String;)V" } : Jvm.MethodName) prog_12_method_1_code (3 : Nat) (Option.none : Option Jvm.ClassFile.FieldType), Jvm.Cond.code ({ cls := "java/lang/Record", name := "<init>", desc := "()V" } : Jvm.MethodName) jdk_30_method_1_code (1 : Nat) (Option.none : Option Jvm.ClassFile.FieldType), Jvm.Cond.code ({ cls := "com/example/fetchwright/fetchwright/service/LoadsInProgress", name := "<init>", desc := "()V" } : Jvm.MethodName) prog_9_method_1_code (1 : Nat) (Option.none : Option Jvm.ClassFile.FieldType), Jvm.Cond.code ({ cls := "java/util/ArrayList", name := "<init>", desc := "()V" } : Jvm.MethodName) jdk_38_method_2_code (1 : Nat) (Option.none : Option Jvm.ClassFile.FieldType), Jvm.Cond.code ({ cls := "java/util/AbstractList", name := "<init>", desc := "()V" } : Jvm.MethodName) jdk_39_method_1_code (1 : Nat) (Option.none : Option Jvm.ClassFile.FieldType), Jvm.Cond.code ({ cls := "java/util/AbstractCollection", name := "<init>", desc := "()V" } : Jvm.MethodName) jdk_22_method_1_code (1 : Nat) (Option.none : Option Jvm.ClassFile.FieldType), Jvm.Cond.code ({ cls := "com/example/fetchwright/fetchwright/service/LoadsInProgress", name := "innermost", desc := "(Ljava/lang/Object;)Lcom/example/fetchwright/fetchwright/service/SecondaryLoad;" } : Jvm.MethodName) prog_9_method_4_code (4 : Nat) (Option.some (Jvm.ClassFile.FieldType.object "com/example/fetchwright/fetchwright/service/SecondaryLoad")), Jvm.Cond.code ({ cls := "java/util/ArrayList", name := "size", desc := "()I" } : Jvm.MethodName) jdk_38_method_8_code (1 : Nat) (Option.some Jvm.ClassFile.FieldType.int), Jvm.Cond.code ({ cls := "com/example/fetchwright/fetchwright/service/LoadsInProgress", name := "started", desc := "(Ljava/lang/Object;Ljava/lang/Object;Lcom/example/fetchwright/fetchwright/service/SecondaryLoad;)V" } : Jvm.MethodName) prog_9_method_2_code (4 : Nat) (Option.none : Option Jvm.ClassFile.FieldType), Jvm.Cond.code ({ cls := "com/example/fetchwright/fetchwright/service/LoadsInProgress$Load", name := "<init>", desc := "(Ljava/lang/Object;Ljava/lang/Object;Lcom/example/fetchwright/fetchwright/service/SecondaryLoad;)V" } : Jvm.MethodName) prog_10_method_1_code (4 : Nat) (Option.none : Option Jvm.ClassFile.FieldType), Jvm.Cond.code ({ cls := "java/util/ArrayList", name := "add", desc := "(Ljava/lang/Object;)Z" } : Jvm.MethodName) jdk_38_method_25_code (2 : Nat) (Option.some Jvm.ClassFile.FieldType.boolean), Jvm.Cond.code ({ cls := "java/util/ArrayList", name := "add", desc := "(Ljava/lang/Object;[Ljava/lang/Object;I)V" } : Jvm.MethodName) jdk_38_method_24_code (4 : Nat) (Option.none : Option Jvm.ClassFile.FieldType), Jvm.Cond.code ({ cls := "java/util/ArrayList", name := "grow", desc := "()[Ljava/lang/Object;" } : Jvm.MethodName) jdk_38_method_7_code (1 : Nat) (Option.some (Jvm.ClassFile.FieldType.array (Jvm.ClassFile.FieldType.object "java/lang/Object"))), Jvm.Cond.code ({ cls := "java/util/ArrayList", name := "grow", desc := "(I)[Ljava/lang/Object;" } : Jvm.MethodName) jdk_38_method_6_code (4 : Nat) (Option.some (Jvm.ClassFile.FieldType.array (Jvm.ClassFile.FieldType.object "java/lang/Object"))), Jvm.Cond.code ({ cls := "java/lang/Math", name := "max", desc := "(II)I" } : Jvm.MethodName) jdk_29_method_65_code (2 : Nat) (Option.some Jvm.ClassFile.FieldType.int), Jvm.Cond.code ({ cls := "java/util/ArrayList", name := "get", desc := "(I)Ljava/lang/Object;" } : Jvm.MethodName) jdk_38_method_20_code (2 : Nat) (Option.some (Jvm.ClassFile.FieldType.object "java/lang/Object")), Jvm.Cond.code ({ cls := "java/util/Objects", name := "checkIndex", desc := "(II)I" } : Jvm.MethodName) jdk_31_method_17_code (2 : Nat) (Option.some Jvm.ClassFile.FieldType.int), Jvm.Cond.code ({ cls := "jdk/internal/util/Preconditions", name := "checkIndex", desc := "(IILjava/util/function/BiFunction;)I" } : Jvm.MethodName) jdk_41_method_11_code (3 : Nat) (Option.some Jvm.ClassFile.FieldType.int), Jvm.Cond.code ({ cls := "java/util/ArrayList", name := "elementData", desc := "(I)Ljava/lang/Object;" } : Jvm.MethodName) jdk_38_method_18_code (2 : Nat) (Option.some (Jvm.ClassFile.FieldType.object "java/lang/Object")), Jvm.Cond.code ({ cls := "com/example/fetchwright/fetchwright/service/LoadsInProgress$Load", name := "session", desc := "()Ljava/lang/Object;" } : Jvm.MethodName) prog_10_method_6_code (1 : Nat) (Option.some (Jvm.ClassFile.FieldType.object "java/lang/Object")), Jvm.Cond.code ({ cls := "com/example/fetchwright/fetchwright/service/LoadsInProgress$Load", name := "secondary", desc := "()Lcom/example/fetchwright/fetchwright/service/SecondaryLoad;" } : Jvm.MethodName) prog_10_method_7_code (1 : Nat) (Option.some (Jvm.ClassFile.FieldType.object "com/example/fetchwright/fetchwright/service/SecondaryLoad"))]
set_option maxRecDepth 65536 in
theorem codes_eq : words1.filter isCode = codes1 := rfl
theorem w_codes : ∀ c ∈ words1.filter isCode, c.before args0 about1 = true := by
  rw [codes_eq]
  intro c hc
  simp only [codes1, List.mem_cons, List.not_mem_nil, or_false] at hc
  rcases hc with rfl | rfl | rfl | rfl | rfl | rfl | rfl | rfl | rfl | rfl | rfl | rfl | rfl | rfl | rfl | rfl | rfl | rfl | rfl | rfl | rfl | rfl | rfl | rfl | rfl
  · exact w_c0
  · exact w_c1
  · exact w_c2
  · exact w_c3
  · exact w_c4
  · exact w_c5
  · exact w_c6
  · exact w_c7
  · exact w_c8
  · exact w_c9
  · exact w_c10
  · exact w_c11
  · exact w_c12
  · exact w_c13
  · exact w_c14
  · exact w_c15
  · exact w_c16
  · exact w_c17
  · exact w_c18
  · exact w_c19
  · exact w_c20
  · exact w_c21
  · exact w_c22
  · exact w_c23
  · exact w_c24
set_option maxRecDepth 65536 in
theorem w_t1 : (words1.take 24).all (fun c => isCode c || c.before args0 about1) = true := by decide +kernel
set_option maxRecDepth 65536 in
theorem w_t2 : ((words1.drop 24).take 24).all (fun c => isCode c || c.before args0 about1) = true := by decide +kernel
set_option maxRecDepth 65536 in
theorem w_t3 : (((words1.drop 24).drop 24).take 24).all (fun c => isCode c || c.before args0 about1) = true := by decide +kernel
set_option maxRecDepth 65536 in
theorem w_t4 : ((((words1.drop 24).drop 24).drop 24).take 24).all (fun c => isCode c || c.before args0 about1) = true := by decide +kernel
set_option maxRecDepth 65536 in
theorem w_t5 : (((((words1.drop 24).drop 24).drop 24).drop 24).take 24).all (fun c => isCode c || c.before args0 about1) = true := by decide +kernel
set_option maxRecDepth 65536 in
theorem w_t6 : ((((((words1.drop 24).drop 24).drop 24).drop 24).drop 24).take 24).all (fun c => isCode c || c.before args0 about1) = true := by decide +kernel
set_option maxRecDepth 65536 in
theorem w_t7 : (((((((words1.drop 24).drop 24).drop 24).drop 24).drop 24).drop 24).take 24).all (fun c => isCode c || c.before args0 about1) = true := by decide +kernel
set_option maxRecDepth 65536 in
theorem w_t8 : (((((((words1.drop 24).drop 24).drop 24).drop 24).drop 24).drop 24).drop 24).all (fun c => isCode c || c.before args0 about1) = true := by decide +kernel
theorem w_tables : (allAtoms (Jvm.Cond.code x code maxLocals ret :: tables_1)).before args0 about1 = true := by
  rw [allAtoms_all]
  show words1.all (fun c => c.before args0 about1) = true
  refine all_split ?_ w_codes
  rw [← List.take_append_drop 24 words1, List.all_append, w_t1, ← List.take_append_drop 24 (words1.drop 24), List.all_append, w_t2, ← List.take_append_drop 24 ((words1.drop 24).drop 24), List.all_append, w_t3, ← List.take_append_drop 24 (((words1.drop 24).drop 24).drop 24), List.all_append, w_t4, ← List.take_append_drop 24 ((((words1.drop 24).drop 24).drop 24).drop 24), List.all_append, w_t5, ← List.take_append_drop 24 (((((words1.drop 24).drop 24).drop 24).drop 24).drop 24), List.all_append, w_t6, ← List.take_append_drop 24 ((((((words1.drop 24).drop 24).drop 24).drop 24).drop 24).drop 24), List.all_append, w_t7, w_t8]
  rfl
set_option maxRecDepth 65536 in
theorem w_rest : rest_1_c.before args0 about1 = true := by decide +kernel
set_option maxRecDepth 65536 in
theorem w_case : (Jvm.Cond.and given_1 narrow_1).before args0 about1 = true := by decide +kernel
theorem w_applies : (headSpec (Jvm.Cond.code x code maxLocals ret :: tables_1) room_1).applies x e0.platform about1 = true :=
  (Spec.applies_iff w_frames).mpr ⟨w_running, w_runnable, w_alone, w_named, w_hears, w_ripe, w_room, w_tables⟩
theorem atStart : AtStart classFile x code maxLocals ret World_1 tables_1 room_1 Calls_1 rest_1 Pre_1 launch0 p0 e0 about1 theMethod args0 below0 :=
  ⟨lists_1, trivial, launch0.admits_env _ _ _, launch0.least_env, fairChoices_fair.cas, fairChoices_fair.clock, w_frames, w_args, w_heap, w_applies, trivial, w_rest, w_case⟩
end start1
theorem witness_1 : WitnessClaimed_1 := ⟨start1.p0, start1.e0, start1.about1, start1.theMethod, start1.args0, start1.below0, start1.atStart⟩
end Jvm.Pilot.@@N@@
