import JvmDerived
import JvmDerived.Pilot.@@N@@Statement
import JvmDerived.Pilot.@@N@@Code
set_option linter.unusedVariables false
set_option linter.unusedSimpArgs false
namespace Jvm.RoadKit
open Sem ClassFile Op Lib Jvm.Stand Jvm.Free Jvm.LawKit
section New
variable {p : Program} {l : Launch} {e : Env} {R : Room} {s : State} {m : MethodId} {args : Array Value} {below : List Frame} {meth : Method} {c : Code} {T : State} {locs : List Loc} {cells slots : Nat}
theorem retI (X : Stand p l e R s m args below meth c T locs cells slots) (hx : p.tables.exec = Jvm.exec) {pc : Nat} {Ls : Array Slot} {z : Int32} {rest : List Value} (hret : meth.sig.returnType = some .int) (hd : decode c.code pc = .ok (.ireturn, 1)) {fs : List Frame}
    (hl : ∀ (f : JFrame) (acts : List Action), f.method = m → f.locked = none → f.entered = [] → (doReturn e (T.setTop f) acts (some (.int z))).1 = T.setFrames fs) : Steps p.tables e below (T.setTop (mkF m pc Ls (.int z :: rest))) (T.setFrames fs) := by
  have hm' : T.vm.method? m = some meth := X.method'
  have hn : narrow .int (.int z) = .int z := rfl
  show Steps p.tables e below (T.setTop { method := m, pc := pc, locals := Ls, stack := _ :: rest, locked := none }) _
  jvm_step X.here [X.here.top, hx, hd, hm', hret, hn]
  first | (intro acts; rw [hl _ acts rfl rfl rfl]) | rw [hl _ _ rfl rfl rfl]
  exact Steps.refl _
end New
end Jvm.RoadKit
namespace Jvm.Pilot.@@N@@
open Jvm Jvm.ClassFile Sem Op Lib Jvm.Free Jvm.Stand Jvm.LawKit Jvm.RoadKit Bundle Jvm.Pilot.@@N@@.Jvm.D
theorem d1_0 : decode prog_232_method_2_code 0 = .ok (.iload_n 0, 1) := by decide +kernel
theorem d1_1 : decode prog_232_method_2_code 1 = .ok (.bipush 32, 2) := by decide +kernel
theorem d1_3 : decode prog_232_method_2_code 3 = .ok (.if_icmp .lt 9, 3) := by decide +kernel
theorem d1_6 : decode prog_232_method_2_code 6 = .ok (.iload_n 0, 1) := by decide +kernel
theorem d1_7 : decode prog_232_method_2_code 7 = .ok (.ldc 7, 2) := by decide +kernel
theorem d1_9 : decode prog_232_method_2_code 9 = .ok (.if_icmp .le 45, 3) := by decide +kernel
theorem d1_12 : decode prog_232_method_2_code 12 = .ok (.iload_n 0, 1) := by decide +kernel
theorem d1_13 : decode prog_232_method_2_code 13 = .ok (.bipush 10, 2) := by decide +kernel
theorem d1_15 : decode prog_232_method_2_code 15 = .ok (.if_icmp .eq 39, 3) := by decide +kernel
theorem d1_18 : decode prog_232_method_2_code 18 = .ok (.iload_n 0, 1) := by decide +kernel
theorem d1_19 : decode prog_232_method_2_code 19 = .ok (.bipush 9, 2) := by decide +kernel
theorem d1_21 : decode prog_232_method_2_code 21 = .ok (.if_icmp .eq 33, 3) := by decide +kernel
theorem d1_24 : decode prog_232_method_2_code 24 = .ok (.iload_n 0, 1) := by decide +kernel
theorem d1_25 : decode prog_232_method_2_code 25 = .ok (.bipush 13, 2) := by decide +kernel
theorem d1_27 : decode prog_232_method_2_code 27 = .ok (.if_icmp .eq 27, 3) := by decide +kernel
theorem d1_30 : decode prog_232_method_2_code 30 = .ok (.iload_n 0, 1) := by decide +kernel
theorem d1_31 : decode prog_232_method_2_code 31 = .ok (.ldc 8, 2) := by decide +kernel
theorem d1_33 : decode prog_232_method_2_code 33 = .ok (.if_icmp .lt 9, 3) := by decide +kernel
theorem d1_36 : decode prog_232_method_2_code 36 = .ok (.iload_n 0, 1) := by decide +kernel
theorem d1_37 : decode prog_232_method_2_code 37 = .ok (.ldc 9, 2) := by decide +kernel
theorem d1_39 : decode prog_232_method_2_code 39 = .ok (.if_icmp .le 15, 3) := by decide +kernel
theorem d1_42 : decode prog_232_method_2_code 42 = .ok (.iload_n 0, 1) := by decide +kernel
theorem d1_43 : decode prog_232_method_2_code 43 = .ok (.ldc 10, 2) := by decide +kernel
theorem d1_45 : decode prog_232_method_2_code 45 = .ok (.if_icmp .lt 13, 3) := by decide +kernel
theorem d1_48 : decode prog_232_method_2_code 48 = .ok (.iload_n 0, 1) := by decide +kernel
theorem d1_49 : decode prog_232_method_2_code 49 = .ok (.ldc 11, 2) := by decide +kernel
theorem d1_51 : decode prog_232_method_2_code 51 = .ok (.if_icmp .gt 7, 3) := by decide +kernel
theorem d1_54 : decode prog_232_method_2_code 54 = .ok (.iconst 1, 1) := by decide +kernel
theorem d1_55 : decode prog_232_method_2_code 55 = .ok (.goto 4, 3) := by decide +kernel
theorem d1_58 : decode prog_232_method_2_code 58 = .ok (.iconst 0, 1) := by decide +kernel
theorem d1_59 : decode prog_232_method_2_code 59 = .ok (.ireturn, 1) := by decide +kernel
theorem d2_0 : decode method_2_code 0 = .ok (.iload_n 0, 1) := by decide +kernel
theorem d2_1 : decode method_2_code 1 = .ok (.ifCond .lt 9, 3) := by decide +kernel
theorem d2_4 : decode method_2_code 4 = .ok (.iload_n 0, 1) := by decide +kernel
theorem d2_5 : decode method_2_code 5 = .ok (.ldc 7, 2) := by decide +kernel
theorem d2_7 : decode method_2_code 7 = .ok (.if_icmp .le 5, 3) := by decide +kernel
theorem d2_10 : decode method_2_code 10 = .ok (.iconst 0, 1) := by decide +kernel
theorem d2_11 : decode method_2_code 11 = .ok (.ireturn, 1) := by decide +kernel
theorem d2_12 : decode method_2_code 12 = .ok (.iload_n 0, 1) := by decide +kernel
theorem d2_13 : decode method_2_code 13 = .ok (.bipush 32, 2) := by decide +kernel
theorem d2_15 : decode method_2_code 15 = .ok (.if_icmp .ge 27, 3) := by decide +kernel
theorem d2_18 : decode method_2_code 18 = .ok (.iload_n 0, 1) := by decide +kernel
theorem d2_19 : decode method_2_code 19 = .ok (.bipush 9, 2) := by decide +kernel
theorem d2_21 : decode method_2_code 21 = .ok (.if_icmp .eq 15, 3) := by decide +kernel
theorem d2_24 : decode method_2_code 24 = .ok (.iload_n 0, 1) := by decide +kernel
theorem d2_25 : decode method_2_code 25 = .ok (.bipush 10, 2) := by decide +kernel
theorem d2_27 : decode method_2_code 27 = .ok (.if_icmp .eq 9, 3) := by decide +kernel
theorem d2_30 : decode method_2_code 30 = .ok (.iload_n 0, 1) := by decide +kernel
theorem d2_31 : decode method_2_code 31 = .ok (.bipush 13, 2) := by decide +kernel
theorem d2_33 : decode method_2_code 33 = .ok (.if_icmp .ne 7, 3) := by decide +kernel
theorem d2_36 : decode method_2_code 36 = .ok (.iconst 1, 1) := by decide +kernel
theorem d2_37 : decode method_2_code 37 = .ok (.goto 4, 3) := by decide +kernel
theorem d2_40 : decode method_2_code 40 = .ok (.iconst 0, 1) := by decide +kernel
theorem d2_41 : decode method_2_code 41 = .ok (.ireturn, 1) := by decide +kernel
theorem d2_42 : decode method_2_code 42 = .ok (.iload_n 0, 1) := by decide +kernel
theorem d2_43 : decode method_2_code 43 = .ok (.ldc 8, 2) := by decide +kernel
theorem d2_45 : decode method_2_code 45 = .ok (.if_icmp .lt 11, 3) := by decide +kernel
theorem d2_48 : decode method_2_code 48 = .ok (.iload_n 0, 1) := by decide +kernel
theorem d2_49 : decode method_2_code 49 = .ok (.ldc 9, 2) := by decide +kernel
theorem d2_51 : decode method_2_code 51 = .ok (.if_icmp .gt 5, 3) := by decide +kernel
theorem d2_54 : decode method_2_code 54 = .ok (.iconst 0, 1) := by decide +kernel
theorem d2_55 : decode method_2_code 55 = .ok (.ireturn, 1) := by decide +kernel
theorem d2_56 : decode method_2_code 56 = .ok (.iload_n 0, 1) := by decide +kernel
theorem d2_57 : decode method_2_code 57 = .ok (.ldc 10, 2) := by decide +kernel
theorem d2_59 : decode method_2_code 59 = .ok (.if_icmp .eq 9, 3) := by decide +kernel
theorem d2_62 : decode method_2_code 62 = .ok (.iload_n 0, 1) := by decide +kernel
theorem d2_63 : decode method_2_code 63 = .ok (.ldc 11, 2) := by decide +kernel
theorem d2_65 : decode method_2_code 65 = .ok (.if_icmp .ne 5, 3) := by decide +kernel
theorem d2_68 : decode method_2_code 68 = .ok (.iconst 0, 1) := by decide +kernel
theorem d2_69 : decode method_2_code 69 = .ok (.ireturn, 1) := by decide +kernel
theorem d2_70 : decode method_2_code 70 = .ok (.iconst 1, 1) := by decide +kernel
theorem d2_71 : decode method_2_code 71 = .ok (.ireturn, 1) := by decide +kernel
theorem pn_0 : plainName "com/example/baum/baum/xml/XmlChars" = true := by first | (simp [plainName, overriddenIn]; done) | decide +kernel
theorem pn_1 : plainName "com/example/baum/baum/xml/XmlCharsIsCharPinLaw" = true := by first | (simp [plainName, overriddenIn]; done) | decide +kernel
theorem pd_0 : parseMethodDescriptor "(I)Z" = some ⟨[.int], some .boolean⟩ := by decide +kernel
theorem own_iv0 (z : Int32) (h0 : z < (32 : Int32)) : z < (57344 : Int32) := by
  simp only [Int32.lt_iff_toInt_lt, ← Int32.toInt_inj, show (32 : Int32).toInt = 32 from by decide, show (57344 : Int32).toInt = 57344 from by decide] at *
  omega
theorem own_iv1 (z : Int32) (h0 : z < (32 : Int32)) : z < (65536 : Int32) := by
  simp only [Int32.lt_iff_toInt_lt, ← Int32.toInt_inj, show (32 : Int32).toInt = 32 from by decide, show (65536 : Int32).toInt = 65536 from by decide] at *
  omega
theorem own_iv2 (z : Int32) (h0 : ¬ (z < (32 : Int32))) (h1 : (55295 : Int32) < z) : ¬ (z = (10 : Int32)) := by
  simp only [Int32.lt_iff_toInt_lt, ← Int32.toInt_inj, show (10 : Int32).toInt = 10 from by decide, show (32 : Int32).toInt = 32 from by decide, show (55295 : Int32).toInt = 55295 from by decide] at *
  omega
theorem own_iv3 (z : Int32) (h0 : ¬ (z < (32 : Int32))) (h1 : (55295 : Int32) < z) : ¬ (z = (9 : Int32)) := by
  simp only [Int32.lt_iff_toInt_lt, ← Int32.toInt_inj, show (9 : Int32).toInt = 9 from by decide, show (32 : Int32).toInt = 32 from by decide, show (55295 : Int32).toInt = 55295 from by decide] at *
  omega
theorem own_iv4 (z : Int32) (h0 : ¬ (z < (32 : Int32))) (h1 : (55295 : Int32) < z) : ¬ (z = (13 : Int32)) := by
  simp only [Int32.lt_iff_toInt_lt, ← Int32.toInt_inj, show (13 : Int32).toInt = 13 from by decide, show (32 : Int32).toInt = 32 from by decide, show (55295 : Int32).toInt = 55295 from by decide] at *
  omega
theorem own_iv5 (z : Int32) (h0 : ¬ (z < (32 : Int32))) (h1 : (55295 : Int32) < z) (h2 : z < (57344 : Int32)) : z < (65536 : Int32) := by
  simp only [Int32.lt_iff_toInt_lt, ← Int32.toInt_inj, show (32 : Int32).toInt = 32 from by decide, show (55295 : Int32).toInt = 55295 from by decide, show (57344 : Int32).toInt = 57344 from by decide, show (65536 : Int32).toInt = 65536 from by decide] at *
  omega
theorem own_iv6 (z : Int32) (h0 : ¬ (z < (0 : Int32))) (h1 : ¬ ((1114111 : Int32) < z)) (h2 : ¬ (z < (32 : Int32))) (h3 : z < (55296 : Int32)) : ¬ (z = (65534 : Int32)) := by
  simp only [Int32.lt_iff_toInt_lt, ← Int32.toInt_inj, show (0 : Int32).toInt = 0 from by decide, show (32 : Int32).toInt = 32 from by decide, show (55296 : Int32).toInt = 55296 from by decide, show (65534 : Int32).toInt = 65534 from by decide, show (1114111 : Int32).toInt = 1114111 from by decide] at *
  omega
theorem own_iv7 (z : Int32) (h0 : ¬ (z < (0 : Int32))) (h1 : ¬ ((1114111 : Int32) < z)) (h2 : ¬ (z < (32 : Int32))) (h3 : z < (55296 : Int32)) : ¬ (z = (65535 : Int32)) := by
  simp only [Int32.lt_iff_toInt_lt, ← Int32.toInt_inj, show (0 : Int32).toInt = 0 from by decide, show (32 : Int32).toInt = 32 from by decide, show (55296 : Int32).toInt = 55296 from by decide, show (65535 : Int32).toInt = 65535 from by decide, show (1114111 : Int32).toInt = 1114111 from by decide] at *
  omega
theorem own_ints (L : List Int32) (k : Nat) : ∃ w, (L.map Value.int).getD k (.int 0) = Value.int w := by
  induction L generalizing k with
  | nil => exact ⟨0, rfl⟩
  | cons a L ih =>
    cases k with
    | zero => exact ⟨a, rfl⟩
    | succ k => exact ih k
def own_j1_3_0 (i1 : Int32) : Int32 := (if i1 < (32 : Int32) then (if i1 = (10 : Int32) then (1 : Int32) else (if i1 = (9 : Int32) then (1 : Int32) else (if i1 = (13 : Int32) then (1 : Int32) else (0 : Int32)))) else (if (55295 : Int32) < i1 then (if i1 < (57344 : Int32) then (0 : Int32) else (if (65533 : Int32) < i1 then (if i1 < (65536 : Int32) then (0 : Int32) else (if (1114111 : Int32) < i1 then (0 : Int32) else (1 : Int32))) else (1 : Int32))) else (1 : Int32)))
def Q1 (Z : State) (i1 : Int32) (h0 : Heap) (n0 : Nat) (v : Option Value) (h : Heap) (L : List Loc) : Prop := v = some (.int (nar .boolean (own_j1_3_0 i1))) ∧ Fr n0 L ∧ h = h0
theorem ef_1 (m : MethodId) (x0 : Int32) : entryFrame m #[(.int x0)] 1 = mkF m 0 #[.val (.int x0)] [] := by first | (simp [entryFrame, mkF, argsToLocals, Value.category]; done) | rfl
set_option maxRecDepth 65536 in
set_option maxHeartbeats 40000000 in
theorem rm1 (l : Launch) (Z : State) (a0 : Array Value) (hw : ∀ d ∈ tables_1, d.before a0 Z = true) (ws : List Jvm.Cond) (i1 : Int32) (h0 : Heap) (n0 : Nat) (Z0 : n0 ≤ h0.size) :
    MetFree l (⟨"com/example/baum/baum/xml/XmlChars", "isChar", "(I)Z"⟩ : MethodName) (head1 (Jvm.Cond.code (⟨"com/example/baum/baum/xml/XmlChars", "isChar", "(I)Z"⟩ : MethodName) prog_232_method_2_code 1 (some .boolean) :: ws) ({ frames := 0, cells := 0, slots := 0, locals := 0 } : Room)) (fun a U => a = #[(.int i1)] ∧ Z.Warmed39 U.vm ∧ U.heap = h0) (fun _ _ _ _ _ => True) (fun _ U o U' => ∃ v L, o = .returned v ∧ Q1 Z i1 h0 n0 v U'.heap L ∧ FrameEnd U o U' L ({ frames := 0, cells := 0, slots := 0, locals := 0 } : Room).cells ({ frames := 0, cells := 0, slots := 0, locals := 0 } : Room).slots) := by
  refine MetFree.of_bodySF (plainFor_of_name pn_0) hisR ?_
  intro p e s m args below meth c s₁ Bd hml0 hP hK
  obtain ⟨rfl, hZ, hh⟩ := hP
  have hx := Bd.exec
  have hby := Bd.bytes
  have hml : c.maxLocals = 1 := hml0
  have hown : s.vm.findClass "com/example/baum/baum/xml/XmlChars" = some m.cls := findClass_of_methodNamed Bd.named
  have hnm := (name_of_methodNamed Bd.named Bd.method).1
  have X0 : Stand p l e ({ frames := 0, cells := 0, slots := 0, locals := 0 } : Room) s m #[(.int i1)] below meth c s₁ [] 0 0 := Stand.of_body Bd
  have e0 : s₁.heap = h0 := by rw [← hh, Bd.state]; rfl
  have N0 := Fr.nil n0
  have pre0 : ∀ t, Steps p.tables e below (s₁.setTop (mkF m 0 #[.val (.int i1)] [])) t → Steps p.tables e below (s₁.setTop (entryFrame m #[(.int i1)] 1)) t := fun t k => castTop (ef_1 m i1) k
  have pre1 : ∀ t, Steps p.tables e below (s₁.setTop (mkF m 3 #[.val (.int i1)] [(.int (32 : Int32)), (.int i1)])) t → Steps p.tables e below (s₁.setTop (entryFrame m #[(.int i1)] 1)) t := by
    intro t k
    refine pre0 _ ?_
    show Steps p.tables e below (s₁.setTop (mkF m 0 #[.val (.int i1)] [])) _
    refine XS.iloadN X0.here hx rfl (hb hby d1_0) rfl ?_
    show Steps p.tables e below (s₁.setTop (mkF m 1 #[.val (.int i1)] [(.int i1)])) _
    refine XS.bipush X0.here hx rfl (hb hby d1_1) ?_
    exact k
  have pre29 : ∀ t, Steps p.tables e below (s₁.setTop (mkF m 59 #[.val (.int i1)] [(.int (own_j1_3_0 i1))])) t → Steps p.tables e below (s₁.setTop (entryFrame m #[(.int i1)] 1)) t := by
    by_cases hc3_2 : i1 < (32 : Int32)
    · have pre3 : ∀ t, Steps p.tables e below (s₁.setTop (mkF m 15 #[.val (.int i1)] [(.int (10 : Int32)), (.int i1)])) t → Steps p.tables e below (s₁.setTop (entryFrame m #[(.int i1)] 1)) t := by
        intro t k
        refine pre1 _ ?_
        show Steps p.tables e below (s₁.setTop (mkF m 3 #[.val (.int i1)] [(.int (32 : Int32)), (.int i1)])) _
        refine XS.icmpYes X0.here hx rfl (pc0 := 3) (pc' := 12) rfl (hb hby d1_3) rfl (tlt hc3_2).1 (by decide) (by decide) ?_
        show Steps p.tables e below (s₁.setTop (mkF m 12 #[.val (.int i1)] [])) _
        refine XS.iloadN X0.here hx rfl (hb hby d1_12) rfl ?_
        show Steps p.tables e below (s₁.setTop (mkF m 13 #[.val (.int i1)] [(.int i1)])) _
        refine XS.bipush X0.here hx rfl (hb hby d1_13) ?_
        exact k
      by_cases hc15_4 : i1 = (10 : Int32)
      · have pre5 : ∀ t, Steps p.tables e below (s₁.setTop (mkF m 59 #[.val (.int i1)] [(.int (1 : Int32))])) t → Steps p.tables e below (s₁.setTop (entryFrame m #[(.int i1)] 1)) t := by
          intro t k
          refine pre3 _ ?_
          show Steps p.tables e below (s₁.setTop (mkF m 15 #[.val (.int i1)] [(.int (10 : Int32)), (.int i1)])) _
          refine XS.icmpYes X0.here hx rfl (pc0 := 15) (pc' := 54) rfl (hb hby d1_15) rfl (teq hc15_4).1 (by decide) (by decide) ?_
          show Steps p.tables e below (s₁.setTop (mkF m 54 #[.val (.int i1)] [])) _
          refine XS.iconst X0.here hx rfl (hb hby d1_54) ?_
          show Steps p.tables e below (s₁.setTop (mkF m 55 #[.val (.int i1)] [(.int (1 : Int32))])) _
          refine XS.goto X0.here hx rfl (pc0 := 55) (pc' := 59) rfl (hb hby d1_55) (by decide) (by decide) ?_
          exact k
        exact fun t k => pre5 t (by rw [show (own_j1_3_0 i1) = (1 : Int32) from ((if_pos hc3_2).trans (if_pos hc15_4))] at k; exact k)
      · have pre6 : ∀ t, Steps p.tables e below (s₁.setTop (mkF m 21 #[.val (.int i1)] [(.int (9 : Int32)), (.int i1)])) t → Steps p.tables e below (s₁.setTop (entryFrame m #[(.int i1)] 1)) t := by
          intro t k
          refine pre3 _ ?_
          show Steps p.tables e below (s₁.setTop (mkF m 15 #[.val (.int i1)] [(.int (10 : Int32)), (.int i1)])) _
          refine XS.icmpNo X0.here hx rfl (hb hby d1_15) rfl (feq hc15_4).1 ?_
          show Steps p.tables e below (s₁.setTop (mkF m 18 #[.val (.int i1)] [])) _
          refine XS.iloadN X0.here hx rfl (hb hby d1_18) rfl ?_
          show Steps p.tables e below (s₁.setTop (mkF m 19 #[.val (.int i1)] [(.int i1)])) _
          refine XS.bipush X0.here hx rfl (hb hby d1_19) ?_
          exact k
        by_cases hc21_7 : i1 = (9 : Int32)
        · have pre8 : ∀ t, Steps p.tables e below (s₁.setTop (mkF m 59 #[.val (.int i1)] [(.int (1 : Int32))])) t → Steps p.tables e below (s₁.setTop (entryFrame m #[(.int i1)] 1)) t := by
            intro t k
            refine pre6 _ ?_
            show Steps p.tables e below (s₁.setTop (mkF m 21 #[.val (.int i1)] [(.int (9 : Int32)), (.int i1)])) _
            refine XS.icmpYes X0.here hx rfl (pc0 := 21) (pc' := 54) rfl (hb hby d1_21) rfl (teq hc21_7).1 (by decide) (by decide) ?_
            show Steps p.tables e below (s₁.setTop (mkF m 54 #[.val (.int i1)] [])) _
            refine XS.iconst X0.here hx rfl (hb hby d1_54) ?_
            show Steps p.tables e below (s₁.setTop (mkF m 55 #[.val (.int i1)] [(.int (1 : Int32))])) _
            refine XS.goto X0.here hx rfl (pc0 := 55) (pc' := 59) rfl (hb hby d1_55) (by decide) (by decide) ?_
            exact k
          exact fun t k => pre8 t (by rw [show (own_j1_3_0 i1) = (1 : Int32) from ((if_pos hc3_2).trans ((if_neg hc15_4).trans (if_pos hc21_7)))] at k; exact k)
        · have pre9 : ∀ t, Steps p.tables e below (s₁.setTop (mkF m 27 #[.val (.int i1)] [(.int (13 : Int32)), (.int i1)])) t → Steps p.tables e below (s₁.setTop (entryFrame m #[(.int i1)] 1)) t := by
            intro t k
            refine pre6 _ ?_
            show Steps p.tables e below (s₁.setTop (mkF m 21 #[.val (.int i1)] [(.int (9 : Int32)), (.int i1)])) _
            refine XS.icmpNo X0.here hx rfl (hb hby d1_21) rfl (feq hc21_7).1 ?_
            show Steps p.tables e below (s₁.setTop (mkF m 24 #[.val (.int i1)] [])) _
            refine XS.iloadN X0.here hx rfl (hb hby d1_24) rfl ?_
            show Steps p.tables e below (s₁.setTop (mkF m 25 #[.val (.int i1)] [(.int i1)])) _
            refine XS.bipush X0.here hx rfl (hb hby d1_25) ?_
            exact k
          by_cases hc27_10 : i1 = (13 : Int32)
          · have pre11 : ∀ t, Steps p.tables e below (s₁.setTop (mkF m 59 #[.val (.int i1)] [(.int (1 : Int32))])) t → Steps p.tables e below (s₁.setTop (entryFrame m #[(.int i1)] 1)) t := by
              intro t k
              refine pre9 _ ?_
              show Steps p.tables e below (s₁.setTop (mkF m 27 #[.val (.int i1)] [(.int (13 : Int32)), (.int i1)])) _
              refine XS.icmpYes X0.here hx rfl (pc0 := 27) (pc' := 54) rfl (hb hby d1_27) rfl (teq hc27_10).1 (by decide) (by decide) ?_
              show Steps p.tables e below (s₁.setTop (mkF m 54 #[.val (.int i1)] [])) _
              refine XS.iconst X0.here hx rfl (hb hby d1_54) ?_
              show Steps p.tables e below (s₁.setTop (mkF m 55 #[.val (.int i1)] [(.int (1 : Int32))])) _
              refine XS.goto X0.here hx rfl (pc0 := 55) (pc' := 59) rfl (hb hby d1_55) (by decide) (by decide) ?_
              exact k
            exact fun t k => pre11 t (by rw [show (own_j1_3_0 i1) = (1 : Int32) from ((if_pos hc3_2).trans ((if_neg hc15_4).trans ((if_neg hc21_7).trans (if_pos hc27_10))))] at k; exact k)
          · have pre12 : ∀ t, Steps p.tables e below (s₁.setTop (mkF m 59 #[.val (.int i1)] [(.int (0 : Int32))])) t → Steps p.tables e below (s₁.setTop (entryFrame m #[(.int i1)] 1)) t := by
              intro t k
              refine pre9 _ ?_
              show Steps p.tables e below (s₁.setTop (mkF m 27 #[.val (.int i1)] [(.int (13 : Int32)), (.int i1)])) _
              refine XS.icmpNo X0.here hx rfl (hb hby d1_27) rfl (feq hc27_10).1 ?_
              show Steps p.tables e below (s₁.setTop (mkF m 30 #[.val (.int i1)] [])) _
              refine XS.iloadN X0.here hx rfl (hb hby d1_30) rfl ?_
              show Steps p.tables e below (s₁.setTop (mkF m 31 #[.val (.int i1)] [(.int i1)])) _
              refine X0.ldcInt hx hown (mvT hZ (hw _ (List.mem_of_getElem? (i := 11) rfl))) (g := (mkF m 31 #[.val (.int i1)] [(.int i1)])) rfl (hb hby d1_31) _ ?_
              show Steps p.tables e below (s₁.setTop (mkF m 33 #[.val (.int i1)] [(.int (57344 : Int32)), (.int i1)])) _
              refine XS.icmpYes X0.here hx rfl (pc0 := 33) (pc' := 42) rfl (hb hby d1_33) rfl (tlt (own_iv0 i1 hc3_2)).1 (by decide) (by decide) ?_
              show Steps p.tables e below (s₁.setTop (mkF m 42 #[.val (.int i1)] [])) _
              refine XS.iloadN X0.here hx rfl (hb hby d1_42) rfl ?_
              show Steps p.tables e below (s₁.setTop (mkF m 43 #[.val (.int i1)] [(.int i1)])) _
              refine X0.ldcInt hx hown (mvT hZ (hw _ (List.mem_of_getElem? (i := 12) rfl))) (g := (mkF m 43 #[.val (.int i1)] [(.int i1)])) rfl (hb hby d1_43) _ ?_
              show Steps p.tables e below (s₁.setTop (mkF m 45 #[.val (.int i1)] [(.int (65536 : Int32)), (.int i1)])) _
              refine XS.icmpYes X0.here hx rfl (pc0 := 45) (pc' := 58) rfl (hb hby d1_45) rfl (tlt (own_iv1 i1 hc3_2)).1 (by decide) (by decide) ?_
              show Steps p.tables e below (s₁.setTop (mkF m 58 #[.val (.int i1)] [])) _
              refine XS.iconst X0.here hx rfl (hb hby d1_58) ?_
              exact k
            exact fun t k => pre12 t (by rw [show (own_j1_3_0 i1) = (0 : Int32) from ((if_pos hc3_2).trans ((if_neg hc15_4).trans ((if_neg hc21_7).trans (if_neg hc27_10))))] at k; exact k)
    · have pre13 : ∀ t, Steps p.tables e below (s₁.setTop (mkF m 9 #[.val (.int i1)] [(.int (55295 : Int32)), (.int i1)])) t → Steps p.tables e below (s₁.setTop (entryFrame m #[(.int i1)] 1)) t := by
        intro t k
        refine pre1 _ ?_
        show Steps p.tables e below (s₁.setTop (mkF m 3 #[.val (.int i1)] [(.int (32 : Int32)), (.int i1)])) _
        refine XS.icmpNo X0.here hx rfl (hb hby d1_3) rfl (flt hc3_2).1 ?_
        show Steps p.tables e below (s₁.setTop (mkF m 6 #[.val (.int i1)] [])) _
        refine XS.iloadN X0.here hx rfl (hb hby d1_6) rfl ?_
        show Steps p.tables e below (s₁.setTop (mkF m 7 #[.val (.int i1)] [(.int i1)])) _
        refine X0.ldcInt hx hown (mvT hZ (hw _ (List.mem_of_getElem? (i := 19) rfl))) (g := (mkF m 7 #[.val (.int i1)] [(.int i1)])) rfl (hb hby d1_7) _ ?_
        exact k
      by_cases hc9_14 : (55295 : Int32) < i1
      · have pre15 : ∀ t, Steps p.tables e below (s₁.setTop (mkF m 33 #[.val (.int i1)] [(.int (57344 : Int32)), (.int i1)])) t → Steps p.tables e below (s₁.setTop (entryFrame m #[(.int i1)] 1)) t := by
          intro t k
          refine pre13 _ ?_
          show Steps p.tables e below (s₁.setTop (mkF m 9 #[.val (.int i1)] [(.int (55295 : Int32)), (.int i1)])) _
          refine XS.icmpNo X0.here hx rfl (hb hby d1_9) rfl (tlt hc9_14).2.2.2 ?_
          show Steps p.tables e below (s₁.setTop (mkF m 12 #[.val (.int i1)] [])) _
          refine XS.iloadN X0.here hx rfl (hb hby d1_12) rfl ?_
          show Steps p.tables e below (s₁.setTop (mkF m 13 #[.val (.int i1)] [(.int i1)])) _
          refine XS.bipush X0.here hx rfl (hb hby d1_13) ?_
          show Steps p.tables e below (s₁.setTop (mkF m 15 #[.val (.int i1)] [(.int (10 : Int32)), (.int i1)])) _
          refine XS.icmpNo X0.here hx rfl (hb hby d1_15) rfl (feq (own_iv2 i1 hc3_2 hc9_14)).1 ?_
          show Steps p.tables e below (s₁.setTop (mkF m 18 #[.val (.int i1)] [])) _
          refine XS.iloadN X0.here hx rfl (hb hby d1_18) rfl ?_
          show Steps p.tables e below (s₁.setTop (mkF m 19 #[.val (.int i1)] [(.int i1)])) _
          refine XS.bipush X0.here hx rfl (hb hby d1_19) ?_
          show Steps p.tables e below (s₁.setTop (mkF m 21 #[.val (.int i1)] [(.int (9 : Int32)), (.int i1)])) _
          refine XS.icmpNo X0.here hx rfl (hb hby d1_21) rfl (feq (own_iv3 i1 hc3_2 hc9_14)).1 ?_
          show Steps p.tables e below (s₁.setTop (mkF m 24 #[.val (.int i1)] [])) _
          refine XS.iloadN X0.here hx rfl (hb hby d1_24) rfl ?_
          show Steps p.tables e below (s₁.setTop (mkF m 25 #[.val (.int i1)] [(.int i1)])) _
          refine XS.bipush X0.here hx rfl (hb hby d1_25) ?_
          show Steps p.tables e below (s₁.setTop (mkF m 27 #[.val (.int i1)] [(.int (13 : Int32)), (.int i1)])) _
          refine XS.icmpNo X0.here hx rfl (hb hby d1_27) rfl (feq (own_iv4 i1 hc3_2 hc9_14)).1 ?_
          show Steps p.tables e below (s₁.setTop (mkF m 30 #[.val (.int i1)] [])) _
          refine XS.iloadN X0.here hx rfl (hb hby d1_30) rfl ?_
          show Steps p.tables e below (s₁.setTop (mkF m 31 #[.val (.int i1)] [(.int i1)])) _
          refine X0.ldcInt hx hown (mvT hZ (hw _ (List.mem_of_getElem? (i := 11) rfl))) (g := (mkF m 31 #[.val (.int i1)] [(.int i1)])) rfl (hb hby d1_31) _ ?_
          exact k
        by_cases hc33_16 : i1 < (57344 : Int32)
        · have pre17 : ∀ t, Steps p.tables e below (s₁.setTop (mkF m 59 #[.val (.int i1)] [(.int (0 : Int32))])) t → Steps p.tables e below (s₁.setTop (entryFrame m #[(.int i1)] 1)) t := by
            intro t k
            refine pre15 _ ?_
            show Steps p.tables e below (s₁.setTop (mkF m 33 #[.val (.int i1)] [(.int (57344 : Int32)), (.int i1)])) _
            refine XS.icmpYes X0.here hx rfl (pc0 := 33) (pc' := 42) rfl (hb hby d1_33) rfl (tlt hc33_16).1 (by decide) (by decide) ?_
            show Steps p.tables e below (s₁.setTop (mkF m 42 #[.val (.int i1)] [])) _
            refine XS.iloadN X0.here hx rfl (hb hby d1_42) rfl ?_
            show Steps p.tables e below (s₁.setTop (mkF m 43 #[.val (.int i1)] [(.int i1)])) _
            refine X0.ldcInt hx hown (mvT hZ (hw _ (List.mem_of_getElem? (i := 12) rfl))) (g := (mkF m 43 #[.val (.int i1)] [(.int i1)])) rfl (hb hby d1_43) _ ?_
            show Steps p.tables e below (s₁.setTop (mkF m 45 #[.val (.int i1)] [(.int (65536 : Int32)), (.int i1)])) _
            refine XS.icmpYes X0.here hx rfl (pc0 := 45) (pc' := 58) rfl (hb hby d1_45) rfl (tlt (own_iv5 i1 hc3_2 hc9_14 hc33_16)).1 (by decide) (by decide) ?_
            show Steps p.tables e below (s₁.setTop (mkF m 58 #[.val (.int i1)] [])) _
            refine XS.iconst X0.here hx rfl (hb hby d1_58) ?_
            exact k
          exact fun t k => pre17 t (by rw [show (own_j1_3_0 i1) = (0 : Int32) from ((if_neg hc3_2).trans ((if_pos hc9_14).trans (if_pos hc33_16)))] at k; exact k)
        · have pre18 : ∀ t, Steps p.tables e below (s₁.setTop (mkF m 39 #[.val (.int i1)] [(.int (65533 : Int32)), (.int i1)])) t → Steps p.tables e below (s₁.setTop (entryFrame m #[(.int i1)] 1)) t := by
            intro t k
            refine pre15 _ ?_
            show Steps p.tables e below (s₁.setTop (mkF m 33 #[.val (.int i1)] [(.int (57344 : Int32)), (.int i1)])) _
            refine XS.icmpNo X0.here hx rfl (hb hby d1_33) rfl (flt hc33_16).1 ?_
            show Steps p.tables e below (s₁.setTop (mkF m 36 #[.val (.int i1)] [])) _
            refine XS.iloadN X0.here hx rfl (hb hby d1_36) rfl ?_
            show Steps p.tables e below (s₁.setTop (mkF m 37 #[.val (.int i1)] [(.int i1)])) _
            refine X0.ldcInt hx hown (mvT hZ (hw _ (List.mem_of_getElem? (i := 20) rfl))) (g := (mkF m 37 #[.val (.int i1)] [(.int i1)])) rfl (hb hby d1_37) _ ?_
            exact k
          by_cases hc39_19 : (65533 : Int32) < i1
          · have pre20 : ∀ t, Steps p.tables e below (s₁.setTop (mkF m 45 #[.val (.int i1)] [(.int (65536 : Int32)), (.int i1)])) t → Steps p.tables e below (s₁.setTop (entryFrame m #[(.int i1)] 1)) t := by
              intro t k
              refine pre18 _ ?_
              show Steps p.tables e below (s₁.setTop (mkF m 39 #[.val (.int i1)] [(.int (65533 : Int32)), (.int i1)])) _
              refine XS.icmpNo X0.here hx rfl (hb hby d1_39) rfl (tlt hc39_19).2.2.2 ?_
              show Steps p.tables e below (s₁.setTop (mkF m 42 #[.val (.int i1)] [])) _
              refine XS.iloadN X0.here hx rfl (hb hby d1_42) rfl ?_
              show Steps p.tables e below (s₁.setTop (mkF m 43 #[.val (.int i1)] [(.int i1)])) _
              refine X0.ldcInt hx hown (mvT hZ (hw _ (List.mem_of_getElem? (i := 12) rfl))) (g := (mkF m 43 #[.val (.int i1)] [(.int i1)])) rfl (hb hby d1_43) _ ?_
              exact k
            by_cases hc45_21 : i1 < (65536 : Int32)
            · have pre22 : ∀ t, Steps p.tables e below (s₁.setTop (mkF m 59 #[.val (.int i1)] [(.int (0 : Int32))])) t → Steps p.tables e below (s₁.setTop (entryFrame m #[(.int i1)] 1)) t := by
                intro t k
                refine pre20 _ ?_
                show Steps p.tables e below (s₁.setTop (mkF m 45 #[.val (.int i1)] [(.int (65536 : Int32)), (.int i1)])) _
                refine XS.icmpYes X0.here hx rfl (pc0 := 45) (pc' := 58) rfl (hb hby d1_45) rfl (tlt hc45_21).1 (by decide) (by decide) ?_
                show Steps p.tables e below (s₁.setTop (mkF m 58 #[.val (.int i1)] [])) _
                refine XS.iconst X0.here hx rfl (hb hby d1_58) ?_
                exact k
              exact fun t k => pre22 t (by rw [show (own_j1_3_0 i1) = (0 : Int32) from ((if_neg hc3_2).trans ((if_pos hc9_14).trans ((if_neg hc33_16).trans ((if_pos hc39_19).trans (if_pos hc45_21)))))] at k; exact k)
            · have pre23 : ∀ t, Steps p.tables e below (s₁.setTop (mkF m 51 #[.val (.int i1)] [(.int (1114111 : Int32)), (.int i1)])) t → Steps p.tables e below (s₁.setTop (entryFrame m #[(.int i1)] 1)) t := by
                intro t k
                refine pre20 _ ?_
                show Steps p.tables e below (s₁.setTop (mkF m 45 #[.val (.int i1)] [(.int (65536 : Int32)), (.int i1)])) _
                refine XS.icmpNo X0.here hx rfl (hb hby d1_45) rfl (flt hc45_21).1 ?_
                show Steps p.tables e below (s₁.setTop (mkF m 48 #[.val (.int i1)] [])) _
                refine XS.iloadN X0.here hx rfl (hb hby d1_48) rfl ?_
                show Steps p.tables e below (s₁.setTop (mkF m 49 #[.val (.int i1)] [(.int i1)])) _
                refine X0.ldcInt hx hown (mvT hZ (hw _ (List.mem_of_getElem? (i := 21) rfl))) (g := (mkF m 49 #[.val (.int i1)] [(.int i1)])) rfl (hb hby d1_49) _ ?_
                exact k
              by_cases hc51_24 : (1114111 : Int32) < i1
              · have pre25 : ∀ t, Steps p.tables e below (s₁.setTop (mkF m 59 #[.val (.int i1)] [(.int (0 : Int32))])) t → Steps p.tables e below (s₁.setTop (entryFrame m #[(.int i1)] 1)) t := by
                  intro t k
                  refine pre23 _ ?_
                  show Steps p.tables e below (s₁.setTop (mkF m 51 #[.val (.int i1)] [(.int (1114111 : Int32)), (.int i1)])) _
                  refine XS.icmpYes X0.here hx rfl (pc0 := 51) (pc' := 58) rfl (hb hby d1_51) rfl (tlt hc51_24).2.2.1 (by decide) (by decide) ?_
                  show Steps p.tables e below (s₁.setTop (mkF m 58 #[.val (.int i1)] [])) _
                  refine XS.iconst X0.here hx rfl (hb hby d1_58) ?_
                  exact k
                exact fun t k => pre25 t (by rw [show (own_j1_3_0 i1) = (0 : Int32) from ((if_neg hc3_2).trans ((if_pos hc9_14).trans ((if_neg hc33_16).trans ((if_pos hc39_19).trans ((if_neg hc45_21).trans (if_pos hc51_24))))))] at k; exact k)
              · have pre26 : ∀ t, Steps p.tables e below (s₁.setTop (mkF m 59 #[.val (.int i1)] [(.int (1 : Int32))])) t → Steps p.tables e below (s₁.setTop (entryFrame m #[(.int i1)] 1)) t := by
                  intro t k
                  refine pre23 _ ?_
                  show Steps p.tables e below (s₁.setTop (mkF m 51 #[.val (.int i1)] [(.int (1114111 : Int32)), (.int i1)])) _
                  refine XS.icmpNo X0.here hx rfl (hb hby d1_51) rfl (flt hc51_24).2.2.1 ?_
                  show Steps p.tables e below (s₁.setTop (mkF m 54 #[.val (.int i1)] [])) _
                  refine XS.iconst X0.here hx rfl (hb hby d1_54) ?_
                  show Steps p.tables e below (s₁.setTop (mkF m 55 #[.val (.int i1)] [(.int (1 : Int32))])) _
                  refine XS.goto X0.here hx rfl (pc0 := 55) (pc' := 59) rfl (hb hby d1_55) (by decide) (by decide) ?_
                  exact k
                exact fun t k => pre26 t (by rw [show (own_j1_3_0 i1) = (1 : Int32) from ((if_neg hc3_2).trans ((if_pos hc9_14).trans ((if_neg hc33_16).trans ((if_pos hc39_19).trans ((if_neg hc45_21).trans (if_neg hc51_24))))))] at k; exact k)
          · have pre27 : ∀ t, Steps p.tables e below (s₁.setTop (mkF m 59 #[.val (.int i1)] [(.int (1 : Int32))])) t → Steps p.tables e below (s₁.setTop (entryFrame m #[(.int i1)] 1)) t := by
              intro t k
              refine pre18 _ ?_
              show Steps p.tables e below (s₁.setTop (mkF m 39 #[.val (.int i1)] [(.int (65533 : Int32)), (.int i1)])) _
              refine XS.icmpYes X0.here hx rfl (pc0 := 39) (pc' := 54) rfl (hb hby d1_39) rfl (flt hc39_19).2.2.2 (by decide) (by decide) ?_
              show Steps p.tables e below (s₁.setTop (mkF m 54 #[.val (.int i1)] [])) _
              refine XS.iconst X0.here hx rfl (hb hby d1_54) ?_
              show Steps p.tables e below (s₁.setTop (mkF m 55 #[.val (.int i1)] [(.int (1 : Int32))])) _
              refine XS.goto X0.here hx rfl (pc0 := 55) (pc' := 59) rfl (hb hby d1_55) (by decide) (by decide) ?_
              exact k
            exact fun t k => pre27 t (by rw [show (own_j1_3_0 i1) = (1 : Int32) from ((if_neg hc3_2).trans ((if_pos hc9_14).trans ((if_neg hc33_16).trans (if_neg hc39_19))))] at k; exact k)
      · have pre28 : ∀ t, Steps p.tables e below (s₁.setTop (mkF m 59 #[.val (.int i1)] [(.int (1 : Int32))])) t → Steps p.tables e below (s₁.setTop (entryFrame m #[(.int i1)] 1)) t := by
          intro t k
          refine pre13 _ ?_
          show Steps p.tables e below (s₁.setTop (mkF m 9 #[.val (.int i1)] [(.int (55295 : Int32)), (.int i1)])) _
          refine XS.icmpYes X0.here hx rfl (pc0 := 9) (pc' := 54) rfl (hb hby d1_9) rfl (flt hc9_14).2.2.2 (by decide) (by decide) ?_
          show Steps p.tables e below (s₁.setTop (mkF m 54 #[.val (.int i1)] [])) _
          refine XS.iconst X0.here hx rfl (hb hby d1_54) ?_
          show Steps p.tables e below (s₁.setTop (mkF m 55 #[.val (.int i1)] [(.int (1 : Int32))])) _
          refine XS.goto X0.here hx rfl (pc0 := 55) (pc' := 59) rfl (hb hby d1_55) (by decide) (by decide) ?_
          exact k
        exact fun t k => pre28 t (by rw [show (own_j1_3_0 i1) = (1 : Int32) from ((if_neg hc3_2).trans (if_neg hc9_14))] at k; exact k)
  obtain ⟨fs, hr, hrun, hended, hW, hsame⟩ := X0.leave (v := some (.int (nar .boolean (own_j1_3_0 i1)))) (fun h => by rw [Bd.returns] at h; cases h)
  refine ⟨_, _, pre29 _ ?_, hrun, hended, _, _, rfl, ?_, ⟨_, rfl⟩, hW, hsame.mono (by decide) (by decide)⟩
  · show Steps p.tables e below (s₁.setTop (mkF m 59 #[.val (.int i1)] [(.int (own_j1_3_0 i1))])) _
    exact retN X0 hx (t := .boolean) Bd.returns (by simp) (hb hby d1_59) hr
  · show Q1 Z i1 h0 n0 _ s₁.heap _
    rw [e0]
    exact ⟨rfl, N0, rfl⟩
def own_j2_21_0 (i1 : Int32) : Int32 := (if i1 = (9 : Int32) then (1 : Int32) else (if i1 = (10 : Int32) then (1 : Int32) else (if i1 = (13 : Int32) then (1 : Int32) else (0 : Int32))))
def own_r2 (i1 : Int32) : Int32 := (if i1 < (0 : Int32) then (0 : Int32) else (if (1114111 : Int32) < i1 then (0 : Int32) else (if i1 < (32 : Int32) then (nar .boolean (own_j2_21_0 i1)) else (if i1 < (55296 : Int32) then (1 : Int32) else (if (57343 : Int32) < i1 then (if i1 = (65534 : Int32) then (0 : Int32) else (if i1 = (65535 : Int32) then (0 : Int32) else (1 : Int32))) else (0 : Int32))))))
def Q2 (Z : State) (i1 : Int32) (h0 : Heap) (n0 : Nat) (v : Option Value) (h : Heap) (L : List Loc) : Prop := v = some (.int (own_r2 i1)) ∧ Fr n0 L ∧ h = h0
theorem ef_2 (m : MethodId) (x0 : Int32) : entryFrame m #[(.int x0)] 1 = mkF m 0 #[.val (.int x0)] [] := by first | (simp [entryFrame, mkF, argsToLocals, Value.category]; done) | rfl
set_option maxRecDepth 65536 in
set_option maxHeartbeats 40000000 in
theorem rm2 (l : Launch) (Z : State) (a0 : Array Value) (hw : ∀ d ∈ tables_1, d.before a0 Z = true) (ws : List Jvm.Cond) (i1 : Int32) (h0 : Heap) (n0 : Nat) (Z0 : n0 ≤ h0.size) :
    MetFree l (⟨"com/example/baum/baum/xml/XmlCharsIsCharPinLaw", "expected", "(I)Z"⟩ : MethodName) (head1 (Jvm.Cond.code (⟨"com/example/baum/baum/xml/XmlCharsIsCharPinLaw", "expected", "(I)Z"⟩ : MethodName) method_2_code 1 (some .boolean) :: ws) ({ frames := 0, cells := 0, slots := 0, locals := 0 } : Room)) (fun a U => a = #[(.int i1)] ∧ Z.Warmed39 U.vm ∧ U.heap = h0) (fun _ _ _ _ _ => True) (fun _ U o U' => ∃ v L, o = .returned v ∧ Q2 Z i1 h0 n0 v U'.heap L ∧ FrameEnd U o U' L ({ frames := 0, cells := 0, slots := 0, locals := 0 } : Room).cells ({ frames := 0, cells := 0, slots := 0, locals := 0 } : Room).slots) := by
  refine MetFree.of_bodySF (plainFor_of_name pn_1) hisR ?_
  intro p e s m args below meth c s₁ Bd hml0 hP hK
  obtain ⟨rfl, hZ, hh⟩ := hP
  have hx := Bd.exec
  have hby := Bd.bytes
  have hml : c.maxLocals = 1 := hml0
  have hown : s.vm.findClass "com/example/baum/baum/xml/XmlCharsIsCharPinLaw" = some m.cls := findClass_of_methodNamed Bd.named
  have hnm := (name_of_methodNamed Bd.named Bd.method).1
  have X0 : Stand p l e ({ frames := 0, cells := 0, slots := 0, locals := 0 } : Room) s m #[(.int i1)] below meth c s₁ [] 0 0 := Stand.of_body Bd
  have e0 : s₁.heap = h0 := by rw [← hh, Bd.state]; rfl
  have N0 := Fr.nil n0
  have pre0 : ∀ t, Steps p.tables e below (s₁.setTop (mkF m 0 #[.val (.int i1)] [])) t → Steps p.tables e below (s₁.setTop (entryFrame m #[(.int i1)] 1)) t := fun t k => castTop (ef_2 m i1) k
  have pre1 : ∀ t, Steps p.tables e below (s₁.setTop (mkF m 1 #[.val (.int i1)] [(.int i1)])) t → Steps p.tables e below (s₁.setTop (entryFrame m #[(.int i1)] 1)) t := by
    intro t k
    refine pre0 _ ?_
    show Steps p.tables e below (s₁.setTop (mkF m 0 #[.val (.int i1)] [])) _
    refine XS.iloadN X0.here hx rfl (hb hby d2_0) rfl ?_
    exact k
  by_cases hc1_2 : i1 < (0 : Int32)
  · have pre3 : ∀ t, Steps p.tables e below (s₁.setTop (mkF m 11 #[.val (.int i1)] [(.int (0 : Int32))])) t → Steps p.tables e below (s₁.setTop (entryFrame m #[(.int i1)] 1)) t := by
      intro t k
      refine pre1 _ ?_
      show Steps p.tables e below (s₁.setTop (mkF m 1 #[.val (.int i1)] [(.int i1)])) _
      refine XS.ifYes X0.here hx rfl (pc0 := 1) (pc' := 10) rfl (hb hby d2_1) rfl ((if0 _ _).trans (tlt hc1_2).1) (by decide) (by decide) ?_
      show Steps p.tables e below (s₁.setTop (mkF m 10 #[.val (.int i1)] [])) _
      refine XS.iconst X0.here hx rfl (hb hby d2_10) ?_
      exact k
    obtain ⟨fs, hr, hrun, hended, hW, hsame⟩ := X0.leave (v := some (.int (0 : Int32))) (fun h => by rw [Bd.returns] at h; cases h)
    refine ⟨_, _, pre3 _ ?_, hrun, hended, _, _, rfl, ?_, ⟨_, rfl⟩, hW, hsame.mono (by decide) (by decide)⟩
    · show Steps p.tables e below (s₁.setTop (mkF m 11 #[.val (.int i1)] [(.int (0 : Int32))])) _
      exact retN X0 hx (t := .boolean) Bd.returns (by simp) (hb hby d2_11) hr
    · show Q2 Z i1 h0 n0 _ s₁.heap _
      rw [e0]
      exact ⟨congrArg (fun z => some (Value.int z)) (show (own_r2 i1) = (0 : Int32) from (if_pos hc1_2)).symm, N0, rfl⟩
  · have pre4 : ∀ t, Steps p.tables e below (s₁.setTop (mkF m 7 #[.val (.int i1)] [(.int (1114111 : Int32)), (.int i1)])) t → Steps p.tables e below (s₁.setTop (entryFrame m #[(.int i1)] 1)) t := by
      intro t k
      refine pre1 _ ?_
      show Steps p.tables e below (s₁.setTop (mkF m 1 #[.val (.int i1)] [(.int i1)])) _
      refine XS.ifNo X0.here hx rfl (hb hby d2_1) rfl ((if0 _ _).trans (flt hc1_2).1) ?_
      show Steps p.tables e below (s₁.setTop (mkF m 4 #[.val (.int i1)] [])) _
      refine XS.iloadN X0.here hx rfl (hb hby d2_4) rfl ?_
      show Steps p.tables e below (s₁.setTop (mkF m 5 #[.val (.int i1)] [(.int i1)])) _
      refine X0.ldcInt hx hown (mvT hZ (hw _ (List.mem_of_getElem? (i := 17) rfl))) (g := (mkF m 5 #[.val (.int i1)] [(.int i1)])) rfl (hb hby d2_5) _ ?_
      exact k
    by_cases hc7_5 : (1114111 : Int32) < i1
    · have pre6 : ∀ t, Steps p.tables e below (s₁.setTop (mkF m 11 #[.val (.int i1)] [(.int (0 : Int32))])) t → Steps p.tables e below (s₁.setTop (entryFrame m #[(.int i1)] 1)) t := by
        intro t k
        refine pre4 _ ?_
        show Steps p.tables e below (s₁.setTop (mkF m 7 #[.val (.int i1)] [(.int (1114111 : Int32)), (.int i1)])) _
        refine XS.icmpNo X0.here hx rfl (hb hby d2_7) rfl (tlt hc7_5).2.2.2 ?_
        show Steps p.tables e below (s₁.setTop (mkF m 10 #[.val (.int i1)] [])) _
        refine XS.iconst X0.here hx rfl (hb hby d2_10) ?_
        exact k
      obtain ⟨fs, hr, hrun, hended, hW, hsame⟩ := X0.leave (v := some (.int (0 : Int32))) (fun h => by rw [Bd.returns] at h; cases h)
      refine ⟨_, _, pre6 _ ?_, hrun, hended, _, _, rfl, ?_, ⟨_, rfl⟩, hW, hsame.mono (by decide) (by decide)⟩
      · show Steps p.tables e below (s₁.setTop (mkF m 11 #[.val (.int i1)] [(.int (0 : Int32))])) _
        exact retN X0 hx (t := .boolean) Bd.returns (by simp) (hb hby d2_11) hr
      · show Q2 Z i1 h0 n0 _ s₁.heap _
        rw [e0]
        exact ⟨congrArg (fun z => some (Value.int z)) (show (own_r2 i1) = (0 : Int32) from ((if_neg hc1_2).trans (if_pos hc7_5))).symm, N0, rfl⟩
    · have pre7 : ∀ t, Steps p.tables e below (s₁.setTop (mkF m 15 #[.val (.int i1)] [(.int (32 : Int32)), (.int i1)])) t → Steps p.tables e below (s₁.setTop (entryFrame m #[(.int i1)] 1)) t := by
        intro t k
        refine pre4 _ ?_
        show Steps p.tables e below (s₁.setTop (mkF m 7 #[.val (.int i1)] [(.int (1114111 : Int32)), (.int i1)])) _
        refine XS.icmpYes X0.here hx rfl (pc0 := 7) (pc' := 12) rfl (hb hby d2_7) rfl (flt hc7_5).2.2.2 (by decide) (by decide) ?_
        show Steps p.tables e below (s₁.setTop (mkF m 12 #[.val (.int i1)] [])) _
        refine XS.iloadN X0.here hx rfl (hb hby d2_12) rfl ?_
        show Steps p.tables e below (s₁.setTop (mkF m 13 #[.val (.int i1)] [(.int i1)])) _
        refine XS.bipush X0.here hx rfl (hb hby d2_13) ?_
        exact k
      by_cases hc15_8 : i1 < (32 : Int32)
      · have pre9 : ∀ t, Steps p.tables e below (s₁.setTop (mkF m 21 #[.val (.int i1)] [(.int (9 : Int32)), (.int i1)])) t → Steps p.tables e below (s₁.setTop (entryFrame m #[(.int i1)] 1)) t := by
          intro t k
          refine pre7 _ ?_
          show Steps p.tables e below (s₁.setTop (mkF m 15 #[.val (.int i1)] [(.int (32 : Int32)), (.int i1)])) _
          refine XS.icmpNo X0.here hx rfl (hb hby d2_15) rfl (tlt hc15_8).2.1 ?_
          show Steps p.tables e below (s₁.setTop (mkF m 18 #[.val (.int i1)] [])) _
          refine XS.iloadN X0.here hx rfl (hb hby d2_18) rfl ?_
          show Steps p.tables e below (s₁.setTop (mkF m 19 #[.val (.int i1)] [(.int i1)])) _
          refine XS.bipush X0.here hx rfl (hb hby d2_19) ?_
          exact k
        have pre19 : ∀ t, Steps p.tables e below (s₁.setTop (mkF m 41 #[.val (.int i1)] [(.int (own_j2_21_0 i1))])) t → Steps p.tables e below (s₁.setTop (entryFrame m #[(.int i1)] 1)) t := by
          by_cases hc21_10 : i1 = (9 : Int32)
          · have pre11 : ∀ t, Steps p.tables e below (s₁.setTop (mkF m 41 #[.val (.int i1)] [(.int (1 : Int32))])) t → Steps p.tables e below (s₁.setTop (entryFrame m #[(.int i1)] 1)) t := by
              intro t k
              refine pre9 _ ?_
              show Steps p.tables e below (s₁.setTop (mkF m 21 #[.val (.int i1)] [(.int (9 : Int32)), (.int i1)])) _
              refine XS.icmpYes X0.here hx rfl (pc0 := 21) (pc' := 36) rfl (hb hby d2_21) rfl (teq hc21_10).1 (by decide) (by decide) ?_
              show Steps p.tables e below (s₁.setTop (mkF m 36 #[.val (.int i1)] [])) _
              refine XS.iconst X0.here hx rfl (hb hby d2_36) ?_
              show Steps p.tables e below (s₁.setTop (mkF m 37 #[.val (.int i1)] [(.int (1 : Int32))])) _
              refine XS.goto X0.here hx rfl (pc0 := 37) (pc' := 41) rfl (hb hby d2_37) (by decide) (by decide) ?_
              exact k
            exact fun t k => pre11 t (by rw [show (own_j2_21_0 i1) = (1 : Int32) from (if_pos hc21_10)] at k; exact k)
          · have pre12 : ∀ t, Steps p.tables e below (s₁.setTop (mkF m 27 #[.val (.int i1)] [(.int (10 : Int32)), (.int i1)])) t → Steps p.tables e below (s₁.setTop (entryFrame m #[(.int i1)] 1)) t := by
              intro t k
              refine pre9 _ ?_
              show Steps p.tables e below (s₁.setTop (mkF m 21 #[.val (.int i1)] [(.int (9 : Int32)), (.int i1)])) _
              refine XS.icmpNo X0.here hx rfl (hb hby d2_21) rfl (feq hc21_10).1 ?_
              show Steps p.tables e below (s₁.setTop (mkF m 24 #[.val (.int i1)] [])) _
              refine XS.iloadN X0.here hx rfl (hb hby d2_24) rfl ?_
              show Steps p.tables e below (s₁.setTop (mkF m 25 #[.val (.int i1)] [(.int i1)])) _
              refine XS.bipush X0.here hx rfl (hb hby d2_25) ?_
              exact k
            by_cases hc27_13 : i1 = (10 : Int32)
            · have pre14 : ∀ t, Steps p.tables e below (s₁.setTop (mkF m 41 #[.val (.int i1)] [(.int (1 : Int32))])) t → Steps p.tables e below (s₁.setTop (entryFrame m #[(.int i1)] 1)) t := by
                intro t k
                refine pre12 _ ?_
                show Steps p.tables e below (s₁.setTop (mkF m 27 #[.val (.int i1)] [(.int (10 : Int32)), (.int i1)])) _
                refine XS.icmpYes X0.here hx rfl (pc0 := 27) (pc' := 36) rfl (hb hby d2_27) rfl (teq hc27_13).1 (by decide) (by decide) ?_
                show Steps p.tables e below (s₁.setTop (mkF m 36 #[.val (.int i1)] [])) _
                refine XS.iconst X0.here hx rfl (hb hby d2_36) ?_
                show Steps p.tables e below (s₁.setTop (mkF m 37 #[.val (.int i1)] [(.int (1 : Int32))])) _
                refine XS.goto X0.here hx rfl (pc0 := 37) (pc' := 41) rfl (hb hby d2_37) (by decide) (by decide) ?_
                exact k
              exact fun t k => pre14 t (by rw [show (own_j2_21_0 i1) = (1 : Int32) from ((if_neg hc21_10).trans (if_pos hc27_13))] at k; exact k)
            · have pre15 : ∀ t, Steps p.tables e below (s₁.setTop (mkF m 33 #[.val (.int i1)] [(.int (13 : Int32)), (.int i1)])) t → Steps p.tables e below (s₁.setTop (entryFrame m #[(.int i1)] 1)) t := by
                intro t k
                refine pre12 _ ?_
                show Steps p.tables e below (s₁.setTop (mkF m 27 #[.val (.int i1)] [(.int (10 : Int32)), (.int i1)])) _
                refine XS.icmpNo X0.here hx rfl (hb hby d2_27) rfl (feq hc27_13).1 ?_
                show Steps p.tables e below (s₁.setTop (mkF m 30 #[.val (.int i1)] [])) _
                refine XS.iloadN X0.here hx rfl (hb hby d2_30) rfl ?_
                show Steps p.tables e below (s₁.setTop (mkF m 31 #[.val (.int i1)] [(.int i1)])) _
                refine XS.bipush X0.here hx rfl (hb hby d2_31) ?_
                exact k
              by_cases hc33_16 : i1 = (13 : Int32)
              · have pre17 : ∀ t, Steps p.tables e below (s₁.setTop (mkF m 41 #[.val (.int i1)] [(.int (1 : Int32))])) t → Steps p.tables e below (s₁.setTop (entryFrame m #[(.int i1)] 1)) t := by
                  intro t k
                  refine pre15 _ ?_
                  show Steps p.tables e below (s₁.setTop (mkF m 33 #[.val (.int i1)] [(.int (13 : Int32)), (.int i1)])) _
                  refine XS.icmpNo X0.here hx rfl (hb hby d2_33) rfl (teq hc33_16).2 ?_
                  show Steps p.tables e below (s₁.setTop (mkF m 36 #[.val (.int i1)] [])) _
                  refine XS.iconst X0.here hx rfl (hb hby d2_36) ?_
                  show Steps p.tables e below (s₁.setTop (mkF m 37 #[.val (.int i1)] [(.int (1 : Int32))])) _
                  refine XS.goto X0.here hx rfl (pc0 := 37) (pc' := 41) rfl (hb hby d2_37) (by decide) (by decide) ?_
                  exact k
                exact fun t k => pre17 t (by rw [show (own_j2_21_0 i1) = (1 : Int32) from ((if_neg hc21_10).trans ((if_neg hc27_13).trans (if_pos hc33_16)))] at k; exact k)
              · have pre18 : ∀ t, Steps p.tables e below (s₁.setTop (mkF m 41 #[.val (.int i1)] [(.int (0 : Int32))])) t → Steps p.tables e below (s₁.setTop (entryFrame m #[(.int i1)] 1)) t := by
                  intro t k
                  refine pre15 _ ?_
                  show Steps p.tables e below (s₁.setTop (mkF m 33 #[.val (.int i1)] [(.int (13 : Int32)), (.int i1)])) _
                  refine XS.icmpYes X0.here hx rfl (pc0 := 33) (pc' := 40) rfl (hb hby d2_33) rfl (feq hc33_16).2 (by decide) (by decide) ?_
                  show Steps p.tables e below (s₁.setTop (mkF m 40 #[.val (.int i1)] [])) _
                  refine XS.iconst X0.here hx rfl (hb hby d2_40) ?_
                  exact k
                exact fun t k => pre18 t (by rw [show (own_j2_21_0 i1) = (0 : Int32) from ((if_neg hc21_10).trans ((if_neg hc27_13).trans (if_neg hc33_16)))] at k; exact k)
        obtain ⟨fs, hr, hrun, hended, hW, hsame⟩ := X0.leave (v := some (.int (nar .boolean (own_j2_21_0 i1)))) (fun h => by rw [Bd.returns] at h; cases h)
        refine ⟨_, _, pre19 _ ?_, hrun, hended, _, _, rfl, ?_, ⟨_, rfl⟩, hW, hsame.mono (by decide) (by decide)⟩
        · show Steps p.tables e below (s₁.setTop (mkF m 41 #[.val (.int i1)] [(.int (own_j2_21_0 i1))])) _
          exact retN X0 hx (t := .boolean) Bd.returns (by simp) (hb hby d2_41) hr
        · show Q2 Z i1 h0 n0 _ s₁.heap _
          rw [e0]
          exact ⟨congrArg (fun z => some (Value.int z)) (show (own_r2 i1) = (nar .boolean (own_j2_21_0 i1)) from ((if_neg hc1_2).trans ((if_neg hc7_5).trans (if_pos hc15_8)))).symm, N0, rfl⟩
      · have pre20 : ∀ t, Steps p.tables e below (s₁.setTop (mkF m 45 #[.val (.int i1)] [(.int (55296 : Int32)), (.int i1)])) t → Steps p.tables e below (s₁.setTop (entryFrame m #[(.int i1)] 1)) t := by
          intro t k
          refine pre7 _ ?_
          show Steps p.tables e below (s₁.setTop (mkF m 15 #[.val (.int i1)] [(.int (32 : Int32)), (.int i1)])) _
          refine XS.icmpYes X0.here hx rfl (pc0 := 15) (pc' := 42) rfl (hb hby d2_15) rfl (flt hc15_8).2.1 (by decide) (by decide) ?_
          show Steps p.tables e below (s₁.setTop (mkF m 42 #[.val (.int i1)] [])) _
          refine XS.iloadN X0.here hx rfl (hb hby d2_42) rfl ?_
          show Steps p.tables e below (s₁.setTop (mkF m 43 #[.val (.int i1)] [(.int i1)])) _
          refine X0.ldcInt hx hown (mvT hZ (hw _ (List.mem_of_getElem? (i := 1) rfl))) (g := (mkF m 43 #[.val (.int i1)] [(.int i1)])) rfl (hb hby d2_43) _ ?_
          exact k
        by_cases hc45_21 : i1 < (55296 : Int32)
        · have pre22 : ∀ t, Steps p.tables e below (s₁.setTop (mkF m 71 #[.val (.int i1)] [(.int (1 : Int32))])) t → Steps p.tables e below (s₁.setTop (entryFrame m #[(.int i1)] 1)) t := by
            intro t k
            refine pre20 _ ?_
            show Steps p.tables e below (s₁.setTop (mkF m 45 #[.val (.int i1)] [(.int (55296 : Int32)), (.int i1)])) _
            refine XS.icmpYes X0.here hx rfl (pc0 := 45) (pc' := 56) rfl (hb hby d2_45) rfl (tlt hc45_21).1 (by decide) (by decide) ?_
            show Steps p.tables e below (s₁.setTop (mkF m 56 #[.val (.int i1)] [])) _
            refine XS.iloadN X0.here hx rfl (hb hby d2_56) rfl ?_
            show Steps p.tables e below (s₁.setTop (mkF m 57 #[.val (.int i1)] [(.int i1)])) _
            refine X0.ldcInt hx hown (mvT hZ (hw _ (List.mem_of_getElem? (i := 3) rfl))) (g := (mkF m 57 #[.val (.int i1)] [(.int i1)])) rfl (hb hby d2_57) _ ?_
            show Steps p.tables e below (s₁.setTop (mkF m 59 #[.val (.int i1)] [(.int (65534 : Int32)), (.int i1)])) _
            refine XS.icmpNo X0.here hx rfl (hb hby d2_59) rfl (feq (own_iv6 i1 hc1_2 hc7_5 hc15_8 hc45_21)).1 ?_
            show Steps p.tables e below (s₁.setTop (mkF m 62 #[.val (.int i1)] [])) _
            refine XS.iloadN X0.here hx rfl (hb hby d2_62) rfl ?_
            show Steps p.tables e below (s₁.setTop (mkF m 63 #[.val (.int i1)] [(.int i1)])) _
            refine X0.ldcInt hx hown (mvT hZ (hw _ (List.mem_of_getElem? (i := 18) rfl))) (g := (mkF m 63 #[.val (.int i1)] [(.int i1)])) rfl (hb hby d2_63) _ ?_
            show Steps p.tables e below (s₁.setTop (mkF m 65 #[.val (.int i1)] [(.int (65535 : Int32)), (.int i1)])) _
            refine XS.icmpYes X0.here hx rfl (pc0 := 65) (pc' := 70) rfl (hb hby d2_65) rfl (feq (own_iv7 i1 hc1_2 hc7_5 hc15_8 hc45_21)).2 (by decide) (by decide) ?_
            show Steps p.tables e below (s₁.setTop (mkF m 70 #[.val (.int i1)] [])) _
            refine XS.iconst X0.here hx rfl (hb hby d2_70) ?_
            exact k
          obtain ⟨fs, hr, hrun, hended, hW, hsame⟩ := X0.leave (v := some (.int (1 : Int32))) (fun h => by rw [Bd.returns] at h; cases h)
          refine ⟨_, _, pre22 _ ?_, hrun, hended, _, _, rfl, ?_, ⟨_, rfl⟩, hW, hsame.mono (by decide) (by decide)⟩
          · show Steps p.tables e below (s₁.setTop (mkF m 71 #[.val (.int i1)] [(.int (1 : Int32))])) _
            exact retN X0 hx (t := .boolean) Bd.returns (by simp) (hb hby d2_71) hr
          · show Q2 Z i1 h0 n0 _ s₁.heap _
            rw [e0]
            exact ⟨congrArg (fun z => some (Value.int z)) (show (own_r2 i1) = (1 : Int32) from ((if_neg hc1_2).trans ((if_neg hc7_5).trans ((if_neg hc15_8).trans (if_pos hc45_21))))).symm, N0, rfl⟩
        · have pre23 : ∀ t, Steps p.tables e below (s₁.setTop (mkF m 51 #[.val (.int i1)] [(.int (57343 : Int32)), (.int i1)])) t → Steps p.tables e below (s₁.setTop (entryFrame m #[(.int i1)] 1)) t := by
            intro t k
            refine pre20 _ ?_
            show Steps p.tables e below (s₁.setTop (mkF m 45 #[.val (.int i1)] [(.int (55296 : Int32)), (.int i1)])) _
            refine XS.icmpNo X0.here hx rfl (hb hby d2_45) rfl (flt hc45_21).1 ?_
            show Steps p.tables e below (s₁.setTop (mkF m 48 #[.val (.int i1)] [])) _
            refine XS.iloadN X0.here hx rfl (hb hby d2_48) rfl ?_
            show Steps p.tables e below (s₁.setTop (mkF m 49 #[.val (.int i1)] [(.int i1)])) _
            refine X0.ldcInt hx hown (mvT hZ (hw _ (List.mem_of_getElem? (i := 22) rfl))) (g := (mkF m 49 #[.val (.int i1)] [(.int i1)])) rfl (hb hby d2_49) _ ?_
            exact k
          by_cases hc51_24 : (57343 : Int32) < i1
          · have pre25 : ∀ t, Steps p.tables e below (s₁.setTop (mkF m 59 #[.val (.int i1)] [(.int (65534 : Int32)), (.int i1)])) t → Steps p.tables e below (s₁.setTop (entryFrame m #[(.int i1)] 1)) t := by
              intro t k
              refine pre23 _ ?_
              show Steps p.tables e below (s₁.setTop (mkF m 51 #[.val (.int i1)] [(.int (57343 : Int32)), (.int i1)])) _
              refine XS.icmpYes X0.here hx rfl (pc0 := 51) (pc' := 56) rfl (hb hby d2_51) rfl (tlt hc51_24).2.2.1 (by decide) (by decide) ?_
              show Steps p.tables e below (s₁.setTop (mkF m 56 #[.val (.int i1)] [])) _
              refine XS.iloadN X0.here hx rfl (hb hby d2_56) rfl ?_
              show Steps p.tables e below (s₁.setTop (mkF m 57 #[.val (.int i1)] [(.int i1)])) _
              refine X0.ldcInt hx hown (mvT hZ (hw _ (List.mem_of_getElem? (i := 3) rfl))) (g := (mkF m 57 #[.val (.int i1)] [(.int i1)])) rfl (hb hby d2_57) _ ?_
              exact k
            by_cases hc59_26 : i1 = (65534 : Int32)
            · have pre27 : ∀ t, Steps p.tables e below (s₁.setTop (mkF m 69 #[.val (.int i1)] [(.int (0 : Int32))])) t → Steps p.tables e below (s₁.setTop (entryFrame m #[(.int i1)] 1)) t := by
                intro t k
                refine pre25 _ ?_
                show Steps p.tables e below (s₁.setTop (mkF m 59 #[.val (.int i1)] [(.int (65534 : Int32)), (.int i1)])) _
                refine XS.icmpYes X0.here hx rfl (pc0 := 59) (pc' := 68) rfl (hb hby d2_59) rfl (teq hc59_26).1 (by decide) (by decide) ?_
                show Steps p.tables e below (s₁.setTop (mkF m 68 #[.val (.int i1)] [])) _
                refine XS.iconst X0.here hx rfl (hb hby d2_68) ?_
                exact k
              obtain ⟨fs, hr, hrun, hended, hW, hsame⟩ := X0.leave (v := some (.int (0 : Int32))) (fun h => by rw [Bd.returns] at h; cases h)
              refine ⟨_, _, pre27 _ ?_, hrun, hended, _, _, rfl, ?_, ⟨_, rfl⟩, hW, hsame.mono (by decide) (by decide)⟩
              · show Steps p.tables e below (s₁.setTop (mkF m 69 #[.val (.int i1)] [(.int (0 : Int32))])) _
                exact retN X0 hx (t := .boolean) Bd.returns (by simp) (hb hby d2_69) hr
              · show Q2 Z i1 h0 n0 _ s₁.heap _
                rw [e0]
                exact ⟨congrArg (fun z => some (Value.int z)) (show (own_r2 i1) = (0 : Int32) from ((if_neg hc1_2).trans ((if_neg hc7_5).trans ((if_neg hc15_8).trans ((if_neg hc45_21).trans ((if_pos hc51_24).trans (if_pos hc59_26))))))).symm, N0, rfl⟩
            · have pre28 : ∀ t, Steps p.tables e below (s₁.setTop (mkF m 65 #[.val (.int i1)] [(.int (65535 : Int32)), (.int i1)])) t → Steps p.tables e below (s₁.setTop (entryFrame m #[(.int i1)] 1)) t := by
                intro t k
                refine pre25 _ ?_
                show Steps p.tables e below (s₁.setTop (mkF m 59 #[.val (.int i1)] [(.int (65534 : Int32)), (.int i1)])) _
                refine XS.icmpNo X0.here hx rfl (hb hby d2_59) rfl (feq hc59_26).1 ?_
                show Steps p.tables e below (s₁.setTop (mkF m 62 #[.val (.int i1)] [])) _
                refine XS.iloadN X0.here hx rfl (hb hby d2_62) rfl ?_
                show Steps p.tables e below (s₁.setTop (mkF m 63 #[.val (.int i1)] [(.int i1)])) _
                refine X0.ldcInt hx hown (mvT hZ (hw _ (List.mem_of_getElem? (i := 18) rfl))) (g := (mkF m 63 #[.val (.int i1)] [(.int i1)])) rfl (hb hby d2_63) _ ?_
                exact k
              by_cases hc65_29 : i1 = (65535 : Int32)
              · have pre30 : ∀ t, Steps p.tables e below (s₁.setTop (mkF m 69 #[.val (.int i1)] [(.int (0 : Int32))])) t → Steps p.tables e below (s₁.setTop (entryFrame m #[(.int i1)] 1)) t := by
                  intro t k
                  refine pre28 _ ?_
                  show Steps p.tables e below (s₁.setTop (mkF m 65 #[.val (.int i1)] [(.int (65535 : Int32)), (.int i1)])) _
                  refine XS.icmpNo X0.here hx rfl (hb hby d2_65) rfl (teq hc65_29).2 ?_
                  show Steps p.tables e below (s₁.setTop (mkF m 68 #[.val (.int i1)] [])) _
                  refine XS.iconst X0.here hx rfl (hb hby d2_68) ?_
                  exact k
                obtain ⟨fs, hr, hrun, hended, hW, hsame⟩ := X0.leave (v := some (.int (0 : Int32))) (fun h => by rw [Bd.returns] at h; cases h)
                refine ⟨_, _, pre30 _ ?_, hrun, hended, _, _, rfl, ?_, ⟨_, rfl⟩, hW, hsame.mono (by decide) (by decide)⟩
                · show Steps p.tables e below (s₁.setTop (mkF m 69 #[.val (.int i1)] [(.int (0 : Int32))])) _
                  exact retN X0 hx (t := .boolean) Bd.returns (by simp) (hb hby d2_69) hr
                · show Q2 Z i1 h0 n0 _ s₁.heap _
                  rw [e0]
                  exact ⟨congrArg (fun z => some (Value.int z)) (show (own_r2 i1) = (0 : Int32) from ((if_neg hc1_2).trans ((if_neg hc7_5).trans ((if_neg hc15_8).trans ((if_neg hc45_21).trans ((if_pos hc51_24).trans ((if_neg hc59_26).trans (if_pos hc65_29)))))))).symm, N0, rfl⟩
              · have pre31 : ∀ t, Steps p.tables e below (s₁.setTop (mkF m 71 #[.val (.int i1)] [(.int (1 : Int32))])) t → Steps p.tables e below (s₁.setTop (entryFrame m #[(.int i1)] 1)) t := by
                  intro t k
                  refine pre28 _ ?_
                  show Steps p.tables e below (s₁.setTop (mkF m 65 #[.val (.int i1)] [(.int (65535 : Int32)), (.int i1)])) _
                  refine XS.icmpYes X0.here hx rfl (pc0 := 65) (pc' := 70) rfl (hb hby d2_65) rfl (feq hc65_29).2 (by decide) (by decide) ?_
                  show Steps p.tables e below (s₁.setTop (mkF m 70 #[.val (.int i1)] [])) _
                  refine XS.iconst X0.here hx rfl (hb hby d2_70) ?_
                  exact k
                obtain ⟨fs, hr, hrun, hended, hW, hsame⟩ := X0.leave (v := some (.int (1 : Int32))) (fun h => by rw [Bd.returns] at h; cases h)
                refine ⟨_, _, pre31 _ ?_, hrun, hended, _, _, rfl, ?_, ⟨_, rfl⟩, hW, hsame.mono (by decide) (by decide)⟩
                · show Steps p.tables e below (s₁.setTop (mkF m 71 #[.val (.int i1)] [(.int (1 : Int32))])) _
                  exact retN X0 hx (t := .boolean) Bd.returns (by simp) (hb hby d2_71) hr
                · show Q2 Z i1 h0 n0 _ s₁.heap _
                  rw [e0]
                  exact ⟨congrArg (fun z => some (Value.int z)) (show (own_r2 i1) = (1 : Int32) from ((if_neg hc1_2).trans ((if_neg hc7_5).trans ((if_neg hc15_8).trans ((if_neg hc45_21).trans ((if_pos hc51_24).trans ((if_neg hc59_26).trans (if_neg hc65_29)))))))).symm, N0, rfl⟩
          · have pre32 : ∀ t, Steps p.tables e below (s₁.setTop (mkF m 55 #[.val (.int i1)] [(.int (0 : Int32))])) t → Steps p.tables e below (s₁.setTop (entryFrame m #[(.int i1)] 1)) t := by
              intro t k
              refine pre23 _ ?_
              show Steps p.tables e below (s₁.setTop (mkF m 51 #[.val (.int i1)] [(.int (57343 : Int32)), (.int i1)])) _
              refine XS.icmpNo X0.here hx rfl (hb hby d2_51) rfl (flt hc51_24).2.2.1 ?_
              show Steps p.tables e below (s₁.setTop (mkF m 54 #[.val (.int i1)] [])) _
              refine XS.iconst X0.here hx rfl (hb hby d2_54) ?_
              exact k
            obtain ⟨fs, hr, hrun, hended, hW, hsame⟩ := X0.leave (v := some (.int (0 : Int32))) (fun h => by rw [Bd.returns] at h; cases h)
            refine ⟨_, _, pre32 _ ?_, hrun, hended, _, _, rfl, ?_, ⟨_, rfl⟩, hW, hsame.mono (by decide) (by decide)⟩
            · show Steps p.tables e below (s₁.setTop (mkF m 55 #[.val (.int i1)] [(.int (0 : Int32))])) _
              exact retN X0 hx (t := .boolean) Bd.returns (by simp) (hb hby d2_55) hr
            · show Q2 Z i1 h0 n0 _ s₁.heap _
              rw [e0]
              exact ⟨congrArg (fun z => some (Value.int z)) (show (own_r2 i1) = (0 : Int32) from ((if_neg hc1_2).trans ((if_neg hc7_5).trans ((if_neg hc15_8).trans ((if_neg hc45_21).trans (if_neg hc51_24)))))).symm, N0, rfl⟩
def own_j0_83_0 (i1 : Int32) (i2 : Int32) (i3 : Int32) (wr29 : Int32) : Int32 := (if (i2 &&& (3 : Int32)) = (0 : Int32) then i1 else (if (i2 &&& (3 : Int32)) = (1 : Int32) then (i1 &&& (2097151 : Int32)) else (if (i2 &&& (3 : Int32)) = (2 : Int32) then (i1 &&& (65535 : Int32)) else (wr29 + ((i3 &&& (3 : Int32)) - (2 : Int32))))))
theorem own_ob0_idx (i2 : Int32) : ¬ (((i2.toUInt32 >>> ((2 : Int32) &&& 31).toUInt32).toInt32) % (13 : Int32)) < 0 ∧ (((i2.toUInt32 >>> ((2 : Int32) &&& 31).toUInt32).toInt32) % (13 : Int32)) < (13 : Int32) := by
  have h1 := c_iushr i2 2 2 (by decide) (by decide)
  generalize ((i2.toUInt32 >>> ((2 : Int32) &&& 31).toUInt32).toInt32) = a at *
  have h2 : 0 ≤ a.toInt := by rw [h1]; have := Int.emod_nonneg i2.toInt (b := 4294967296) (by decide); exact Int.ediv_nonneg this (by decide)
  have h3 := (c_irem a 13 13 (by decide)).1 h2
  rw [Int32.lt_iff_toInt_lt, Int32.lt_iff_toInt_lt, h3, show (0 : Int32).toInt = 0 from by decide, show (13 : Int32).toInt = 13 from by decide]
  omega
theorem own_ob0_r148 (i1 : Int32) (i2 : Int32) (i3 : Int32) (wr29 : Int32) : (nar .boolean (own_j1_3_0 (own_j0_83_0 i1 i2 i3 wr29))) = (own_r2 (own_j0_83_0 i1 i2 i3 wr29)) := by
  generalize own_j0_83_0 i1 i2 i3 wr29 = c
  unfold own_j1_3_0 own_r2 own_j2_21_0
  have k (n : Int32) : c = n ↔ c.toInt = n.toInt := Int32.toInt_inj.symm
  simp only [Int32.lt_iff_toInt_lt, k, show (0 : Int32).toInt = 0 from by decide, show (9 : Int32).toInt = 9 from by decide, show (10 : Int32).toInt = 10 from by decide, show (13 : Int32).toInt = 13 from by decide, show (32 : Int32).toInt = 32 from by decide, show (55295 : Int32).toInt = 55295 from by decide, show (55296 : Int32).toInt = 55296 from by decide, show (57343 : Int32).toInt = 57343 from by decide, show (57344 : Int32).toInt = 57344 from by decide, show (65533 : Int32).toInt = 65533 from by decide, show (65534 : Int32).toInt = 65534 from by decide, show (65535 : Int32).toInt = 65535 from by decide, show (65536 : Int32).toInt = 65536 from by decide, show (1114111 : Int32).toInt = 1114111 from by decide]
  generalize c.toInt = z
  repeat' split
  all_goals first | rfl | (exfalso; omega)
def Q0 (Z : State) (i1 : Int32) (i2 : Int32) (i3 : Int32) (h0 : Heap) (n0 : Nat) (v : Option Value) (h : Heap) (L : List Loc) : Prop := v = some (.int (1 : Int32)) ∧ Fr n0 L
theorem ef_0 (m : MethodId) (x0 : Int32) (x1 : Int32) (x2 : Int32) : entryFrame m #[(.int x0), (.int x1), (.int x2)] maxLocals = mkF m 0 #[.val (.int x0), .val (.int x1), .val (.int x2), .unset, .unset, .unset] [] := by first | (simp [entryFrame, mkF, argsToLocals, Value.category, maxLocals]; done) | rfl
set_option maxRecDepth 65536 in
set_option maxHeartbeats 40000000 in
theorem rm0 (l : Launch) (Z : State) (a0 : Array Value) (hw : ∀ d ∈ tables_1, d.before a0 Z = true) (ws : List Jvm.Cond) (i1 : Int32) (i2 : Int32) (i3 : Int32) (h0 : Heap) (n0 : Nat) (Z0 : n0 ≤ h0.size) :
    MetFree l x (head1 (Jvm.Cond.code x code maxLocals ret :: ws) room_1) (fun a U => a = #[(.int i1), (.int i2), (.int i3)] ∧ Z.Warmed39 U.vm ∧ U.heap = h0) (fun _ _ _ _ _ => True) (fun _ U o U' => ∃ v L, o = .returned v ∧ Q0 Z i1 i2 i3 h0 n0 v U'.heap L ∧ FrameEnd U o U' L room_1.cells room_1.slots) := by
  refine MetFree.of_bodySF (plainFor_of_name pn_1) hisR ?_
  intro p e s m args below meth c s₁ Bd hml0 hP hK
  obtain ⟨rfl, hZ, hh⟩ := hP
  have hx := Bd.exec
  have hby := Bd.bytes
  have hml : c.maxLocals = 6 := hml0
  have hown : s.vm.findClass "com/example/baum/baum/xml/XmlCharsIsCharPinLaw" = some m.cls := findClass_of_methodNamed Bd.named
  have hnm := (name_of_methodNamed Bd.named Bd.method).1
  have X0 : Stand p l e room_1 s m #[(.int i1), (.int i2), (.int i3)] below meth c s₁ [] 0 0 := Stand.of_body Bd
  have e0 : s₁.heap = h0 := by rw [← hh, Bd.state]; rfl
  have N0 := Fr.nil n0
  have pre0 : ∀ t, Steps p.tables e below (s₁.setTop (mkF m 0 #[.val (.int i1), .val (.int i2), .val (.int i3), .unset, .unset, .unset] [])) t → Steps p.tables e below (s₁.setTop (entryFrame m #[(.int i1), (.int i2), (.int i3)] maxLocals)) t := fun t k => castTop (ef_0 m i1 i2 i3) k
  obtain ⟨T1, h1, k1, X1, e1, E1, A1, st1⟩ := newP X0 hx hZ (hw _ (List.mem_of_getElem? (i := 0) rfl)) e0 (g := (mkF m 2 #[.val (.int i1), .val (.int i2), .val (.int i3), .unset, .unset, .unset] [(.int (13 : Int32))])) rfl (hb hby at_2) rfl (by decide) (cap := 13) (by decide) (by decide) (by decide) (by decide)
  obtain ⟨b1, g1⟩ : ∃ z, z = h0.size := ⟨_, rfl⟩
  rw [← g1] at A1 st1
  have sz_b1 : h0.size ≤ b1 := Nat.le_trans (Keep.refl h0 []).1 (Nat.le_of_eq g1.symm)
  have K2 : Keep h0 h1 [] := (Keep.refl h0 []).ext E1
  have V1 : Arv Z h1 b1 k1 .int (13 : Int32) [(.int (0 : Int32)), (.int (0 : Int32)), (.int (0 : Int32)), (.int (0 : Int32)), (.int (0 : Int32)), (.int (0 : Int32)), (.int (0 : Int32)), (.int (0 : Int32)), (.int (0 : Int32)), (.int (0 : Int32)), (.int (0 : Int32)), (.int (0 : Int32)), (.int (0 : Int32))] (.int (0 : Int32)) := (Arv.new A1 (by decide)).pad (pad_rep [] (.int (0 : Int32)) 13)
  obtain ⟨cl3, Ar3, Cq3, Sz3, Nn3, Hh3, Gg3⟩ := V1
  have hin3 : ¬ ((0 : Int32) < 0 ∨ cl3.slots.size ≤ ((0 : Int32)).toNatClampNeg) := inb_of Sz3 ⟨by decide, by decide⟩
  obtain ⟨T3, h3, X3, e3, W3, st3⟩ := stI X1 hx hZ e1 Ar3 (j := (0 : Int32)) hin3 (g := (mkF m 7 #[.val (.int i1), .val (.int i2), .val (.int i3), .unset, .unset, .unset] [(.int (0 : Int32)), (.int (0 : Int32)), (.ref b1), (.ref b1)])) rfl rfl (hb hby at_7)
  have V3 : Arv Z h3 b1 k1 .int (13 : Int32) [(.int (0 : Int32)), (.int (0 : Int32)), (.int (0 : Int32)), (.int (0 : Int32)), (.int (0 : Int32)), (.int (0 : Int32)), (.int (0 : Int32)), (.int (0 : Int32)), (.int (0 : Int32)), (.int (0 : Int32)), (.int (0 : Int32)), (.int (0 : Int32)), (.int (0 : Int32))] (.int (0 : Int32)) := Arv.set Ar3 Cq3 Sz3 Nn3 Hh3 Gg3 rfl W3 0 rfl (Nat.le_of_ble_eq_true rfl)
  have N3 := Fr.snoc X3 N0 (Nat.le_trans Z0 sz_b1)
  have K4 : Keep h0 h3 [] := K2.wr W3 (Or.inr sz_b1)
  obtain ⟨cl5, Ar5, Cq5, Sz5, Nn5, Hh5, Gg5⟩ := V3
  have hin5 : ¬ ((1 : Int32) < 0 ∨ cl5.slots.size ≤ ((1 : Int32)).toNatClampNeg) := inb_of Sz5 ⟨by decide, by decide⟩
  obtain ⟨T5, h5, X5, e5, W5, st5⟩ := stI X3 hx hZ e3 Ar5 (j := (1 : Int32)) hin5 (g := (mkF m 12 #[.val (.int i1), .val (.int i2), .val (.int i3), .unset, .unset, .unset] [(.int (9 : Int32)), (.int (1 : Int32)), (.ref b1), (.ref b1)])) rfl rfl (hb hby at_12)
  have V5 : Arv Z h5 b1 k1 .int (13 : Int32) [(.int (0 : Int32)), (.int (9 : Int32)), (.int (0 : Int32)), (.int (0 : Int32)), (.int (0 : Int32)), (.int (0 : Int32)), (.int (0 : Int32)), (.int (0 : Int32)), (.int (0 : Int32)), (.int (0 : Int32)), (.int (0 : Int32)), (.int (0 : Int32)), (.int (0 : Int32))] (.int (0 : Int32)) := Arv.set Ar5 Cq5 Sz5 Nn5 Hh5 Gg5 rfl W5 1 rfl (Nat.le_of_ble_eq_true rfl)
  have N5 := Fr.snoc X5 N3 (Nat.le_trans Z0 sz_b1)
  have K6 : Keep h0 h5 [] := K4.wr W5 (Or.inr sz_b1)
  obtain ⟨cl7, Ar7, Cq7, Sz7, Nn7, Hh7, Gg7⟩ := V5
  have hin7 : ¬ ((2 : Int32) < 0 ∨ cl7.slots.size ≤ ((2 : Int32)).toNatClampNeg) := inb_of Sz7 ⟨by decide, by decide⟩
  obtain ⟨T7, h7, X7, e7, W7, st7⟩ := stI X5 hx hZ e5 Ar7 (j := (2 : Int32)) hin7 (g := (mkF m 17 #[.val (.int i1), .val (.int i2), .val (.int i3), .unset, .unset, .unset] [(.int (10 : Int32)), (.int (2 : Int32)), (.ref b1), (.ref b1)])) rfl rfl (hb hby at_17)
  have V7 : Arv Z h7 b1 k1 .int (13 : Int32) [(.int (0 : Int32)), (.int (9 : Int32)), (.int (10 : Int32)), (.int (0 : Int32)), (.int (0 : Int32)), (.int (0 : Int32)), (.int (0 : Int32)), (.int (0 : Int32)), (.int (0 : Int32)), (.int (0 : Int32)), (.int (0 : Int32)), (.int (0 : Int32)), (.int (0 : Int32))] (.int (0 : Int32)) := Arv.set Ar7 Cq7 Sz7 Nn7 Hh7 Gg7 rfl W7 2 rfl (Nat.le_of_ble_eq_true rfl)
  have N7 := Fr.snoc X7 N5 (Nat.le_trans Z0 sz_b1)
  have K8 : Keep h0 h7 [] := K6.wr W7 (Or.inr sz_b1)
  obtain ⟨cl9, Ar9, Cq9, Sz9, Nn9, Hh9, Gg9⟩ := V7
  have hin9 : ¬ ((3 : Int32) < 0 ∨ cl9.slots.size ≤ ((3 : Int32)).toNatClampNeg) := inb_of Sz9 ⟨by decide, by decide⟩
  obtain ⟨T9, h9, X9, e9, W9, st9⟩ := stI X7 hx hZ e7 Ar9 (j := (3 : Int32)) hin9 (g := (mkF m 22 #[.val (.int i1), .val (.int i2), .val (.int i3), .unset, .unset, .unset] [(.int (11 : Int32)), (.int (3 : Int32)), (.ref b1), (.ref b1)])) rfl rfl (hb hby at_22)
  have V9 : Arv Z h9 b1 k1 .int (13 : Int32) [(.int (0 : Int32)), (.int (9 : Int32)), (.int (10 : Int32)), (.int (11 : Int32)), (.int (0 : Int32)), (.int (0 : Int32)), (.int (0 : Int32)), (.int (0 : Int32)), (.int (0 : Int32)), (.int (0 : Int32)), (.int (0 : Int32)), (.int (0 : Int32)), (.int (0 : Int32))] (.int (0 : Int32)) := Arv.set Ar9 Cq9 Sz9 Nn9 Hh9 Gg9 rfl W9 3 rfl (Nat.le_of_ble_eq_true rfl)
  have N9 := Fr.snoc X9 N7 (Nat.le_trans Z0 sz_b1)
  have K10 : Keep h0 h9 [] := K8.wr W9 (Or.inr sz_b1)
  obtain ⟨cl11, Ar11, Cq11, Sz11, Nn11, Hh11, Gg11⟩ := V9
  have hin11 : ¬ ((4 : Int32) < 0 ∨ cl11.slots.size ≤ ((4 : Int32)).toNatClampNeg) := inb_of Sz11 ⟨by decide, by decide⟩
  obtain ⟨T11, h11, X11, e11, W11, st11⟩ := stI X9 hx hZ e9 Ar11 (j := (4 : Int32)) hin11 (g := (mkF m 27 #[.val (.int i1), .val (.int i2), .val (.int i3), .unset, .unset, .unset] [(.int (13 : Int32)), (.int (4 : Int32)), (.ref b1), (.ref b1)])) rfl rfl (hb hby at_27)
  have V11 : Arv Z h11 b1 k1 .int (13 : Int32) [(.int (0 : Int32)), (.int (9 : Int32)), (.int (10 : Int32)), (.int (11 : Int32)), (.int (13 : Int32)), (.int (0 : Int32)), (.int (0 : Int32)), (.int (0 : Int32)), (.int (0 : Int32)), (.int (0 : Int32)), (.int (0 : Int32)), (.int (0 : Int32)), (.int (0 : Int32))] (.int (0 : Int32)) := Arv.set Ar11 Cq11 Sz11 Nn11 Hh11 Gg11 rfl W11 4 rfl (Nat.le_of_ble_eq_true rfl)
  have N11 := Fr.snoc X11 N9 (Nat.le_trans Z0 sz_b1)
  have K12 : Keep h0 h11 [] := K10.wr W11 (Or.inr sz_b1)
  obtain ⟨cl13, Ar13, Cq13, Sz13, Nn13, Hh13, Gg13⟩ := V11
  have hin13 : ¬ ((5 : Int32) < 0 ∨ cl13.slots.size ≤ ((5 : Int32)).toNatClampNeg) := inb_of Sz13 ⟨by decide, by decide⟩
  obtain ⟨T13, h13, X13, e13, W13, st13⟩ := stI X11 hx hZ e11 Ar13 (j := (5 : Int32)) hin13 (g := (mkF m 32 #[.val (.int i1), .val (.int i2), .val (.int i3), .unset, .unset, .unset] [(.int (14 : Int32)), (.int (5 : Int32)), (.ref b1), (.ref b1)])) rfl rfl (hb hby at_32)
  have V13 : Arv Z h13 b1 k1 .int (13 : Int32) [(.int (0 : Int32)), (.int (9 : Int32)), (.int (10 : Int32)), (.int (11 : Int32)), (.int (13 : Int32)), (.int (14 : Int32)), (.int (0 : Int32)), (.int (0 : Int32)), (.int (0 : Int32)), (.int (0 : Int32)), (.int (0 : Int32)), (.int (0 : Int32)), (.int (0 : Int32))] (.int (0 : Int32)) := Arv.set Ar13 Cq13 Sz13 Nn13 Hh13 Gg13 rfl W13 5 rfl (Nat.le_of_ble_eq_true rfl)
  have N13 := Fr.snoc X13 N11 (Nat.le_trans Z0 sz_b1)
  have K14 : Keep h0 h13 [] := K12.wr W13 (Or.inr sz_b1)
  obtain ⟨cl15, Ar15, Cq15, Sz15, Nn15, Hh15, Gg15⟩ := V13
  have hin15 : ¬ ((6 : Int32) < 0 ∨ cl15.slots.size ≤ ((6 : Int32)).toNatClampNeg) := inb_of Sz15 ⟨by decide, by decide⟩
  obtain ⟨T15, h15, X15, e15, W15, st15⟩ := stI X13 hx hZ e13 Ar15 (j := (6 : Int32)) hin15 (g := (mkF m 38 #[.val (.int i1), .val (.int i2), .val (.int i3), .unset, .unset, .unset] [(.int (32 : Int32)), (.int (6 : Int32)), (.ref b1), (.ref b1)])) rfl rfl (hb hby at_38)
  have V15 : Arv Z h15 b1 k1 .int (13 : Int32) [(.int (0 : Int32)), (.int (9 : Int32)), (.int (10 : Int32)), (.int (11 : Int32)), (.int (13 : Int32)), (.int (14 : Int32)), (.int (32 : Int32)), (.int (0 : Int32)), (.int (0 : Int32)), (.int (0 : Int32)), (.int (0 : Int32)), (.int (0 : Int32)), (.int (0 : Int32))] (.int (0 : Int32)) := Arv.set Ar15 Cq15 Sz15 Nn15 Hh15 Gg15 rfl W15 6 rfl (Nat.le_of_ble_eq_true rfl)
  have N15 := Fr.snoc X15 N13 (Nat.le_trans Z0 sz_b1)
  have K16 : Keep h0 h15 [] := K14.wr W15 (Or.inr sz_b1)
  obtain ⟨cl17, Ar17, Cq17, Sz17, Nn17, Hh17, Gg17⟩ := V15
  have hin17 : ¬ ((7 : Int32) < 0 ∨ cl17.slots.size ≤ ((7 : Int32)).toNatClampNeg) := inb_of Sz17 ⟨by decide, by decide⟩
  obtain ⟨T17, h17, X17, e17, W17, st17⟩ := stI X15 hx hZ e15 Ar17 (j := (7 : Int32)) hin17 (g := (mkF m 44 #[.val (.int i1), .val (.int i2), .val (.int i3), .unset, .unset, .unset] [(.int (55296 : Int32)), (.int (7 : Int32)), (.ref b1), (.ref b1)])) rfl rfl (hb hby at_44)
  have V17 : Arv Z h17 b1 k1 .int (13 : Int32) [(.int (0 : Int32)), (.int (9 : Int32)), (.int (10 : Int32)), (.int (11 : Int32)), (.int (13 : Int32)), (.int (14 : Int32)), (.int (32 : Int32)), (.int (55296 : Int32)), (.int (0 : Int32)), (.int (0 : Int32)), (.int (0 : Int32)), (.int (0 : Int32)), (.int (0 : Int32))] (.int (0 : Int32)) := Arv.set Ar17 Cq17 Sz17 Nn17 Hh17 Gg17 rfl W17 7 rfl (Nat.le_of_ble_eq_true rfl)
  have N17 := Fr.snoc X17 N15 (Nat.le_trans Z0 sz_b1)
  have K18 : Keep h0 h17 [] := K16.wr W17 (Or.inr sz_b1)
  obtain ⟨cl19, Ar19, Cq19, Sz19, Nn19, Hh19, Gg19⟩ := V17
  have hin19 : ¬ ((8 : Int32) < 0 ∨ cl19.slots.size ≤ ((8 : Int32)).toNatClampNeg) := inb_of Sz19 ⟨by decide, by decide⟩
  obtain ⟨T19, h19, X19, e19, W19, st19⟩ := stI X17 hx hZ e17 Ar19 (j := (8 : Int32)) hin19 (g := (mkF m 50 #[.val (.int i1), .val (.int i2), .val (.int i3), .unset, .unset, .unset] [(.int (57344 : Int32)), (.int (8 : Int32)), (.ref b1), (.ref b1)])) rfl rfl (hb hby at_50)
  have V19 : Arv Z h19 b1 k1 .int (13 : Int32) [(.int (0 : Int32)), (.int (9 : Int32)), (.int (10 : Int32)), (.int (11 : Int32)), (.int (13 : Int32)), (.int (14 : Int32)), (.int (32 : Int32)), (.int (55296 : Int32)), (.int (57344 : Int32)), (.int (0 : Int32)), (.int (0 : Int32)), (.int (0 : Int32)), (.int (0 : Int32))] (.int (0 : Int32)) := Arv.set Ar19 Cq19 Sz19 Nn19 Hh19 Gg19 rfl W19 8 rfl (Nat.le_of_ble_eq_true rfl)
  have N19 := Fr.snoc X19 N17 (Nat.le_trans Z0 sz_b1)
  have K20 : Keep h0 h19 [] := K18.wr W19 (Or.inr sz_b1)
  obtain ⟨cl21, Ar21, Cq21, Sz21, Nn21, Hh21, Gg21⟩ := V19
  have hin21 : ¬ ((9 : Int32) < 0 ∨ cl21.slots.size ≤ ((9 : Int32)).toNatClampNeg) := inb_of Sz21 ⟨by decide, by decide⟩
  obtain ⟨T21, h21, X21, e21, W21, st21⟩ := stI X19 hx hZ e19 Ar21 (j := (9 : Int32)) hin21 (g := (mkF m 56 #[.val (.int i1), .val (.int i2), .val (.int i3), .unset, .unset, .unset] [(.int (65534 : Int32)), (.int (9 : Int32)), (.ref b1), (.ref b1)])) rfl rfl (hb hby at_56)
  have V21 : Arv Z h21 b1 k1 .int (13 : Int32) [(.int (0 : Int32)), (.int (9 : Int32)), (.int (10 : Int32)), (.int (11 : Int32)), (.int (13 : Int32)), (.int (14 : Int32)), (.int (32 : Int32)), (.int (55296 : Int32)), (.int (57344 : Int32)), (.int (65534 : Int32)), (.int (0 : Int32)), (.int (0 : Int32)), (.int (0 : Int32))] (.int (0 : Int32)) := Arv.set Ar21 Cq21 Sz21 Nn21 Hh21 Gg21 rfl W21 9 rfl (Nat.le_of_ble_eq_true rfl)
  have N21 := Fr.snoc X21 N19 (Nat.le_trans Z0 sz_b1)
  have K22 : Keep h0 h21 [] := K20.wr W21 (Or.inr sz_b1)
  obtain ⟨cl23, Ar23, Cq23, Sz23, Nn23, Hh23, Gg23⟩ := V21
  have hin23 : ¬ ((10 : Int32) < 0 ∨ cl23.slots.size ≤ ((10 : Int32)).toNatClampNeg) := inb_of Sz23 ⟨by decide, by decide⟩
  obtain ⟨T23, h23, X23, e23, W23, st23⟩ := stI X21 hx hZ e21 Ar23 (j := (10 : Int32)) hin23 (g := (mkF m 62 #[.val (.int i1), .val (.int i2), .val (.int i3), .unset, .unset, .unset] [(.int (65536 : Int32)), (.int (10 : Int32)), (.ref b1), (.ref b1)])) rfl rfl (hb hby at_62)
  have V23 : Arv Z h23 b1 k1 .int (13 : Int32) [(.int (0 : Int32)), (.int (9 : Int32)), (.int (10 : Int32)), (.int (11 : Int32)), (.int (13 : Int32)), (.int (14 : Int32)), (.int (32 : Int32)), (.int (55296 : Int32)), (.int (57344 : Int32)), (.int (65534 : Int32)), (.int (65536 : Int32)), (.int (0 : Int32)), (.int (0 : Int32))] (.int (0 : Int32)) := Arv.set Ar23 Cq23 Sz23 Nn23 Hh23 Gg23 rfl W23 10 rfl (Nat.le_of_ble_eq_true rfl)
  have N23 := Fr.snoc X23 N21 (Nat.le_trans Z0 sz_b1)
  have K24 : Keep h0 h23 [] := K22.wr W23 (Or.inr sz_b1)
  obtain ⟨cl25, Ar25, Cq25, Sz25, Nn25, Hh25, Gg25⟩ := V23
  have hin25 : ¬ ((11 : Int32) < 0 ∨ cl25.slots.size ≤ ((11 : Int32)).toNatClampNeg) := inb_of Sz25 ⟨by decide, by decide⟩
  obtain ⟨T25, h25, X25, e25, W25, st25⟩ := stI X23 hx hZ e23 Ar25 (j := (11 : Int32)) hin25 (g := (mkF m 68 #[.val (.int i1), .val (.int i2), .val (.int i3), .unset, .unset, .unset] [(.int (1114112 : Int32)), (.int (11 : Int32)), (.ref b1), (.ref b1)])) rfl rfl (hb hby at_68)
  have V25 : Arv Z h25 b1 k1 .int (13 : Int32) [(.int (0 : Int32)), (.int (9 : Int32)), (.int (10 : Int32)), (.int (11 : Int32)), (.int (13 : Int32)), (.int (14 : Int32)), (.int (32 : Int32)), (.int (55296 : Int32)), (.int (57344 : Int32)), (.int (65534 : Int32)), (.int (65536 : Int32)), (.int (1114112 : Int32)), (.int (0 : Int32))] (.int (0 : Int32)) := Arv.set Ar25 Cq25 Sz25 Nn25 Hh25 Gg25 rfl W25 11 rfl (Nat.le_of_ble_eq_true rfl)
  have N25 := Fr.snoc X25 N23 (Nat.le_trans Z0 sz_b1)
  have K26 : Keep h0 h25 [] := K24.wr W25 (Or.inr sz_b1)
  obtain ⟨cl27, Ar27, Cq27, Sz27, Nn27, Hh27, Gg27⟩ := V25
  have hin27 : ¬ ((12 : Int32) < 0 ∨ cl27.slots.size ≤ ((12 : Int32)).toNatClampNeg) := inb_of Sz27 ⟨by decide, by decide⟩
  obtain ⟨T27, h27, X27, e27, W27, st27⟩ := stI X25 hx hZ e25 Ar27 (j := (12 : Int32)) hin27 (g := (mkF m 74 #[.val (.int i1), .val (.int i2), .val (.int i3), .unset, .unset, .unset] [(.int (2147483647 : Int32)), (.int (12 : Int32)), (.ref b1), (.ref b1)])) rfl rfl (hb hby at_74)
  have V27 : Arv Z h27 b1 k1 .int (13 : Int32) [(.int (0 : Int32)), (.int (9 : Int32)), (.int (10 : Int32)), (.int (11 : Int32)), (.int (13 : Int32)), (.int (14 : Int32)), (.int (32 : Int32)), (.int (55296 : Int32)), (.int (57344 : Int32)), (.int (65534 : Int32)), (.int (65536 : Int32)), (.int (1114112 : Int32)), (.int (2147483647 : Int32))] (.int (0 : Int32)) := Arv.set Ar27 Cq27 Sz27 Nn27 Hh27 Gg27 rfl W27 12 rfl (Nat.le_of_ble_eq_true rfl)
  have N27 := Fr.snoc X27 N25 (Nat.le_trans Z0 sz_b1)
  have K28 : Keep h0 h27 [] := K26.wr W27 (Or.inr sz_b1)
  obtain ⟨cl29, Ar29, Cq29, Sz29, Nn29, Hh29, Gg29⟩ := V27
  have hin29 : ¬ ((((i2.toUInt32 >>> ((2 : Int32) &&& 31).toUInt32).toInt32) % (13 : Int32)) < 0 ∨ cl29.slots.size ≤ ((((i2.toUInt32 >>> ((2 : Int32) &&& 31).toUInt32).toInt32) % (13 : Int32))).toNatClampNeg) := inb_of Sz29 (own_ob0_idx i2)
  obtain ⟨wr29, hw29⟩ := own_ints [(0 : Int32), (9 : Int32), (10 : Int32), (11 : Int32), (13 : Int32), (14 : Int32), (32 : Int32), (55296 : Int32), (57344 : Int32), (65534 : Int32), (65536 : Int32), (1114112 : Int32), (2147483647 : Int32)] ((((i2.toUInt32 >>> ((2 : Int32) &&& 31).toUInt32).toInt32) % (13 : Int32))).toNatClampNeg
  have hat29 : cl29.slots[((((i2.toUInt32 >>> ((2 : Int32) &&& 31).toUInt32).toInt32) % (13 : Int32))).toNatClampNeg]? = some (.int wr29) := (Hh29.at hin29 rfl).trans (congrArg some hw29)
  have pre30 : ∀ t, Steps p.tables e below (T27.setTop (mkF m 83 #[.val (.int i1), .val (.int i2), .val (.int i3), .val (.ref b1), .val (.int (i2 &&& (3 : Int32))), .unset] [(.int (i2 &&& (3 : Int32)))])) t → Steps p.tables e below (s₁.setTop (entryFrame m #[(.int i1), (.int i2), (.int i3)] maxLocals)) t := by
    intro t k
    refine pre0 _ ?_
    show Steps p.tables e below (s₁.setTop (mkF m 0 #[.val (.int i1), .val (.int i2), .val (.int i3), .unset, .unset, .unset] [])) _
    refine XS.bipush X0.here hx rfl (hb hby at_0) ?_
    show Steps p.tables e below (s₁.setTop (mkF m 2 #[.val (.int i1), .val (.int i2), .val (.int i3), .unset, .unset, .unset] [(.int (13 : Int32))])) _
    refine st1 _ ?_
    show Steps p.tables e below (T1.setTop (mkF m 4 #[.val (.int i1), .val (.int i2), .val (.int i3), .unset, .unset, .unset] [(.ref b1)])) _
    refine XS.dup X1.here hx rfl (hb hby at_4) rfl rfl ?_
    show Steps p.tables e below (T1.setTop (mkF m 5 #[.val (.int i1), .val (.int i2), .val (.int i3), .unset, .unset, .unset] [(.ref b1), (.ref b1)])) _
    refine XS.iconst X1.here hx rfl (hb hby at_5) ?_
    show Steps p.tables e below (T1.setTop (mkF m 6 #[.val (.int i1), .val (.int i2), .val (.int i3), .unset, .unset, .unset] [(.int (0 : Int32)), (.ref b1), (.ref b1)])) _
    refine XS.iconst X1.here hx rfl (hb hby at_6) ?_
    show Steps p.tables e below (T1.setTop (mkF m 7 #[.val (.int i1), .val (.int i2), .val (.int i3), .unset, .unset, .unset] [(.int (0 : Int32)), (.int (0 : Int32)), (.ref b1), (.ref b1)])) _
    refine st3 _ ?_
    show Steps p.tables e below (T3.setTop (mkF m 8 #[.val (.int i1), .val (.int i2), .val (.int i3), .unset, .unset, .unset] [(.ref b1)])) _
    refine XS.dup X3.here hx rfl (hb hby at_8) rfl rfl ?_
    show Steps p.tables e below (T3.setTop (mkF m 9 #[.val (.int i1), .val (.int i2), .val (.int i3), .unset, .unset, .unset] [(.ref b1), (.ref b1)])) _
    refine XS.iconst X3.here hx rfl (hb hby at_9) ?_
    show Steps p.tables e below (T3.setTop (mkF m 10 #[.val (.int i1), .val (.int i2), .val (.int i3), .unset, .unset, .unset] [(.int (1 : Int32)), (.ref b1), (.ref b1)])) _
    refine XS.bipush X3.here hx rfl (hb hby at_10) ?_
    show Steps p.tables e below (T3.setTop (mkF m 12 #[.val (.int i1), .val (.int i2), .val (.int i3), .unset, .unset, .unset] [(.int (9 : Int32)), (.int (1 : Int32)), (.ref b1), (.ref b1)])) _
    refine st5 _ ?_
    show Steps p.tables e below (T5.setTop (mkF m 13 #[.val (.int i1), .val (.int i2), .val (.int i3), .unset, .unset, .unset] [(.ref b1)])) _
    refine XS.dup X5.here hx rfl (hb hby at_13) rfl rfl ?_
    show Steps p.tables e below (T5.setTop (mkF m 14 #[.val (.int i1), .val (.int i2), .val (.int i3), .unset, .unset, .unset] [(.ref b1), (.ref b1)])) _
    refine XS.iconst X5.here hx rfl (hb hby at_14) ?_
    show Steps p.tables e below (T5.setTop (mkF m 15 #[.val (.int i1), .val (.int i2), .val (.int i3), .unset, .unset, .unset] [(.int (2 : Int32)), (.ref b1), (.ref b1)])) _
    refine XS.bipush X5.here hx rfl (hb hby at_15) ?_
    show Steps p.tables e below (T5.setTop (mkF m 17 #[.val (.int i1), .val (.int i2), .val (.int i3), .unset, .unset, .unset] [(.int (10 : Int32)), (.int (2 : Int32)), (.ref b1), (.ref b1)])) _
    refine st7 _ ?_
    show Steps p.tables e below (T7.setTop (mkF m 18 #[.val (.int i1), .val (.int i2), .val (.int i3), .unset, .unset, .unset] [(.ref b1)])) _
    refine XS.dup X7.here hx rfl (hb hby at_18) rfl rfl ?_
    show Steps p.tables e below (T7.setTop (mkF m 19 #[.val (.int i1), .val (.int i2), .val (.int i3), .unset, .unset, .unset] [(.ref b1), (.ref b1)])) _
    refine XS.iconst X7.here hx rfl (hb hby at_19) ?_
    show Steps p.tables e below (T7.setTop (mkF m 20 #[.val (.int i1), .val (.int i2), .val (.int i3), .unset, .unset, .unset] [(.int (3 : Int32)), (.ref b1), (.ref b1)])) _
    refine XS.bipush X7.here hx rfl (hb hby at_20) ?_
    show Steps p.tables e below (T7.setTop (mkF m 22 #[.val (.int i1), .val (.int i2), .val (.int i3), .unset, .unset, .unset] [(.int (11 : Int32)), (.int (3 : Int32)), (.ref b1), (.ref b1)])) _
    refine st9 _ ?_
    show Steps p.tables e below (T9.setTop (mkF m 23 #[.val (.int i1), .val (.int i2), .val (.int i3), .unset, .unset, .unset] [(.ref b1)])) _
    refine XS.dup X9.here hx rfl (hb hby at_23) rfl rfl ?_
    show Steps p.tables e below (T9.setTop (mkF m 24 #[.val (.int i1), .val (.int i2), .val (.int i3), .unset, .unset, .unset] [(.ref b1), (.ref b1)])) _
    refine XS.iconst X9.here hx rfl (hb hby at_24) ?_
    show Steps p.tables e below (T9.setTop (mkF m 25 #[.val (.int i1), .val (.int i2), .val (.int i3), .unset, .unset, .unset] [(.int (4 : Int32)), (.ref b1), (.ref b1)])) _
    refine XS.bipush X9.here hx rfl (hb hby at_25) ?_
    show Steps p.tables e below (T9.setTop (mkF m 27 #[.val (.int i1), .val (.int i2), .val (.int i3), .unset, .unset, .unset] [(.int (13 : Int32)), (.int (4 : Int32)), (.ref b1), (.ref b1)])) _
    refine st11 _ ?_
    show Steps p.tables e below (T11.setTop (mkF m 28 #[.val (.int i1), .val (.int i2), .val (.int i3), .unset, .unset, .unset] [(.ref b1)])) _
    refine XS.dup X11.here hx rfl (hb hby at_28) rfl rfl ?_
    show Steps p.tables e below (T11.setTop (mkF m 29 #[.val (.int i1), .val (.int i2), .val (.int i3), .unset, .unset, .unset] [(.ref b1), (.ref b1)])) _
    refine XS.iconst X11.here hx rfl (hb hby at_29) ?_
    show Steps p.tables e below (T11.setTop (mkF m 30 #[.val (.int i1), .val (.int i2), .val (.int i3), .unset, .unset, .unset] [(.int (5 : Int32)), (.ref b1), (.ref b1)])) _
    refine XS.bipush X11.here hx rfl (hb hby at_30) ?_
    show Steps p.tables e below (T11.setTop (mkF m 32 #[.val (.int i1), .val (.int i2), .val (.int i3), .unset, .unset, .unset] [(.int (14 : Int32)), (.int (5 : Int32)), (.ref b1), (.ref b1)])) _
    refine st13 _ ?_
    show Steps p.tables e below (T13.setTop (mkF m 33 #[.val (.int i1), .val (.int i2), .val (.int i3), .unset, .unset, .unset] [(.ref b1)])) _
    refine XS.dup X13.here hx rfl (hb hby at_33) rfl rfl ?_
    show Steps p.tables e below (T13.setTop (mkF m 34 #[.val (.int i1), .val (.int i2), .val (.int i3), .unset, .unset, .unset] [(.ref b1), (.ref b1)])) _
    refine XS.bipush X13.here hx rfl (hb hby at_34) ?_
    show Steps p.tables e below (T13.setTop (mkF m 36 #[.val (.int i1), .val (.int i2), .val (.int i3), .unset, .unset, .unset] [(.int (6 : Int32)), (.ref b1), (.ref b1)])) _
    refine XS.bipush X13.here hx rfl (hb hby at_36) ?_
    show Steps p.tables e below (T13.setTop (mkF m 38 #[.val (.int i1), .val (.int i2), .val (.int i3), .unset, .unset, .unset] [(.int (32 : Int32)), (.int (6 : Int32)), (.ref b1), (.ref b1)])) _
    refine st15 _ ?_
    show Steps p.tables e below (T15.setTop (mkF m 39 #[.val (.int i1), .val (.int i2), .val (.int i3), .unset, .unset, .unset] [(.ref b1)])) _
    refine XS.dup X15.here hx rfl (hb hby at_39) rfl rfl ?_
    show Steps p.tables e below (T15.setTop (mkF m 40 #[.val (.int i1), .val (.int i2), .val (.int i3), .unset, .unset, .unset] [(.ref b1), (.ref b1)])) _
    refine XS.bipush X15.here hx rfl (hb hby at_40) ?_
    show Steps p.tables e below (T15.setTop (mkF m 42 #[.val (.int i1), .val (.int i2), .val (.int i3), .unset, .unset, .unset] [(.int (7 : Int32)), (.ref b1), (.ref b1)])) _
    refine X15.ldcInt hx hown (mvT hZ (hw _ (List.mem_of_getElem? (i := 1) rfl))) (g := (mkF m 42 #[.val (.int i1), .val (.int i2), .val (.int i3), .unset, .unset, .unset] [(.int (7 : Int32)), (.ref b1), (.ref b1)])) rfl (hb hby at_42) _ ?_
    show Steps p.tables e below (T15.setTop (mkF m 44 #[.val (.int i1), .val (.int i2), .val (.int i3), .unset, .unset, .unset] [(.int (55296 : Int32)), (.int (7 : Int32)), (.ref b1), (.ref b1)])) _
    refine st17 _ ?_
    show Steps p.tables e below (T17.setTop (mkF m 45 #[.val (.int i1), .val (.int i2), .val (.int i3), .unset, .unset, .unset] [(.ref b1)])) _
    refine XS.dup X17.here hx rfl (hb hby at_45) rfl rfl ?_
    show Steps p.tables e below (T17.setTop (mkF m 46 #[.val (.int i1), .val (.int i2), .val (.int i3), .unset, .unset, .unset] [(.ref b1), (.ref b1)])) _
    refine XS.bipush X17.here hx rfl (hb hby at_46) ?_
    show Steps p.tables e below (T17.setTop (mkF m 48 #[.val (.int i1), .val (.int i2), .val (.int i3), .unset, .unset, .unset] [(.int (8 : Int32)), (.ref b1), (.ref b1)])) _
    refine X17.ldcInt hx hown (mvT hZ (hw _ (List.mem_of_getElem? (i := 2) rfl))) (g := (mkF m 48 #[.val (.int i1), .val (.int i2), .val (.int i3), .unset, .unset, .unset] [(.int (8 : Int32)), (.ref b1), (.ref b1)])) rfl (hb hby at_48) _ ?_
    show Steps p.tables e below (T17.setTop (mkF m 50 #[.val (.int i1), .val (.int i2), .val (.int i3), .unset, .unset, .unset] [(.int (57344 : Int32)), (.int (8 : Int32)), (.ref b1), (.ref b1)])) _
    refine st19 _ ?_
    show Steps p.tables e below (T19.setTop (mkF m 51 #[.val (.int i1), .val (.int i2), .val (.int i3), .unset, .unset, .unset] [(.ref b1)])) _
    refine XS.dup X19.here hx rfl (hb hby at_51) rfl rfl ?_
    show Steps p.tables e below (T19.setTop (mkF m 52 #[.val (.int i1), .val (.int i2), .val (.int i3), .unset, .unset, .unset] [(.ref b1), (.ref b1)])) _
    refine XS.bipush X19.here hx rfl (hb hby at_52) ?_
    show Steps p.tables e below (T19.setTop (mkF m 54 #[.val (.int i1), .val (.int i2), .val (.int i3), .unset, .unset, .unset] [(.int (9 : Int32)), (.ref b1), (.ref b1)])) _
    refine X19.ldcInt hx hown (mvT hZ (hw _ (List.mem_of_getElem? (i := 3) rfl))) (g := (mkF m 54 #[.val (.int i1), .val (.int i2), .val (.int i3), .unset, .unset, .unset] [(.int (9 : Int32)), (.ref b1), (.ref b1)])) rfl (hb hby at_54) _ ?_
    show Steps p.tables e below (T19.setTop (mkF m 56 #[.val (.int i1), .val (.int i2), .val (.int i3), .unset, .unset, .unset] [(.int (65534 : Int32)), (.int (9 : Int32)), (.ref b1), (.ref b1)])) _
    refine st21 _ ?_
    show Steps p.tables e below (T21.setTop (mkF m 57 #[.val (.int i1), .val (.int i2), .val (.int i3), .unset, .unset, .unset] [(.ref b1)])) _
    refine XS.dup X21.here hx rfl (hb hby at_57) rfl rfl ?_
    show Steps p.tables e below (T21.setTop (mkF m 58 #[.val (.int i1), .val (.int i2), .val (.int i3), .unset, .unset, .unset] [(.ref b1), (.ref b1)])) _
    refine XS.bipush X21.here hx rfl (hb hby at_58) ?_
    show Steps p.tables e below (T21.setTop (mkF m 60 #[.val (.int i1), .val (.int i2), .val (.int i3), .unset, .unset, .unset] [(.int (10 : Int32)), (.ref b1), (.ref b1)])) _
    refine X21.ldcInt hx hown (mvT hZ (hw _ (List.mem_of_getElem? (i := 4) rfl))) (g := (mkF m 60 #[.val (.int i1), .val (.int i2), .val (.int i3), .unset, .unset, .unset] [(.int (10 : Int32)), (.ref b1), (.ref b1)])) rfl (hb hby at_60) _ ?_
    show Steps p.tables e below (T21.setTop (mkF m 62 #[.val (.int i1), .val (.int i2), .val (.int i3), .unset, .unset, .unset] [(.int (65536 : Int32)), (.int (10 : Int32)), (.ref b1), (.ref b1)])) _
    refine st23 _ ?_
    show Steps p.tables e below (T23.setTop (mkF m 63 #[.val (.int i1), .val (.int i2), .val (.int i3), .unset, .unset, .unset] [(.ref b1)])) _
    refine XS.dup X23.here hx rfl (hb hby at_63) rfl rfl ?_
    show Steps p.tables e below (T23.setTop (mkF m 64 #[.val (.int i1), .val (.int i2), .val (.int i3), .unset, .unset, .unset] [(.ref b1), (.ref b1)])) _
    refine XS.bipush X23.here hx rfl (hb hby at_64) ?_
    show Steps p.tables e below (T23.setTop (mkF m 66 #[.val (.int i1), .val (.int i2), .val (.int i3), .unset, .unset, .unset] [(.int (11 : Int32)), (.ref b1), (.ref b1)])) _
    refine X23.ldcInt hx hown (mvT hZ (hw _ (List.mem_of_getElem? (i := 5) rfl))) (g := (mkF m 66 #[.val (.int i1), .val (.int i2), .val (.int i3), .unset, .unset, .unset] [(.int (11 : Int32)), (.ref b1), (.ref b1)])) rfl (hb hby at_66) _ ?_
    show Steps p.tables e below (T23.setTop (mkF m 68 #[.val (.int i1), .val (.int i2), .val (.int i3), .unset, .unset, .unset] [(.int (1114112 : Int32)), (.int (11 : Int32)), (.ref b1), (.ref b1)])) _
    refine st25 _ ?_
    show Steps p.tables e below (T25.setTop (mkF m 69 #[.val (.int i1), .val (.int i2), .val (.int i3), .unset, .unset, .unset] [(.ref b1)])) _
    refine XS.dup X25.here hx rfl (hb hby at_69) rfl rfl ?_
    show Steps p.tables e below (T25.setTop (mkF m 70 #[.val (.int i1), .val (.int i2), .val (.int i3), .unset, .unset, .unset] [(.ref b1), (.ref b1)])) _
    refine XS.bipush X25.here hx rfl (hb hby at_70) ?_
    show Steps p.tables e below (T25.setTop (mkF m 72 #[.val (.int i1), .val (.int i2), .val (.int i3), .unset, .unset, .unset] [(.int (12 : Int32)), (.ref b1), (.ref b1)])) _
    refine X25.ldcInt hx hown (mvT hZ (hw _ (List.mem_of_getElem? (i := 6) rfl))) (g := (mkF m 72 #[.val (.int i1), .val (.int i2), .val (.int i3), .unset, .unset, .unset] [(.int (12 : Int32)), (.ref b1), (.ref b1)])) rfl (hb hby at_72) _ ?_
    show Steps p.tables e below (T25.setTop (mkF m 74 #[.val (.int i1), .val (.int i2), .val (.int i3), .unset, .unset, .unset] [(.int (2147483647 : Int32)), (.int (12 : Int32)), (.ref b1), (.ref b1)])) _
    refine st27 _ ?_
    show Steps p.tables e below (T27.setTop (mkF m 75 #[.val (.int i1), .val (.int i2), .val (.int i3), .unset, .unset, .unset] [(.ref b1)])) _
    refine XS.astoreN X27.here hx rfl (hb hby at_75) rfl rfl (l' := #[.val (.int i1), .val (.int i2), .val (.int i3), .val (.ref b1), .unset, .unset]) rfl ?_
    show Steps p.tables e below (T27.setTop (mkF m 76 #[.val (.int i1), .val (.int i2), .val (.int i3), .val (.ref b1), .unset, .unset] [])) _
    refine XS.iloadN X27.here hx rfl (hb hby at_76) rfl ?_
    show Steps p.tables e below (T27.setTop (mkF m 77 #[.val (.int i1), .val (.int i2), .val (.int i3), .val (.ref b1), .unset, .unset] [(.int i2)])) _
    refine XS.iconst X27.here hx rfl (hb hby at_77) ?_
    show Steps p.tables e below (T27.setTop (mkF m 78 #[.val (.int i1), .val (.int i2), .val (.int i3), .val (.ref b1), .unset, .unset] [(.int (3 : Int32)), (.int i2)])) _
    refine XS.iand X27.here hx rfl (hb hby at_78) rfl ?_
    show Steps p.tables e below (T27.setTop (mkF m 79 #[.val (.int i1), .val (.int i2), .val (.int i3), .val (.ref b1), .unset, .unset] [(.int (i2 &&& (3 : Int32)))])) _
    refine XS.istore X27.here hx rfl (hb hby at_79) rfl (l' := #[.val (.int i1), .val (.int i2), .val (.int i3), .val (.ref b1), .val (.int (i2 &&& (3 : Int32))), .unset]) rfl ?_
    show Steps p.tables e below (T27.setTop (mkF m 81 #[.val (.int i1), .val (.int i2), .val (.int i3), .val (.ref b1), .val (.int (i2 &&& (3 : Int32))), .unset] [])) _
    refine XS.iload X27.here hx rfl (hb hby at_81) rfl ?_
    exact k
  have pre40 : ∀ t, Steps p.tables e below (T27.setTop (mkF m 138 #[.val (.int i1), .val (.int i2), .val (.int i3), .val (.ref b1), .val (.int (i2 &&& (3 : Int32))), .val (.int (own_j0_83_0 i1 i2 i3 wr29))] [])) t → Steps p.tables e below (s₁.setTop (entryFrame m #[(.int i1), (.int i2), (.int i3)] maxLocals)) t := by
    by_cases hc83_31 : (i2 &&& (3 : Int32)) = (0 : Int32)
    · have pre32 : ∀ t, Steps p.tables e below (T27.setTop (mkF m 138 #[.val (.int i1), .val (.int i2), .val (.int i3), .val (.ref b1), .val (.int (i2 &&& (3 : Int32))), .val (.int i1)] [])) t → Steps p.tables e below (s₁.setTop (entryFrame m #[(.int i1), (.int i2), (.int i3)] maxLocals)) t := by
        intro t k
        refine pre30 _ ?_
        show Steps p.tables e below (T27.setTop (mkF m 83 #[.val (.int i1), .val (.int i2), .val (.int i3), .val (.ref b1), .val (.int (i2 &&& (3 : Int32))), .unset] [(.int (i2 &&& (3 : Int32)))])) _
        refine XS.ifNo X27.here hx rfl (hb hby at_83) rfl ((if0 _ _).trans (teq hc83_31).2) ?_
        show Steps p.tables e below (T27.setTop (mkF m 86 #[.val (.int i1), .val (.int i2), .val (.int i3), .val (.ref b1), .val (.int (i2 &&& (3 : Int32))), .unset] [])) _
        refine XS.iloadN X27.here hx rfl (hb hby at_86) rfl ?_
        show Steps p.tables e below (T27.setTop (mkF m 87 #[.val (.int i1), .val (.int i2), .val (.int i3), .val (.ref b1), .val (.int (i2 &&& (3 : Int32))), .unset] [(.int i1)])) _
        refine XS.istore X27.here hx rfl (hb hby at_87) rfl (l' := #[.val (.int i1), .val (.int i2), .val (.int i3), .val (.ref b1), .val (.int (i2 &&& (3 : Int32))), .val (.int i1)]) rfl ?_
        show Steps p.tables e below (T27.setTop (mkF m 89 #[.val (.int i1), .val (.int i2), .val (.int i3), .val (.ref b1), .val (.int (i2 &&& (3 : Int32))), .val (.int i1)] [])) _
        refine XS.goto X27.here hx rfl (pc0 := 89) (pc' := 138) rfl (hb hby at_89) (by decide) (by decide) ?_
        exact k
      exact fun t k => pre32 t (by rw [show (own_j0_83_0 i1 i2 i3 wr29) = i1 from (if_pos hc83_31)] at k; exact k)
    · have pre33 : ∀ t, Steps p.tables e below (T27.setTop (mkF m 95 #[.val (.int i1), .val (.int i2), .val (.int i3), .val (.ref b1), .val (.int (i2 &&& (3 : Int32))), .unset] [(.int (1 : Int32)), (.int (i2 &&& (3 : Int32)))])) t → Steps p.tables e below (s₁.setTop (entryFrame m #[(.int i1), (.int i2), (.int i3)] maxLocals)) t := by
        intro t k
        refine pre30 _ ?_
        show Steps p.tables e below (T27.setTop (mkF m 83 #[.val (.int i1), .val (.int i2), .val (.int i3), .val (.ref b1), .val (.int (i2 &&& (3 : Int32))), .unset] [(.int (i2 &&& (3 : Int32)))])) _
        refine XS.ifYes X27.here hx rfl (pc0 := 83) (pc' := 92) rfl (hb hby at_83) rfl ((if0 _ _).trans (feq hc83_31).2) (by decide) (by decide) ?_
        show Steps p.tables e below (T27.setTop (mkF m 92 #[.val (.int i1), .val (.int i2), .val (.int i3), .val (.ref b1), .val (.int (i2 &&& (3 : Int32))), .unset] [])) _
        refine XS.iload X27.here hx rfl (hb hby at_92) rfl ?_
        show Steps p.tables e below (T27.setTop (mkF m 94 #[.val (.int i1), .val (.int i2), .val (.int i3), .val (.ref b1), .val (.int (i2 &&& (3 : Int32))), .unset] [(.int (i2 &&& (3 : Int32)))])) _
        refine XS.iconst X27.here hx rfl (hb hby at_94) ?_
        exact k
      by_cases hc95_34 : (i2 &&& (3 : Int32)) = (1 : Int32)
      · have pre35 : ∀ t, Steps p.tables e below (T27.setTop (mkF m 138 #[.val (.int i1), .val (.int i2), .val (.int i3), .val (.ref b1), .val (.int (i2 &&& (3 : Int32))), .val (.int (i1 &&& (2097151 : Int32)))] [])) t → Steps p.tables e below (s₁.setTop (entryFrame m #[(.int i1), (.int i2), (.int i3)] maxLocals)) t := by
          intro t k
          refine pre33 _ ?_
          show Steps p.tables e below (T27.setTop (mkF m 95 #[.val (.int i1), .val (.int i2), .val (.int i3), .val (.ref b1), .val (.int (i2 &&& (3 : Int32))), .unset] [(.int (1 : Int32)), (.int (i2 &&& (3 : Int32)))])) _
          refine XS.icmpNo X27.here hx rfl (hb hby at_95) rfl (teq hc95_34).2 ?_
          show Steps p.tables e below (T27.setTop (mkF m 98 #[.val (.int i1), .val (.int i2), .val (.int i3), .val (.ref b1), .val (.int (i2 &&& (3 : Int32))), .unset] [])) _
          refine XS.iloadN X27.here hx rfl (hb hby at_98) rfl ?_
          show Steps p.tables e below (T27.setTop (mkF m 99 #[.val (.int i1), .val (.int i2), .val (.int i3), .val (.ref b1), .val (.int (i2 &&& (3 : Int32))), .unset] [(.int i1)])) _
          refine X27.ldcInt hx hown (mvT hZ (hw _ (List.mem_of_getElem? (i := 23) rfl))) (g := (mkF m 99 #[.val (.int i1), .val (.int i2), .val (.int i3), .val (.ref b1), .val (.int (i2 &&& (3 : Int32))), .unset] [(.int i1)])) rfl (hb hby at_99) _ ?_
          show Steps p.tables e below (T27.setTop (mkF m 101 #[.val (.int i1), .val (.int i2), .val (.int i3), .val (.ref b1), .val (.int (i2 &&& (3 : Int32))), .unset] [(.int (2097151 : Int32)), (.int i1)])) _
          refine XS.iand X27.here hx rfl (hb hby at_101) rfl ?_
          show Steps p.tables e below (T27.setTop (mkF m 102 #[.val (.int i1), .val (.int i2), .val (.int i3), .val (.ref b1), .val (.int (i2 &&& (3 : Int32))), .unset] [(.int (i1 &&& (2097151 : Int32)))])) _
          refine XS.istore X27.here hx rfl (hb hby at_102) rfl (l' := #[.val (.int i1), .val (.int i2), .val (.int i3), .val (.ref b1), .val (.int (i2 &&& (3 : Int32))), .val (.int (i1 &&& (2097151 : Int32)))]) rfl ?_
          show Steps p.tables e below (T27.setTop (mkF m 104 #[.val (.int i1), .val (.int i2), .val (.int i3), .val (.ref b1), .val (.int (i2 &&& (3 : Int32))), .val (.int (i1 &&& (2097151 : Int32)))] [])) _
          refine XS.goto X27.here hx rfl (pc0 := 104) (pc' := 138) rfl (hb hby at_104) (by decide) (by decide) ?_
          exact k
        exact fun t k => pre35 t (by rw [show (own_j0_83_0 i1 i2 i3 wr29) = (i1 &&& (2097151 : Int32)) from ((if_neg hc83_31).trans (if_pos hc95_34))] at k; exact k)
      · have pre36 : ∀ t, Steps p.tables e below (T27.setTop (mkF m 110 #[.val (.int i1), .val (.int i2), .val (.int i3), .val (.ref b1), .val (.int (i2 &&& (3 : Int32))), .unset] [(.int (2 : Int32)), (.int (i2 &&& (3 : Int32)))])) t → Steps p.tables e below (s₁.setTop (entryFrame m #[(.int i1), (.int i2), (.int i3)] maxLocals)) t := by
          intro t k
          refine pre33 _ ?_
          show Steps p.tables e below (T27.setTop (mkF m 95 #[.val (.int i1), .val (.int i2), .val (.int i3), .val (.ref b1), .val (.int (i2 &&& (3 : Int32))), .unset] [(.int (1 : Int32)), (.int (i2 &&& (3 : Int32)))])) _
          refine XS.icmpYes X27.here hx rfl (pc0 := 95) (pc' := 107) rfl (hb hby at_95) rfl (feq hc95_34).2 (by decide) (by decide) ?_
          show Steps p.tables e below (T27.setTop (mkF m 107 #[.val (.int i1), .val (.int i2), .val (.int i3), .val (.ref b1), .val (.int (i2 &&& (3 : Int32))), .unset] [])) _
          refine XS.iload X27.here hx rfl (hb hby at_107) rfl ?_
          show Steps p.tables e below (T27.setTop (mkF m 109 #[.val (.int i1), .val (.int i2), .val (.int i3), .val (.ref b1), .val (.int (i2 &&& (3 : Int32))), .unset] [(.int (i2 &&& (3 : Int32)))])) _
          refine XS.iconst X27.here hx rfl (hb hby at_109) ?_
          exact k
        by_cases hc110_37 : (i2 &&& (3 : Int32)) = (2 : Int32)
        · have pre38 : ∀ t, Steps p.tables e below (T27.setTop (mkF m 138 #[.val (.int i1), .val (.int i2), .val (.int i3), .val (.ref b1), .val (.int (i2 &&& (3 : Int32))), .val (.int (i1 &&& (65535 : Int32)))] [])) t → Steps p.tables e below (s₁.setTop (entryFrame m #[(.int i1), (.int i2), (.int i3)] maxLocals)) t := by
            intro t k
            refine pre36 _ ?_
            show Steps p.tables e below (T27.setTop (mkF m 110 #[.val (.int i1), .val (.int i2), .val (.int i3), .val (.ref b1), .val (.int (i2 &&& (3 : Int32))), .unset] [(.int (2 : Int32)), (.int (i2 &&& (3 : Int32)))])) _
            refine XS.icmpNo X27.here hx rfl (hb hby at_110) rfl (teq hc110_37).2 ?_
            show Steps p.tables e below (T27.setTop (mkF m 113 #[.val (.int i1), .val (.int i2), .val (.int i3), .val (.ref b1), .val (.int (i2 &&& (3 : Int32))), .unset] [])) _
            refine XS.iloadN X27.here hx rfl (hb hby at_113) rfl ?_
            show Steps p.tables e below (T27.setTop (mkF m 114 #[.val (.int i1), .val (.int i2), .val (.int i3), .val (.ref b1), .val (.int (i2 &&& (3 : Int32))), .unset] [(.int i1)])) _
            refine X27.ldcInt hx hown (mvT hZ (hw _ (List.mem_of_getElem? (i := 18) rfl))) (g := (mkF m 114 #[.val (.int i1), .val (.int i2), .val (.int i3), .val (.ref b1), .val (.int (i2 &&& (3 : Int32))), .unset] [(.int i1)])) rfl (hb hby at_114) _ ?_
            show Steps p.tables e below (T27.setTop (mkF m 116 #[.val (.int i1), .val (.int i2), .val (.int i3), .val (.ref b1), .val (.int (i2 &&& (3 : Int32))), .unset] [(.int (65535 : Int32)), (.int i1)])) _
            refine XS.iand X27.here hx rfl (hb hby at_116) rfl ?_
            show Steps p.tables e below (T27.setTop (mkF m 117 #[.val (.int i1), .val (.int i2), .val (.int i3), .val (.ref b1), .val (.int (i2 &&& (3 : Int32))), .unset] [(.int (i1 &&& (65535 : Int32)))])) _
            refine XS.istore X27.here hx rfl (hb hby at_117) rfl (l' := #[.val (.int i1), .val (.int i2), .val (.int i3), .val (.ref b1), .val (.int (i2 &&& (3 : Int32))), .val (.int (i1 &&& (65535 : Int32)))]) rfl ?_
            show Steps p.tables e below (T27.setTop (mkF m 119 #[.val (.int i1), .val (.int i2), .val (.int i3), .val (.ref b1), .val (.int (i2 &&& (3 : Int32))), .val (.int (i1 &&& (65535 : Int32)))] [])) _
            refine XS.goto X27.here hx rfl (pc0 := 119) (pc' := 138) rfl (hb hby at_119) (by decide) (by decide) ?_
            exact k
          exact fun t k => pre38 t (by rw [show (own_j0_83_0 i1 i2 i3 wr29) = (i1 &&& (65535 : Int32)) from ((if_neg hc83_31).trans ((if_neg hc95_34).trans (if_pos hc110_37)))] at k; exact k)
        · have pre39 : ∀ t, Steps p.tables e below (T27.setTop (mkF m 138 #[.val (.int i1), .val (.int i2), .val (.int i3), .val (.ref b1), .val (.int (i2 &&& (3 : Int32))), .val (.int (wr29 + ((i3 &&& (3 : Int32)) - (2 : Int32))))] [])) t → Steps p.tables e below (s₁.setTop (entryFrame m #[(.int i1), (.int i2), (.int i3)] maxLocals)) t := by
            intro t k
            refine pre36 _ ?_
            show Steps p.tables e below (T27.setTop (mkF m 110 #[.val (.int i1), .val (.int i2), .val (.int i3), .val (.ref b1), .val (.int (i2 &&& (3 : Int32))), .unset] [(.int (2 : Int32)), (.int (i2 &&& (3 : Int32)))])) _
            refine XS.icmpYes X27.here hx rfl (pc0 := 110) (pc' := 122) rfl (hb hby at_110) rfl (feq hc110_37).2 (by decide) (by decide) ?_
            show Steps p.tables e below (T27.setTop (mkF m 122 #[.val (.int i1), .val (.int i2), .val (.int i3), .val (.ref b1), .val (.int (i2 &&& (3 : Int32))), .unset] [])) _
            refine XS.aloadN X27.here hx rfl (hb hby at_122) rfl rfl ?_
            show Steps p.tables e below (T27.setTop (mkF m 123 #[.val (.int i1), .val (.int i2), .val (.int i3), .val (.ref b1), .val (.int (i2 &&& (3 : Int32))), .unset] [(.ref b1)])) _
            refine XS.iloadN X27.here hx rfl (hb hby at_123) rfl ?_
            show Steps p.tables e below (T27.setTop (mkF m 124 #[.val (.int i1), .val (.int i2), .val (.int i3), .val (.ref b1), .val (.int (i2 &&& (3 : Int32))), .unset] [(.int i2), (.ref b1)])) _
            refine XS.iconst X27.here hx rfl (hb hby at_124) ?_
            show Steps p.tables e below (T27.setTop (mkF m 125 #[.val (.int i1), .val (.int i2), .val (.int i3), .val (.ref b1), .val (.int (i2 &&& (3 : Int32))), .unset] [(.int (2 : Int32)), (.int i2), (.ref b1)])) _
            refine XS.iushr X27.here hx rfl (hb hby at_125) rfl ?_
            show Steps p.tables e below (T27.setTop (mkF m 126 #[.val (.int i1), .val (.int i2), .val (.int i3), .val (.ref b1), .val (.int (i2 &&& (3 : Int32))), .unset] [(.int ((i2.toUInt32 >>> ((2 : Int32) &&& 31).toUInt32).toInt32)), (.ref b1)])) _
            refine XS.bipush X27.here hx rfl (hb hby at_126) ?_
            show Steps p.tables e below (T27.setTop (mkF m 128 #[.val (.int i1), .val (.int i2), .val (.int i3), .val (.ref b1), .val (.int (i2 &&& (3 : Int32))), .unset] [(.int (13 : Int32)), (.int ((i2.toUInt32 >>> ((2 : Int32) &&& 31).toUInt32).toInt32)), (.ref b1)])) _
            refine iremM X27 hx rfl (hb hby at_128) rfl (by decide) ?_
            show Steps p.tables e below (T27.setTop (mkF m 129 #[.val (.int i1), .val (.int i2), .val (.int i3), .val (.ref b1), .val (.int (i2 &&& (3 : Int32))), .unset] [(.int (((i2.toUInt32 >>> ((2 : Int32) &&& 31).toUInt32).toInt32) % (13 : Int32))), (.ref b1)])) _
            refine X27.iaload hx (j := (((i2.toUInt32 >>> ((2 : Int32) &&& 31).toUInt32).toInt32) % (13 : Int32))) (v := (.int wr29)) (by rw [e27]; exact Ar29.1) (State.isArrayOf_alike hZ.alike Ar29.2.1) Ar29.2.2 hin29 hat29 (g := (mkF m 129 #[.val (.int i1), .val (.int i2), .val (.int i3), .val (.ref b1), .val (.int (i2 &&& (3 : Int32))), .unset] [(.int (((i2.toUInt32 >>> ((2 : Int32) &&& 31).toUInt32).toInt32) % (13 : Int32))), (.ref b1)])) rfl rfl (hb hby at_129) _ ?_
            show Steps p.tables e below (T27.setTop (mkF m 130 #[.val (.int i1), .val (.int i2), .val (.int i3), .val (.ref b1), .val (.int (i2 &&& (3 : Int32))), .unset] [(.int wr29)])) _
            refine XS.iloadN X27.here hx rfl (hb hby at_130) rfl ?_
            show Steps p.tables e below (T27.setTop (mkF m 131 #[.val (.int i1), .val (.int i2), .val (.int i3), .val (.ref b1), .val (.int (i2 &&& (3 : Int32))), .unset] [(.int i3), (.int wr29)])) _
            refine XS.iconst X27.here hx rfl (hb hby at_131) ?_
            show Steps p.tables e below (T27.setTop (mkF m 132 #[.val (.int i1), .val (.int i2), .val (.int i3), .val (.ref b1), .val (.int (i2 &&& (3 : Int32))), .unset] [(.int (3 : Int32)), (.int i3), (.int wr29)])) _
            refine XS.iand X27.here hx rfl (hb hby at_132) rfl ?_
            show Steps p.tables e below (T27.setTop (mkF m 133 #[.val (.int i1), .val (.int i2), .val (.int i3), .val (.ref b1), .val (.int (i2 &&& (3 : Int32))), .unset] [(.int (i3 &&& (3 : Int32))), (.int wr29)])) _
            refine XS.iconst X27.here hx rfl (hb hby at_133) ?_
            show Steps p.tables e below (T27.setTop (mkF m 134 #[.val (.int i1), .val (.int i2), .val (.int i3), .val (.ref b1), .val (.int (i2 &&& (3 : Int32))), .unset] [(.int (2 : Int32)), (.int (i3 &&& (3 : Int32))), (.int wr29)])) _
            refine XS.isub X27.here hx rfl (hb hby at_134) rfl ?_
            show Steps p.tables e below (T27.setTop (mkF m 135 #[.val (.int i1), .val (.int i2), .val (.int i3), .val (.ref b1), .val (.int (i2 &&& (3 : Int32))), .unset] [(.int ((i3 &&& (3 : Int32)) - (2 : Int32))), (.int wr29)])) _
            refine XS.iadd X27.here hx rfl (hb hby at_135) rfl ?_
            show Steps p.tables e below (T27.setTop (mkF m 136 #[.val (.int i1), .val (.int i2), .val (.int i3), .val (.ref b1), .val (.int (i2 &&& (3 : Int32))), .unset] [(.int (wr29 + ((i3 &&& (3 : Int32)) - (2 : Int32))))])) _
            refine XS.istore X27.here hx rfl (hb hby at_136) rfl (l' := #[.val (.int i1), .val (.int i2), .val (.int i3), .val (.ref b1), .val (.int (i2 &&& (3 : Int32))), .val (.int (wr29 + ((i3 &&& (3 : Int32)) - (2 : Int32))))]) rfl ?_
            exact k
          exact fun t k => pre39 t (by rw [show (own_j0_83_0 i1 i2 i3 wr29) = (wr29 + ((i3 &&& (3 : Int32)) - (2 : Int32))) from ((if_neg hc83_31).trans ((if_neg hc95_34).trans (if_neg hc110_37)))] at k; exact k)
  obtain ⟨_, _, ⟨T41, L41, k41, n41⟩, -, X41, ⟨Lc41, hQ41, l41, y41, z41⟩, st41⟩ := Jvm.LawKit.callS X27 hx (y := (⟨"com/example/baum/baum/xml/XmlChars", "isChar", "(I)Z"⟩ : MethodName)) hown (mvT hZ (hw _ (List.mem_of_getElem? (i := 7) rfl))) (mvT hZ (hw _ (List.mem_of_getElem? (i := 8) rfl))) (mvT hZ (hw _ (List.mem_of_getElem? (i := 9) rfl))) (mvT hZ (hw _ (List.mem_of_getElem? (i := 10) rfl))) (by decide) (backOf (W := 0) (rm1 l Z a0 hw [] (own_j0_83_0 i1 i2 i3 wr29) h27 n0 (Nat.le_trans Z0 K28.1) ) hZ (hw _ (List.mem_of_getElem? (i := 10) rfl)) (hw _ (List.mem_of_getElem? (i := 9) rfl)) (by decide) (by decide)) (g := (mkF m 140 #[.val (.int i1), .val (.int i2), .val (.int i3), .val (.ref b1), .val (.int (i2 &&& (3 : Int32))), .val (.int (own_j0_83_0 i1 i2 i3 wr29))] [(.int (own_j0_83_0 i1 i2 i3 wr29))])) rfl (by rw [hml]; rfl) (argsL := [(.int (own_j0_83_0 i1 i2 i3 wr29))]) (rest := []) (lenOf pd_0 rfl) rfl (by show 2 * 0 + _ ≤ _; exact Nat.le_of_eq rfl) (hb hby at_140) (fun _ _ => ⟨rfl, e27, (by decide : 1 + 0 ≤ _), (by decide : 13 + 0 ≤ _)⟩)
  dsimp only [Pt.U, Pt.locs, Pt.cells, Pt.slots] at X41 l41 y41 z41 st41 hQ41
  subst l41 y41 z41
  obtain ⟨rfl, Nq41, e41⟩ := hQ41
  have N41 := Fr.app N27 Nq41
  obtain ⟨_, _, ⟨T42, L42, k42, n42⟩, -, X42, ⟨Lc42, hQ42, l42, y42, z42⟩, st42⟩ := Jvm.LawKit.callS X41 hx (y := (⟨"com/example/baum/baum/xml/XmlCharsIsCharPinLaw", "expected", "(I)Z"⟩ : MethodName)) hown (mvT hZ (hw _ (List.mem_of_getElem? (i := 13) rfl))) (mvT hZ (hw _ (List.mem_of_getElem? (i := 14) rfl))) (mvT hZ (hw _ (List.mem_of_getElem? (i := 15) rfl))) (mvT hZ (hw _ (List.mem_of_getElem? (i := 16) rfl))) (by decide) (backOf (W := 1) (rm2 l Z a0 hw [] (own_j0_83_0 i1 i2 i3 wr29) h27 n0 (Nat.le_trans Z0 K28.1) ) hZ (hw _ (List.mem_of_getElem? (i := 16) rfl)) (hw _ (List.mem_of_getElem? (i := 15) rfl)) (by decide) (by decide)) (g := (mkF m 145 #[.val (.int i1), .val (.int i2), .val (.int i3), .val (.ref b1), .val (.int (i2 &&& (3 : Int32))), .val (.int (own_j0_83_0 i1 i2 i3 wr29))] [(.int (own_j0_83_0 i1 i2 i3 wr29)), (.int (nar .boolean (own_j1_3_0 (own_j0_83_0 i1 i2 i3 wr29))))])) rfl (by rw [hml]; rfl) (argsL := [(.int (own_j0_83_0 i1 i2 i3 wr29))]) (rest := [(.int (nar .boolean (own_j1_3_0 (own_j0_83_0 i1 i2 i3 wr29))))]) (lenOf pd_0 rfl) rfl (by show 2 * 0 + _ ≤ _; exact Nat.le_of_eq rfl) (hb hby at_145) (fun _ _ => ⟨rfl, e41, (by decide : 1 + 0 ≤ _), (by decide : 13 + 0 ≤ _)⟩)
  dsimp only [Pt.U, Pt.locs, Pt.cells, Pt.slots] at X42 l42 y42 z42 st42 hQ42
  subst l42 y42 z42
  obtain ⟨rfl, Nq42, e42⟩ := hQ42
  have N42 := Fr.app N41 Nq42
  have hr43 : (nar .boolean (own_j1_3_0 (own_j0_83_0 i1 i2 i3 wr29))) = (own_r2 (own_j0_83_0 i1 i2 i3 wr29)) := (own_ob0_r148 i1 i2 i3 wr29)
  have pre44 : ∀ t, Steps p.tables e below (T42.setTop (mkF m 156 #[.val (.int i1), .val (.int i2), .val (.int i3), .val (.ref b1), .val (.int (i2 &&& (3 : Int32))), .val (.int (own_j0_83_0 i1 i2 i3 wr29))] [(.int (1 : Int32))])) t → Steps p.tables e below (s₁.setTop (entryFrame m #[(.int i1), (.int i2), (.int i3)] maxLocals)) t := by
    intro t k
    refine pre40 _ ?_
    show Steps p.tables e below (T27.setTop (mkF m 138 #[.val (.int i1), .val (.int i2), .val (.int i3), .val (.ref b1), .val (.int (i2 &&& (3 : Int32))), .val (.int (own_j0_83_0 i1 i2 i3 wr29))] [])) _
    refine XS.iload X27.here hx rfl (hb hby at_138) rfl ?_
    show Steps p.tables e below (T27.setTop (mkF m 140 #[.val (.int i1), .val (.int i2), .val (.int i3), .val (.ref b1), .val (.int (i2 &&& (3 : Int32))), .val (.int (own_j0_83_0 i1 i2 i3 wr29))] [(.int (own_j0_83_0 i1 i2 i3 wr29))])) _
    refine st41 _ ?_
    show Steps p.tables e below (T41.setTop (mkF m 143 #[.val (.int i1), .val (.int i2), .val (.int i3), .val (.ref b1), .val (.int (i2 &&& (3 : Int32))), .val (.int (own_j0_83_0 i1 i2 i3 wr29))] [(.int (nar .boolean (own_j1_3_0 (own_j0_83_0 i1 i2 i3 wr29))))])) _
    refine XS.iload X41.here hx rfl (hb hby at_143) rfl ?_
    show Steps p.tables e below (T41.setTop (mkF m 145 #[.val (.int i1), .val (.int i2), .val (.int i3), .val (.ref b1), .val (.int (i2 &&& (3 : Int32))), .val (.int (own_j0_83_0 i1 i2 i3 wr29))] [(.int (own_j0_83_0 i1 i2 i3 wr29)), (.int (nar .boolean (own_j1_3_0 (own_j0_83_0 i1 i2 i3 wr29))))])) _
    refine st42 _ ?_
    show Steps p.tables e below (T42.setTop (mkF m 148 #[.val (.int i1), .val (.int i2), .val (.int i3), .val (.ref b1), .val (.int (i2 &&& (3 : Int32))), .val (.int (own_j0_83_0 i1 i2 i3 wr29))] [(.int (own_r2 (own_j0_83_0 i1 i2 i3 wr29))), (.int (nar .boolean (own_j1_3_0 (own_j0_83_0 i1 i2 i3 wr29))))])) _
    refine XS.icmpNo X42.here hx rfl (hb hby at_148) rfl (teq hr43).2 ?_
    show Steps p.tables e below (T42.setTop (mkF m 151 #[.val (.int i1), .val (.int i2), .val (.int i3), .val (.ref b1), .val (.int (i2 &&& (3 : Int32))), .val (.int (own_j0_83_0 i1 i2 i3 wr29))] [])) _
    refine XS.iconst X42.here hx rfl (hb hby at_151) ?_
    show Steps p.tables e below (T42.setTop (mkF m 152 #[.val (.int i1), .val (.int i2), .val (.int i3), .val (.ref b1), .val (.int (i2 &&& (3 : Int32))), .val (.int (own_j0_83_0 i1 i2 i3 wr29))] [(.int (1 : Int32))])) _
    refine XS.goto X42.here hx rfl (pc0 := 152) (pc' := 156) rfl (hb hby at_152) (by decide) (by decide) ?_
    exact k
  obtain ⟨fs, hr, hrun, hended, hW, hsame⟩ := X42.leave (v := some (.int (1 : Int32))) (fun h => by rw [Bd.returns] at h; cases h)
  refine ⟨_, _, pre44 _ ?_, hrun, hended, _, _, rfl, ?_, ⟨_, rfl⟩, hW, hsame.mono (by decide) (by decide)⟩
  · show Steps p.tables e below (T42.setTop (mkF m 156 #[.val (.int i1), .val (.int i2), .val (.int i3), .val (.ref b1), .val (.int (i2 &&& (3 : Int32))), .val (.int (own_j0_83_0 i1 i2 i3 wr29))] [(.int (1 : Int32))])) _
    exact retN X42 hx (t := .boolean) Bd.returns (by simp) (hb hby at_156) hr
  · show Q0 Z i1 i2 i3 h0 n0 _ T42.heap _
    rw [e42]
    exact ⟨rfl, N42⟩
theorem own_law (i1 : Int32) (i2 : Int32) (i3 : Int32) : (1 : Int32) = 1 := rfl
set_option maxRecDepth 65536 in
set_option maxHeartbeats 40000000 in
theorem comes_1 {Post : Tables → Env → Array Value → State → Outcome → State → Prop} (hpost : ∀ tb e args s v u, (limb_1_1.after args s (.returned v) u = true ∧ limb_1_2.after args s (.returned v) u = true ∧ True) → FrameEnd s (.returned v) u (Jvm.fieldLocs frame_1_writes args s ++ Jvm.arrayLocs frame_1_arrays args s ++ Jvm.staticLocs frame_1_statics s) 16 128 → Post tb e args s (.returned v) u) :
    ArmFor flags0 classFile x code maxLocals ret World_1 tables_1 room_1 Calls_1 rest_1 Pre_1 Post := by
  intro l hfl _ _ p e ha hc hk s m args below hf hA hF happ hP
  obtain ⟨hcalls, hrest, hpre⟩ := hP
  obtain ⟨-, -, -, hnamed, -, -, -, hat⟩ := (Spec.applies_iff hf).mp happ
  obtain ⟨hg, hn⟩ := and_e (Cond.before_iff.mp (show (Jvm.Cond.and given_1 narrow_1).before args s = true from hpre))
  obtain ⟨g1, g2⟩ := and_e hg
  obtain ⟨g3, g4⟩ := and_e g2
  obtain ⟨g5, g6⟩ := and_e g4
  obtain ⟨w0, w1, w2, rfl⟩ : ∃ w0 w1 w2 : Value, args = #[w0, w1, w2] := by
    have hs : args.size = 3 := by simpa [Cond.value, given_1] using g1
    obtain ⟨L⟩ := args
    match L, hs with
    | [w0, w1, w2], _ => exact ⟨w0, w1, w2, rfl⟩
  have hw := fun d (hd : d ∈ tables_1) => atoms_spec (ws := Jvm.Cond.code x code maxLocals ret :: tables_1) hat d (List.mem_cons_of_mem _ hd)
  have hfit : Fit s := fun {y c} hc i hi => by
    obtain ⟨ha, rfl⟩ := Array.getElem?_eq_some_iff.mp hc
    have q := List.all_eq_true.mp ((Array.all_eq_true_iff_forall_mem.mp hF) _ (Array.getElem_mem ha)) i (List.mem_range.mpr hi)
    simpa [Array.getElem?_eq_getElem hi] using q
  obtain ⟨i0, ei0⟩ := is_v g3
  obtain rfl : w0 = (.int i0) := Option.some.inj ei0
  obtain ⟨i1, ei1⟩ := is_v g5
  obtain rfl : w1 = (.int i1) := Option.some.inj ei1
  obtain ⟨i2, ei2⟩ := is_v g6
  obtain rfl : w2 = (.int i2) := Option.some.inj ei2
  obtain ⟨n, o, h1, h2, h3, _, L, rfl, ⟨hv, N⟩, hq⟩ := rm0 l s _ hw tables_1 i0 i1 i2 s.heap s.heap.size (Nat.le_refl _)  p e ha hc hk s m _ below hf ((Spec.applies_iff_loose hf).mp happ).1 ⟨rfl, State.Warmed39.refl s, rfl⟩ trivial
  subst hv
  refine ⟨n, _, h1, h2, h3, hpost _ _ _ _ _ _ ⟨Cond.after_iff.mpr rfl, Cond.after_iff.mpr (eq_i res_at (Term.int_eval (1)) rfl), trivial⟩ ⟨hq.1, hq.2.1, (hq.2.2.sift fun y hy => Or.inr (N y hy)).mono (by decide) (by decide)⟩⟩
theorem main_1_1 : Claimed_1_1 := comes_1 fun _ _ _ _ _ _ h hF => ⟨h.1, hF⟩
theorem main_1_2 : Claimed_1_2 := comes_1 fun _ _ _ _ _ _ h hF => ⟨h.2.1, hF⟩
end Jvm.Pilot.@@N@@
namespace Jvm.Pilot.@@N@@
open Jvm Jvm.ClassFile Sem Op Lib Jvm.Free Jvm.Stand Jvm.Pilot.@@N@@.Jvm.D
/-! MADE BY PROGRAM (witnessworld.py) out of the Statement's table words and the real class files: 9 classes; the members and pool entries that the words name. The judged class is class 1, her method 2. -/
namespace start1
open Jvm.ClassFile
def u (s : String) : CpInfo := .utf8 (stringToUtf16 s)
/-- a pool by its gaps: so many unusable entries, then the entry; so many at the end -/
def gap : Nat → List CpInfo → List CpInfo
  | 0, r => r
  | n + 1, r => .unusable :: gap n r
def poolList (es : List (Nat × CpInfo)) (last : Nat) : List CpInfo := es.foldr (fun e r => gap e.1 (e.2 :: r)) (gap last [])
def pool (es : List (Nat × CpInfo)) (last : Nat) : Array CpInfo := ⟨poolList es last⟩
def fileOf (pool : Array CpInfo) (this : Nat) (attrs : Array Attribute := #[]) (ms : Array MethodInfo := #[]) (fl : Nat := 33) (sup : Nat := 0) (ifs : Array Nat := #[]) (fds : Array FieldInfo := #[]) : ClassFile where
  minorVersion := 0
  majorVersion := 65
  constantPool := pool
  accessFlags := fl
  thisClass := this
  superClass := sup
  interfaces := ifs
  fields := fds
  methods := ms
  attributes := attrs
def plain (name : String) (sup : Option ClassId) : Class where
  name := name
  kind := .ordinary
  loader := none
  accessFlags := 33
  super := sup
  interfaces := #[]
  cf := none
  fields := #[]
  methods := #[]
  instanceTypes := #[]
  staticTypes := #[]
  resolved := #[]
  callSites := []
  init := .initialized
  statics := none
  mirror := none

def pool0 : Array CpInfo := pool [(5, u "<init>"), (0, u "()V"), (1, .class_ 10), (1, u "java/lang/Object")] 113

def k0m0 : Method := { name := "<init>", desc := "()V", sig := { parameters := [], returnType := none }, accessFlags := 1, code := none }
/-- java/lang/Object -/
def k0 : Class := { plain "java/lang/Object" none with
  accessFlags := 33
  interfaces := #[]
  cf := some (fileOf pool0 8 #[] #[{ accessFlags := 1, nameIndex := 5, descriptorIndex := 6, attributes := #[] }] 33 0 #[] #[])
  fields := #[]
  methods := #[k0m0]
  instanceTypes := #[]
  staticTypes := #[]
  resolved := Array.replicate 124 none
  statics := none }

def pool1 : Array CpInfo := pool [(2, .class_ 4), (1, u "java/lang/Object"), (0, u "<init>"), (0, u "()V"), (0, .integer 1114111), (0, .integer 55296), (0, .integer 57343), (0, .integer 65534), (0, .integer 65535), (0, .integer 57344), (0, .integer 65536), (0, .integer 1114112), (0, .integer 2147483647), (0, .integer 2097151), (0, .methodref 18 19), (0, .class_ 20), (0, .nameAndType 21 22), (0, u "com/example/baum/baum/xml/XmlChars"), (0, u "isChar"), (0, u "(I)Z"), (0, .methodref 24 25), (0, .class_ 26), (0, .nameAndType 27 22), (0, u "com/example/baum/baum/xml/XmlCharsIsCharPinLaw"), (0, u "expected"), (3, u "law"), (0, u "(III)Z")] 4

def k1m0 : Method := { name := "<init>", desc := "()V", sig := { parameters := [], returnType := none }, accessFlags := 2, code := none }
def k1c1 : Code := { maxStack := 2, maxLocals := 1, code := method_2_code, exceptionTable := #[], attributes := #[] }
def k1m1 : Method := { name := "expected", desc := "(I)Z", sig := { parameters := [.int], returnType := some .boolean }, accessFlags := 10, code := some k1c1 }
def k1c2 : Code := { maxStack := 4, maxLocals := 6, code := code, exceptionTable := #[], attributes := #[] }
def k1m2 : Method := { name := "law", desc := "(III)Z", sig := { parameters := [.int, .int, .int], returnType := some .boolean }, accessFlags := 9, code := some k1c2 }
/-- com/example/baum/baum/xml/XmlCharsIsCharPinLaw -/
def k1 : Class := { plain "com/example/baum/baum/xml/XmlCharsIsCharPinLaw" (some 0) with
  accessFlags := 49
  interfaces := #[]
  cf := some (fileOf pool1 24 #[] #[{ accessFlags := 2, nameIndex := 5, descriptorIndex := 6, attributes := #[] }, { accessFlags := 10, nameIndex := 27, descriptorIndex := 22, attributes := #[] }, { accessFlags := 9, nameIndex := 31, descriptorIndex := 32, attributes := #[] }] 49 2 #[] #[])
  fields := #[]
  methods := #[k1m0, k1m1, k1m2]
  instanceTypes := #[]
  staticTypes := #[]
  resolved := Array.replicate 37 none
  statics := none }

def pool2 : Array CpInfo := pool [(2, .class_ 4), (1, u "java/lang/Object"), (0, u "<init>"), (0, u "()V"), (0, .integer 55295), (0, .integer 57344), (0, .integer 65533), (0, .integer 65536), (0, .integer 1114111), (25, .class_ 39), (1, u "com/example/baum/baum/xml/XmlChars"), (1, u "(I)Z"), (28, u "isChar")] 9

def k2m0 : Method := { name := "<init>", desc := "()V", sig := { parameters := [], returnType := none }, accessFlags := 2, code := none }
def k2c1 : Code := { maxStack := 2, maxLocals := 1, code := prog_232_method_2_code, exceptionTable := #[], attributes := #[] }
def k2m1 : Method := { name := "isChar", desc := "(I)Z", sig := { parameters := [.int], returnType := some .boolean }, accessFlags := 9, code := some k2c1 }
/-- com/example/baum/baum/xml/XmlChars -/
def k2 : Class := { plain "com/example/baum/baum/xml/XmlChars" (some 0) with
  accessFlags := 33
  interfaces := #[]
  cf := some (fileOf pool2 37 #[] #[{ accessFlags := 2, nameIndex := 5, descriptorIndex := 6, attributes := #[] }, { accessFlags := 9, nameIndex := 70, descriptorIndex := 41, attributes := #[] }] 33 2 #[] #[])
  fields := #[]
  methods := #[k2m0, k2m1]
  instanceTypes := #[]
  staticTypes := #[]
  resolved := Array.replicate 80 none
  statics := none }

def pool3 : Array CpInfo := pool [(1, u "java/lang/Cloneable"), (0, .class_ 1), (0, u "java/lang/Object"), (0, .class_ 3)] 3

/-- java/lang/Cloneable -/
def k3 : Class := { plain "java/lang/Cloneable" (some 0) with
  accessFlags := 1537
  interfaces := #[]
  cf := some (fileOf pool3 2 #[] #[] 1537 4 #[] #[])
  fields := #[]
  methods := #[]
  instanceTypes := #[]
  staticTypes := #[]
  resolved := Array.replicate 8 none
  statics := none }

def pool4 : Array CpInfo := pool [(1, u "java/io/Serializable"), (0, .class_ 1), (0, u "java/lang/Object"), (0, .class_ 3)] 3

/-- java/io/Serializable -/
def k4 : Class := { plain "java/io/Serializable" (some 0) with
  accessFlags := 1537
  interfaces := #[]
  cf := some (fileOf pool4 2 #[] #[] 1537 4 #[] #[])
  fields := #[]
  methods := #[]
  instanceTypes := #[]
  staticTypes := #[]
  resolved := Array.replicate 8 none
  statics := none }

/-- the primitive byte -/
def k5 : Class := { plain "byte" none with kind := .primitive 'B', accessFlags := 0x411 }
/-- [B -/
def k6 : Class := { plain "[B" (some 0) with kind := .array 5 .byte, interfaces := #[3, 4], accessFlags := 1041 }

/-- the primitive int -/
def k7 : Class := { plain "int" none with kind := .primitive 'I', accessFlags := 0x411 }
/-- [I -/
def k8 : Class := { plain "[I" (some 0) with kind := .array 7 .int, interfaces := #[3, 4], accessFlags := 1041 }

def heap : Heap := #[]
def classes : Array Class := #[k0, k1, k2, k3, k4, k5, k6, k7, k8]
def interned : List (Array UInt16 × Addr) := []
def slotsUsed : Nat := 0
def theMethod : MethodId := ⟨1, 2⟩
def args0 : Array Value := #[.int 5, .int 6, .int 7]
def aboutOver (below : List Frame) : State where
  vm := { classes := classes, interned := interned.toArray }
  heap := heap
  slotsUsed := slotsUsed
  threads := #[{ frames := .invoking theMethod args0 :: below }]
def below0 : List Frame := [.native { method := ⟨0, 0⟩, args := #[] }]
def about1 : State := aboutOver below0
def p0 : Program := .bare "" "" ""
def e0 : Env := launch0.env 0 0 0
theorem w_frames : about1.frames = Frame.invoking theMethod args0 :: below0 := rfl
set_option maxRecDepth 65536 in
theorem w_args : argsFit about1.vm theMethod args0 = true := by decide +kernel
set_option maxRecDepth 65536 in
theorem w_heap : heapFits about1 = true := by decide +kernel
set_option maxRecDepth 65536 in
theorem w_runnable : about1.curStatus? = some .runnable := by decide +kernel
set_option maxRecDepth 65536 in
theorem w_alone : about1.alone = true := by decide +kernel
set_option maxRecDepth 65536 in
theorem w_named : about1.methodNamed? x = some theMethod := by decide +kernel
set_option maxRecDepth 65536 in
theorem w_hears : about1.hears theMethod below0 = true := by decide +kernel
set_option maxRecDepth 65536 in
theorem w_ripe : about1.ripe theMethod args0 below0 = true := by decide +kernel
theorem w_running : about1.status = .running := rfl
set_option maxRecDepth 65536 in
theorem w_room : about1.hasRoom e0.platform room_1 = true :=
  launch0.hasRoom_least _ room_1 (by decide +kernel) (by decide +kernel) (by decide +kernel) (by decide +kernel) (by decide +kernel) (by decide +kernel)
theorem allAtoms_all (ts : List Jvm.Cond) (a : Array Jvm.Value) (st : Jvm.State) : (allAtoms ts).before a st = ts.all (fun c => c.before a st) := by
  induction ts with
  | nil => rfl
  | cons c t ih =>
    show (Jvm.Cond.and c (allAtoms t)).before a st = _
    rw [Jvm.Cond.before_and, ih, List.all_cons]
def words1 : List Jvm.Cond := Jvm.Cond.code x code maxLocals ret :: tables_1
/-- a 'code' word, met by the world's own term for the bytes: nothing is compared byte by byte -/
theorem code_word {y : MethodName} {bytes : ByteArray} {mx : Nat} {rt : Option FieldType} {a : Array Value} {s : State} {m : MethodId} {meth : Method} {c : Code} (h1 : s.methodNamed? y = some m) (h2 : s.vm.method? m = some meth) (h3 : meth.code = some c) (h4 : c.code = bytes)
    (h5 : (c.maxLocals == mx && c.exceptionTable.isEmpty && decide (c.maxStack ≤ mostOperands) && decide (meth.sig.returnType = rt) && !meth.locks && decide (parseMethodDescriptor y.desc = some meth.sig)) = true) : (Jvm.Cond.code y bytes mx rt).before a s = true := by
  simp only [Bool.and_eq_true, beq_iff_eq, Bool.not_eq_true', decide_eq_true_eq] at h5
  obtain ⟨⟨⟨⟨⟨g1, g2⟩, g3⟩, g4⟩, g5⟩, g6⟩ := h5
  simp [Cond.before, Cond.holds, Cond.value, h1, h2, h3, h4, g1, g2, g3, g4, g5, g6]
def isCode : Jvm.Cond → Bool
  | .code _ _ _ _ => true
  | _ => false
theorem all_split {L : List Jvm.Cond} {P : Jvm.Cond → Bool} (h1 : L.all (fun c => isCode c || P c) = true) (h2 : ∀ c ∈ L.filter isCode, P c = true) : L.all P = true := by
  refine List.all_eq_true.mpr fun c hc => ?_
  have h := List.all_eq_true.mp h1 c hc
  rcases Bool.eq_false_or_eq_true (isCode c) with hi | hi
  · exact h2 c (List.mem_filter.mpr ⟨hc, hi⟩)
  · simpa [hi] using h
set_option maxRecDepth 65536 in
theorem w_c0 : (Jvm.Cond.code x code maxLocals ret).before args0 about1 = true := code_word (m := ⟨1, 2⟩) (meth := k1m2) (c := k1c2) (by decide +kernel) rfl rfl rfl (by decide +kernel)
set_option maxRecDepth 65536 in
theorem w_c1 : (Jvm.Cond.code ({ cls := "com/example/baum/baum/xml/XmlChars", name := "isChar", desc := "(I)Z" } : Jvm.MethodName) prog_232_method_2_code (1 : Nat) (Option.some Jvm.ClassFile.FieldType.boolean)).before args0 about1 = true := code_word (m := ⟨2, 1⟩) (meth := k2m1) (c := k2c1) (by decide +kernel) rfl rfl rfl (by decide +kernel)
set_option maxRecDepth 65536 in
theorem w_c2 : (Jvm.Cond.code ({ cls := "com/example/baum/baum/xml/XmlCharsIsCharPinLaw", name := "expected", desc := "(I)Z" } : Jvm.MethodName) method_2_code (1 : Nat) (Option.some Jvm.ClassFile.FieldType.boolean)).before args0 about1 = true := code_word (m := ⟨1, 1⟩) (meth := k1m1) (c := k1c1) (by decide +kernel) rfl rfl rfl (by decide +kernel)
def codes1 : List Jvm.Cond := [Jvm.Cond.code x code maxLocals ret, Jvm.Cond.code ({ cls := "com/example/baum/baum/xml/XmlChars", name := "isChar", desc := "(I)Z" } : Jvm.MethodName) prog_232_method_2_code (1 : Nat) (Option.some Jvm.ClassFile.FieldType.boolean), Jvm.Cond.code ({ cls := "com/example/baum/baum/xml/XmlCharsIsCharPinLaw", name := "expected", desc := "(I)Z" } : Jvm.MethodName) method_2_code (1 : Nat) (Option.some Jvm.ClassFile.FieldType.boolean)]
set_option maxRecDepth 65536 in
theorem codes_eq : words1.filter isCode = codes1 := rfl
theorem w_codes : ∀ c ∈ words1.filter isCode, c.before args0 about1 = true := by
  rw [codes_eq]
  intro c hc
  simp only [codes1, List.mem_cons, List.not_mem_nil, or_false] at hc
  rcases hc with rfl | rfl | rfl
  · exact w_c0
  · exact w_c1
  · exact w_c2
set_option maxRecDepth 65536 in
theorem w_t1 : (words1.take 24).all (fun c => isCode c || c.before args0 about1) = true := by decide +kernel
set_option maxRecDepth 65536 in
theorem w_t2 : (words1.drop 24).all (fun c => isCode c || c.before args0 about1) = true := by decide +kernel
theorem w_tables : (allAtoms (Jvm.Cond.code x code maxLocals ret :: tables_1)).before args0 about1 = true := by
  rw [allAtoms_all]
  show words1.all (fun c => c.before args0 about1) = true
  refine all_split ?_ w_codes
  rw [← List.take_append_drop 24 words1, List.all_append, w_t1, w_t2]
  rfl
set_option maxRecDepth 65536 in
theorem w_case : (Jvm.Cond.and given_1 narrow_1).before args0 about1 = true := by decide +kernel
theorem w_applies : (headSpec (Jvm.Cond.code x code maxLocals ret :: tables_1) room_1).applies x e0.platform about1 = true :=
  (Spec.applies_iff w_frames).mpr ⟨w_running, w_runnable, w_alone, w_named, w_hears, w_ripe, w_room, w_tables⟩
theorem atStart : AtStart classFile x code maxLocals ret World_1 tables_1 room_1 Calls_1 rest_1 Pre_1 launch0 p0 e0 about1 theMethod args0 below0 :=
  ⟨lists_1, trivial, launch0.admits_env _ _ _, launch0.least_env, fairChoices_fair.cas, fairChoices_fair.clock, w_frames, w_args, w_heap, w_applies, trivial, trivial, w_case⟩
end start1
theorem witness_1 : WitnessClaimed_1 := ⟨start1.p0, start1.e0, start1.about1, start1.theMethod, start1.args0, start1.below0, start1.atStart⟩
end Jvm.Pilot.@@N@@
