import JvmDerived
import JvmDerived.Pilot.@@N@@Statement
import JvmDerived.Pilot.@@N@@Code
set_option linter.unusedVariables false
set_option linter.unusedSimpArgs false
namespace Jvm.RoadKit
open Sem ClassFile Op Lib Jvm.Stand Jvm.Free Jvm.LawKit
section New
variable {p : Program} {l : Launch} {e : Env} {R : Room} {s : State} {m : MethodId} {args : Array Value} {below : List Frame} {meth : Method} {c : Code} {T : State} {locs : List Loc} {cells slots : Nat}
theorem retI (X : Stand p l e R s m args below meth c T locs cells slots) (hx : p.tables.exec = Jvm.exec) {pc : Nat} {Ls : Array Slot} {z : Int32} {rest : List Value} (hret : meth.sig.returnType = some .int) (hd : decode c.code pc = .ok (.ireturn, 1)) {fs : List Frame}
    (hl : ∀ (f : JFrame) (acts : List Action), f.method = m → f.locked = none → f.entered = [] → (doReturn e (T.setTop f) acts (some (.int z))).1 = T.setFrames fs) : Steps p.tables e below (T.setTop (mkF m pc Ls (.int z :: rest))) (T.setFrames fs) := by
  have hm' : T.vm.method? m = some meth := X.method'
  have hn : narrow .int (.int z) = .int z := rfl
  show Steps p.tables e below (T.setTop { method := m, pc := pc, locals := Ls, stack := _ :: rest, locked := none }) _
  jvm_step X.here [X.here.top, hx, hd, hm', hret, hn]
  first | (intro acts; rw [hl _ acts rfl rfl rfl]) | rw [hl _ _ rfl rfl rfl]
  exact Steps.refl _
end New
end Jvm.RoadKit
namespace Jvm.Pilot.@@N@@
open Jvm Jvm.ClassFile Sem Op Lib Jvm.Free Jvm.Stand Jvm.LawKit Jvm.RoadKit Bundle Jvm.Pilot.@@N@@.Jvm.D
theorem d1_0 : decode prog_41_method_2_code 0 = .ok (.lload_n 0, 1) := by decide +kernel
theorem d1_1 : decode prog_41_method_2_code 1 = .ok (.ldc2_w 3, 3) := by decide +kernel
theorem d1_4 : decode prog_41_method_2_code 4 = .ok (.lrem, 1) := by decide +kernel
theorem d1_5 : decode prog_41_method_2_code 5 = .ok (.lconst 0, 1) := by decide +kernel
theorem d1_6 : decode prog_41_method_2_code 6 = .ok (.lcmp, 1) := by decide +kernel
theorem d1_7 : decode prog_41_method_2_code 7 = .ok (.ifCond .ne 18, 3) := by decide +kernel
theorem d1_10 : decode prog_41_method_2_code 10 = .ok (.iload_n 2, 1) := by decide +kernel
theorem d1_11 : decode prog_41_method_2_code 11 = .ok (.iconst 1, 1) := by decide +kernel
theorem d1_12 : decode prog_41_method_2_code 12 = .ok (.if_icmp .lt 13, 3) := by decide +kernel
theorem d1_15 : decode prog_41_method_2_code 15 = .ok (.iload_n 2, 1) := by decide +kernel
theorem d1_16 : decode prog_41_method_2_code 16 = .ok (.bipush 32, 2) := by decide +kernel
theorem d1_18 : decode prog_41_method_2_code 18 = .ok (.if_icmp .gt 7, 3) := by decide +kernel
theorem d1_21 : decode prog_41_method_2_code 21 = .ok (.iconst 1, 1) := by decide +kernel
theorem d1_22 : decode prog_41_method_2_code 22 = .ok (.goto 4, 3) := by decide +kernel
theorem d1_25 : decode prog_41_method_2_code 25 = .ok (.iconst 0, 1) := by decide +kernel
theorem d1_26 : decode prog_41_method_2_code 26 = .ok (.ireturn, 1) := by decide +kernel
theorem pn_0 : plainName "com/example/fairmesh/fairmesh/node/Message$Digests" = true := by first | (simp [plainName, overriddenIn]; done) | decide +kernel
theorem pn_1 : plainName "com/example/fairmesh/fairmesh/node/DigestsIsBatchPinLaw" = true := by first | (simp [plainName, overriddenIn]; done) | decide +kernel
theorem pd_0 : parseMethodDescriptor "(JI)Z" = some ⟨[.long, .int], some .boolean⟩ := by decide +kernel
theorem own_fin {c : Int32} {n : Nat} (h0 : 0 ≤ c.toInt) (h1 : c.toInt < n) : ∃ k, k < n ∧ c = k.toInt32 := by
  have hn : ¬ c < 0 := by
    rw [Int32.lt_iff_toInt_lt]
    show ¬ c.toInt < 0
    omega
  exact ⟨c.toNatClampNeg, by have := nat_of hn; omega, (back32 hn).1.symm⟩
theorem own_nar1 {x : Int32} (h : x = 1) : nar .boolean x = 1 := by subst h; rfl
theorem own_n0 : nar .boolean (0 : Int32) = 0 := rfl
theorem own_n1 : nar .boolean (1 : Int32) = 1 := rfl
theorem own_split (x : Int32) : (x &&& 31) ||| (x &&& (-32)) = x := Int32.toBitVec_inj.1 (by
  show (x.toBitVec &&& (31 : Int32).toBitVec) ||| (x.toBitVec &&& (-32 : Int32).toBitVec) = x.toBitVec
  rw [← BitVec.and_or_distrib_left]
  exact BitVec.and_allOnes)
theorem own_hi (x : Int32) : x &&& (-32) = 0 ↔ 0 ≤ x.toInt ∧ x.toInt < 32 := by
  constructor
  · intro h
    have h1 := own_split x
    rw [h, Int32.or_zero] at h1
    have h2 := c_mask x 31 5 (by decide) (by decide)
    rw [h1] at h2
    have h3 : ((2 ^ 5 : Nat) : Int) = 32 := by decide
    rw [h3] at h2
    omega
  · rintro ⟨h1, h2⟩
    obtain ⟨k, hk, rfl⟩ := own_fin (n := 32) h1 (by omega)
    have all : ∀ k, k < 32 → k.toInt32 &&& (-32 : Int32) = 0 := by decide +kernel
    exact all k hk
theorem own_lo (f : Int64) : f - (f / 32) * 32 = 0 ↔ f &&& 31 = 0 := by
  have h1 := c_lrem f 32 32 (by decide)
  have h2 := c_maskL f 31 5 (by decide) (by decide)
  have h3 : ((2 ^ 5 : Nat) : Int) = 32 := by decide
  rw [h3] at h2
  rw [← Int64.toInt_inj, ← Int64.toInt_inj, h2, show (0 : Int64).toInt = 0 from rfl]
  have h4 := h1.1
  have h5 := h1.2
  by_cases q : 0 ≤ f.toInt
  · rw [h4 q]
  · rw [h5 (by omega)]; omega
def own_j1_7_0 (j1 : Int64) (i2 : Int32) : Int32 := (if (j1 - (j1 / (32 : Int64)) * (32 : Int64)) = (0 : Int64) then (if i2 < (1 : Int32) then (0 : Int32) else (if (32 : Int32) < i2 then (0 : Int32) else (1 : Int32))) else (0 : Int32))
def Q1 (Z : State) (j1 : Int64) (i2 : Int32) (h0 : Heap) (n0 : Nat) (v : Option Value) (h : Heap) (L : List Loc) : Prop := v = some (.int (nar .boolean (own_j1_7_0 j1 i2))) ∧ Fr n0 L ∧ h = h0
theorem ef_1 (m : MethodId) (x0 : Int64) (x1 : Int32) : entryFrame m #[(.long x0), (.int x1)] 3 = mkF m 0 #[.val (.long x0), .second, .val (.int x1)] [] := by first | (simp [entryFrame, mkF, argsToLocals, Value.category]; done) | rfl
set_option maxRecDepth 65536 in
set_option maxHeartbeats 40000000 in
theorem rm1 (l : Launch) (Z : State) (a0 : Array Value) (hw : ∀ d ∈ tables_1, d.before a0 Z = true) (ws : List Jvm.Cond) (j1 : Int64) (i2 : Int32) (h0 : Heap) (n0 : Nat) (Z0 : n0 ≤ h0.size) :
    MetFree l (⟨"com/example/fairmesh/fairmesh/node/Message$Digests", "isBatch", "(JI)Z"⟩ : MethodName) (head1 (Jvm.Cond.code (⟨"com/example/fairmesh/fairmesh/node/Message$Digests", "isBatch", "(JI)Z"⟩ : MethodName) prog_41_method_2_code 3 (some .boolean) :: ws) ({ frames := 0, cells := 0, slots := 0, locals := 0 } : Room)) (fun a U => a = #[(.long j1), (.int i2)] ∧ Z.Warmed39 U.vm ∧ U.heap = h0) (fun _ _ _ _ _ => True) (fun _ U o U' => ∃ v L, o = .returned v ∧ Q1 Z j1 i2 h0 n0 v U'.heap L ∧ FrameEnd U o U' L ({ frames := 0, cells := 0, slots := 0, locals := 0 } : Room).cells ({ frames := 0, cells := 0, slots := 0, locals := 0 } : Room).slots) := by
  refine MetFree.of_bodySF (plainFor_of_name pn_0) hisR ?_
  intro p e s m args below meth c s₁ Bd hml0 hP hK
  obtain ⟨rfl, hZ, hh⟩ := hP
  have hx := Bd.exec
  have hby := Bd.bytes
  have hml : c.maxLocals = 3 := hml0
  have hown : s.vm.findClass "com/example/fairmesh/fairmesh/node/Message$Digests" = some m.cls := findClass_of_methodNamed Bd.named
  have hnm := (name_of_methodNamed Bd.named Bd.method).1
  have X0 : Stand p l e ({ frames := 0, cells := 0, slots := 0, locals := 0 } : Room) s m #[(.long j1), (.int i2)] below meth c s₁ [] 0 0 := Stand.of_body Bd
  have e0 : s₁.heap = h0 := by rw [← hh, Bd.state]; rfl
  have N0 := Fr.nil n0
  have pre0 : ∀ t, Steps p.tables e below (s₁.setTop (mkF m 0 #[.val (.long j1), .second, .val (.int i2)] [])) t → Steps p.tables e below (s₁.setTop (entryFrame m #[(.long j1), (.int i2)] 3)) t := fun t k => castTop (ef_1 m j1 i2) k
  have pre1 : ∀ t, Steps p.tables e below (s₁.setTop (mkF m 7 #[.val (.long j1), .second, .val (.int i2)] [(.int (lcmpW (j1 - (j1 / (32 : Int64)) * (32 : Int64)) (0 : Int64)))])) t → Steps p.tables e below (s₁.setTop (entryFrame m #[(.long j1), (.int i2)] 3)) t := by
    intro t k
    refine pre0 _ ?_
    show Steps p.tables e below (s₁.setTop (mkF m 0 #[.val (.long j1), .second, .val (.int i2)] [])) _
    refine XS.lloadN X0.here hx rfl (hb hby d1_0) rfl ?_
    show Steps p.tables e below (s₁.setTop (mkF m 1 #[.val (.long j1), .second, .val (.int i2)] [(.long j1)])) _
    refine X0.ldc2Long hx hown (mvT hZ (hw _ (List.mem_of_getElem? (i := 6) rfl))) (g := (mkF m 1 #[.val (.long j1), .second, .val (.int i2)] [(.long j1)])) rfl (hb hby d1_1) _ ?_
    show Steps p.tables e below (s₁.setTop (mkF m 4 #[.val (.long j1), .second, .val (.int i2)] [(.long (32 : Int64)), (.long j1)])) _
    refine XS.lrem X0.here hx rfl (hb hby d1_4) rfl (by decide) ?_
    show Steps p.tables e below (s₁.setTop (mkF m 5 #[.val (.long j1), .second, .val (.int i2)] [(.long (j1 - (j1 / (32 : Int64)) * (32 : Int64)))])) _
    refine XS.lconst X0.here hx rfl (hb hby d1_5) ?_
    show Steps p.tables e below (s₁.setTop (mkF m 6 #[.val (.long j1), .second, .val (.int i2)] [(.long (0 : Int64)), (.long (j1 - (j1 / (32 : Int64)) * (32 : Int64)))])) _
    refine XS.lcmp X0.here hx rfl (hb hby d1_6) rfl ?_
    exact k
  have pre11 : ∀ t, Steps p.tables e below (s₁.setTop (mkF m 26 #[.val (.long j1), .second, .val (.int i2)] [(.int (own_j1_7_0 j1 i2))])) t → Steps p.tables e below (s₁.setTop (entryFrame m #[(.long j1), (.int i2)] 3)) t := by
    by_cases hc7_2 : (j1 - (j1 / (32 : Int64)) * (32 : Int64)) = (0 : Int64)
    · have pre3 : ∀ t, Steps p.tables e below (s₁.setTop (mkF m 12 #[.val (.long j1), .second, .val (.int i2)] [(.int (1 : Int32)), (.int i2)])) t → Steps p.tables e below (s₁.setTop (entryFrame m #[(.long j1), (.int i2)] 3)) t := by
        intro t k
        refine pre1 _ ?_
        show Steps p.tables e below (s₁.setTop (mkF m 7 #[.val (.long j1), .second, .val (.int i2)] [(.int (lcmpW (j1 - (j1 / (32 : Int64)) * (32 : Int64)) (0 : Int64)))])) _
        refine XS.ifNo X0.here hx rfl (hb hby d1_7) rfl ((if0 _ _).trans (teq ((lw_eq (j1 - (j1 / (32 : Int64)) * (32 : Int64)) (0 : Int64)).mpr hc7_2)).2) ?_
        show Steps p.tables e below (s₁.setTop (mkF m 10 #[.val (.long j1), .second, .val (.int i2)] [])) _
        refine XS.iloadN X0.here hx rfl (hb hby d1_10) rfl ?_
        show Steps p.tables e below (s₁.setTop (mkF m 11 #[.val (.long j1), .second, .val (.int i2)] [(.int i2)])) _
        refine XS.iconst X0.here hx rfl (hb hby d1_11) ?_
        exact k
      by_cases hc12_4 : i2 < (1 : Int32)
      · have pre5 : ∀ t, Steps p.tables e below (s₁.setTop (mkF m 26 #[.val (.long j1), .second, .val (.int i2)] [(.int (0 : Int32))])) t → Steps p.tables e below (s₁.setTop (entryFrame m #[(.long j1), (.int i2)] 3)) t := by
          intro t k
          refine pre3 _ ?_
          show Steps p.tables e below (s₁.setTop (mkF m 12 #[.val (.long j1), .second, .val (.int i2)] [(.int (1 : Int32)), (.int i2)])) _
          refine XS.icmpYes X0.here hx rfl (pc0 := 12) (pc' := 25) rfl (hb hby d1_12) rfl (tlt hc12_4).1 (by decide) (by decide) ?_
          show Steps p.tables e below (s₁.setTop (mkF m 25 #[.val (.long j1), .second, .val (.int i2)] [])) _
          refine XS.iconst X0.here hx rfl (hb hby d1_25) ?_
          exact k
        exact fun t k => pre5 t (by rw [show (own_j1_7_0 j1 i2) = (0 : Int32) from ((if_pos hc7_2).trans (if_pos hc12_4))] at k; exact k)
      · have pre6 : ∀ t, Steps p.tables e below (s₁.setTop (mkF m 18 #[.val (.long j1), .second, .val (.int i2)] [(.int (32 : Int32)), (.int i2)])) t → Steps p.tables e below (s₁.setTop (entryFrame m #[(.long j1), (.int i2)] 3)) t := by
          intro t k
          refine pre3 _ ?_
          show Steps p.tables e below (s₁.setTop (mkF m 12 #[.val (.long j1), .second, .val (.int i2)] [(.int (1 : Int32)), (.int i2)])) _
          refine XS.icmpNo X0.here hx rfl (hb hby d1_12) rfl (flt hc12_4).1 ?_
          show Steps p.tables e below (s₁.setTop (mkF m 15 #[.val (.long j1), .second, .val (.int i2)] [])) _
          refine XS.iloadN X0.here hx rfl (hb hby d1_15) rfl ?_
          show Steps p.tables e below (s₁.setTop (mkF m 16 #[.val (.long j1), .second, .val (.int i2)] [(.int i2)])) _
          refine XS.bipush X0.here hx rfl (hb hby d1_16) ?_
          exact k
        by_cases hc18_7 : (32 : Int32) < i2
        · have pre8 : ∀ t, Steps p.tables e below (s₁.setTop (mkF m 26 #[.val (.long j1), .second, .val (.int i2)] [(.int (0 : Int32))])) t → Steps p.tables e below (s₁.setTop (entryFrame m #[(.long j1), (.int i2)] 3)) t := by
            intro t k
            refine pre6 _ ?_
            show Steps p.tables e below (s₁.setTop (mkF m 18 #[.val (.long j1), .second, .val (.int i2)] [(.int (32 : Int32)), (.int i2)])) _
            refine XS.icmpYes X0.here hx rfl (pc0 := 18) (pc' := 25) rfl (hb hby d1_18) rfl (tlt hc18_7).2.2.1 (by decide) (by decide) ?_
            show Steps p.tables e below (s₁.setTop (mkF m 25 #[.val (.long j1), .second, .val (.int i2)] [])) _
            refine XS.iconst X0.here hx rfl (hb hby d1_25) ?_
            exact k
          exact fun t k => pre8 t (by rw [show (own_j1_7_0 j1 i2) = (0 : Int32) from ((if_pos hc7_2).trans ((if_neg hc12_4).trans (if_pos hc18_7)))] at k; exact k)
        · have pre9 : ∀ t, Steps p.tables e below (s₁.setTop (mkF m 26 #[.val (.long j1), .second, .val (.int i2)] [(.int (1 : Int32))])) t → Steps p.tables e below (s₁.setTop (entryFrame m #[(.long j1), (.int i2)] 3)) t := by
            intro t k
            refine pre6 _ ?_
            show Steps p.tables e below (s₁.setTop (mkF m 18 #[.val (.long j1), .second, .val (.int i2)] [(.int (32 : Int32)), (.int i2)])) _
            refine XS.icmpNo X0.here hx rfl (hb hby d1_18) rfl (flt hc18_7).2.2.1 ?_
            show Steps p.tables e below (s₁.setTop (mkF m 21 #[.val (.long j1), .second, .val (.int i2)] [])) _
            refine XS.iconst X0.here hx rfl (hb hby d1_21) ?_
            show Steps p.tables e below (s₁.setTop (mkF m 22 #[.val (.long j1), .second, .val (.int i2)] [(.int (1 : Int32))])) _
            refine XS.goto X0.here hx rfl (pc0 := 22) (pc' := 26) rfl (hb hby d1_22) (by decide) (by decide) ?_
            exact k
          exact fun t k => pre9 t (by rw [show (own_j1_7_0 j1 i2) = (1 : Int32) from ((if_pos hc7_2).trans ((if_neg hc12_4).trans (if_neg hc18_7)))] at k; exact k)
    · have pre10 : ∀ t, Steps p.tables e below (s₁.setTop (mkF m 26 #[.val (.long j1), .second, .val (.int i2)] [(.int (0 : Int32))])) t → Steps p.tables e below (s₁.setTop (entryFrame m #[(.long j1), (.int i2)] 3)) t := by
        intro t k
        refine pre1 _ ?_
        show Steps p.tables e below (s₁.setTop (mkF m 7 #[.val (.long j1), .second, .val (.int i2)] [(.int (lcmpW (j1 - (j1 / (32 : Int64)) * (32 : Int64)) (0 : Int64)))])) _
        refine XS.ifYes X0.here hx rfl (pc0 := 7) (pc' := 25) rfl (hb hby d1_7) rfl ((if0 _ _).trans (feq (mt (lw_eq (j1 - (j1 / (32 : Int64)) * (32 : Int64)) (0 : Int64)).mp hc7_2)).2) (by decide) (by decide) ?_
        show Steps p.tables e below (s₁.setTop (mkF m 25 #[.val (.long j1), .second, .val (.int i2)] [])) _
        refine XS.iconst X0.here hx rfl (hb hby d1_25) ?_
        exact k
      exact fun t k => pre10 t (by rw [show (own_j1_7_0 j1 i2) = (0 : Int32) from (if_neg hc7_2)] at k; exact k)
  obtain ⟨fs, hr, hrun, hended, hW, hsame⟩ := X0.leave (v := some (.int (nar .boolean (own_j1_7_0 j1 i2)))) (fun h => by rw [Bd.returns] at h; cases h)
  refine ⟨_, _, pre11 _ ?_, hrun, hended, _, _, rfl, ?_, ⟨_, rfl⟩, hW, hsame.mono (by decide) (by decide)⟩
  · show Steps p.tables e below (s₁.setTop (mkF m 26 #[.val (.long j1), .second, .val (.int i2)] [(.int (own_j1_7_0 j1 i2))])) _
    exact retN X0 hx (t := .boolean) Bd.returns (by simp) (hb hby d1_26) hr
  · show Q1 Z j1 i2 h0 n0 _ s₁.heap _
    rw [e0]
    exact ⟨rfl, N0, rfl⟩
def own_j0_6_0 (j1 : Int64) (i3 : Int32) : Int64 := (if (i3 &&& (1 : Int32)) = (0 : Int32) then j1 else (j1 &&& (-32 : Int64)))
def own_j0_22_0 (i2 : Int32) (i3 : Int32) : Int32 := (if (i3 &&& (2 : Int32)) = (0 : Int32) then i2 else ((i2 &&& (63 : Int32)) - (15 : Int32)))
def own_j0_42_0 (j1 : Int64) (i3 : Int32) : Int32 := (if ((own_j0_6_0 j1 i3) &&& (31 : Int64)) = (0 : Int64) then (1 : Int32) else (0 : Int32))
def own_j0_59_0 (i2 : Int32) (i3 : Int32) : Int32 := (if (((own_j0_22_0 i2 i3) - (1 : Int32)) &&& (-32 : Int32)) = (0 : Int32) then (1 : Int32) else (0 : Int32))
def own_j0_71_0 (j1 : Int64) (i2 : Int32) (i3 : Int32) : Int32 := (if (own_j0_42_0 j1 i3) = (0 : Int32) then (0 : Int32) else (if (own_j0_59_0 i2 i3) = (0 : Int32) then (0 : Int32) else (1 : Int32)))
def own_j0_95_0 (j1 : Int64) (i2 : Int32) (i3 : Int32) : Int32 := (if (nar .boolean (own_j1_7_0 (own_j0_6_0 j1 i3) (own_j0_22_0 i2 i3))) = (own_j0_71_0 j1 i2 i3) then (1 : Int32) else (0 : Int32))
def Q0 (Z : State) (j1 : Int64) (i2 : Int32) (i3 : Int32) (h0 : Heap) (n0 : Nat) (v : Option Value) (h : Heap) (L : List Loc) : Prop := v = some (.int (nar .boolean (own_j0_95_0 j1 i2 i3))) ∧ Fr n0 L
theorem ef_0 (m : MethodId) (x0 : Int64) (x1 : Int32) (x2 : Int32) : entryFrame m #[(.long x0), (.int x1), (.int x2)] maxLocals = mkF m 0 #[.val (.long x0), .second, .val (.int x1), .val (.int x2), .unset, .unset, .unset, .unset, .unset, .unset] [] := by first | (simp [entryFrame, mkF, argsToLocals, Value.category, maxLocals]; done) | rfl
set_option maxRecDepth 65536 in
set_option maxHeartbeats 40000000 in
theorem rm0 (l : Launch) (Z : State) (a0 : Array Value) (hw : ∀ d ∈ tables_1, d.before a0 Z = true) (ws : List Jvm.Cond) (j1 : Int64) (i2 : Int32) (i3 : Int32) (h0 : Heap) (n0 : Nat) (Z0 : n0 ≤ h0.size) :
    MetFree l x (head1 (Jvm.Cond.code x code maxLocals ret :: ws) room_1) (fun a U => a = #[(.long j1), (.int i2), (.int i3)] ∧ Z.Warmed39 U.vm ∧ U.heap = h0) (fun _ _ _ _ _ => True) (fun _ U o U' => ∃ v L, o = .returned v ∧ Q0 Z j1 i2 i3 h0 n0 v U'.heap L ∧ FrameEnd U o U' L room_1.cells room_1.slots) := by
  refine MetFree.of_bodySF (plainFor_of_name pn_1) hisR ?_
  intro p e s m args below meth c s₁ Bd hml0 hP hK
  obtain ⟨rfl, hZ, hh⟩ := hP
  have hx := Bd.exec
  have hby := Bd.bytes
  have hml : c.maxLocals = 10 := hml0
  have hown : s.vm.findClass "com/example/fairmesh/fairmesh/node/DigestsIsBatchPinLaw" = some m.cls := findClass_of_methodNamed Bd.named
  have hnm := (name_of_methodNamed Bd.named Bd.method).1
  have X0 : Stand p l e room_1 s m #[(.long j1), (.int i2), (.int i3)] below meth c s₁ [] 0 0 := Stand.of_body Bd
  have e0 : s₁.heap = h0 := by rw [← hh, Bd.state]; rfl
  have N0 := Fr.nil n0
  have pre0 : ∀ t, Steps p.tables e below (s₁.setTop (mkF m 0 #[.val (.long j1), .second, .val (.int i2), .val (.int i3), .unset, .unset, .unset, .unset, .unset, .unset] [])) t → Steps p.tables e below (s₁.setTop (entryFrame m #[(.long j1), (.int i2), (.int i3)] maxLocals)) t := fun t k => castTop (ef_0 m j1 i2 i3) k
  have pre1 : ∀ t, Steps p.tables e below (s₁.setTop (mkF m 6 #[.val (.long j1), .second, .val (.int i2), .val (.int i3), .val (.long j1), .second, .unset, .unset, .unset, .unset] [(.int (i3 &&& (1 : Int32)))])) t → Steps p.tables e below (s₁.setTop (entryFrame m #[(.long j1), (.int i2), (.int i3)] maxLocals)) t := by
    intro t k
    refine pre0 _ ?_
    show Steps p.tables e below (s₁.setTop (mkF m 0 #[.val (.long j1), .second, .val (.int i2), .val (.int i3), .unset, .unset, .unset, .unset, .unset, .unset] [])) _
    refine XS.lloadN X0.here hx rfl (hb hby at_0) rfl ?_
    show Steps p.tables e below (s₁.setTop (mkF m 1 #[.val (.long j1), .second, .val (.int i2), .val (.int i3), .unset, .unset, .unset, .unset, .unset, .unset] [(.long j1)])) _
    refine XS.lstore X0.here hx rfl (hb hby at_1) rfl (l' := #[.val (.long j1), .second, .val (.int i2), .val (.int i3), .val (.long j1), .second, .unset, .unset, .unset, .unset]) rfl ?_
    show Steps p.tables e below (s₁.setTop (mkF m 3 #[.val (.long j1), .second, .val (.int i2), .val (.int i3), .val (.long j1), .second, .unset, .unset, .unset, .unset] [])) _
    refine XS.iloadN X0.here hx rfl (hb hby at_3) rfl ?_
    show Steps p.tables e below (s₁.setTop (mkF m 4 #[.val (.long j1), .second, .val (.int i2), .val (.int i3), .val (.long j1), .second, .unset, .unset, .unset, .unset] [(.int i3)])) _
    refine XS.iconst X0.here hx rfl (hb hby at_4) ?_
    show Steps p.tables e below (s₁.setTop (mkF m 5 #[.val (.long j1), .second, .val (.int i2), .val (.int i3), .val (.long j1), .second, .unset, .unset, .unset, .unset] [(.int (1 : Int32)), (.int i3)])) _
    refine XS.iand X0.here hx rfl (hb hby at_5) rfl ?_
    exact k
  have pre5 : ∀ t, Steps p.tables e below (s₁.setTop (mkF m 16 #[.val (.long j1), .second, .val (.int i2), .val (.int i3), .val (.long (own_j0_6_0 j1 i3)), .second, .unset, .unset, .unset, .unset] [])) t → Steps p.tables e below (s₁.setTop (entryFrame m #[(.long j1), (.int i2), (.int i3)] maxLocals)) t := by
    by_cases hc6_2 : (i3 &&& (1 : Int32)) = (0 : Int32)
    · have pre3 : ∀ t, Steps p.tables e below (s₁.setTop (mkF m 16 #[.val (.long j1), .second, .val (.int i2), .val (.int i3), .val (.long j1), .second, .unset, .unset, .unset, .unset] [])) t → Steps p.tables e below (s₁.setTop (entryFrame m #[(.long j1), (.int i2), (.int i3)] maxLocals)) t := by
        intro t k
        refine pre1 _ ?_
        show Steps p.tables e below (s₁.setTop (mkF m 6 #[.val (.long j1), .second, .val (.int i2), .val (.int i3), .val (.long j1), .second, .unset, .unset, .unset, .unset] [(.int (i3 &&& (1 : Int32)))])) _
        refine XS.ifYes X0.here hx rfl (pc0 := 6) (pc' := 16) rfl (hb hby at_6) rfl ((if0 _ _).trans (teq hc6_2).1) (by decide) (by decide) ?_
        exact k
      exact fun t k => pre3 t (by rw [show (own_j0_6_0 j1 i3) = j1 from (if_pos hc6_2)] at k; exact k)
    · have pre4 : ∀ t, Steps p.tables e below (s₁.setTop (mkF m 16 #[.val (.long j1), .second, .val (.int i2), .val (.int i3), .val (.long (j1 &&& (-32 : Int64))), .second, .unset, .unset, .unset, .unset] [])) t → Steps p.tables e below (s₁.setTop (entryFrame m #[(.long j1), (.int i2), (.int i3)] maxLocals)) t := by
        intro t k
        refine pre1 _ ?_
        show Steps p.tables e below (s₁.setTop (mkF m 6 #[.val (.long j1), .second, .val (.int i2), .val (.int i3), .val (.long j1), .second, .unset, .unset, .unset, .unset] [(.int (i3 &&& (1 : Int32)))])) _
        refine XS.ifNo X0.here hx rfl (hb hby at_6) rfl ((if0 _ _).trans (feq hc6_2).1) ?_
        show Steps p.tables e below (s₁.setTop (mkF m 9 #[.val (.long j1), .second, .val (.int i2), .val (.int i3), .val (.long j1), .second, .unset, .unset, .unset, .unset] [])) _
        refine XS.lloadN X0.here hx rfl (hb hby at_9) rfl ?_
        show Steps p.tables e below (s₁.setTop (mkF m 10 #[.val (.long j1), .second, .val (.int i2), .val (.int i3), .val (.long j1), .second, .unset, .unset, .unset, .unset] [(.long j1)])) _
        refine X0.ldc2Long hx hown (mvT hZ (hw _ (List.mem_of_getElem? (i := 0) rfl))) (g := (mkF m 10 #[.val (.long j1), .second, .val (.int i2), .val (.int i3), .val (.long j1), .second, .unset, .unset, .unset, .unset] [(.long j1)])) rfl (hb hby at_10) _ ?_
        show Steps p.tables e below (s₁.setTop (mkF m 13 #[.val (.long j1), .second, .val (.int i2), .val (.int i3), .val (.long j1), .second, .unset, .unset, .unset, .unset] [(.long (-32 : Int64)), (.long j1)])) _
        refine XS.land X0.here hx rfl (hb hby at_13) rfl ?_
        show Steps p.tables e below (s₁.setTop (mkF m 14 #[.val (.long j1), .second, .val (.int i2), .val (.int i3), .val (.long j1), .second, .unset, .unset, .unset, .unset] [(.long (j1 &&& (-32 : Int64)))])) _
        refine XS.lstore X0.here hx rfl (hb hby at_14) rfl (l' := #[.val (.long j1), .second, .val (.int i2), .val (.int i3), .val (.long (j1 &&& (-32 : Int64))), .second, .unset, .unset, .unset, .unset]) rfl ?_
        exact k
      exact fun t k => pre4 t (by rw [show (own_j0_6_0 j1 i3) = (j1 &&& (-32 : Int64)) from (if_neg hc6_2)] at k; exact k)
  have pre6 : ∀ t, Steps p.tables e below (s₁.setTop (mkF m 22 #[.val (.long j1), .second, .val (.int i2), .val (.int i3), .val (.long (own_j0_6_0 j1 i3)), .second, .val (.int i2), .unset, .unset, .unset] [(.int (i3 &&& (2 : Int32)))])) t → Steps p.tables e below (s₁.setTop (entryFrame m #[(.long j1), (.int i2), (.int i3)] maxLocals)) t := by
    intro t k
    refine pre5 _ ?_
    show Steps p.tables e below (s₁.setTop (mkF m 16 #[.val (.long j1), .second, .val (.int i2), .val (.int i3), .val (.long (own_j0_6_0 j1 i3)), .second, .unset, .unset, .unset, .unset] [])) _
    refine XS.iloadN X0.here hx rfl (hb hby at_16) rfl ?_
    show Steps p.tables e below (s₁.setTop (mkF m 17 #[.val (.long j1), .second, .val (.int i2), .val (.int i3), .val (.long (own_j0_6_0 j1 i3)), .second, .unset, .unset, .unset, .unset] [(.int i2)])) _
    refine XS.istore X0.here hx rfl (hb hby at_17) rfl (l' := #[.val (.long j1), .second, .val (.int i2), .val (.int i3), .val (.long (own_j0_6_0 j1 i3)), .second, .val (.int i2), .unset, .unset, .unset]) rfl ?_
    show Steps p.tables e below (s₁.setTop (mkF m 19 #[.val (.long j1), .second, .val (.int i2), .val (.int i3), .val (.long (own_j0_6_0 j1 i3)), .second, .val (.int i2), .unset, .unset, .unset] [])) _
    refine XS.iloadN X0.here hx rfl (hb hby at_19) rfl ?_
    show Steps p.tables e below (s₁.setTop (mkF m 20 #[.val (.long j1), .second, .val (.int i2), .val (.int i3), .val (.long (own_j0_6_0 j1 i3)), .second, .val (.int i2), .unset, .unset, .unset] [(.int i3)])) _
    refine XS.iconst X0.here hx rfl (hb hby at_20) ?_
    show Steps p.tables e below (s₁.setTop (mkF m 21 #[.val (.long j1), .second, .val (.int i2), .val (.int i3), .val (.long (own_j0_6_0 j1 i3)), .second, .val (.int i2), .unset, .unset, .unset] [(.int (2 : Int32)), (.int i3)])) _
    refine XS.iand X0.here hx rfl (hb hby at_21) rfl ?_
    exact k
  have pre10 : ∀ t, Steps p.tables e below (s₁.setTop (mkF m 34 #[.val (.long j1), .second, .val (.int i2), .val (.int i3), .val (.long (own_j0_6_0 j1 i3)), .second, .val (.int (own_j0_22_0 i2 i3)), .unset, .unset, .unset] [])) t → Steps p.tables e below (s₁.setTop (entryFrame m #[(.long j1), (.int i2), (.int i3)] maxLocals)) t := by
    by_cases hc22_7 : (i3 &&& (2 : Int32)) = (0 : Int32)
    · have pre8 : ∀ t, Steps p.tables e below (s₁.setTop (mkF m 34 #[.val (.long j1), .second, .val (.int i2), .val (.int i3), .val (.long (own_j0_6_0 j1 i3)), .second, .val (.int i2), .unset, .unset, .unset] [])) t → Steps p.tables e below (s₁.setTop (entryFrame m #[(.long j1), (.int i2), (.int i3)] maxLocals)) t := by
        intro t k
        refine pre6 _ ?_
        show Steps p.tables e below (s₁.setTop (mkF m 22 #[.val (.long j1), .second, .val (.int i2), .val (.int i3), .val (.long (own_j0_6_0 j1 i3)), .second, .val (.int i2), .unset, .unset, .unset] [(.int (i3 &&& (2 : Int32)))])) _
        refine XS.ifYes X0.here hx rfl (pc0 := 22) (pc' := 34) rfl (hb hby at_22) rfl ((if0 _ _).trans (teq hc22_7).1) (by decide) (by decide) ?_
        exact k
      exact fun t k => pre8 t (by rw [show (own_j0_22_0 i2 i3) = i2 from (if_pos hc22_7)] at k; exact k)
    · have pre9 : ∀ t, Steps p.tables e below (s₁.setTop (mkF m 34 #[.val (.long j1), .second, .val (.int i2), .val (.int i3), .val (.long (own_j0_6_0 j1 i3)), .second, .val (.int ((i2 &&& (63 : Int32)) - (15 : Int32))), .unset, .unset, .unset] [])) t → Steps p.tables e below (s₁.setTop (entryFrame m #[(.long j1), (.int i2), (.int i3)] maxLocals)) t := by
        intro t k
        refine pre6 _ ?_
        show Steps p.tables e below (s₁.setTop (mkF m 22 #[.val (.long j1), .second, .val (.int i2), .val (.int i3), .val (.long (own_j0_6_0 j1 i3)), .second, .val (.int i2), .unset, .unset, .unset] [(.int (i3 &&& (2 : Int32)))])) _
        refine XS.ifNo X0.here hx rfl (hb hby at_22) rfl ((if0 _ _).trans (feq hc22_7).1) ?_
        show Steps p.tables e below (s₁.setTop (mkF m 25 #[.val (.long j1), .second, .val (.int i2), .val (.int i3), .val (.long (own_j0_6_0 j1 i3)), .second, .val (.int i2), .unset, .unset, .unset] [])) _
        refine XS.iloadN X0.here hx rfl (hb hby at_25) rfl ?_
        show Steps p.tables e below (s₁.setTop (mkF m 26 #[.val (.long j1), .second, .val (.int i2), .val (.int i3), .val (.long (own_j0_6_0 j1 i3)), .second, .val (.int i2), .unset, .unset, .unset] [(.int i2)])) _
        refine XS.bipush X0.here hx rfl (hb hby at_26) ?_
        show Steps p.tables e below (s₁.setTop (mkF m 28 #[.val (.long j1), .second, .val (.int i2), .val (.int i3), .val (.long (own_j0_6_0 j1 i3)), .second, .val (.int i2), .unset, .unset, .unset] [(.int (63 : Int32)), (.int i2)])) _
        refine XS.iand X0.here hx rfl (hb hby at_28) rfl ?_
        show Steps p.tables e below (s₁.setTop (mkF m 29 #[.val (.long j1), .second, .val (.int i2), .val (.int i3), .val (.long (own_j0_6_0 j1 i3)), .second, .val (.int i2), .unset, .unset, .unset] [(.int (i2 &&& (63 : Int32)))])) _
        refine XS.bipush X0.here hx rfl (hb hby at_29) ?_
        show Steps p.tables e below (s₁.setTop (mkF m 31 #[.val (.long j1), .second, .val (.int i2), .val (.int i3), .val (.long (own_j0_6_0 j1 i3)), .second, .val (.int i2), .unset, .unset, .unset] [(.int (15 : Int32)), (.int (i2 &&& (63 : Int32)))])) _
        refine XS.isub X0.here hx rfl (hb hby at_31) rfl ?_
        show Steps p.tables e below (s₁.setTop (mkF m 32 #[.val (.long j1), .second, .val (.int i2), .val (.int i3), .val (.long (own_j0_6_0 j1 i3)), .second, .val (.int i2), .unset, .unset, .unset] [(.int ((i2 &&& (63 : Int32)) - (15 : Int32)))])) _
        refine XS.istore X0.here hx rfl (hb hby at_32) rfl (l' := #[.val (.long j1), .second, .val (.int i2), .val (.int i3), .val (.long (own_j0_6_0 j1 i3)), .second, .val (.int ((i2 &&& (63 : Int32)) - (15 : Int32))), .unset, .unset, .unset]) rfl ?_
        exact k
      exact fun t k => pre9 t (by rw [show (own_j0_22_0 i2 i3) = ((i2 &&& (63 : Int32)) - (15 : Int32)) from (if_neg hc22_7)] at k; exact k)
  have pre11 : ∀ t, Steps p.tables e below (s₁.setTop (mkF m 42 #[.val (.long j1), .second, .val (.int i2), .val (.int i3), .val (.long (own_j0_6_0 j1 i3)), .second, .val (.int (own_j0_22_0 i2 i3)), .unset, .unset, .unset] [(.int (lcmpW ((own_j0_6_0 j1 i3) &&& (31 : Int64)) (0 : Int64)))])) t → Steps p.tables e below (s₁.setTop (entryFrame m #[(.long j1), (.int i2), (.int i3)] maxLocals)) t := by
    intro t k
    refine pre10 _ ?_
    show Steps p.tables e below (s₁.setTop (mkF m 34 #[.val (.long j1), .second, .val (.int i2), .val (.int i3), .val (.long (own_j0_6_0 j1 i3)), .second, .val (.int (own_j0_22_0 i2 i3)), .unset, .unset, .unset] [])) _
    refine XS.lload X0.here hx rfl (hb hby at_34) rfl ?_
    show Steps p.tables e below (s₁.setTop (mkF m 36 #[.val (.long j1), .second, .val (.int i2), .val (.int i3), .val (.long (own_j0_6_0 j1 i3)), .second, .val (.int (own_j0_22_0 i2 i3)), .unset, .unset, .unset] [(.long (own_j0_6_0 j1 i3))])) _
    refine X0.ldc2Long hx hown (mvT hZ (hw _ (List.mem_of_getElem? (i := 1) rfl))) (g := (mkF m 36 #[.val (.long j1), .second, .val (.int i2), .val (.int i3), .val (.long (own_j0_6_0 j1 i3)), .second, .val (.int (own_j0_22_0 i2 i3)), .unset, .unset, .unset] [(.long (own_j0_6_0 j1 i3))])) rfl (hb hby at_36) _ ?_
    show Steps p.tables e below (s₁.setTop (mkF m 39 #[.val (.long j1), .second, .val (.int i2), .val (.int i3), .val (.long (own_j0_6_0 j1 i3)), .second, .val (.int (own_j0_22_0 i2 i3)), .unset, .unset, .unset] [(.long (31 : Int64)), (.long (own_j0_6_0 j1 i3))])) _
    refine XS.land X0.here hx rfl (hb hby at_39) rfl ?_
    show Steps p.tables e below (s₁.setTop (mkF m 40 #[.val (.long j1), .second, .val (.int i2), .val (.int i3), .val (.long (own_j0_6_0 j1 i3)), .second, .val (.int (own_j0_22_0 i2 i3)), .unset, .unset, .unset] [(.long ((own_j0_6_0 j1 i3) &&& (31 : Int64)))])) _
    refine XS.lconst X0.here hx rfl (hb hby at_40) ?_
    show Steps p.tables e below (s₁.setTop (mkF m 41 #[.val (.long j1), .second, .val (.int i2), .val (.int i3), .val (.long (own_j0_6_0 j1 i3)), .second, .val (.int (own_j0_22_0 i2 i3)), .unset, .unset, .unset] [(.long (0 : Int64)), (.long ((own_j0_6_0 j1 i3) &&& (31 : Int64)))])) _
    refine XS.lcmp X0.here hx rfl (hb hby at_41) rfl ?_
    exact k
  have pre15 : ∀ t, Steps p.tables e below (s₁.setTop (mkF m 50 #[.val (.long j1), .second, .val (.int i2), .val (.int i3), .val (.long (own_j0_6_0 j1 i3)), .second, .val (.int (own_j0_22_0 i2 i3)), .unset, .unset, .unset] [(.int (own_j0_42_0 j1 i3))])) t → Steps p.tables e below (s₁.setTop (entryFrame m #[(.long j1), (.int i2), (.int i3)] maxLocals)) t := by
    by_cases hc42_12 : ((own_j0_6_0 j1 i3) &&& (31 : Int64)) = (0 : Int64)
    · have pre13 : ∀ t, Steps p.tables e below (s₁.setTop (mkF m 50 #[.val (.long j1), .second, .val (.int i2), .val (.int i3), .val (.long (own_j0_6_0 j1 i3)), .second, .val (.int (own_j0_22_0 i2 i3)), .unset, .unset, .unset] [(.int (1 : Int32))])) t → Steps p.tables e below (s₁.setTop (entryFrame m #[(.long j1), (.int i2), (.int i3)] maxLocals)) t := by
        intro t k
        refine pre11 _ ?_
        show Steps p.tables e below (s₁.setTop (mkF m 42 #[.val (.long j1), .second, .val (.int i2), .val (.int i3), .val (.long (own_j0_6_0 j1 i3)), .second, .val (.int (own_j0_22_0 i2 i3)), .unset, .unset, .unset] [(.int (lcmpW ((own_j0_6_0 j1 i3) &&& (31 : Int64)) (0 : Int64)))])) _
        refine XS.ifNo X0.here hx rfl (hb hby at_42) rfl ((if0 _ _).trans (teq ((lw_eq ((own_j0_6_0 j1 i3) &&& (31 : Int64)) (0 : Int64)).mpr hc42_12)).2) ?_
        show Steps p.tables e below (s₁.setTop (mkF m 45 #[.val (.long j1), .second, .val (.int i2), .val (.int i3), .val (.long (own_j0_6_0 j1 i3)), .second, .val (.int (own_j0_22_0 i2 i3)), .unset, .unset, .unset] [])) _
        refine XS.iconst X0.here hx rfl (hb hby at_45) ?_
        show Steps p.tables e below (s₁.setTop (mkF m 46 #[.val (.long j1), .second, .val (.int i2), .val (.int i3), .val (.long (own_j0_6_0 j1 i3)), .second, .val (.int (own_j0_22_0 i2 i3)), .unset, .unset, .unset] [(.int (1 : Int32))])) _
        refine XS.goto X0.here hx rfl (pc0 := 46) (pc' := 50) rfl (hb hby at_46) (by decide) (by decide) ?_
        exact k
      exact fun t k => pre13 t (by rw [show (own_j0_42_0 j1 i3) = (1 : Int32) from (if_pos hc42_12)] at k; exact k)
    · have pre14 : ∀ t, Steps p.tables e below (s₁.setTop (mkF m 50 #[.val (.long j1), .second, .val (.int i2), .val (.int i3), .val (.long (own_j0_6_0 j1 i3)), .second, .val (.int (own_j0_22_0 i2 i3)), .unset, .unset, .unset] [(.int (0 : Int32))])) t → Steps p.tables e below (s₁.setTop (entryFrame m #[(.long j1), (.int i2), (.int i3)] maxLocals)) t := by
        intro t k
        refine pre11 _ ?_
        show Steps p.tables e below (s₁.setTop (mkF m 42 #[.val (.long j1), .second, .val (.int i2), .val (.int i3), .val (.long (own_j0_6_0 j1 i3)), .second, .val (.int (own_j0_22_0 i2 i3)), .unset, .unset, .unset] [(.int (lcmpW ((own_j0_6_0 j1 i3) &&& (31 : Int64)) (0 : Int64)))])) _
        refine XS.ifYes X0.here hx rfl (pc0 := 42) (pc' := 49) rfl (hb hby at_42) rfl ((if0 _ _).trans (feq (mt (lw_eq ((own_j0_6_0 j1 i3) &&& (31 : Int64)) (0 : Int64)).mp hc42_12)).2) (by decide) (by decide) ?_
        show Steps p.tables e below (s₁.setTop (mkF m 49 #[.val (.long j1), .second, .val (.int i2), .val (.int i3), .val (.long (own_j0_6_0 j1 i3)), .second, .val (.int (own_j0_22_0 i2 i3)), .unset, .unset, .unset] [])) _
        refine XS.iconst X0.here hx rfl (hb hby at_49) ?_
        exact k
      exact fun t k => pre14 t (by rw [show (own_j0_42_0 j1 i3) = (0 : Int32) from (if_neg hc42_12)] at k; exact k)
  have pre16 : ∀ t, Steps p.tables e below (s₁.setTop (mkF m 59 #[.val (.long j1), .second, .val (.int i2), .val (.int i3), .val (.long (own_j0_6_0 j1 i3)), .second, .val (.int (own_j0_22_0 i2 i3)), .val (.int (own_j0_42_0 j1 i3)), .unset, .unset] [(.int (((own_j0_22_0 i2 i3) - (1 : Int32)) &&& (-32 : Int32)))])) t → Steps p.tables e below (s₁.setTop (entryFrame m #[(.long j1), (.int i2), (.int i3)] maxLocals)) t := by
    intro t k
    refine pre15 _ ?_
    show Steps p.tables e below (s₁.setTop (mkF m 50 #[.val (.long j1), .second, .val (.int i2), .val (.int i3), .val (.long (own_j0_6_0 j1 i3)), .second, .val (.int (own_j0_22_0 i2 i3)), .unset, .unset, .unset] [(.int (own_j0_42_0 j1 i3))])) _
    refine XS.istore X0.here hx rfl (hb hby at_50) rfl (l' := #[.val (.long j1), .second, .val (.int i2), .val (.int i3), .val (.long (own_j0_6_0 j1 i3)), .second, .val (.int (own_j0_22_0 i2 i3)), .val (.int (own_j0_42_0 j1 i3)), .unset, .unset]) rfl ?_
    show Steps p.tables e below (s₁.setTop (mkF m 52 #[.val (.long j1), .second, .val (.int i2), .val (.int i3), .val (.long (own_j0_6_0 j1 i3)), .second, .val (.int (own_j0_22_0 i2 i3)), .val (.int (own_j0_42_0 j1 i3)), .unset, .unset] [])) _
    refine XS.iload X0.here hx rfl (hb hby at_52) rfl ?_
    show Steps p.tables e below (s₁.setTop (mkF m 54 #[.val (.long j1), .second, .val (.int i2), .val (.int i3), .val (.long (own_j0_6_0 j1 i3)), .second, .val (.int (own_j0_22_0 i2 i3)), .val (.int (own_j0_42_0 j1 i3)), .unset, .unset] [(.int (own_j0_22_0 i2 i3))])) _
    refine XS.iconst X0.here hx rfl (hb hby at_54) ?_
    show Steps p.tables e below (s₁.setTop (mkF m 55 #[.val (.long j1), .second, .val (.int i2), .val (.int i3), .val (.long (own_j0_6_0 j1 i3)), .second, .val (.int (own_j0_22_0 i2 i3)), .val (.int (own_j0_42_0 j1 i3)), .unset, .unset] [(.int (1 : Int32)), (.int (own_j0_22_0 i2 i3))])) _
    refine XS.isub X0.here hx rfl (hb hby at_55) rfl ?_
    show Steps p.tables e below (s₁.setTop (mkF m 56 #[.val (.long j1), .second, .val (.int i2), .val (.int i3), .val (.long (own_j0_6_0 j1 i3)), .second, .val (.int (own_j0_22_0 i2 i3)), .val (.int (own_j0_42_0 j1 i3)), .unset, .unset] [(.int ((own_j0_22_0 i2 i3) - (1 : Int32)))])) _
    refine XS.bipush X0.here hx rfl (hb hby at_56) ?_
    show Steps p.tables e below (s₁.setTop (mkF m 58 #[.val (.long j1), .second, .val (.int i2), .val (.int i3), .val (.long (own_j0_6_0 j1 i3)), .second, .val (.int (own_j0_22_0 i2 i3)), .val (.int (own_j0_42_0 j1 i3)), .unset, .unset] [(.int (-32 : Int32)), (.int ((own_j0_22_0 i2 i3) - (1 : Int32)))])) _
    refine XS.iand X0.here hx rfl (hb hby at_58) rfl ?_
    exact k
  have pre20 : ∀ t, Steps p.tables e below (s₁.setTop (mkF m 67 #[.val (.long j1), .second, .val (.int i2), .val (.int i3), .val (.long (own_j0_6_0 j1 i3)), .second, .val (.int (own_j0_22_0 i2 i3)), .val (.int (own_j0_42_0 j1 i3)), .unset, .unset] [(.int (own_j0_59_0 i2 i3))])) t → Steps p.tables e below (s₁.setTop (entryFrame m #[(.long j1), (.int i2), (.int i3)] maxLocals)) t := by
    by_cases hc59_17 : (((own_j0_22_0 i2 i3) - (1 : Int32)) &&& (-32 : Int32)) = (0 : Int32)
    · have pre18 : ∀ t, Steps p.tables e below (s₁.setTop (mkF m 67 #[.val (.long j1), .second, .val (.int i2), .val (.int i3), .val (.long (own_j0_6_0 j1 i3)), .second, .val (.int (own_j0_22_0 i2 i3)), .val (.int (own_j0_42_0 j1 i3)), .unset, .unset] [(.int (1 : Int32))])) t → Steps p.tables e below (s₁.setTop (entryFrame m #[(.long j1), (.int i2), (.int i3)] maxLocals)) t := by
        intro t k
        refine pre16 _ ?_
        show Steps p.tables e below (s₁.setTop (mkF m 59 #[.val (.long j1), .second, .val (.int i2), .val (.int i3), .val (.long (own_j0_6_0 j1 i3)), .second, .val (.int (own_j0_22_0 i2 i3)), .val (.int (own_j0_42_0 j1 i3)), .unset, .unset] [(.int (((own_j0_22_0 i2 i3) - (1 : Int32)) &&& (-32 : Int32)))])) _
        refine XS.ifNo X0.here hx rfl (hb hby at_59) rfl ((if0 _ _).trans (teq hc59_17).2) ?_
        show Steps p.tables e below (s₁.setTop (mkF m 62 #[.val (.long j1), .second, .val (.int i2), .val (.int i3), .val (.long (own_j0_6_0 j1 i3)), .second, .val (.int (own_j0_22_0 i2 i3)), .val (.int (own_j0_42_0 j1 i3)), .unset, .unset] [])) _
        refine XS.iconst X0.here hx rfl (hb hby at_62) ?_
        show Steps p.tables e below (s₁.setTop (mkF m 63 #[.val (.long j1), .second, .val (.int i2), .val (.int i3), .val (.long (own_j0_6_0 j1 i3)), .second, .val (.int (own_j0_22_0 i2 i3)), .val (.int (own_j0_42_0 j1 i3)), .unset, .unset] [(.int (1 : Int32))])) _
        refine XS.goto X0.here hx rfl (pc0 := 63) (pc' := 67) rfl (hb hby at_63) (by decide) (by decide) ?_
        exact k
      exact fun t k => pre18 t (by rw [show (own_j0_59_0 i2 i3) = (1 : Int32) from (if_pos hc59_17)] at k; exact k)
    · have pre19 : ∀ t, Steps p.tables e below (s₁.setTop (mkF m 67 #[.val (.long j1), .second, .val (.int i2), .val (.int i3), .val (.long (own_j0_6_0 j1 i3)), .second, .val (.int (own_j0_22_0 i2 i3)), .val (.int (own_j0_42_0 j1 i3)), .unset, .unset] [(.int (0 : Int32))])) t → Steps p.tables e below (s₁.setTop (entryFrame m #[(.long j1), (.int i2), (.int i3)] maxLocals)) t := by
        intro t k
        refine pre16 _ ?_
        show Steps p.tables e below (s₁.setTop (mkF m 59 #[.val (.long j1), .second, .val (.int i2), .val (.int i3), .val (.long (own_j0_6_0 j1 i3)), .second, .val (.int (own_j0_22_0 i2 i3)), .val (.int (own_j0_42_0 j1 i3)), .unset, .unset] [(.int (((own_j0_22_0 i2 i3) - (1 : Int32)) &&& (-32 : Int32)))])) _
        refine XS.ifYes X0.here hx rfl (pc0 := 59) (pc' := 66) rfl (hb hby at_59) rfl ((if0 _ _).trans (feq hc59_17).2) (by decide) (by decide) ?_
        show Steps p.tables e below (s₁.setTop (mkF m 66 #[.val (.long j1), .second, .val (.int i2), .val (.int i3), .val (.long (own_j0_6_0 j1 i3)), .second, .val (.int (own_j0_22_0 i2 i3)), .val (.int (own_j0_42_0 j1 i3)), .unset, .unset] [])) _
        refine XS.iconst X0.here hx rfl (hb hby at_66) ?_
        exact k
      exact fun t k => pre19 t (by rw [show (own_j0_59_0 i2 i3) = (0 : Int32) from (if_neg hc59_17)] at k; exact k)
  have pre21 : ∀ t, Steps p.tables e below (s₁.setTop (mkF m 71 #[.val (.long j1), .second, .val (.int i2), .val (.int i3), .val (.long (own_j0_6_0 j1 i3)), .second, .val (.int (own_j0_22_0 i2 i3)), .val (.int (own_j0_42_0 j1 i3)), .val (.int (own_j0_59_0 i2 i3)), .unset] [(.int (own_j0_42_0 j1 i3))])) t → Steps p.tables e below (s₁.setTop (entryFrame m #[(.long j1), (.int i2), (.int i3)] maxLocals)) t := by
    intro t k
    refine pre20 _ ?_
    show Steps p.tables e below (s₁.setTop (mkF m 67 #[.val (.long j1), .second, .val (.int i2), .val (.int i3), .val (.long (own_j0_6_0 j1 i3)), .second, .val (.int (own_j0_22_0 i2 i3)), .val (.int (own_j0_42_0 j1 i3)), .unset, .unset] [(.int (own_j0_59_0 i2 i3))])) _
    refine XS.istore X0.here hx rfl (hb hby at_67) rfl (l' := #[.val (.long j1), .second, .val (.int i2), .val (.int i3), .val (.long (own_j0_6_0 j1 i3)), .second, .val (.int (own_j0_22_0 i2 i3)), .val (.int (own_j0_42_0 j1 i3)), .val (.int (own_j0_59_0 i2 i3)), .unset]) rfl ?_
    show Steps p.tables e below (s₁.setTop (mkF m 69 #[.val (.long j1), .second, .val (.int i2), .val (.int i3), .val (.long (own_j0_6_0 j1 i3)), .second, .val (.int (own_j0_22_0 i2 i3)), .val (.int (own_j0_42_0 j1 i3)), .val (.int (own_j0_59_0 i2 i3)), .unset] [])) _
    refine XS.iload X0.here hx rfl (hb hby at_69) rfl ?_
    exact k
  have pre28 : ∀ t, Steps p.tables e below (s₁.setTop (mkF m 84 #[.val (.long j1), .second, .val (.int i2), .val (.int i3), .val (.long (own_j0_6_0 j1 i3)), .second, .val (.int (own_j0_22_0 i2 i3)), .val (.int (own_j0_42_0 j1 i3)), .val (.int (own_j0_59_0 i2 i3)), .unset] [(.int (own_j0_71_0 j1 i2 i3))])) t → Steps p.tables e below (s₁.setTop (entryFrame m #[(.long j1), (.int i2), (.int i3)] maxLocals)) t := by
    by_cases hc71_22 : (own_j0_42_0 j1 i3) = (0 : Int32)
    · have pre23 : ∀ t, Steps p.tables e below (s₁.setTop (mkF m 84 #[.val (.long j1), .second, .val (.int i2), .val (.int i3), .val (.long (own_j0_6_0 j1 i3)), .second, .val (.int (own_j0_22_0 i2 i3)), .val (.int (own_j0_42_0 j1 i3)), .val (.int (own_j0_59_0 i2 i3)), .unset] [(.int (0 : Int32))])) t → Steps p.tables e below (s₁.setTop (entryFrame m #[(.long j1), (.int i2), (.int i3)] maxLocals)) t := by
        intro t k
        refine pre21 _ ?_
        show Steps p.tables e below (s₁.setTop (mkF m 71 #[.val (.long j1), .second, .val (.int i2), .val (.int i3), .val (.long (own_j0_6_0 j1 i3)), .second, .val (.int (own_j0_22_0 i2 i3)), .val (.int (own_j0_42_0 j1 i3)), .val (.int (own_j0_59_0 i2 i3)), .unset] [(.int (own_j0_42_0 j1 i3))])) _
        refine XS.ifYes X0.here hx rfl (pc0 := 71) (pc' := 83) rfl (hb hby at_71) rfl ((if0 _ _).trans (teq hc71_22).1) (by decide) (by decide) ?_
        show Steps p.tables e below (s₁.setTop (mkF m 83 #[.val (.long j1), .second, .val (.int i2), .val (.int i3), .val (.long (own_j0_6_0 j1 i3)), .second, .val (.int (own_j0_22_0 i2 i3)), .val (.int (own_j0_42_0 j1 i3)), .val (.int (own_j0_59_0 i2 i3)), .unset] [])) _
        refine XS.iconst X0.here hx rfl (hb hby at_83) ?_
        exact k
      exact fun t k => pre23 t (by rw [show (own_j0_71_0 j1 i2 i3) = (0 : Int32) from (if_pos hc71_22)] at k; exact k)
    · have pre24 : ∀ t, Steps p.tables e below (s₁.setTop (mkF m 76 #[.val (.long j1), .second, .val (.int i2), .val (.int i3), .val (.long (own_j0_6_0 j1 i3)), .second, .val (.int (own_j0_22_0 i2 i3)), .val (.int (own_j0_42_0 j1 i3)), .val (.int (own_j0_59_0 i2 i3)), .unset] [(.int (own_j0_59_0 i2 i3))])) t → Steps p.tables e below (s₁.setTop (entryFrame m #[(.long j1), (.int i2), (.int i3)] maxLocals)) t := by
        intro t k
        refine pre21 _ ?_
        show Steps p.tables e below (s₁.setTop (mkF m 71 #[.val (.long j1), .second, .val (.int i2), .val (.int i3), .val (.long (own_j0_6_0 j1 i3)), .second, .val (.int (own_j0_22_0 i2 i3)), .val (.int (own_j0_42_0 j1 i3)), .val (.int (own_j0_59_0 i2 i3)), .unset] [(.int (own_j0_42_0 j1 i3))])) _
        refine XS.ifNo X0.here hx rfl (hb hby at_71) rfl ((if0 _ _).trans (feq hc71_22).1) ?_
        show Steps p.tables e below (s₁.setTop (mkF m 74 #[.val (.long j1), .second, .val (.int i2), .val (.int i3), .val (.long (own_j0_6_0 j1 i3)), .second, .val (.int (own_j0_22_0 i2 i3)), .val (.int (own_j0_42_0 j1 i3)), .val (.int (own_j0_59_0 i2 i3)), .unset] [])) _
        refine XS.iload X0.here hx rfl (hb hby at_74) rfl ?_
        exact k
      by_cases hc76_25 : (own_j0_59_0 i2 i3) = (0 : Int32)
      · have pre26 : ∀ t, Steps p.tables e below (s₁.setTop (mkF m 84 #[.val (.long j1), .second, .val (.int i2), .val (.int i3), .val (.long (own_j0_6_0 j1 i3)), .second, .val (.int (own_j0_22_0 i2 i3)), .val (.int (own_j0_42_0 j1 i3)), .val (.int (own_j0_59_0 i2 i3)), .unset] [(.int (0 : Int32))])) t → Steps p.tables e below (s₁.setTop (entryFrame m #[(.long j1), (.int i2), (.int i3)] maxLocals)) t := by
          intro t k
          refine pre24 _ ?_
          show Steps p.tables e below (s₁.setTop (mkF m 76 #[.val (.long j1), .second, .val (.int i2), .val (.int i3), .val (.long (own_j0_6_0 j1 i3)), .second, .val (.int (own_j0_22_0 i2 i3)), .val (.int (own_j0_42_0 j1 i3)), .val (.int (own_j0_59_0 i2 i3)), .unset] [(.int (own_j0_59_0 i2 i3))])) _
          refine XS.ifYes X0.here hx rfl (pc0 := 76) (pc' := 83) rfl (hb hby at_76) rfl ((if0 _ _).trans (teq hc76_25).1) (by decide) (by decide) ?_
          show Steps p.tables e below (s₁.setTop (mkF m 83 #[.val (.long j1), .second, .val (.int i2), .val (.int i3), .val (.long (own_j0_6_0 j1 i3)), .second, .val (.int (own_j0_22_0 i2 i3)), .val (.int (own_j0_42_0 j1 i3)), .val (.int (own_j0_59_0 i2 i3)), .unset] [])) _
          refine XS.iconst X0.here hx rfl (hb hby at_83) ?_
          exact k
        exact fun t k => pre26 t (by rw [show (own_j0_71_0 j1 i2 i3) = (0 : Int32) from ((if_neg hc71_22).trans (if_pos hc76_25))] at k; exact k)
      · have pre27 : ∀ t, Steps p.tables e below (s₁.setTop (mkF m 84 #[.val (.long j1), .second, .val (.int i2), .val (.int i3), .val (.long (own_j0_6_0 j1 i3)), .second, .val (.int (own_j0_22_0 i2 i3)), .val (.int (own_j0_42_0 j1 i3)), .val (.int (own_j0_59_0 i2 i3)), .unset] [(.int (1 : Int32))])) t → Steps p.tables e below (s₁.setTop (entryFrame m #[(.long j1), (.int i2), (.int i3)] maxLocals)) t := by
          intro t k
          refine pre24 _ ?_
          show Steps p.tables e below (s₁.setTop (mkF m 76 #[.val (.long j1), .second, .val (.int i2), .val (.int i3), .val (.long (own_j0_6_0 j1 i3)), .second, .val (.int (own_j0_22_0 i2 i3)), .val (.int (own_j0_42_0 j1 i3)), .val (.int (own_j0_59_0 i2 i3)), .unset] [(.int (own_j0_59_0 i2 i3))])) _
          refine XS.ifNo X0.here hx rfl (hb hby at_76) rfl ((if0 _ _).trans (feq hc76_25).1) ?_
          show Steps p.tables e below (s₁.setTop (mkF m 79 #[.val (.long j1), .second, .val (.int i2), .val (.int i3), .val (.long (own_j0_6_0 j1 i3)), .second, .val (.int (own_j0_22_0 i2 i3)), .val (.int (own_j0_42_0 j1 i3)), .val (.int (own_j0_59_0 i2 i3)), .unset] [])) _
          refine XS.iconst X0.here hx rfl (hb hby at_79) ?_
          show Steps p.tables e below (s₁.setTop (mkF m 80 #[.val (.long j1), .second, .val (.int i2), .val (.int i3), .val (.long (own_j0_6_0 j1 i3)), .second, .val (.int (own_j0_22_0 i2 i3)), .val (.int (own_j0_42_0 j1 i3)), .val (.int (own_j0_59_0 i2 i3)), .unset] [(.int (1 : Int32))])) _
          refine XS.goto X0.here hx rfl (pc0 := 80) (pc' := 84) rfl (hb hby at_80) (by decide) (by decide) ?_
          exact k
        exact fun t k => pre27 t (by rw [show (own_j0_71_0 j1 i2 i3) = (1 : Int32) from ((if_neg hc71_22).trans (if_neg hc76_25))] at k; exact k)
  obtain ⟨_, _, ⟨T29, L29, k29, n29⟩, -, X29, ⟨Lc29, hQ29, l29, y29, z29⟩, st29⟩ := Jvm.LawKit.callS X0 hx (y := (⟨"com/example/fairmesh/fairmesh/node/Message$Digests", "isBatch", "(JI)Z"⟩ : MethodName)) hown (mvT hZ (hw _ (List.mem_of_getElem? (i := 2) rfl))) (mvT hZ (hw _ (List.mem_of_getElem? (i := 3) rfl))) (mvT hZ (hw _ (List.mem_of_getElem? (i := 4) rfl))) (mvT hZ (hw _ (List.mem_of_getElem? (i := 5) rfl))) (by decide) (backOf (W := 0) (rm1 l Z a0 hw [] (own_j0_6_0 j1 i3) (own_j0_22_0 i2 i3) h0 n0 (Nat.le_trans Z0 (Keep.refl h0 []).1) ) hZ (hw _ (List.mem_of_getElem? (i := 5) rfl)) (hw _ (List.mem_of_getElem? (i := 4) rfl)) (by decide) (by decide)) (g := (mkF m 90 #[.val (.long j1), .second, .val (.int i2), .val (.int i3), .val (.long (own_j0_6_0 j1 i3)), .second, .val (.int (own_j0_22_0 i2 i3)), .val (.int (own_j0_42_0 j1 i3)), .val (.int (own_j0_59_0 i2 i3)), .val (.int (own_j0_71_0 j1 i2 i3))] [(.int (own_j0_22_0 i2 i3)), (.long (own_j0_6_0 j1 i3))])) rfl (by rw [hml]; rfl) (argsL := [(.long (own_j0_6_0 j1 i3)), (.int (own_j0_22_0 i2 i3))]) (rest := []) (lenOf pd_0 rfl) rfl (by show 2 * 0 + _ ≤ _; exact Nat.le_of_eq rfl) (hb hby at_90) (fun _ _ => ⟨rfl, e0, (by decide : 0 + 0 ≤ _), (by decide : 0 + 0 ≤ _)⟩)
  dsimp only [Pt.U, Pt.locs, Pt.cells, Pt.slots] at X29 l29 y29 z29 st29 hQ29
  subst l29 y29 z29
  obtain ⟨rfl, Nq29, e29⟩ := hQ29
  have N29 := Fr.app N0 Nq29
  have pre30 : ∀ t, Steps p.tables e below (T29.setTop (mkF m 95 #[.val (.long j1), .second, .val (.int i2), .val (.int i3), .val (.long (own_j0_6_0 j1 i3)), .second, .val (.int (own_j0_22_0 i2 i3)), .val (.int (own_j0_42_0 j1 i3)), .val (.int (own_j0_59_0 i2 i3)), .val (.int (own_j0_71_0 j1 i2 i3))] [(.int (own_j0_71_0 j1 i2 i3)), (.int (nar .boolean (own_j1_7_0 (own_j0_6_0 j1 i3) (own_j0_22_0 i2 i3))))])) t → Steps p.tables e below (s₁.setTop (entryFrame m #[(.long j1), (.int i2), (.int i3)] maxLocals)) t := by
    intro t k
    refine pre28 _ ?_
    show Steps p.tables e below (s₁.setTop (mkF m 84 #[.val (.long j1), .second, .val (.int i2), .val (.int i3), .val (.long (own_j0_6_0 j1 i3)), .second, .val (.int (own_j0_22_0 i2 i3)), .val (.int (own_j0_42_0 j1 i3)), .val (.int (own_j0_59_0 i2 i3)), .unset] [(.int (own_j0_71_0 j1 i2 i3))])) _
    refine XS.istore X0.here hx rfl (hb hby at_84) rfl (l' := #[.val (.long j1), .second, .val (.int i2), .val (.int i3), .val (.long (own_j0_6_0 j1 i3)), .second, .val (.int (own_j0_22_0 i2 i3)), .val (.int (own_j0_42_0 j1 i3)), .val (.int (own_j0_59_0 i2 i3)), .val (.int (own_j0_71_0 j1 i2 i3))]) rfl ?_
    show Steps p.tables e below (s₁.setTop (mkF m 86 #[.val (.long j1), .second, .val (.int i2), .val (.int i3), .val (.long (own_j0_6_0 j1 i3)), .second, .val (.int (own_j0_22_0 i2 i3)), .val (.int (own_j0_42_0 j1 i3)), .val (.int (own_j0_59_0 i2 i3)), .val (.int (own_j0_71_0 j1 i2 i3))] [])) _
    refine XS.lload X0.here hx rfl (hb hby at_86) rfl ?_
    show Steps p.tables e below (s₁.setTop (mkF m 88 #[.val (.long j1), .second, .val (.int i2), .val (.int i3), .val (.long (own_j0_6_0 j1 i3)), .second, .val (.int (own_j0_22_0 i2 i3)), .val (.int (own_j0_42_0 j1 i3)), .val (.int (own_j0_59_0 i2 i3)), .val (.int (own_j0_71_0 j1 i2 i3))] [(.long (own_j0_6_0 j1 i3))])) _
    refine XS.iload X0.here hx rfl (hb hby at_88) rfl ?_
    show Steps p.tables e below (s₁.setTop (mkF m 90 #[.val (.long j1), .second, .val (.int i2), .val (.int i3), .val (.long (own_j0_6_0 j1 i3)), .second, .val (.int (own_j0_22_0 i2 i3)), .val (.int (own_j0_42_0 j1 i3)), .val (.int (own_j0_59_0 i2 i3)), .val (.int (own_j0_71_0 j1 i2 i3))] [(.int (own_j0_22_0 i2 i3)), (.long (own_j0_6_0 j1 i3))])) _
    refine st29 _ ?_
    show Steps p.tables e below (T29.setTop (mkF m 93 #[.val (.long j1), .second, .val (.int i2), .val (.int i3), .val (.long (own_j0_6_0 j1 i3)), .second, .val (.int (own_j0_22_0 i2 i3)), .val (.int (own_j0_42_0 j1 i3)), .val (.int (own_j0_59_0 i2 i3)), .val (.int (own_j0_71_0 j1 i2 i3))] [(.int (nar .boolean (own_j1_7_0 (own_j0_6_0 j1 i3) (own_j0_22_0 i2 i3))))])) _
    refine XS.iload X29.here hx rfl (hb hby at_93) rfl ?_
    exact k
  have pre34 : ∀ t, Steps p.tables e below (T29.setTop (mkF m 103 #[.val (.long j1), .second, .val (.int i2), .val (.int i3), .val (.long (own_j0_6_0 j1 i3)), .second, .val (.int (own_j0_22_0 i2 i3)), .val (.int (own_j0_42_0 j1 i3)), .val (.int (own_j0_59_0 i2 i3)), .val (.int (own_j0_71_0 j1 i2 i3))] [(.int (own_j0_95_0 j1 i2 i3))])) t → Steps p.tables e below (s₁.setTop (entryFrame m #[(.long j1), (.int i2), (.int i3)] maxLocals)) t := by
    by_cases hc95_31 : (nar .boolean (own_j1_7_0 (own_j0_6_0 j1 i3) (own_j0_22_0 i2 i3))) = (own_j0_71_0 j1 i2 i3)
    · have pre32 : ∀ t, Steps p.tables e below (T29.setTop (mkF m 103 #[.val (.long j1), .second, .val (.int i2), .val (.int i3), .val (.long (own_j0_6_0 j1 i3)), .second, .val (.int (own_j0_22_0 i2 i3)), .val (.int (own_j0_42_0 j1 i3)), .val (.int (own_j0_59_0 i2 i3)), .val (.int (own_j0_71_0 j1 i2 i3))] [(.int (1 : Int32))])) t → Steps p.tables e below (s₁.setTop (entryFrame m #[(.long j1), (.int i2), (.int i3)] maxLocals)) t := by
        intro t k
        refine pre30 _ ?_
        show Steps p.tables e below (T29.setTop (mkF m 95 #[.val (.long j1), .second, .val (.int i2), .val (.int i3), .val (.long (own_j0_6_0 j1 i3)), .second, .val (.int (own_j0_22_0 i2 i3)), .val (.int (own_j0_42_0 j1 i3)), .val (.int (own_j0_59_0 i2 i3)), .val (.int (own_j0_71_0 j1 i2 i3))] [(.int (own_j0_71_0 j1 i2 i3)), (.int (nar .boolean (own_j1_7_0 (own_j0_6_0 j1 i3) (own_j0_22_0 i2 i3))))])) _
        refine XS.icmpNo X29.here hx rfl (hb hby at_95) rfl (teq hc95_31).2 ?_
        show Steps p.tables e below (T29.setTop (mkF m 98 #[.val (.long j1), .second, .val (.int i2), .val (.int i3), .val (.long (own_j0_6_0 j1 i3)), .second, .val (.int (own_j0_22_0 i2 i3)), .val (.int (own_j0_42_0 j1 i3)), .val (.int (own_j0_59_0 i2 i3)), .val (.int (own_j0_71_0 j1 i2 i3))] [])) _
        refine XS.iconst X29.here hx rfl (hb hby at_98) ?_
        show Steps p.tables e below (T29.setTop (mkF m 99 #[.val (.long j1), .second, .val (.int i2), .val (.int i3), .val (.long (own_j0_6_0 j1 i3)), .second, .val (.int (own_j0_22_0 i2 i3)), .val (.int (own_j0_42_0 j1 i3)), .val (.int (own_j0_59_0 i2 i3)), .val (.int (own_j0_71_0 j1 i2 i3))] [(.int (1 : Int32))])) _
        refine XS.goto X29.here hx rfl (pc0 := 99) (pc' := 103) rfl (hb hby at_99) (by decide) (by decide) ?_
        exact k
      exact fun t k => pre32 t (by rw [show (own_j0_95_0 j1 i2 i3) = (1 : Int32) from (if_pos hc95_31)] at k; exact k)
    · have pre33 : ∀ t, Steps p.tables e below (T29.setTop (mkF m 103 #[.val (.long j1), .second, .val (.int i2), .val (.int i3), .val (.long (own_j0_6_0 j1 i3)), .second, .val (.int (own_j0_22_0 i2 i3)), .val (.int (own_j0_42_0 j1 i3)), .val (.int (own_j0_59_0 i2 i3)), .val (.int (own_j0_71_0 j1 i2 i3))] [(.int (0 : Int32))])) t → Steps p.tables e below (s₁.setTop (entryFrame m #[(.long j1), (.int i2), (.int i3)] maxLocals)) t := by
        intro t k
        refine pre30 _ ?_
        show Steps p.tables e below (T29.setTop (mkF m 95 #[.val (.long j1), .second, .val (.int i2), .val (.int i3), .val (.long (own_j0_6_0 j1 i3)), .second, .val (.int (own_j0_22_0 i2 i3)), .val (.int (own_j0_42_0 j1 i3)), .val (.int (own_j0_59_0 i2 i3)), .val (.int (own_j0_71_0 j1 i2 i3))] [(.int (own_j0_71_0 j1 i2 i3)), (.int (nar .boolean (own_j1_7_0 (own_j0_6_0 j1 i3) (own_j0_22_0 i2 i3))))])) _
        refine XS.icmpYes X29.here hx rfl (pc0 := 95) (pc' := 102) rfl (hb hby at_95) rfl (feq hc95_31).2 (by decide) (by decide) ?_
        show Steps p.tables e below (T29.setTop (mkF m 102 #[.val (.long j1), .second, .val (.int i2), .val (.int i3), .val (.long (own_j0_6_0 j1 i3)), .second, .val (.int (own_j0_22_0 i2 i3)), .val (.int (own_j0_42_0 j1 i3)), .val (.int (own_j0_59_0 i2 i3)), .val (.int (own_j0_71_0 j1 i2 i3))] [])) _
        refine XS.iconst X29.here hx rfl (hb hby at_102) ?_
        exact k
      exact fun t k => pre33 t (by rw [show (own_j0_95_0 j1 i2 i3) = (0 : Int32) from (if_neg hc95_31)] at k; exact k)
  obtain ⟨fs, hr, hrun, hended, hW, hsame⟩ := X29.leave (v := some (.int (nar .boolean (own_j0_95_0 j1 i2 i3)))) (fun h => by rw [Bd.returns] at h; cases h)
  refine ⟨_, _, pre34 _ ?_, hrun, hended, _, _, rfl, ?_, ⟨_, rfl⟩, hW, hsame.mono (by decide) (by decide)⟩
  · show Steps p.tables e below (T29.setTop (mkF m 103 #[.val (.long j1), .second, .val (.int i2), .val (.int i3), .val (.long (own_j0_6_0 j1 i3)), .second, .val (.int (own_j0_22_0 i2 i3)), .val (.int (own_j0_42_0 j1 i3)), .val (.int (own_j0_59_0 i2 i3)), .val (.int (own_j0_71_0 j1 i2 i3))] [(.int (own_j0_95_0 j1 i2 i3))])) _
    exact retN X29 hx (t := .boolean) Bd.returns (by simp) (hb hby at_103) hr
  · show Q0 Z j1 i2 i3 h0 n0 _ T29.heap _
    rw [e29]
    exact ⟨rfl, N29⟩
theorem own_law (j1 : Int64) (i2 : Int32) (i3 : Int32) : (nar .boolean (own_j0_95_0 j1 i2 i3)) = 1 := by
  apply own_nar1
  refine if_pos ?_
  unfold own_j0_71_0 own_j0_42_0 own_j0_59_0 own_j1_7_0
  generalize own_j0_6_0 j1 i3 = f
  generalize own_j0_22_0 i2 i3 = c
  have hs : (c - 1) &&& (-32) = 0 ↔ 1 ≤ c.toInt ∧ c.toInt ≤ 32 := by
    rw [own_hi]
    have h1 := c_isub c 1
    have h2 := rng32 c
    have h3 := rng32 (c - 1)
    have h4 : (1 : Int32).toInt = 1 := by decide
    omega
  have l1 : c < 1 ↔ c.toInt < 1 := Int32.lt_iff_toInt_lt
  have l2 : (32 : Int32) < c ↔ 32 < c.toInt := Int32.lt_iff_toInt_lt
  by_cases hA : f &&& 31 = 0
  · rw [if_pos hA, if_pos ((own_lo f).mpr hA)]
    by_cases hB : (c - 1) &&& (-32) = 0
    · rw [if_pos hB]
      obtain ⟨b1, b2⟩ := hs.mp hB
      rw [if_neg (fun q => by have := l1.mp q; omega), if_neg (fun q => by have := l2.mp q; omega)]
      decide
    · rw [if_neg hB]
      by_cases q1 : c < 1
      · rw [if_pos q1]; decide
      · rw [if_neg q1]
        by_cases q2 : (32 : Int32) < c
        · rw [if_pos q2]; decide
        · exact absurd (hs.mpr ⟨by have := mt l1.mpr q1; omega, by have := mt l2.mpr q2; omega⟩) hB
  · rw [if_neg hA, if_neg (fun q => hA ((own_lo f).mp q)), if_pos rfl]
    rfl
set_option maxRecDepth 65536 in
set_option maxHeartbeats 40000000 in
theorem comes_1 {Post : Tables → Env → Array Value → State → Outcome → State → Prop} (hpost : ∀ tb e args s v u, (limb_1_1.after args s (.returned v) u = true ∧ limb_1_2.after args s (.returned v) u = true ∧ True) → FrameEnd s (.returned v) u (Jvm.fieldLocs frame_1_writes args s ++ Jvm.arrayLocs frame_1_arrays args s ++ Jvm.staticLocs frame_1_statics s) 0 0 → Post tb e args s (.returned v) u) :
    ArmFor flags0 classFile x code maxLocals ret World_1 tables_1 room_1 Calls_1 rest_1 Pre_1 Post := by
  intro l hfl _ _ p e ha hc hk s m args below hf hA hF happ hP
  obtain ⟨hcalls, hrest, hpre⟩ := hP
  obtain ⟨-, -, -, hnamed, -, -, -, hat⟩ := (Spec.applies_iff hf).mp happ
  obtain ⟨hg, hn⟩ := and_e (Cond.before_iff.mp (show (Jvm.Cond.and given_1 narrow_1).before args s = true from hpre))
  obtain ⟨g1, g2⟩ := and_e hg
  obtain ⟨g3, g4⟩ := and_e g2
  obtain ⟨g5, g6⟩ := and_e g4
  obtain ⟨w0, w1, w2, rfl⟩ : ∃ w0 w1 w2 : Value, args = #[w0, w1, w2] := by
    have hs : args.size = 3 := by simpa [Cond.value, given_1] using g1
    obtain ⟨L⟩ := args
    match L, hs with
    | [w0, w1, w2], _ => exact ⟨w0, w1, w2, rfl⟩
  have hw := fun d (hd : d ∈ tables_1) => atoms_spec (ws := Jvm.Cond.code x code maxLocals ret :: tables_1) hat d (List.mem_cons_of_mem _ hd)
  have hfit : Fit s := fun {y c} hc i hi => by
    obtain ⟨ha, rfl⟩ := Array.getElem?_eq_some_iff.mp hc
    have q := List.all_eq_true.mp ((Array.all_eq_true_iff_forall_mem.mp hF) _ (Array.getElem_mem ha)) i (List.mem_range.mpr hi)
    simpa [Array.getElem?_eq_getElem hi] using q
  obtain ⟨i0, ei0⟩ := isL_v g3
  obtain rfl : w0 = (.long i0) := Option.some.inj ei0
  obtain ⟨i1, ei1⟩ := is_v g5
  obtain rfl : w1 = (.int i1) := Option.some.inj ei1
  obtain ⟨i2, ei2⟩ := is_v g6
  obtain rfl : w2 = (.int i2) := Option.some.inj ei2
  obtain ⟨n, o, h1, h2, h3, _, L, rfl, ⟨hv, N⟩, hq⟩ := rm0 l s _ hw tables_1 i0 i1 i2 s.heap s.heap.size (Nat.le_refl _)  p e ha hc hk s m _ below hf ((Spec.applies_iff_loose hf).mp happ).1 ⟨rfl, State.Warmed39.refl s, rfl⟩ trivial
  rw [show (nar .boolean (own_j0_95_0 i0 i1 i2)) = 1 from own_law i0 i1 i2] at hv
  subst hv
  refine ⟨n, _, h1, h2, h3, hpost _ _ _ _ _ _ ⟨Cond.after_iff.mpr rfl, Cond.after_iff.mpr (eq_i res_at (Term.int_eval (1)) rfl), trivial⟩ ⟨hq.1, hq.2.1, (hq.2.2.sift fun y hy => Or.inr (N y hy)).mono (by decide) (by decide)⟩⟩
theorem main_1_1 : Claimed_1_1 := comes_1 fun _ _ _ _ _ _ h hF => ⟨h.1, hF⟩
theorem main_1_2 : Claimed_1_2 := comes_1 fun _ _ _ _ _ _ h hF => ⟨h.2.1, hF⟩
end Jvm.Pilot.@@N@@
namespace Jvm.Pilot.@@N@@
open Jvm Jvm.ClassFile Sem Op Lib Jvm.Free Jvm.Stand Jvm.Pilot.@@N@@.Jvm.D
/-! MADE BY PROGRAM (witnessworld.py) out of the Statement's table words and the real class files: 11 classes; the members and pool entries that the words name. The judged class is class 1, her method 1. -/
namespace start1
open Jvm.ClassFile
def u (s : String) : CpInfo := .utf8 (stringToUtf16 s)
/-- a pool by its gaps: so many unusable entries, then the entry; so many at the end -/
def gap : Nat → List CpInfo → List CpInfo
  | 0, r => r
  | n + 1, r => .unusable :: gap n r
def poolList (es : List (Nat × CpInfo)) (last : Nat) : List CpInfo := es.foldr (fun e r => gap e.1 (e.2 :: r)) (gap last [])
def pool (es : List (Nat × CpInfo)) (last : Nat) : Array CpInfo := ⟨poolList es last⟩
def fileOf (pool : Array CpInfo) (this : Nat) (attrs : Array Attribute := #[]) (ms : Array MethodInfo := #[]) (fl : Nat := 33) (sup : Nat := 0) (ifs : Array Nat := #[]) (fds : Array FieldInfo := #[]) : ClassFile where
  minorVersion := 0
  majorVersion := 65
  constantPool := pool
  accessFlags := fl
  thisClass := this
  superClass := sup
  interfaces := ifs
  fields := fds
  methods := ms
  attributes := attrs
def plain (name : String) (sup : Option ClassId) : Class where
  name := name
  kind := .ordinary
  loader := none
  accessFlags := 33
  super := sup
  interfaces := #[]
  cf := none
  fields := #[]
  methods := #[]
  instanceTypes := #[]
  staticTypes := #[]
  resolved := #[]
  callSites := []
  init := .initialized
  statics := none
  mirror := none

def pool0 : Array CpInfo := pool [(5, u "<init>"), (0, u "()V"), (1, .class_ 10), (1, u "java/lang/Object")] 113

def k0m0 : Method := { name := "<init>", desc := "()V", sig := { parameters := [], returnType := none }, accessFlags := 1, code := none }
/-- java/lang/Object -/
def k0 : Class := { plain "java/lang/Object" none with
  accessFlags := 33
  interfaces := #[]
  cf := some (fileOf pool0 8 #[] #[{ accessFlags := 1, nameIndex := 5, descriptorIndex := 6, attributes := #[] }] 33 0 #[] #[])
  fields := #[]
  methods := #[k0m0]
  instanceTypes := #[]
  staticTypes := #[]
  resolved := Array.replicate 124 none
  statics := none }

def pool1 : Array CpInfo := pool [(2, .class_ 4), (1, u "java/lang/Object"), (0, u "<init>"), (0, u "()V"), (0, .long 18446744073709551584), (1, .long 31), (1, .methodref 12 13), (0, .class_ 14), (0, .nameAndType 15 16), (0, u "com/example/fairmesh/fairmesh/node/Message$Digests"), (0, u "isBatch"), (0, u "(JI)Z"), (0, .class_ 18), (0, u "com/example/fairmesh/fairmesh/node/DigestsIsBatchPinLaw"), (2, u "law"), (0, u "(JII)Z")] 7

def k1m0 : Method := { name := "<init>", desc := "()V", sig := { parameters := [], returnType := none }, accessFlags := 2, code := none }
def k1c1 : Code := { maxStack := 4, maxLocals := 10, code := code, exceptionTable := #[], attributes := #[] }
def k1m1 : Method := { name := "law", desc := "(JII)Z", sig := { parameters := [.long, .int, .int], returnType := some .boolean }, accessFlags := 9, code := some k1c1 }
/-- com/example/fairmesh/fairmesh/node/DigestsIsBatchPinLaw -/
def k1 : Class := { plain "com/example/fairmesh/fairmesh/node/DigestsIsBatchPinLaw" (some 0) with
  accessFlags := 49
  interfaces := #[]
  cf := some (fileOf pool1 17 #[] #[{ accessFlags := 2, nameIndex := 5, descriptorIndex := 6, attributes := #[] }, { accessFlags := 9, nameIndex := 21, descriptorIndex := 22, attributes := #[] }] 49 2 #[] #[])
  fields := #[]
  methods := #[k1m0, k1m1]
  instanceTypes := #[]
  staticTypes := #[]
  resolved := Array.replicate 30 none
  statics := none }

def pool2 : Array CpInfo := pool [(2, .class_ 4), (1, u "java/lang/Object"), (0, u "<init>"), (0, u "()V"), (0, .class_ 8), (0, u "java/lang/Record")] 13

def k2m0 : Method := { name := "<init>", desc := "()V", sig := { parameters := [], returnType := none }, accessFlags := 4, code := none }
/-- java/lang/Record -/
def k2 : Class := { plain "java/lang/Record" (some 0) with
  accessFlags := 1057
  interfaces := #[]
  cf := some (fileOf pool2 7 #[] #[{ accessFlags := 4, nameIndex := 5, descriptorIndex := 6, attributes := #[] }] 1057 2 #[] #[])
  fields := #[]
  methods := #[k2m0]
  instanceTypes := #[]
  staticTypes := #[]
  resolved := Array.replicate 22 none
  statics := none }

def pool3 : Array CpInfo := pool [(1, .class_ 2), (0, u "com/example/fairmesh/fairmesh/node/Message"), (0, .class_ 4), (0, u "java/lang/Object"), (3, .class_ 9), (0, u "com/example/fairmesh/fairmesh/node/Message$Expelled"), (0, .class_ 11), (0, u "com/example/fairmesh/fairmesh/node/Message$Expelled$Offence"), (0, .class_ 13), (0, u "com/example/fairmesh/fairmesh/node/Message$ChunkRequest"), (0, .class_ 15), (0, u "com/example/fairmesh/fairmesh/node/Message$DigestsRequest"), (0, .class_ 17), (0, u "com/example/fairmesh/fairmesh/node/Message$Digests"), (0, .class_ 19), (0, u "com/example/fairmesh/fairmesh/node/Message$End"), (0, .class_ 21), (0, u "com/example/fairmesh/fairmesh/node/Message$Chunk"), (0, .class_ 23), (0, u "com/example/fairmesh/fairmesh/node/Message$LinkAnswer"), (0, .class_ 25), (0, u "com/example/fairmesh/fairmesh/node/Message$LinkSolution"), (0, .class_ 27), (0, u "com/example/fairmesh/fairmesh/node/Message$LinkPuzzle"), (0, .class_ 29), (0, u "com/example/fairmesh/fairmesh/node/Message$LinkRequest"), (0, .class_ 31), (0, u "com/example/fairmesh/fairmesh/node/Message$Peers"), (0, .class_ 33), (0, u "com/example/fairmesh/fairmesh/node/Message$AskPeers"), (0, .class_ 35), (0, u "com/example/fairmesh/fairmesh/node/Message$Joining"), (0, .class_ 37), (0, u "com/example/fairmesh/fairmesh/node/Message$Joined"), (0, .class_ 39), (0, u "com/example/fairmesh/fairmesh/node/Message$Welcome"), (0, .class_ 41), (0, u "com/example/fairmesh/fairmesh/node/Message$Join")] 19

/-- com/example/fairmesh/fairmesh/node/Message -/
def k3 : Class := { plain "com/example/fairmesh/fairmesh/node/Message" (some 0) with
  accessFlags := 1537
  interfaces := #[]
  cf := some (fileOf pool3 1 #[.nestMembers #[8, 10, 12, 14, 16, 18, 20, 22, 24, 26, 28, 30, 32, 34, 36, 38, 40]] #[] 1537 3 #[] #[])
  fields := #[]
  methods := #[]
  instanceTypes := #[]
  staticTypes := #[]
  resolved := Array.replicate 61 none
  statics := none }

def pool4 : Array CpInfo := pool [(1, .class_ 2), (0, u "com/example/fairmesh/fairmesh/node/Message$Digests"), (0, .long 32), (2, .class_ 8), (1, u "java/lang/Record"), (25, u "[B"), (4, u "first"), (0, u "J"), (2, u "digests"), (0, u "Ljava/util/List;"), (2, u "signature"), (29, u "CONTEXT"), (100, .class_ 179), (0, u "com/example/fairmesh/fairmesh/node/Message"), (2, u "BATCH"), (0, u "I"), (6, u "isBatch"), (0, u "(JI)Z")] 59

def k4c0 : Code := { maxStack := 4, maxLocals := 3, code := prog_41_method_2_code, exceptionTable := #[], attributes := #[] }
def k4m0 : Method := { name := "isBatch", desc := "(JI)Z", sig := { parameters := [.long, .int], returnType := some .boolean }, accessFlags := 9, code := some k4c0 }
/-- com/example/fairmesh/fairmesh/node/Message$Digests -/
def k4 : Class := { plain "com/example/fairmesh/fairmesh/node/Message$Digests" (some 2) with
  accessFlags := 49
  interfaces := #[3]
  cf := some (fileOf pool4 1 #[.nestHost 178] #[{ accessFlags := 9, nameIndex := 190, descriptorIndex := 191, attributes := #[] }] 49 6 #[178] #[{ accessFlags := 18, nameIndex := 39, descriptorIndex := 40, attributes := #[] }, { accessFlags := 18, nameIndex := 43, descriptorIndex := 44, attributes := #[] }, { accessFlags := 18, nameIndex := 47, descriptorIndex := 34, attributes := #[] }, { accessFlags := 25, nameIndex := 182, descriptorIndex := 183, attributes := #[] }, { accessFlags := 26, nameIndex := 77, descriptorIndex := 34, attributes := #[] }])
  fields := #[{ name := "first", type := .long, accessFlags := 18, slot := 0, constantValue := 0 }, { name := "digests", type := (.object "java/util/List"), accessFlags := 18, slot := 1, constantValue := 0 }, { name := "signature", type := (.array .byte), accessFlags := 18, slot := 2, constantValue := 0 }, { name := "BATCH", type := .int, accessFlags := 25, slot := 0, constantValue := 0 }, { name := "CONTEXT", type := (.array .byte), accessFlags := 26, slot := 1, constantValue := 0 }]
  methods := #[k4m0]
  instanceTypes := #[.long, (.object "java/util/List"), (.array .byte)]
  staticTypes := #[.int, (.array .byte)]
  resolved := Array.replicate 251 none
  statics := none }

def pool5 : Array CpInfo := pool [(1, u "java/lang/Cloneable"), (0, .class_ 1), (0, u "java/lang/Object"), (0, .class_ 3)] 3

/-- java/lang/Cloneable -/
def k5 : Class := { plain "java/lang/Cloneable" (some 0) with
  accessFlags := 1537
  interfaces := #[]
  cf := some (fileOf pool5 2 #[] #[] 1537 4 #[] #[])
  fields := #[]
  methods := #[]
  instanceTypes := #[]
  staticTypes := #[]
  resolved := Array.replicate 8 none
  statics := none }

def pool6 : Array CpInfo := pool [(1, u "java/io/Serializable"), (0, .class_ 1), (0, u "java/lang/Object"), (0, .class_ 3)] 3

/-- java/io/Serializable -/
def k6 : Class := { plain "java/io/Serializable" (some 0) with
  accessFlags := 1537
  interfaces := #[]
  cf := some (fileOf pool6 2 #[] #[] 1537 4 #[] #[])
  fields := #[]
  methods := #[]
  instanceTypes := #[]
  staticTypes := #[]
  resolved := Array.replicate 8 none
  statics := none }

/-- the primitive byte -/
def k7 : Class := { plain "byte" none with kind := .primitive 'B', accessFlags := 0x411 }
/-- [B -/
def k8 : Class := { plain "[B" (some 0) with kind := .array 7 .byte, interfaces := #[5, 6], accessFlags := 1041 }

/-- the primitive int -/
def k9 : Class := { plain "int" none with kind := .primitive 'I', accessFlags := 0x411 }
/-- [I -/
def k10 : Class := { plain "[I" (some 0) with kind := .array 9 .int, interfaces := #[5, 6], accessFlags := 1041 }

def heap : Heap := #[]
def classes : Array Class := #[k0, k1, k2, k3, k4, k5, k6, k7, k8, k9, k10]
def interned : List (Array UInt16 × Addr) := []
def slotsUsed : Nat := 0
def theMethod : MethodId := ⟨1, 1⟩
def args0 : Array Value := #[.long 5, .int 6, .int 7]
def aboutOver (below : List Frame) : State where
  vm := { classes := classes, interned := interned.toArray }
  heap := heap
  slotsUsed := slotsUsed
  threads := #[{ frames := .invoking theMethod args0 :: below }]
def below0 : List Frame := [.native { method := ⟨0, 0⟩, args := #[] }]
def about1 : State := aboutOver below0
def p0 : Program := .bare "" "" ""
def e0 : Env := launch0.env 0 0 0
theorem w_frames : about1.frames = Frame.invoking theMethod args0 :: below0 := rfl
set_option maxRecDepth 65536 in
theorem w_args : argsFit about1.vm theMethod args0 = true := by decide +kernel
set_option maxRecDepth 65536 in
theorem w_heap : heapFits about1 = true := by decide +kernel
set_option maxRecDepth 65536 in
theorem w_runnable : about1.curStatus? = some .runnable := by decide +kernel
set_option maxRecDepth 65536 in
theorem w_alone : about1.alone = true := by decide +kernel
set_option maxRecDepth 65536 in
theorem w_named : about1.methodNamed? x = some theMethod := by decide +kernel
set_option maxRecDepth 65536 in
theorem w_hears : about1.hears theMethod below0 = true := by decide +kernel
set_option maxRecDepth 65536 in
theorem w_ripe : about1.ripe theMethod args0 below0 = true := by decide +kernel
theorem w_running : about1.status = .running := rfl
set_option maxRecDepth 65536 in
theorem w_room : about1.hasRoom e0.platform room_1 = true :=
  launch0.hasRoom_least _ room_1 (by decide +kernel) (by decide +kernel) (by decide +kernel) (by decide +kernel) (by decide +kernel) (by decide +kernel)
theorem allAtoms_all (ts : List Jvm.Cond) (a : Array Jvm.Value) (st : Jvm.State) : (allAtoms ts).before a st = ts.all (fun c => c.before a st) := by
  induction ts with
  | nil => rfl
  | cons c t ih =>
    show (Jvm.Cond.and c (allAtoms t)).before a st = _
    rw [Jvm.Cond.before_and, ih, List.all_cons]
def words1 : List Jvm.Cond := Jvm.Cond.code x code maxLocals ret :: tables_1
/-- a 'code' word, met by the world's own term for the bytes: nothing is compared byte by byte -/
theorem code_word {y : MethodName} {bytes : ByteArray} {mx : Nat} {rt : Option FieldType} {a : Array Value} {s : State} {m : MethodId} {meth : Method} {c : Code} (h1 : s.methodNamed? y = some m) (h2 : s.vm.method? m = some meth) (h3 : meth.code = some c) (h4 : c.code = bytes)
    (h5 : (c.maxLocals == mx && c.exceptionTable.isEmpty && decide (c.maxStack ≤ mostOperands) && decide (meth.sig.returnType = rt) && !meth.locks && decide (parseMethodDescriptor y.desc = some meth.sig)) = true) : (Jvm.Cond.code y bytes mx rt).before a s = true := by
  simp only [Bool.and_eq_true, beq_iff_eq, Bool.not_eq_true', decide_eq_true_eq] at h5
  obtain ⟨⟨⟨⟨⟨g1, g2⟩, g3⟩, g4⟩, g5⟩, g6⟩ := h5
  simp [Cond.before, Cond.holds, Cond.value, h1, h2, h3, h4, g1, g2, g3, g4, g5, g6]
def isCode : Jvm.Cond → Bool
  | .code _ _ _ _ => true
  | _ => false
theorem all_split {L : List Jvm.Cond} {P : Jvm.Cond → Bool} (h1 : L.all (fun c => isCode c || P c) = true) (h2 : ∀ c ∈ L.filter isCode, P c = true) : L.all P = true := by
  refine List.all_eq_true.mpr fun c hc => ?_
  have h := List.all_eq_true.mp h1 c hc
  rcases Bool.eq_false_or_eq_true (isCode c) with hi | hi
  · exact h2 c (List.mem_filter.mpr ⟨hc, hi⟩)
  · simpa [hi] using h
set_option maxRecDepth 65536 in
theorem w_c0 : (Jvm.Cond.code x code maxLocals ret).before args0 about1 = true := code_word (m := ⟨1, 1⟩) (meth := k1m1) (c := k1c1) (by decide +kernel) rfl rfl rfl (by decide +kernel)
set_option maxRecDepth 65536 in
theorem w_c1 : (Jvm.Cond.code ({ cls := "com/example/fairmesh/fairmesh/node/Message$Digests", name := "isBatch", desc := "(JI)Z" } : Jvm.MethodName) prog_41_method_2_code (3 : Nat) (Option.some Jvm.ClassFile.FieldType.boolean)).before args0 about1 = true := code_word (m := ⟨4, 0⟩) (meth := k4m0) (c := k4c0) (by decide +kernel) rfl rfl rfl (by decide +kernel)
def codes1 : List Jvm.Cond := [Jvm.Cond.code x code maxLocals ret, Jvm.Cond.code ({ cls := "com/example/fairmesh/fairmesh/node/Message$Digests", name := "isBatch", desc := "(JI)Z" } : Jvm.MethodName) prog_41_method_2_code (3 : Nat) (Option.some Jvm.ClassFile.FieldType.boolean)]
set_option maxRecDepth 65536 in
theorem codes_eq : words1.filter isCode = codes1 := rfl
theorem w_codes : ∀ c ∈ words1.filter isCode, c.before args0 about1 = true := by
  rw [codes_eq]
  intro c hc
  simp only [codes1, List.mem_cons, List.not_mem_nil, or_false] at hc
  rcases hc with rfl | rfl
  · exact w_c0
  · exact w_c1
set_option maxRecDepth 65536 in
theorem w_t1 : words1.all (fun c => isCode c || c.before args0 about1) = true := by decide +kernel
theorem w_tables : (allAtoms (Jvm.Cond.code x code maxLocals ret :: tables_1)).before args0 about1 = true := by
  rw [allAtoms_all]
  show words1.all (fun c => c.before args0 about1) = true
  refine all_split ?_ w_codes
  rw [w_t1]
set_option maxRecDepth 65536 in
theorem w_case : (Jvm.Cond.and given_1 narrow_1).before args0 about1 = true := by decide +kernel
theorem w_applies : (headSpec (Jvm.Cond.code x code maxLocals ret :: tables_1) room_1).applies x e0.platform about1 = true :=
  (Spec.applies_iff w_frames).mpr ⟨w_running, w_runnable, w_alone, w_named, w_hears, w_ripe, w_room, w_tables⟩
theorem atStart : AtStart classFile x code maxLocals ret World_1 tables_1 room_1 Calls_1 rest_1 Pre_1 launch0 p0 e0 about1 theMethod args0 below0 :=
  ⟨lists_1, trivial, launch0.admits_env _ _ _, launch0.least_env, fairChoices_fair.cas, fairChoices_fair.clock, w_frames, w_args, w_heap, w_applies, trivial, trivial, w_case⟩
end start1
theorem witness_1 : WitnessClaimed_1 := ⟨start1.p0, start1.e0, start1.about1, start1.theMethod, start1.args0, start1.below0, start1.atStart⟩
end Jvm.Pilot.@@N@@
