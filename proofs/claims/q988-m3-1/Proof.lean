import JvmDerived
import JvmDerived.Pilot.@@N@@Statement
import JvmDerived.Pilot.@@N@@Code
set_option linter.unusedVariables false
set_option linter.unusedSimpArgs false
namespace Jvm.RoadKit
open Sem ClassFile Op Lib Jvm.Stand Jvm.Free Jvm.LawKit
section New
variable {p : Program} {l : Launch} {e : Env} {R : Room} {s : State} {m : MethodId} {args : Array Value} {below : List Frame} {meth : Method} {c : Code} {T : State} {locs : List Loc} {cells slots : Nat}
theorem retI (X : Stand p l e R s m args below meth c T locs cells slots) (hx : p.tables.exec = Jvm.exec) {pc : Nat} {Ls : Array Slot} {z : Int32} {rest : List Value} (hret : meth.sig.returnType = some .int) (hd : decode c.code pc = .ok (.ireturn, 1)) {fs : List Frame}
    (hl : ∀ (f : JFrame) (acts : List Action), f.method = m → f.locked = none → f.entered = [] → (doReturn e (T.setTop f) acts (some (.int z))).1 = T.setFrames fs) : Steps p.tables e below (T.setTop (mkF m pc Ls (.int z :: rest))) (T.setFrames fs) := by
  have hm' : T.vm.method? m = some meth := X.method'
  have hn : narrow .int (.int z) = .int z := rfl
  show Steps p.tables e below (T.setTop { method := m, pc := pc, locals := Ls, stack := _ :: rest, locked := none }) _
  jvm_step X.here [X.here.top, hx, hd, hm', hret, hn]
  first | (intro acts; rw [hl _ acts rfl rfl rfl]) | rw [hl _ _ rfl rfl rfl]
  exact Steps.refl _
end New
end Jvm.RoadKit
namespace Jvm.Pilot.@@N@@
open Jvm Jvm.ClassFile Sem Op Lib Jvm.Free Jvm.Stand Jvm.LawKit Jvm.RoadKit Bundle Jvm.Pilot.@@N@@.Jvm.D
/-! the comparisons, as plain decisions -/
theorem own_w {a0 : Array Value} {Z : State} (hw : ∀ d ∈ tables_1, d.before a0 Z = true) (i : Nat) {d : Jvm.Cond} (h : tables_1[i]? = some d) : d.before a0 Z = true := hw d (List.mem_of_getElem? h)
theorem own_ilt (x y : Int32) : if_icmp.holds .lt x y = decide (x < y) := rfl
theorem own_ile (x y : Int32) : if_icmp.holds .le x y = decide (x ≤ y) := rfl
theorem own_igt (x y : Int32) : if_icmp.holds .gt x y = decide (y < x) := rfl
theorem own_ige (x y : Int32) : if_icmp.holds .ge x y = decide (y ≤ x) := rfl
theorem own_ieq (x y : Int32) : if_icmp.holds .eq x y = decide (x = y) := rfl
theorem own_ine (x y : Int32) : if_icmp.holds .ne x y = decide (x ≠ y) := by
  by_cases h : x = y
  · rw [(teq h).2]; exact (decide_eq_false (not_not_intro h)).symm
  · rw [(feq h).2]; exact (decide_eq_true h).symm
theorem own_smono {s : State} {vm : Vm} {n n' : Nat} (h : s.Since vm n) (hn : n ≤ n') : s.Since vm n' := ⟨h.1, fun j p hj hp => ⟨(h.2 j p hj hp).1, Nat.lt_of_lt_of_le (h.2 j p hj hp).2 hn⟩⟩
theorem own_d0 : FP.dconst0 = FP.l2d (0 : Int64) := by rw [l2d_zero]; rfl
theorem own_lgt (x y : Int64) : ifCond.holds .gt (lcmpW x y) = decide (y < x) := by rw [if0, own_igt]; exact decide_eq_decide.mpr (lw_gt x y)
theorem own_llt (x y : Int64) : ifCond.holds .lt (lcmpW x y) = decide (x < y) := by rw [if0, own_ilt]; exact decide_eq_decide.mpr (lw_lt x y)
theorem own_leq (x y : Int64) : ifCond.holds .eq (lcmpW x y) = decide (x = y) := by rw [if0, own_ieq]; exact decide_eq_decide.mpr (lw_eq x y)
theorem own_lne (x y : Int64) : ifCond.holds .ne (lcmpW x y) = decide (x ≠ y) := by rw [if0, own_ine]; exact decide_eq_decide.mpr (not_congr (lw_eq x y))
theorem own_lle (x y : Int64) : ifCond.holds .le (lcmpW x y) = decide (x ≤ y) := by rw [if0, own_ile]; exact decide_eq_decide.mpr (by rw [← Int32.not_lt, lw_gt, Int64.not_lt])
theorem own_lge (x y : Int64) : ifCond.holds .ge (lcmpW x y) = decide (y ≤ x) := by rw [if0, own_ige]; exact decide_eq_decide.mpr (by rw [← Int32.not_lt, lw_lt, Int64.not_lt])
theorem own_nn {x : Int32} (h : ¬ x < 0) : ifCond.holds .lt x = false := by rw [if0, own_ilt]; exact decide_eq_false h
theorem own_lt {x y : Int32} (h : x < y) : if_icmp.holds .lt x y = true := by rw [own_ilt]; exact decide_eq_true h
theorem own_nz {x : Int32} (h : ¬ x = 0) : ifCond.holds .eq x = false := by rw [if0, own_ieq]; exact decide_eq_false h
theorem own_nb (x : Int32) : x.toInt8.toInt32.toInt8.toInt32 = x.toInt8.toInt32 := by simp
theorem d1_0 : decode method_2_code 0 = .ok (.iload_n 0, 1) := by decide +kernel
theorem d1_1 : decode method_2_code 1 = .ok (.bipush 16, 2) := by decide +kernel
theorem d1_3 : decode method_2_code 3 = .ok (.iushr, 1) := by decide +kernel
theorem d1_4 : decode method_2_code 4 = .ok (.iconst 3, 1) := by decide +kernel
theorem d1_5 : decode method_2_code 5 = .ok (.iand, 1) := by decide +kernel
theorem d1_6 : decode method_2_code 6 = .ok (.istore_n 1, 1) := by decide +kernel
theorem d1_7 : decode method_2_code 7 = .ok (.iload_n 1, 1) := by decide +kernel
theorem d1_8 : decode method_2_code 8 = .ok (.ifCond .ne 8, 3) := by decide +kernel
theorem d1_16 : decode method_2_code 16 = .ok (.iload_n 1, 1) := by decide +kernel
theorem d1_17 : decode method_2_code 17 = .ok (.iconst 1, 1) := by decide +kernel
theorem d1_18 : decode method_2_code 18 = .ok (.if_icmp .ne 9, 3) := by decide +kernel
theorem d1_27 : decode method_2_code 27 = .ok (.iload_n 0, 1) := by decide +kernel
theorem d1_28 : decode method_2_code 28 = .ok (.ldc 7, 2) := by decide +kernel
theorem d1_30 : decode method_2_code 30 = .ok (.iand, 1) := by decide +kernel
theorem d1_31 : decode method_2_code 31 = .ok (.ireturn, 1) := by decide +kernel
theorem d1_21 : decode method_2_code 21 = .ok (.iload_n 0, 1) := by decide +kernel
theorem d1_22 : decode method_2_code 22 = .ok (.sipush 2047, 3) := by decide +kernel
theorem d1_25 : decode method_2_code 25 = .ok (.iand, 1) := by decide +kernel
theorem d1_26 : decode method_2_code 26 = .ok (.ireturn, 1) := by decide +kernel
theorem d1_11 : decode method_2_code 11 = .ok (.iload_n 0, 1) := by decide +kernel
theorem d1_12 : decode method_2_code 12 = .ok (.bipush 127, 2) := by decide +kernel
theorem d1_14 : decode method_2_code 14 = .ok (.iand, 1) := by decide +kernel
theorem d1_15 : decode method_2_code 15 = .ok (.ireturn, 1) := by decide +kernel
theorem ef_rm_unit (m : MethodId) (x0 : Int32) : entryFrame m #[(.int x0)] 2 = mkF m 0 #[.val (.int x0), .unset] [] := by first | (simp [entryFrame, mkF, argsToLocals, Value.category]; done) | rfl
def Q_rm_unit (Z : State) (u1 : Int32) (h0 : Heap) (n0 : Nat) (v : Option Value) (h : Heap) (L : List Loc) : Prop := v = some (.int (bif (ifCond.holds .ne (((u1.toUInt32 >>> ((16 : Int32) &&& 31).toUInt32).toInt32) &&& (3 : Int32))) then (bif (if_icmp.holds .ne (((u1.toUInt32 >>> ((16 : Int32) &&& 31).toUInt32).toInt32) &&& (3 : Int32)) (1 : Int32)) then (u1 &&& (65535 : Int32)) else (u1 &&& (2047 : Int32))) else (u1 &&& (127 : Int32)))) ∧ Fr n0 L ∧ h = h0
theorem pn_353727 : plainName "com/example/sonde/sonde/store/CurrentVersionsKeptPinLaw" = true := by first | (simp [plainName, overriddenIn]; done) | decide +kernel
set_option maxRecDepth 65536 in
set_option maxHeartbeats 40000000 in
theorem rm_unit (l : Launch) (Z : State) (a0 : Array Value) (hw : ∀ d ∈ tables_1, d.before a0 Z = true) (ws : List Jvm.Cond) (u1 : Int32) (h0 : Heap) (n0 : Nat) (Z0 : n0 ≤ h0.size) :
    MetFree l (⟨"com/example/sonde/sonde/store/CurrentVersionsKeptPinLaw", "unit", "(I)I"⟩ : MethodName) (head1 (Jvm.Cond.code (⟨"com/example/sonde/sonde/store/CurrentVersionsKeptPinLaw", "unit", "(I)I"⟩ : MethodName) method_2_code 2 (some .int) :: ws) ({ frames := 0, cells := 0, slots := 0, locals := 0 } : Room)) (fun a U => a = #[(.int u1)] ∧ Z.Warmed39 U.vm ∧ U.heap = h0) (fun _ _ _ _ _ => True) (fun _ U o U' => ∃ v L, o = .returned v ∧ Q_rm_unit Z u1 h0 n0 v U'.heap L ∧ FrameEnd U o U' L ({ frames := 0, cells := 0, slots := 0, locals := 0 } : Room).cells ({ frames := 0, cells := 0, slots := 0, locals := 0 } : Room).slots) := by
  refine MetFree.of_bodySF (plainFor_of_name pn_353727) hisR ?_
  intro p e s m args below meth c s₁ Bd hml0 hP hK
  obtain ⟨rfl, hZ, hh⟩ := hP
  have hx := Bd.exec
  have hby := Bd.bytes
  have hml : c.maxLocals = 2 := hml0
  have hown : s.vm.findClass "com/example/sonde/sonde/store/CurrentVersionsKeptPinLaw" = some m.cls := findClass_of_methodNamed Bd.named
  have hnm := (name_of_methodNamed Bd.named Bd.method).1
  have X0 : Stand p l e ({ frames := 0, cells := 0, slots := 0, locals := 0 } : Room) s m #[(.int u1)] below meth c s₁ [] 0 0 := Stand.of_body Bd
  have e0 : s₁.heap = h0 := by rw [← hh, Bd.state]; rfl
  have N0 := Fr.nil n0
  have pre0 : ∀ t, Steps p.tables e below (s₁.setTop (mkF m 0 #[.val (.int u1), .unset] [])) t → Steps p.tables e below (s₁.setTop (entryFrame m #[(.int u1)] 2)) t := fun t k => castTop (ef_rm_unit m u1) k
  have pre31 : ∀ t, Steps p.tables e below (s₁.setTop (mkF m 8 #[.val (.int u1), .val (.int (((u1.toUInt32 >>> ((16 : Int32) &&& 31).toUInt32).toInt32) &&& (3 : Int32)))] [(.int (((u1.toUInt32 >>> ((16 : Int32) &&& 31).toUInt32).toInt32) &&& (3 : Int32)))])) t → Steps p.tables e below (s₁.setTop (entryFrame m #[(.int u1)] 2)) t := by
    intro t k
    refine pre0 t ?_
    show Steps p.tables e below (s₁.setTop (mkF m 0 #[.val (.int u1), .unset] [])) _
    refine XS.iloadN X0.here hx rfl (hb hby d1_0) rfl ?_
    refine XS.bipush X0.here hx rfl (hb hby d1_1) ?_
    refine XS.iushr X0.here hx rfl (hb hby d1_3) rfl ?_
    refine XS.iconst X0.here hx rfl (hb hby d1_4) ?_
    refine XS.iand X0.here hx rfl (hb hby d1_5) rfl ?_
    refine XS.istoreN X0.here hx rfl (hb hby d1_6) rfl (l' := #[.val (.int u1), .val (.int (((u1.toUInt32 >>> ((16 : Int32) &&& 31).toUInt32).toInt32) &&& (3 : Int32)))]) rfl ?_
    refine XS.iloadN X0.here hx rfl (hb hby d1_7) rfl ?_
    exact k
  rcases Bool.eq_false_or_eq_true (ifCond.holds .ne (((u1.toUInt32 >>> ((16 : Int32) &&& 31).toUInt32).toInt32) &&& (3 : Int32))) with hb8 | hb8
  · have pre32 : ∀ t, Steps p.tables e below (s₁.setTop (mkF m 18 #[.val (.int u1), .val (.int (((u1.toUInt32 >>> ((16 : Int32) &&& 31).toUInt32).toInt32) &&& (3 : Int32)))] [(.int (1 : Int32)), (.int (((u1.toUInt32 >>> ((16 : Int32) &&& 31).toUInt32).toInt32) &&& (3 : Int32)))])) t → Steps p.tables e below (s₁.setTop (entryFrame m #[(.int u1)] 2)) t := by
      intro t k
      refine pre31 t ?_
      show Steps p.tables e below (s₁.setTop (mkF m 8 #[.val (.int u1), .val (.int (((u1.toUInt32 >>> ((16 : Int32) &&& 31).toUInt32).toInt32) &&& (3 : Int32)))] [(.int (((u1.toUInt32 >>> ((16 : Int32) &&& 31).toUInt32).toInt32) &&& (3 : Int32)))])) _
      refine XS.ifYes X0.here hx rfl (pc0 := 8) (pc' := 16) rfl (hb hby d1_8) rfl hb8 (by decide) (by decide) ?_
      show Steps p.tables e below (s₁.setTop (mkF m 16 #[.val (.int u1), .val (.int (((u1.toUInt32 >>> ((16 : Int32) &&& 31).toUInt32).toInt32) &&& (3 : Int32)))] [])) _
      refine XS.iloadN X0.here hx rfl (hb hby d1_16) rfl ?_
      refine XS.iconst X0.here hx rfl (hb hby d1_17) ?_
      exact k
    rcases Bool.eq_false_or_eq_true (if_icmp.holds .ne (((u1.toUInt32 >>> ((16 : Int32) &&& 31).toUInt32).toInt32) &&& (3 : Int32)) (1 : Int32)) with hb18 | hb18
    · obtain ⟨fs, hr, hrun, hended, hW, hsame⟩ := X0.leave (v := some (.int (u1 &&& (65535 : Int32)))) (fun h => by rw [Bd.returns] at h; cases h)
      refine ⟨_, _, pre32 _ ?_, hrun, hended, _, _, rfl, ?_, ⟨_, rfl⟩, hW, hsame.mono (by decide) (by decide)⟩
      · show Steps p.tables e below (s₁.setTop (mkF m 18 #[.val (.int u1), .val (.int (((u1.toUInt32 >>> ((16 : Int32) &&& 31).toUInt32).toInt32) &&& (3 : Int32)))] [(.int (1 : Int32)), (.int (((u1.toUInt32 >>> ((16 : Int32) &&& 31).toUInt32).toInt32) &&& (3 : Int32)))])) _
        refine XS.icmpYes X0.here hx rfl (pc0 := 18) (pc' := 27) rfl (hb hby d1_18) rfl hb18 (by decide) (by decide) ?_
        refine XS.iloadN X0.here hx rfl (hb hby d1_27) rfl ?_
        refine X0.ldcInt hx hown (mvT hZ (own_w hw 73 rfl)) (g := (mkF m 28 #[.val (.int u1), .val (.int (((u1.toUInt32 >>> ((16 : Int32) &&& 31).toUInt32).toInt32) &&& (3 : Int32)))] [(.int u1)])) rfl (hb hby d1_28) _ ?_
        refine XS.iand X0.here hx rfl (hb hby d1_30) rfl ?_
        show Steps p.tables e below (s₁.setTop (mkF m 31 #[.val (.int u1), .val (.int (((u1.toUInt32 >>> ((16 : Int32) &&& 31).toUInt32).toInt32) &&& (3 : Int32)))] [(.int (u1 &&& (65535 : Int32)))])) _
        exact retI X0 hx Bd.returns (hb hby d1_31) hr
      · show Q_rm_unit Z _ h0 n0 _ s₁.heap _
        rw [e0]
        exact ⟨(by simp only [hb8, hb18, cond_true, cond_false]), N0, rfl⟩
    · obtain ⟨fs, hr, hrun, hended, hW, hsame⟩ := X0.leave (v := some (.int (u1 &&& (2047 : Int32)))) (fun h => by rw [Bd.returns] at h; cases h)
      refine ⟨_, _, pre32 _ ?_, hrun, hended, _, _, rfl, ?_, ⟨_, rfl⟩, hW, hsame.mono (by decide) (by decide)⟩
      · show Steps p.tables e below (s₁.setTop (mkF m 18 #[.val (.int u1), .val (.int (((u1.toUInt32 >>> ((16 : Int32) &&& 31).toUInt32).toInt32) &&& (3 : Int32)))] [(.int (1 : Int32)), (.int (((u1.toUInt32 >>> ((16 : Int32) &&& 31).toUInt32).toInt32) &&& (3 : Int32)))])) _
        refine XS.icmpNo X0.here hx rfl (hb hby d1_18) rfl hb18 ?_
        refine XS.iloadN X0.here hx rfl (hb hby d1_21) rfl ?_
        refine XS.sipush X0.here hx rfl (hb hby d1_22) ?_
        refine XS.iand X0.here hx rfl (hb hby d1_25) rfl ?_
        show Steps p.tables e below (s₁.setTop (mkF m 26 #[.val (.int u1), .val (.int (((u1.toUInt32 >>> ((16 : Int32) &&& 31).toUInt32).toInt32) &&& (3 : Int32)))] [(.int (u1 &&& (2047 : Int32)))])) _
        exact retI X0 hx Bd.returns (hb hby d1_26) hr
      · show Q_rm_unit Z _ h0 n0 _ s₁.heap _
        rw [e0]
        exact ⟨(by simp only [hb8, hb18, cond_true, cond_false]), N0, rfl⟩
  · obtain ⟨fs, hr, hrun, hended, hW, hsame⟩ := X0.leave (v := some (.int (u1 &&& (127 : Int32)))) (fun h => by rw [Bd.returns] at h; cases h)
    refine ⟨_, _, pre31 _ ?_, hrun, hended, _, _, rfl, ?_, ⟨_, rfl⟩, hW, hsame.mono (by decide) (by decide)⟩
    · show Steps p.tables e below (s₁.setTop (mkF m 8 #[.val (.int u1), .val (.int (((u1.toUInt32 >>> ((16 : Int32) &&& 31).toUInt32).toInt32) &&& (3 : Int32)))] [(.int (((u1.toUInt32 >>> ((16 : Int32) &&& 31).toUInt32).toInt32) &&& (3 : Int32)))])) _
      refine XS.ifNo X0.here hx rfl (hb hby d1_8) rfl hb8 ?_
      show Steps p.tables e below (s₁.setTop (mkF m 11 #[.val (.int u1), .val (.int (((u1.toUInt32 >>> ((16 : Int32) &&& 31).toUInt32).toInt32) &&& (3 : Int32)))] [])) _
      refine XS.iloadN X0.here hx rfl (hb hby d1_11) rfl ?_
      refine XS.bipush X0.here hx rfl (hb hby d1_12) ?_
      refine XS.iand X0.here hx rfl (hb hby d1_14) rfl ?_
      show Steps p.tables e below (s₁.setTop (mkF m 15 #[.val (.int u1), .val (.int (((u1.toUInt32 >>> ((16 : Int32) &&& 31).toUInt32).toInt32) &&& (3 : Int32)))] [(.int (u1 &&& (127 : Int32)))])) _
      exact retI X0 hx Bd.returns (hb hby d1_15) hr
    · show Q_rm_unit Z _ h0 n0 _ s₁.heap _
      rw [e0]
      exact ⟨(by simp only [hb8, cond_true, cond_false]), N0, rfl⟩
theorem d7_0 : decode jdk_52_method_15_code 0 = .ok (.iload_n 1, 1) := by decide +kernel
theorem d7_1 : decode jdk_52_method_15_code 1 = .ok (.aload_n 0, 1) := by decide +kernel
theorem d7_2 : decode jdk_52_method_15_code 2 = .ok (.arraylength, 1) := by decide +kernel
theorem d7_3 : decode jdk_52_method_15_code 3 = .ok (.isub, 1) := by decide +kernel
theorem d7_4 : decode jdk_52_method_15_code 4 = .ok (.bipush 31, 2) := by decide +kernel
theorem d7_6 : decode jdk_52_method_15_code 6 = .ok (.iushr, 1) := by decide +kernel
theorem d7_7 : decode jdk_52_method_15_code 7 = .ok (.i2b, 1) := by decide +kernel
theorem d7_8 : decode jdk_52_method_15_code 8 = .ok (.ireturn, 1) := by decide +kernel
theorem ef_rm_cfl (m : MethodId) (x0 : Addr) (x1 : Int32) : entryFrame m #[(.ref x0), (.int x1)] 2 = mkF m 0 #[.val (.ref x0), .val (.int x1)] [] := by first | (simp [entryFrame, mkF, argsToLocals, Value.category]; done) | rfl
def Q_rm_cfl (Z : State) (u1 : Addr) (u2 : Int32) (kb : ClassId) (z : Int32) (vs : List Value) (h0 : Heap) (n0 : Nat) (v : Option Value) (h : Heap) (L : List Loc) : Prop := v = some (.int (nar .byte ((((u2 - z).toUInt32 >>> ((31 : Int32) &&& 31).toUInt32).toInt32).toInt8.toInt32))) ∧ Fr n0 L ∧ h = h0
theorem pn_50925 : plainName "java/lang/StringUTF16" = true := by first | (simp [plainName, overriddenIn]; done) | decide +kernel
set_option maxRecDepth 65536 in
set_option maxHeartbeats 40000000 in
theorem rm_cfl (l : Launch) (Z : State) (a0 : Array Value) (hw : ∀ d ∈ tables_1, d.before a0 Z = true) (ws : List Jvm.Cond) (u1 : Addr) (u2 : Int32) (kb : ClassId) (z : Int32) (vs : List Value) (h0 : Heap) (n0 : Nat) (Z0 : n0 ≤ h0.size) (V1 : Arv Z h0 u1 kb .byte z vs (.int (0 : Int32))) :
    MetFree l (⟨"java/lang/StringUTF16", "coderFromArrayLen", "([BI)B"⟩ : MethodName) (head1 (Jvm.Cond.code (⟨"java/lang/StringUTF16", "coderFromArrayLen", "([BI)B"⟩ : MethodName) jdk_52_method_15_code 2 (some .byte) :: ws) ({ frames := 0, cells := 0, slots := 0, locals := 0 } : Room)) (fun a U => a = #[(.ref u1), (.int u2)] ∧ Z.Warmed39 U.vm ∧ U.heap = h0) (fun _ _ _ _ _ => True) (fun _ U o U' => ∃ v L, o = .returned v ∧ Q_rm_cfl Z u1 u2 kb z vs h0 n0 v U'.heap L ∧ FrameEnd U o U' L ({ frames := 0, cells := 0, slots := 0, locals := 0 } : Room).cells ({ frames := 0, cells := 0, slots := 0, locals := 0 } : Room).slots) := by
  refine MetFree.of_bodySF (plainFor_of_name pn_50925) hisR ?_
  intro p e s m args below meth c s₁ Bd hml0 hP hK
  obtain ⟨rfl, hZ, hh⟩ := hP
  have hx := Bd.exec
  have hby := Bd.bytes
  have hml : c.maxLocals = 2 := hml0
  have hown : s.vm.findClass "java/lang/StringUTF16" = some m.cls := findClass_of_methodNamed Bd.named
  have hnm := (name_of_methodNamed Bd.named Bd.method).1
  have X0 : Stand p l e ({ frames := 0, cells := 0, slots := 0, locals := 0 } : Room) s m #[(.ref u1), (.int u2)] below meth c s₁ [] 0 0 := Stand.of_body Bd
  have e0 : s₁.heap = h0 := by rw [← hh, Bd.state]; rfl
  have N0 := Fr.nil n0
  have pre0 : ∀ t, Steps p.tables e below (s₁.setTop (mkF m 0 #[.val (.ref u1), .val (.int u2)] [])) t → Steps p.tables e below (s₁.setTop (entryFrame m #[(.ref u1), (.int u2)] 2)) t := fun t k => castTop (ef_rm_cfl m u1 u2) k
  obtain ⟨cl, Ar, -, Sz, Mz, -, -⟩ := id V1
  obtain ⟨fs, hr, hrun, hended, hW, hsame⟩ := X0.leave (v := some (.int (nar .byte ((((u2 - z).toUInt32 >>> ((31 : Int32) &&& 31).toUInt32).toInt32).toInt8.toInt32)))) (fun h => by rw [Bd.returns] at h; cases h)
  refine ⟨_, _, pre0 _ ?_, hrun, hended, _, _, rfl, ?_, ⟨_, rfl⟩, hW, hsame.mono (by decide) (by decide)⟩
  · show Steps p.tables e below (s₁.setTop (mkF m 0 #[.val (.ref u1), .val (.int u2)] [])) _
    refine XS.iloadN X0.here hx rfl (hb hby d7_0) rfl ?_
    refine XS.aloadN X0.here hx rfl (hb hby d7_1) rfl rfl ?_
    refine X0.arraylength hx (by rw [e0]; exact Ar.1) (State.isArrayOf_alike hZ.alike Ar.2.1) (g := (mkF m 2 #[.val (.ref u1), .val (.int u2)] [(.ref u1), (.int u2)])) rfl rfl (hb hby d7_2) _ ?_
    rw [len_of Sz Mz]
    refine XS.isub X0.here hx rfl (hb hby d7_3) rfl ?_
    refine XS.bipush X0.here hx rfl (hb hby d7_4) ?_
    refine XS.iushr X0.here hx rfl (hb hby d7_6) rfl ?_
    refine XS.i2b X0.here hx rfl (hb hby d7_7) rfl ?_
    show Steps p.tables e below (s₁.setTop (mkF m 8 #[.val (.ref u1), .val (.int u2)] [(.int ((((u2 - z).toUInt32 >>> ((31 : Int32) &&& 31).toUInt32).toInt32).toInt8.toInt32))])) _
    exact retN X0 hx (t := .byte) Bd.returns (by simp) (hb hby d7_8) hr
  · show Q_rm_cfl Z _ _ _ _ _ h0 n0 _ s₁.heap _
    rw [e0]
    exact ⟨rfl, N0, rfl⟩
theorem d6_0 : decode jdk_52_method_21_code 0 = .ok (.iconst 0, 1) := by decide +kernel
theorem d6_1 : decode jdk_52_method_21_code 1 = .ok (.istore 5, 2) := by decide +kernel
theorem d6_3 : decode jdk_52_method_21_code 3 = .ok (.iload 5, 2) := by decide +kernel
theorem d6_5 : decode jdk_52_method_21_code 5 = .ok (.iload 4, 2) := by decide +kernel
theorem d6_7 : decode jdk_52_method_21_code 7 = .ok (.if_icmp .ge 37, 3) := by decide +kernel
theorem d6_10 : decode jdk_52_method_21_code 10 = .ok (.aload_n 0, 1) := by decide +kernel
theorem d6_11 : decode jdk_52_method_21_code 11 = .ok (.iload_n 1, 1) := by decide +kernel
theorem d6_12 : decode jdk_52_method_21_code 12 = .ok (.caload, 1) := by decide +kernel
theorem d6_13 : decode jdk_52_method_21_code 13 = .ok (.istore 6, 2) := by decide +kernel
theorem d6_15 : decode jdk_52_method_21_code 15 = .ok (.iload 6, 2) := by decide +kernel
theorem d6_17 : decode jdk_52_method_21_code 17 = .ok (.sipush 255, 3) := by decide +kernel
theorem d6_20 : decode jdk_52_method_21_code 20 = .ok (.if_icmp .le 6, 3) := by decide +kernel
theorem d6_26 : decode jdk_52_method_21_code 26 = .ok (.aload_n 2, 1) := by decide +kernel
theorem d6_27 : decode jdk_52_method_21_code 27 = .ok (.iload_n 3, 1) := by decide +kernel
theorem d6_28 : decode jdk_52_method_21_code 28 = .ok (.iload 6, 2) := by decide +kernel
theorem d6_30 : decode jdk_52_method_21_code 30 = .ok (.i2b, 1) := by decide +kernel
theorem d6_31 : decode jdk_52_method_21_code 31 = .ok (.bastore, 1) := by decide +kernel
theorem d6_32 : decode jdk_52_method_21_code 32 = .ok (.iinc 1 1, 3) := by decide +kernel
theorem d6_35 : decode jdk_52_method_21_code 35 = .ok (.iinc 3 1, 3) := by decide +kernel
theorem d6_38 : decode jdk_52_method_21_code 38 = .ok (.iinc 5 1, 3) := by decide +kernel
theorem d6_41 : decode jdk_52_method_21_code 41 = .ok (.goto (-38), 3) := by decide +kernel
theorem d6_44 : decode jdk_52_method_21_code 44 = .ok (.iload 4, 2) := by decide +kernel
theorem d6_46 : decode jdk_52_method_21_code 46 = .ok (.ireturn, 1) := by decide +kernel
theorem ef_rm_cmp1 (m : MethodId) (x0 : Addr) (x1 : Int32) (x2 : Addr) (x3 : Int32) (x4 : Int32) : entryFrame m #[(.ref x0), (.int x1), (.ref x2), (.int x3), (.int x4)] 7 = mkF m 0 #[.val (.ref x0), .val (.int x1), .val (.ref x2), .val (.int x3), .val (.int x4), .unset, .unset] [] := by first | (simp [entryFrame, mkF, argsToLocals, Value.category]; done) | rfl
def Q_rm_cmp1 (Z : State) (u1 : Addr) (u2 : Addr) (kc : ClassId) (kb : ClassId) (c0 : Int32) (h0 : Heap) (n0 : Nat) (v : Option Value) (h : Heap) (L : List Loc) : Prop := v = some (.int (1 : Int32)) ∧ Fr n0 L ∧ Keep h0 h [u2] ∧ Arv Z h u2 kb .byte (1 : Int32) [(.int (c0.toInt8.toInt32))] (.int (0 : Int32))
set_option maxRecDepth 65536 in
set_option maxHeartbeats 40000000 in
theorem rm_cmp1 (l : Launch) (Z : State) (a0 : Array Value) (hw : ∀ d ∈ tables_1, d.before a0 Z = true) (ws : List Jvm.Cond) (u1 : Addr) (u2 : Addr) (kc : ClassId) (kb : ClassId) (c0 : Int32) (h0 : Heap) (n0 : Nat) (Z0 : n0 ≤ h0.size) (V1 : Arv Z h0 u1 kc .char (1 : Int32) [(.int c0)] (.int (0 : Int32))) (V2 : Arv Z h0 u2 kb .byte (1 : Int32) [(.int (0 : Int32))] (.int (0 : Int32))) (g2 : n0 ≤ u2) (hne : u1 ≠ u2) (k0 : if_icmp.holds .le c0 (255 : Int32) = true) :
    MetFree l (⟨"java/lang/StringUTF16", "compress", "([CI[BII)I"⟩ : MethodName) (head1 (Jvm.Cond.code (⟨"java/lang/StringUTF16", "compress", "([CI[BII)I"⟩ : MethodName) jdk_52_method_21_code 7 (some .int) :: ws) ({ frames := 0, cells := 0, slots := 0, locals := 0 } : Room)) (fun a U => a = #[(.ref u1), (.int (0 : Int32)), (.ref u2), (.int (0 : Int32)), (.int (1 : Int32))] ∧ Z.Warmed39 U.vm ∧ U.heap = h0) (fun _ _ _ _ _ => True) (fun _ U o U' => ∃ v L, o = .returned v ∧ Q_rm_cmp1 Z u1 u2 kc kb c0 h0 n0 v U'.heap L ∧ FrameEnd U o U' L ({ frames := 0, cells := 0, slots := 0, locals := 0 } : Room).cells ({ frames := 0, cells := 0, slots := 0, locals := 0 } : Room).slots) := by
  refine MetFree.of_bodySF (plainFor_of_name pn_50925) hisR ?_
  intro p e s m args below meth c s₁ Bd hml0 hP hK
  obtain ⟨rfl, hZ, hh⟩ := hP
  have hx := Bd.exec
  have hby := Bd.bytes
  have hml : c.maxLocals = 7 := hml0
  have hown : s.vm.findClass "java/lang/StringUTF16" = some m.cls := findClass_of_methodNamed Bd.named
  have hnm := (name_of_methodNamed Bd.named Bd.method).1
  have X0 : Stand p l e ({ frames := 0, cells := 0, slots := 0, locals := 0 } : Room) s m #[(.ref u1), (.int (0 : Int32)), (.ref u2), (.int (0 : Int32)), (.int (1 : Int32))] below meth c s₁ [] 0 0 := Stand.of_body Bd
  have e0 : s₁.heap = h0 := by rw [← hh, Bd.state]; rfl
  have N0 := Fr.nil n0
  have K0 : Keep h0 h0 [u2] := Keep.refl _ _
  have pre0 : ∀ t, Steps p.tables e below (s₁.setTop (mkF m 0 #[.val (.ref u1), .val (.int (0 : Int32)), .val (.ref u2), .val (.int (0 : Int32)), .val (.int (1 : Int32)), .unset, .unset] [])) t → Steps p.tables e below (s₁.setTop (entryFrame m #[(.ref u1), (.int (0 : Int32)), (.ref u2), (.int (0 : Int32)), (.int (1 : Int32))] 7)) t := fun t k => castTop (ef_rm_cmp1 m u1 (0 : Int32) u2 (0 : Int32) (1 : Int32)) k
  obtain ⟨cl31, Ar31, -, S31, M31, H31, -⟩ := id V1
  obtain ⟨cl32, Ar32, q32, S32, M32, H32, G32⟩ := id V2
  obtain ⟨T32, h32, X32, e32, W32, st32⟩ := stB X0 hx hZ e0 Ar32 (j := (0 : Int32)) (inb_of S32 ⟨by decide, by decide⟩) (g := (mkF m 31 #[.val (.ref u1), .val (.int (0 : Int32)), .val (.ref u2), .val (.int (0 : Int32)), .val (.int (1 : Int32)), .val (.int (0 : Int32)), .val (.int c0)] [(.int (c0.toInt8.toInt32)), (.int (0 : Int32)), (.ref u2)])) rfl rfl (hb hby d6_31)
  have V32 := Arv.set Ar32 q32 S32 M32 H32 G32 (fits_nar_byte _) W32 0 rfl (Nat.le_of_ble_eq_true rfl)
  have N32 := Fr.snoc X32 N0 g2
  have Z32 : n0 ≤ h32.size := Nat.le_trans Z0 (Keep.of_wr W32).1
  have K32 : Keep h0 h32 [u2] := Keep.wr K0 W32 (Or.inl (List.mem_of_getElem? (i := 0) rfl))
  have V32q : Arv Z h32 u2 kb .byte (1 : Int32) [(.int (c0.toInt8.toInt32))] (.int (0 : Int32)) := by rw [own_nb] at V32; exact V32
  obtain ⟨fs, hr, hrun, hended, hW, hsame⟩ := X32.leave (v := some (.int (1 : Int32))) (fun h => by rw [Bd.returns] at h; cases h)
  refine ⟨_, _, pre0 _ ?_, hrun, hended, _, _, rfl, ?_, ⟨_, rfl⟩, hW, hsame.mono (by decide) (by decide)⟩
  · show Steps p.tables e below (s₁.setTop (mkF m 0 #[.val (.ref u1), .val (.int (0 : Int32)), .val (.ref u2), .val (.int (0 : Int32)), .val (.int (1 : Int32)), .unset, .unset] [])) _
    refine XS.iconst X0.here hx rfl (hb hby d6_0) ?_
    refine XS.istore X0.here hx rfl (hb hby d6_1) rfl (l' := #[.val (.ref u1), .val (.int (0 : Int32)), .val (.ref u2), .val (.int (0 : Int32)), .val (.int (1 : Int32)), .val (.int (0 : Int32)), .unset]) rfl ?_
    refine XS.iload X0.here hx rfl (hb hby d6_3) rfl ?_
    refine XS.iload X0.here hx rfl (hb hby d6_5) rfl ?_
    refine XS.icmpNo X0.here hx rfl (hb hby d6_7) rfl (by decide) ?_
    refine XS.aloadN X0.here hx rfl (hb hby d6_10) rfl rfl ?_
    refine XS.iloadN X0.here hx rfl (hb hby d6_11) rfl ?_
    refine X0.caload hx (j := (0 : Int32)) (v := (.int c0)) (by rw [e0]; exact Ar31.1) (State.isArrayOf_alike hZ.alike Ar31.2.1) Ar31.2.2 (inb_of S31 ⟨by decide, by decide⟩) (H31.at (inb_of S31 ⟨by decide, by decide⟩) rfl) (g := (mkF m 12 #[.val (.ref u1), .val (.int (0 : Int32)), .val (.ref u2), .val (.int (0 : Int32)), .val (.int (1 : Int32)), .val (.int (0 : Int32)), .unset] [(.int (0 : Int32)), (.ref u1)])) rfl rfl (hb hby d6_12) _ ?_
    show Steps p.tables e below (s₁.setTop (mkF m 13 #[.val (.ref u1), .val (.int (0 : Int32)), .val (.ref u2), .val (.int (0 : Int32)), .val (.int (1 : Int32)), .val (.int (0 : Int32)), .unset] [(.int c0)])) _
    refine XS.istore X0.here hx rfl (hb hby d6_13) rfl (l' := #[.val (.ref u1), .val (.int (0 : Int32)), .val (.ref u2), .val (.int (0 : Int32)), .val (.int (1 : Int32)), .val (.int (0 : Int32)), .val (.int c0)]) rfl ?_
    refine XS.iload X0.here hx rfl (hb hby d6_15) rfl ?_
    refine XS.sipush X0.here hx rfl (hb hby d6_17) ?_
    refine XS.icmpYes X0.here hx rfl (pc0 := 20) (pc' := 26) rfl (hb hby d6_20) rfl k0 (by decide) (by decide) ?_
    refine XS.aloadN X0.here hx rfl (hb hby d6_26) rfl rfl ?_
    refine XS.iloadN X0.here hx rfl (hb hby d6_27) rfl ?_
    refine XS.iload X0.here hx rfl (hb hby d6_28) rfl ?_
    refine XS.i2b X0.here hx rfl (hb hby d6_30) rfl ?_
    show Steps p.tables e below (s₁.setTop (mkF m 31 #[.val (.ref u1), .val (.int (0 : Int32)), .val (.ref u2), .val (.int (0 : Int32)), .val (.int (1 : Int32)), .val (.int (0 : Int32)), .val (.int c0)] [(.int (c0.toInt8.toInt32)), (.int (0 : Int32)), (.ref u2)])) _
    refine st32 _ ?_
    refine XS.iinc X32.here hx rfl (hb hby d6_32) rfl (l' := #[.val (.ref u1), .val (.int (1 : Int32)), .val (.ref u2), .val (.int (0 : Int32)), .val (.int (1 : Int32)), .val (.int (0 : Int32)), .val (.int c0)]) rfl ?_
    refine XS.iinc X32.here hx rfl (hb hby d6_35) rfl (l' := #[.val (.ref u1), .val (.int (1 : Int32)), .val (.ref u2), .val (.int (1 : Int32)), .val (.int (1 : Int32)), .val (.int (0 : Int32)), .val (.int c0)]) rfl ?_
    refine XS.iinc X32.here hx rfl (hb hby d6_38) rfl (l' := #[.val (.ref u1), .val (.int (1 : Int32)), .val (.ref u2), .val (.int (1 : Int32)), .val (.int (1 : Int32)), .val (.int (1 : Int32)), .val (.int c0)]) rfl ?_
    refine XS.goto X32.here hx rfl (pc0 := 41) (pc' := 3) rfl (hb hby d6_41) (by decide) (by decide) ?_
    refine XS.iload X32.here hx rfl (hb hby d6_3) rfl ?_
    refine XS.iload X32.here hx rfl (hb hby d6_5) rfl ?_
    refine XS.icmpYes X32.here hx rfl (pc0 := 7) (pc' := 44) rfl (hb hby d6_7) rfl (by decide) (by decide) (by decide) ?_
    show Steps p.tables e below (T32.setTop (mkF m 44 #[.val (.ref u1), .val (.int (1 : Int32)), .val (.ref u2), .val (.int (1 : Int32)), .val (.int (1 : Int32)), .val (.int (1 : Int32)), .val (.int c0)] [])) _
    refine XS.iload X32.here hx rfl (hb hby d6_44) rfl ?_
    show Steps p.tables e below (T32.setTop (mkF m 46 #[.val (.ref u1), .val (.int (1 : Int32)), .val (.ref u2), .val (.int (1 : Int32)), .val (.int (1 : Int32)), .val (.int (1 : Int32)), .val (.int c0)] [(.int (1 : Int32))])) _
    exact retI X32 hx Bd.returns (hb hby d6_46) hr
  · show Q_rm_cmp1 Z _ _ _ _ _ h0 n0 _ T32.heap _
    rw [e32]
    exact ⟨rfl, N32, K32, V32q⟩
theorem d6_23 : decode jdk_52_method_21_code 23 = .ok (.iload 5, 2) := by decide +kernel
theorem d6_25 : decode jdk_52_method_21_code 25 = .ok (.ireturn, 1) := by decide +kernel
theorem ef_rm_cmp1_0 (m : MethodId) (x0 : Addr) (x1 : Int32) (x2 : Addr) (x3 : Int32) (x4 : Int32) : entryFrame m #[(.ref x0), (.int x1), (.ref x2), (.int x3), (.int x4)] 7 = mkF m 0 #[.val (.ref x0), .val (.int x1), .val (.ref x2), .val (.int x3), .val (.int x4), .unset, .unset] [] := by first | (simp [entryFrame, mkF, argsToLocals, Value.category]; done) | rfl
def Q_rm_cmp1_0 (Z : State) (u1 : Addr) (u2 : Addr) (kc : ClassId) (kb : ClassId) (c0 : Int32) (h0 : Heap) (n0 : Nat) (v : Option Value) (h : Heap) (L : List Loc) : Prop := v = some (.int (0 : Int32)) ∧ Fr n0 L ∧ Keep h0 h [u2]
set_option maxRecDepth 65536 in
set_option maxHeartbeats 40000000 in
theorem rm_cmp1_0 (l : Launch) (Z : State) (a0 : Array Value) (hw : ∀ d ∈ tables_1, d.before a0 Z = true) (ws : List Jvm.Cond) (u1 : Addr) (u2 : Addr) (kc : ClassId) (kb : ClassId) (c0 : Int32) (h0 : Heap) (n0 : Nat) (Z0 : n0 ≤ h0.size) (V1 : Arv Z h0 u1 kc .char (1 : Int32) [(.int c0)] (.int (0 : Int32))) (V2 : Arv Z h0 u2 kb .byte (1 : Int32) [(.int (0 : Int32))] (.int (0 : Int32))) (g2 : n0 ≤ u2) (hne : u1 ≠ u2) (k0 : if_icmp.holds .le c0 (255 : Int32) = false) :
    MetFree l (⟨"java/lang/StringUTF16", "compress", "([CI[BII)I"⟩ : MethodName) (head1 (Jvm.Cond.code (⟨"java/lang/StringUTF16", "compress", "([CI[BII)I"⟩ : MethodName) jdk_52_method_21_code 7 (some .int) :: ws) ({ frames := 0, cells := 0, slots := 0, locals := 0 } : Room)) (fun a U => a = #[(.ref u1), (.int (0 : Int32)), (.ref u2), (.int (0 : Int32)), (.int (1 : Int32))] ∧ Z.Warmed39 U.vm ∧ U.heap = h0) (fun _ _ _ _ _ => True) (fun _ U o U' => ∃ v L, o = .returned v ∧ Q_rm_cmp1_0 Z u1 u2 kc kb c0 h0 n0 v U'.heap L ∧ FrameEnd U o U' L ({ frames := 0, cells := 0, slots := 0, locals := 0 } : Room).cells ({ frames := 0, cells := 0, slots := 0, locals := 0 } : Room).slots) := by
  refine MetFree.of_bodySF (plainFor_of_name pn_50925) hisR ?_
  intro p e s m args below meth c s₁ Bd hml0 hP hK
  obtain ⟨rfl, hZ, hh⟩ := hP
  have hx := Bd.exec
  have hby := Bd.bytes
  have hml : c.maxLocals = 7 := hml0
  have hown : s.vm.findClass "java/lang/StringUTF16" = some m.cls := findClass_of_methodNamed Bd.named
  have hnm := (name_of_methodNamed Bd.named Bd.method).1
  have X0 : Stand p l e ({ frames := 0, cells := 0, slots := 0, locals := 0 } : Room) s m #[(.ref u1), (.int (0 : Int32)), (.ref u2), (.int (0 : Int32)), (.int (1 : Int32))] below meth c s₁ [] 0 0 := Stand.of_body Bd
  have e0 : s₁.heap = h0 := by rw [← hh, Bd.state]; rfl
  have N0 := Fr.nil n0
  have K0 : Keep h0 h0 [u2] := Keep.refl _ _
  have pre0 : ∀ t, Steps p.tables e below (s₁.setTop (mkF m 0 #[.val (.ref u1), .val (.int (0 : Int32)), .val (.ref u2), .val (.int (0 : Int32)), .val (.int (1 : Int32)), .unset, .unset] [])) t → Steps p.tables e below (s₁.setTop (entryFrame m #[(.ref u1), (.int (0 : Int32)), (.ref u2), (.int (0 : Int32)), (.int (1 : Int32))] 7)) t := fun t k => castTop (ef_rm_cmp1_0 m u1 (0 : Int32) u2 (0 : Int32) (1 : Int32)) k
  obtain ⟨cl31, Ar31, -, S31, M31, H31, -⟩ := id V1
  obtain ⟨fs, hr, hrun, hended, hW, hsame⟩ := X0.leave (v := some (.int (0 : Int32))) (fun h => by rw [Bd.returns] at h; cases h)
  refine ⟨_, _, pre0 _ ?_, hrun, hended, _, _, rfl, ?_, ⟨_, rfl⟩, hW, hsame.mono (by decide) (by decide)⟩
  · show Steps p.tables e below (s₁.setTop (mkF m 0 #[.val (.ref u1), .val (.int (0 : Int32)), .val (.ref u2), .val (.int (0 : Int32)), .val (.int (1 : Int32)), .unset, .unset] [])) _
    refine XS.iconst X0.here hx rfl (hb hby d6_0) ?_
    refine XS.istore X0.here hx rfl (hb hby d6_1) rfl (l' := #[.val (.ref u1), .val (.int (0 : Int32)), .val (.ref u2), .val (.int (0 : Int32)), .val (.int (1 : Int32)), .val (.int (0 : Int32)), .unset]) rfl ?_
    refine XS.iload X0.here hx rfl (hb hby d6_3) rfl ?_
    refine XS.iload X0.here hx rfl (hb hby d6_5) rfl ?_
    refine XS.icmpNo X0.here hx rfl (hb hby d6_7) rfl (by decide) ?_
    refine XS.aloadN X0.here hx rfl (hb hby d6_10) rfl rfl ?_
    refine XS.iloadN X0.here hx rfl (hb hby d6_11) rfl ?_
    refine X0.caload hx (j := (0 : Int32)) (v := (.int c0)) (by rw [e0]; exact Ar31.1) (State.isArrayOf_alike hZ.alike Ar31.2.1) Ar31.2.2 (inb_of S31 ⟨by decide, by decide⟩) (H31.at (inb_of S31 ⟨by decide, by decide⟩) rfl) (g := (mkF m 12 #[.val (.ref u1), .val (.int (0 : Int32)), .val (.ref u2), .val (.int (0 : Int32)), .val (.int (1 : Int32)), .val (.int (0 : Int32)), .unset] [(.int (0 : Int32)), (.ref u1)])) rfl rfl (hb hby d6_12) _ ?_
    show Steps p.tables e below (s₁.setTop (mkF m 13 #[.val (.ref u1), .val (.int (0 : Int32)), .val (.ref u2), .val (.int (0 : Int32)), .val (.int (1 : Int32)), .val (.int (0 : Int32)), .unset] [(.int c0)])) _
    refine XS.istore X0.here hx rfl (hb hby d6_13) rfl (l' := #[.val (.ref u1), .val (.int (0 : Int32)), .val (.ref u2), .val (.int (0 : Int32)), .val (.int (1 : Int32)), .val (.int (0 : Int32)), .val (.int c0)]) rfl ?_
    refine XS.iload X0.here hx rfl (hb hby d6_15) rfl ?_
    refine XS.sipush X0.here hx rfl (hb hby d6_17) ?_
    refine XS.icmpNo X0.here hx rfl (hb hby d6_20) rfl k0 ?_
    refine XS.iload X0.here hx rfl (hb hby d6_23) rfl ?_
    show Steps p.tables e below (s₁.setTop (mkF m 25 #[.val (.ref u1), .val (.int (0 : Int32)), .val (.ref u2), .val (.int (0 : Int32)), .val (.int (1 : Int32)), .val (.int (0 : Int32)), .val (.int c0)] [(.int (0 : Int32))])) _
    exact retI X0 hx Bd.returns (hb hby d6_25) hr
  · show Q_rm_cmp1_0 Z _ _ _ _ _ h0 n0 _ s₁.heap _
    rw [e0]
    exact ⟨rfl, N0, K0⟩
theorem ef_rm_cmp2 (m : MethodId) (x0 : Addr) (x1 : Int32) (x2 : Addr) (x3 : Int32) (x4 : Int32) : entryFrame m #[(.ref x0), (.int x1), (.ref x2), (.int x3), (.int x4)] 7 = mkF m 0 #[.val (.ref x0), .val (.int x1), .val (.ref x2), .val (.int x3), .val (.int x4), .unset, .unset] [] := by first | (simp [entryFrame, mkF, argsToLocals, Value.category]; done) | rfl
def Q_rm_cmp2 (Z : State) (u1 : Addr) (u2 : Addr) (kc : ClassId) (kb : ClassId) (c0 : Int32) (c1 : Int32) (h0 : Heap) (n0 : Nat) (v : Option Value) (h : Heap) (L : List Loc) : Prop := v = some (.int (2 : Int32)) ∧ Fr n0 L ∧ Keep h0 h [u2] ∧ Arv Z h u2 kb .byte (2 : Int32) [(.int (c0.toInt8.toInt32)), (.int (c1.toInt8.toInt32))] (.int (0 : Int32))
set_option maxRecDepth 65536 in
set_option maxHeartbeats 40000000 in
theorem rm_cmp2 (l : Launch) (Z : State) (a0 : Array Value) (hw : ∀ d ∈ tables_1, d.before a0 Z = true) (ws : List Jvm.Cond) (u1 : Addr) (u2 : Addr) (kc : ClassId) (kb : ClassId) (c0 : Int32) (c1 : Int32) (h0 : Heap) (n0 : Nat) (Z0 : n0 ≤ h0.size) (V1 : Arv Z h0 u1 kc .char (2 : Int32) [(.int c0), (.int c1)] (.int (0 : Int32))) (V2 : Arv Z h0 u2 kb .byte (2 : Int32) [(.int (0 : Int32)), (.int (0 : Int32))] (.int (0 : Int32))) (g2 : n0 ≤ u2) (hne : u1 ≠ u2) (k0 : if_icmp.holds .le c0 (255 : Int32) = true) (k1 : if_icmp.holds .le c1 (255 : Int32) = true) :
    MetFree l (⟨"java/lang/StringUTF16", "compress", "([CI[BII)I"⟩ : MethodName) (head1 (Jvm.Cond.code (⟨"java/lang/StringUTF16", "compress", "([CI[BII)I"⟩ : MethodName) jdk_52_method_21_code 7 (some .int) :: ws) ({ frames := 0, cells := 0, slots := 0, locals := 0 } : Room)) (fun a U => a = #[(.ref u1), (.int (0 : Int32)), (.ref u2), (.int (0 : Int32)), (.int (2 : Int32))] ∧ Z.Warmed39 U.vm ∧ U.heap = h0) (fun _ _ _ _ _ => True) (fun _ U o U' => ∃ v L, o = .returned v ∧ Q_rm_cmp2 Z u1 u2 kc kb c0 c1 h0 n0 v U'.heap L ∧ FrameEnd U o U' L ({ frames := 0, cells := 0, slots := 0, locals := 0 } : Room).cells ({ frames := 0, cells := 0, slots := 0, locals := 0 } : Room).slots) := by
  refine MetFree.of_bodySF (plainFor_of_name pn_50925) hisR ?_
  intro p e s m args below meth c s₁ Bd hml0 hP hK
  obtain ⟨rfl, hZ, hh⟩ := hP
  have hx := Bd.exec
  have hby := Bd.bytes
  have hml : c.maxLocals = 7 := hml0
  have hown : s.vm.findClass "java/lang/StringUTF16" = some m.cls := findClass_of_methodNamed Bd.named
  have hnm := (name_of_methodNamed Bd.named Bd.method).1
  have X0 : Stand p l e ({ frames := 0, cells := 0, slots := 0, locals := 0 } : Room) s m #[(.ref u1), (.int (0 : Int32)), (.ref u2), (.int (0 : Int32)), (.int (2 : Int32))] below meth c s₁ [] 0 0 := Stand.of_body Bd
  have e0 : s₁.heap = h0 := by rw [← hh, Bd.state]; rfl
  have N0 := Fr.nil n0
  have K0 : Keep h0 h0 [u2] := Keep.refl _ _
  have pre0 : ∀ t, Steps p.tables e below (s₁.setTop (mkF m 0 #[.val (.ref u1), .val (.int (0 : Int32)), .val (.ref u2), .val (.int (0 : Int32)), .val (.int (2 : Int32)), .unset, .unset] [])) t → Steps p.tables e below (s₁.setTop (entryFrame m #[(.ref u1), (.int (0 : Int32)), (.ref u2), (.int (0 : Int32)), (.int (2 : Int32))] 7)) t := fun t k => castTop (ef_rm_cmp2 m u1 (0 : Int32) u2 (0 : Int32) (2 : Int32)) k
  obtain ⟨cl31, Ar31, -, S31, M31, H31, -⟩ := id V1
  obtain ⟨cl32, Ar32, q32, S32, M32, H32, G32⟩ := id V2
  obtain ⟨T32, h32, X32, e32, W32, st32⟩ := stB X0 hx hZ e0 Ar32 (j := (0 : Int32)) (inb_of S32 ⟨by decide, by decide⟩) (g := (mkF m 31 #[.val (.ref u1), .val (.int (0 : Int32)), .val (.ref u2), .val (.int (0 : Int32)), .val (.int (2 : Int32)), .val (.int (0 : Int32)), .val (.int c0)] [(.int (c0.toInt8.toInt32)), (.int (0 : Int32)), (.ref u2)])) rfl rfl (hb hby d6_31)
  have V32 := Arv.set Ar32 q32 S32 M32 H32 G32 (fits_nar_byte _) W32 0 rfl (Nat.le_of_ble_eq_true rfl)
  have N32 := Fr.snoc X32 N0 g2
  have Z32 : n0 ≤ h32.size := Nat.le_trans Z0 (Keep.of_wr W32).1
  have K32 : Keep h0 h32 [u2] := Keep.wr K0 W32 (Or.inl (List.mem_of_getElem? (i := 0) rfl))
  have V32q : Arv Z h32 u2 kb .byte (2 : Int32) [(.int (c0.toInt8.toInt32)), (.int (0 : Int32))] (.int (0 : Int32)) := by rw [own_nb] at V32; exact V32
  obtain ⟨cl33, Ar33, -, S33, M33, H33, -⟩ := id (V1.other W32 hne)
  obtain ⟨cl34, Ar34, q34, S34, M34, H34, G34⟩ := id V32q
  obtain ⟨T34, h34, X34, e34, W34, st34⟩ := stB X32 hx hZ e32 Ar34 (j := (1 : Int32)) (inb_of S34 ⟨by decide, by decide⟩) (g := (mkF m 31 #[.val (.ref u1), .val (.int (1 : Int32)), .val (.ref u2), .val (.int (1 : Int32)), .val (.int (2 : Int32)), .val (.int (1 : Int32)), .val (.int c1)] [(.int (c1.toInt8.toInt32)), (.int (1 : Int32)), (.ref u2)])) rfl rfl (hb hby d6_31)
  have V34 := Arv.set Ar34 q34 S34 M34 H34 G34 (fits_nar_byte _) W34 1 rfl (Nat.le_of_ble_eq_true rfl)
  have N34 := Fr.snoc X34 N32 g2
  have Z34 : n0 ≤ h34.size := Nat.le_trans Z32 (Keep.of_wr W34).1
  have K34 : Keep h0 h34 [u2] := Keep.wr K32 W34 (Or.inl (List.mem_of_getElem? (i := 0) rfl))
  have V34q : Arv Z h34 u2 kb .byte (2 : Int32) [(.int (c0.toInt8.toInt32)), (.int (c1.toInt8.toInt32))] (.int (0 : Int32)) := by rw [own_nb] at V34; exact V34
  obtain ⟨fs, hr, hrun, hended, hW, hsame⟩ := X34.leave (v := some (.int (2 : Int32))) (fun h => by rw [Bd.returns] at h; cases h)
  refine ⟨_, _, pre0 _ ?_, hrun, hended, _, _, rfl, ?_, ⟨_, rfl⟩, hW, hsame.mono (by decide) (by decide)⟩
  · show Steps p.tables e below (s₁.setTop (mkF m 0 #[.val (.ref u1), .val (.int (0 : Int32)), .val (.ref u2), .val (.int (0 : Int32)), .val (.int (2 : Int32)), .unset, .unset] [])) _
    refine XS.iconst X0.here hx rfl (hb hby d6_0) ?_
    refine XS.istore X0.here hx rfl (hb hby d6_1) rfl (l' := #[.val (.ref u1), .val (.int (0 : Int32)), .val (.ref u2), .val (.int (0 : Int32)), .val (.int (2 : Int32)), .val (.int (0 : Int32)), .unset]) rfl ?_
    refine XS.iload X0.here hx rfl (hb hby d6_3) rfl ?_
    refine XS.iload X0.here hx rfl (hb hby d6_5) rfl ?_
    refine XS.icmpNo X0.here hx rfl (hb hby d6_7) rfl (by decide) ?_
    refine XS.aloadN X0.here hx rfl (hb hby d6_10) rfl rfl ?_
    refine XS.iloadN X0.here hx rfl (hb hby d6_11) rfl ?_
    refine X0.caload hx (j := (0 : Int32)) (v := (.int c0)) (by rw [e0]; exact Ar31.1) (State.isArrayOf_alike hZ.alike Ar31.2.1) Ar31.2.2 (inb_of S31 ⟨by decide, by decide⟩) (H31.at (inb_of S31 ⟨by decide, by decide⟩) rfl) (g := (mkF m 12 #[.val (.ref u1), .val (.int (0 : Int32)), .val (.ref u2), .val (.int (0 : Int32)), .val (.int (2 : Int32)), .val (.int (0 : Int32)), .unset] [(.int (0 : Int32)), (.ref u1)])) rfl rfl (hb hby d6_12) _ ?_
    show Steps p.tables e below (s₁.setTop (mkF m 13 #[.val (.ref u1), .val (.int (0 : Int32)), .val (.ref u2), .val (.int (0 : Int32)), .val (.int (2 : Int32)), .val (.int (0 : Int32)), .unset] [(.int c0)])) _
    refine XS.istore X0.here hx rfl (hb hby d6_13) rfl (l' := #[.val (.ref u1), .val (.int (0 : Int32)), .val (.ref u2), .val (.int (0 : Int32)), .val (.int (2 : Int32)), .val (.int (0 : Int32)), .val (.int c0)]) rfl ?_
    refine XS.iload X0.here hx rfl (hb hby d6_15) rfl ?_
    refine XS.sipush X0.here hx rfl (hb hby d6_17) ?_
    refine XS.icmpYes X0.here hx rfl (pc0 := 20) (pc' := 26) rfl (hb hby d6_20) rfl k0 (by decide) (by decide) ?_
    refine XS.aloadN X0.here hx rfl (hb hby d6_26) rfl rfl ?_
    refine XS.iloadN X0.here hx rfl (hb hby d6_27) rfl ?_
    refine XS.iload X0.here hx rfl (hb hby d6_28) rfl ?_
    refine XS.i2b X0.here hx rfl (hb hby d6_30) rfl ?_
    show Steps p.tables e below (s₁.setTop (mkF m 31 #[.val (.ref u1), .val (.int (0 : Int32)), .val (.ref u2), .val (.int (0 : Int32)), .val (.int (2 : Int32)), .val (.int (0 : Int32)), .val (.int c0)] [(.int (c0.toInt8.toInt32)), (.int (0 : Int32)), (.ref u2)])) _
    refine st32 _ ?_
    refine XS.iinc X32.here hx rfl (hb hby d6_32) rfl (l' := #[.val (.ref u1), .val (.int (1 : Int32)), .val (.ref u2), .val (.int (0 : Int32)), .val (.int (2 : Int32)), .val (.int (0 : Int32)), .val (.int c0)]) rfl ?_
    refine XS.iinc X32.here hx rfl (hb hby d6_35) rfl (l' := #[.val (.ref u1), .val (.int (1 : Int32)), .val (.ref u2), .val (.int (1 : Int32)), .val (.int (2 : Int32)), .val (.int (0 : Int32)), .val (.int c0)]) rfl ?_
    refine XS.iinc X32.here hx rfl (hb hby d6_38) rfl (l' := #[.val (.ref u1), .val (.int (1 : Int32)), .val (.ref u2), .val (.int (1 : Int32)), .val (.int (2 : Int32)), .val (.int (1 : Int32)), .val (.int c0)]) rfl ?_
    refine XS.goto X32.here hx rfl (pc0 := 41) (pc' := 3) rfl (hb hby d6_41) (by decide) (by decide) ?_
    refine XS.iload X32.here hx rfl (hb hby d6_3) rfl ?_
    refine XS.iload X32.here hx rfl (hb hby d6_5) rfl ?_
    refine XS.icmpNo X32.here hx rfl (hb hby d6_7) rfl (by decide) ?_
    show Steps p.tables e below (T32.setTop (mkF m 10 #[.val (.ref u1), .val (.int (1 : Int32)), .val (.ref u2), .val (.int (1 : Int32)), .val (.int (2 : Int32)), .val (.int (1 : Int32)), .val (.int c0)] [])) _
    refine XS.aloadN X32.here hx rfl (hb hby d6_10) rfl rfl ?_
    refine XS.iloadN X32.here hx rfl (hb hby d6_11) rfl ?_
    refine X32.caload hx (j := (1 : Int32)) (v := (.int c1)) (by rw [e32]; exact Ar33.1) (State.isArrayOf_alike hZ.alike Ar33.2.1) Ar33.2.2 (inb_of S33 ⟨by decide, by decide⟩) (H33.at (inb_of S33 ⟨by decide, by decide⟩) rfl) (g := (mkF m 12 #[.val (.ref u1), .val (.int (1 : Int32)), .val (.ref u2), .val (.int (1 : Int32)), .val (.int (2 : Int32)), .val (.int (1 : Int32)), .val (.int c0)] [(.int (1 : Int32)), (.ref u1)])) rfl rfl (hb hby d6_12) _ ?_
    refine XS.istore X32.here hx rfl (hb hby d6_13) rfl (l' := #[.val (.ref u1), .val (.int (1 : Int32)), .val (.ref u2), .val (.int (1 : Int32)), .val (.int (2 : Int32)), .val (.int (1 : Int32)), .val (.int c1)]) rfl ?_
    refine XS.iload X32.here hx rfl (hb hby d6_15) rfl ?_
    refine XS.sipush X32.here hx rfl (hb hby d6_17) ?_
    refine XS.icmpYes X32.here hx rfl (pc0 := 20) (pc' := 26) rfl (hb hby d6_20) rfl k1 (by decide) (by decide) ?_
    refine XS.aloadN X32.here hx rfl (hb hby d6_26) rfl rfl ?_
    show Steps p.tables e below (T32.setTop (mkF m 27 #[.val (.ref u1), .val (.int (1 : Int32)), .val (.ref u2), .val (.int (1 : Int32)), .val (.int (2 : Int32)), .val (.int (1 : Int32)), .val (.int c1)] [(.ref u2)])) _
    refine XS.iloadN X32.here hx rfl (hb hby d6_27) rfl ?_
    refine XS.iload X32.here hx rfl (hb hby d6_28) rfl ?_
    refine XS.i2b X32.here hx rfl (hb hby d6_30) rfl ?_
    refine st34 _ ?_
    refine XS.iinc X34.here hx rfl (hb hby d6_32) rfl (l' := #[.val (.ref u1), .val (.int (2 : Int32)), .val (.ref u2), .val (.int (1 : Int32)), .val (.int (2 : Int32)), .val (.int (1 : Int32)), .val (.int c1)]) rfl ?_
    refine XS.iinc X34.here hx rfl (hb hby d6_35) rfl (l' := #[.val (.ref u1), .val (.int (2 : Int32)), .val (.ref u2), .val (.int (2 : Int32)), .val (.int (2 : Int32)), .val (.int (1 : Int32)), .val (.int c1)]) rfl ?_
    refine XS.iinc X34.here hx rfl (hb hby d6_38) rfl (l' := #[.val (.ref u1), .val (.int (2 : Int32)), .val (.ref u2), .val (.int (2 : Int32)), .val (.int (2 : Int32)), .val (.int (2 : Int32)), .val (.int c1)]) rfl ?_
    refine XS.goto X34.here hx rfl (pc0 := 41) (pc' := 3) rfl (hb hby d6_41) (by decide) (by decide) ?_
    show Steps p.tables e below (T34.setTop (mkF m 3 #[.val (.ref u1), .val (.int (2 : Int32)), .val (.ref u2), .val (.int (2 : Int32)), .val (.int (2 : Int32)), .val (.int (2 : Int32)), .val (.int c1)] [])) _
    refine XS.iload X34.here hx rfl (hb hby d6_3) rfl ?_
    refine XS.iload X34.here hx rfl (hb hby d6_5) rfl ?_
    refine XS.icmpYes X34.here hx rfl (pc0 := 7) (pc' := 44) rfl (hb hby d6_7) rfl (by decide) (by decide) (by decide) ?_
    refine XS.iload X34.here hx rfl (hb hby d6_44) rfl ?_
    show Steps p.tables e below (T34.setTop (mkF m 46 #[.val (.ref u1), .val (.int (2 : Int32)), .val (.ref u2), .val (.int (2 : Int32)), .val (.int (2 : Int32)), .val (.int (2 : Int32)), .val (.int c1)] [(.int (2 : Int32))])) _
    exact retI X34 hx Bd.returns (hb hby d6_46) hr
  · show Q_rm_cmp2 Z _ _ _ _ _ _ h0 n0 _ T34.heap _
    rw [e34]
    exact ⟨rfl, N34, K34, V34q⟩
theorem ef_rm_cmp2_0 (m : MethodId) (x0 : Addr) (x1 : Int32) (x2 : Addr) (x3 : Int32) (x4 : Int32) : entryFrame m #[(.ref x0), (.int x1), (.ref x2), (.int x3), (.int x4)] 7 = mkF m 0 #[.val (.ref x0), .val (.int x1), .val (.ref x2), .val (.int x3), .val (.int x4), .unset, .unset] [] := by first | (simp [entryFrame, mkF, argsToLocals, Value.category]; done) | rfl
def Q_rm_cmp2_0 (Z : State) (u1 : Addr) (u2 : Addr) (kc : ClassId) (kb : ClassId) (c0 : Int32) (c1 : Int32) (h0 : Heap) (n0 : Nat) (v : Option Value) (h : Heap) (L : List Loc) : Prop := v = some (.int (0 : Int32)) ∧ Fr n0 L ∧ Keep h0 h [u2]
set_option maxRecDepth 65536 in
set_option maxHeartbeats 40000000 in
theorem rm_cmp2_0 (l : Launch) (Z : State) (a0 : Array Value) (hw : ∀ d ∈ tables_1, d.before a0 Z = true) (ws : List Jvm.Cond) (u1 : Addr) (u2 : Addr) (kc : ClassId) (kb : ClassId) (c0 : Int32) (c1 : Int32) (h0 : Heap) (n0 : Nat) (Z0 : n0 ≤ h0.size) (V1 : Arv Z h0 u1 kc .char (2 : Int32) [(.int c0), (.int c1)] (.int (0 : Int32))) (V2 : Arv Z h0 u2 kb .byte (2 : Int32) [(.int (0 : Int32)), (.int (0 : Int32))] (.int (0 : Int32))) (g2 : n0 ≤ u2) (hne : u1 ≠ u2) (k0 : if_icmp.holds .le c0 (255 : Int32) = false) :
    MetFree l (⟨"java/lang/StringUTF16", "compress", "([CI[BII)I"⟩ : MethodName) (head1 (Jvm.Cond.code (⟨"java/lang/StringUTF16", "compress", "([CI[BII)I"⟩ : MethodName) jdk_52_method_21_code 7 (some .int) :: ws) ({ frames := 0, cells := 0, slots := 0, locals := 0 } : Room)) (fun a U => a = #[(.ref u1), (.int (0 : Int32)), (.ref u2), (.int (0 : Int32)), (.int (2 : Int32))] ∧ Z.Warmed39 U.vm ∧ U.heap = h0) (fun _ _ _ _ _ => True) (fun _ U o U' => ∃ v L, o = .returned v ∧ Q_rm_cmp2_0 Z u1 u2 kc kb c0 c1 h0 n0 v U'.heap L ∧ FrameEnd U o U' L ({ frames := 0, cells := 0, slots := 0, locals := 0 } : Room).cells ({ frames := 0, cells := 0, slots := 0, locals := 0 } : Room).slots) := by
  refine MetFree.of_bodySF (plainFor_of_name pn_50925) hisR ?_
  intro p e s m args below meth c s₁ Bd hml0 hP hK
  obtain ⟨rfl, hZ, hh⟩ := hP
  have hx := Bd.exec
  have hby := Bd.bytes
  have hml : c.maxLocals = 7 := hml0
  have hown : s.vm.findClass "java/lang/StringUTF16" = some m.cls := findClass_of_methodNamed Bd.named
  have hnm := (name_of_methodNamed Bd.named Bd.method).1
  have X0 : Stand p l e ({ frames := 0, cells := 0, slots := 0, locals := 0 } : Room) s m #[(.ref u1), (.int (0 : Int32)), (.ref u2), (.int (0 : Int32)), (.int (2 : Int32))] below meth c s₁ [] 0 0 := Stand.of_body Bd
  have e0 : s₁.heap = h0 := by rw [← hh, Bd.state]; rfl
  have N0 := Fr.nil n0
  have K0 : Keep h0 h0 [u2] := Keep.refl _ _
  have pre0 : ∀ t, Steps p.tables e below (s₁.setTop (mkF m 0 #[.val (.ref u1), .val (.int (0 : Int32)), .val (.ref u2), .val (.int (0 : Int32)), .val (.int (2 : Int32)), .unset, .unset] [])) t → Steps p.tables e below (s₁.setTop (entryFrame m #[(.ref u1), (.int (0 : Int32)), (.ref u2), (.int (0 : Int32)), (.int (2 : Int32))] 7)) t := fun t k => castTop (ef_rm_cmp2_0 m u1 (0 : Int32) u2 (0 : Int32) (2 : Int32)) k
  obtain ⟨cl31, Ar31, -, S31, M31, H31, -⟩ := id V1
  obtain ⟨fs, hr, hrun, hended, hW, hsame⟩ := X0.leave (v := some (.int (0 : Int32))) (fun h => by rw [Bd.returns] at h; cases h)
  refine ⟨_, _, pre0 _ ?_, hrun, hended, _, _, rfl, ?_, ⟨_, rfl⟩, hW, hsame.mono (by decide) (by decide)⟩
  · show Steps p.tables e below (s₁.setTop (mkF m 0 #[.val (.ref u1), .val (.int (0 : Int32)), .val (.ref u2), .val (.int (0 : Int32)), .val (.int (2 : Int32)), .unset, .unset] [])) _
    refine XS.iconst X0.here hx rfl (hb hby d6_0) ?_
    refine XS.istore X0.here hx rfl (hb hby d6_1) rfl (l' := #[.val (.ref u1), .val (.int (0 : Int32)), .val (.ref u2), .val (.int (0 : Int32)), .val (.int (2 : Int32)), .val (.int (0 : Int32)), .unset]) rfl ?_
    refine XS.iload X0.here hx rfl (hb hby d6_3) rfl ?_
    refine XS.iload X0.here hx rfl (hb hby d6_5) rfl ?_
    refine XS.icmpNo X0.here hx rfl (hb hby d6_7) rfl (by decide) ?_
    refine XS.aloadN X0.here hx rfl (hb hby d6_10) rfl rfl ?_
    refine XS.iloadN X0.here hx rfl (hb hby d6_11) rfl ?_
    refine X0.caload hx (j := (0 : Int32)) (v := (.int c0)) (by rw [e0]; exact Ar31.1) (State.isArrayOf_alike hZ.alike Ar31.2.1) Ar31.2.2 (inb_of S31 ⟨by decide, by decide⟩) (H31.at (inb_of S31 ⟨by decide, by decide⟩) rfl) (g := (mkF m 12 #[.val (.ref u1), .val (.int (0 : Int32)), .val (.ref u2), .val (.int (0 : Int32)), .val (.int (2 : Int32)), .val (.int (0 : Int32)), .unset] [(.int (0 : Int32)), (.ref u1)])) rfl rfl (hb hby d6_12) _ ?_
    show Steps p.tables e below (s₁.setTop (mkF m 13 #[.val (.ref u1), .val (.int (0 : Int32)), .val (.ref u2), .val (.int (0 : Int32)), .val (.int (2 : Int32)), .val (.int (0 : Int32)), .unset] [(.int c0)])) _
    refine XS.istore X0.here hx rfl (hb hby d6_13) rfl (l' := #[.val (.ref u1), .val (.int (0 : Int32)), .val (.ref u2), .val (.int (0 : Int32)), .val (.int (2 : Int32)), .val (.int (0 : Int32)), .val (.int c0)]) rfl ?_
    refine XS.iload X0.here hx rfl (hb hby d6_15) rfl ?_
    refine XS.sipush X0.here hx rfl (hb hby d6_17) ?_
    refine XS.icmpNo X0.here hx rfl (hb hby d6_20) rfl k0 ?_
    refine XS.iload X0.here hx rfl (hb hby d6_23) rfl ?_
    show Steps p.tables e below (s₁.setTop (mkF m 25 #[.val (.ref u1), .val (.int (0 : Int32)), .val (.ref u2), .val (.int (0 : Int32)), .val (.int (2 : Int32)), .val (.int (0 : Int32)), .val (.int c0)] [(.int (0 : Int32))])) _
    exact retI X0 hx Bd.returns (hb hby d6_25) hr
  · show Q_rm_cmp2_0 Z _ _ _ _ _ _ h0 n0 _ s₁.heap _
    rw [e0]
    exact ⟨rfl, N0, K0⟩
theorem ef_rm_cmp2_1 (m : MethodId) (x0 : Addr) (x1 : Int32) (x2 : Addr) (x3 : Int32) (x4 : Int32) : entryFrame m #[(.ref x0), (.int x1), (.ref x2), (.int x3), (.int x4)] 7 = mkF m 0 #[.val (.ref x0), .val (.int x1), .val (.ref x2), .val (.int x3), .val (.int x4), .unset, .unset] [] := by first | (simp [entryFrame, mkF, argsToLocals, Value.category]; done) | rfl
def Q_rm_cmp2_1 (Z : State) (u1 : Addr) (u2 : Addr) (kc : ClassId) (kb : ClassId) (c0 : Int32) (c1 : Int32) (h0 : Heap) (n0 : Nat) (v : Option Value) (h : Heap) (L : List Loc) : Prop := v = some (.int (1 : Int32)) ∧ Fr n0 L ∧ Keep h0 h [u2]
set_option maxRecDepth 65536 in
set_option maxHeartbeats 40000000 in
theorem rm_cmp2_1 (l : Launch) (Z : State) (a0 : Array Value) (hw : ∀ d ∈ tables_1, d.before a0 Z = true) (ws : List Jvm.Cond) (u1 : Addr) (u2 : Addr) (kc : ClassId) (kb : ClassId) (c0 : Int32) (c1 : Int32) (h0 : Heap) (n0 : Nat) (Z0 : n0 ≤ h0.size) (V1 : Arv Z h0 u1 kc .char (2 : Int32) [(.int c0), (.int c1)] (.int (0 : Int32))) (V2 : Arv Z h0 u2 kb .byte (2 : Int32) [(.int (0 : Int32)), (.int (0 : Int32))] (.int (0 : Int32))) (g2 : n0 ≤ u2) (hne : u1 ≠ u2) (k0 : if_icmp.holds .le c0 (255 : Int32) = true) (k1 : if_icmp.holds .le c1 (255 : Int32) = false) :
    MetFree l (⟨"java/lang/StringUTF16", "compress", "([CI[BII)I"⟩ : MethodName) (head1 (Jvm.Cond.code (⟨"java/lang/StringUTF16", "compress", "([CI[BII)I"⟩ : MethodName) jdk_52_method_21_code 7 (some .int) :: ws) ({ frames := 0, cells := 0, slots := 0, locals := 0 } : Room)) (fun a U => a = #[(.ref u1), (.int (0 : Int32)), (.ref u2), (.int (0 : Int32)), (.int (2 : Int32))] ∧ Z.Warmed39 U.vm ∧ U.heap = h0) (fun _ _ _ _ _ => True) (fun _ U o U' => ∃ v L, o = .returned v ∧ Q_rm_cmp2_1 Z u1 u2 kc kb c0 c1 h0 n0 v U'.heap L ∧ FrameEnd U o U' L ({ frames := 0, cells := 0, slots := 0, locals := 0 } : Room).cells ({ frames := 0, cells := 0, slots := 0, locals := 0 } : Room).slots) := by
  refine MetFree.of_bodySF (plainFor_of_name pn_50925) hisR ?_
  intro p e s m args below meth c s₁ Bd hml0 hP hK
  obtain ⟨rfl, hZ, hh⟩ := hP
  have hx := Bd.exec
  have hby := Bd.bytes
  have hml : c.maxLocals = 7 := hml0
  have hown : s.vm.findClass "java/lang/StringUTF16" = some m.cls := findClass_of_methodNamed Bd.named
  have hnm := (name_of_methodNamed Bd.named Bd.method).1
  have X0 : Stand p l e ({ frames := 0, cells := 0, slots := 0, locals := 0 } : Room) s m #[(.ref u1), (.int (0 : Int32)), (.ref u2), (.int (0 : Int32)), (.int (2 : Int32))] below meth c s₁ [] 0 0 := Stand.of_body Bd
  have e0 : s₁.heap = h0 := by rw [← hh, Bd.state]; rfl
  have N0 := Fr.nil n0
  have K0 : Keep h0 h0 [u2] := Keep.refl _ _
  have pre0 : ∀ t, Steps p.tables e below (s₁.setTop (mkF m 0 #[.val (.ref u1), .val (.int (0 : Int32)), .val (.ref u2), .val (.int (0 : Int32)), .val (.int (2 : Int32)), .unset, .unset] [])) t → Steps p.tables e below (s₁.setTop (entryFrame m #[(.ref u1), (.int (0 : Int32)), (.ref u2), (.int (0 : Int32)), (.int (2 : Int32))] 7)) t := fun t k => castTop (ef_rm_cmp2_1 m u1 (0 : Int32) u2 (0 : Int32) (2 : Int32)) k
  obtain ⟨cl31, Ar31, -, S31, M31, H31, -⟩ := id V1
  obtain ⟨cl32, Ar32, q32, S32, M32, H32, G32⟩ := id V2
  obtain ⟨T32, h32, X32, e32, W32, st32⟩ := stB X0 hx hZ e0 Ar32 (j := (0 : Int32)) (inb_of S32 ⟨by decide, by decide⟩) (g := (mkF m 31 #[.val (.ref u1), .val (.int (0 : Int32)), .val (.ref u2), .val (.int (0 : Int32)), .val (.int (2 : Int32)), .val (.int (0 : Int32)), .val (.int c0)] [(.int (c0.toInt8.toInt32)), (.int (0 : Int32)), (.ref u2)])) rfl rfl (hb hby d6_31)
  have V32 := Arv.set Ar32 q32 S32 M32 H32 G32 (fits_nar_byte _) W32 0 rfl (Nat.le_of_ble_eq_true rfl)
  have N32 := Fr.snoc X32 N0 g2
  have Z32 : n0 ≤ h32.size := Nat.le_trans Z0 (Keep.of_wr W32).1
  have K32 : Keep h0 h32 [u2] := Keep.wr K0 W32 (Or.inl (List.mem_of_getElem? (i := 0) rfl))
  have V32q : Arv Z h32 u2 kb .byte (2 : Int32) [(.int (c0.toInt8.toInt32)), (.int (0 : Int32))] (.int (0 : Int32)) := by rw [own_nb] at V32; exact V32
  obtain ⟨cl33, Ar33, -, S33, M33, H33, -⟩ := id (V1.other W32 hne)
  obtain ⟨fs, hr, hrun, hended, hW, hsame⟩ := X32.leave (v := some (.int (1 : Int32))) (fun h => by rw [Bd.returns] at h; cases h)
  refine ⟨_, _, pre0 _ ?_, hrun, hended, _, _, rfl, ?_, ⟨_, rfl⟩, hW, hsame.mono (by decide) (by decide)⟩
  · show Steps p.tables e below (s₁.setTop (mkF m 0 #[.val (.ref u1), .val (.int (0 : Int32)), .val (.ref u2), .val (.int (0 : Int32)), .val (.int (2 : Int32)), .unset, .unset] [])) _
    refine XS.iconst X0.here hx rfl (hb hby d6_0) ?_
    refine XS.istore X0.here hx rfl (hb hby d6_1) rfl (l' := #[.val (.ref u1), .val (.int (0 : Int32)), .val (.ref u2), .val (.int (0 : Int32)), .val (.int (2 : Int32)), .val (.int (0 : Int32)), .unset]) rfl ?_
    refine XS.iload X0.here hx rfl (hb hby d6_3) rfl ?_
    refine XS.iload X0.here hx rfl (hb hby d6_5) rfl ?_
    refine XS.icmpNo X0.here hx rfl (hb hby d6_7) rfl (by decide) ?_
    refine XS.aloadN X0.here hx rfl (hb hby d6_10) rfl rfl ?_
    refine XS.iloadN X0.here hx rfl (hb hby d6_11) rfl ?_
    refine X0.caload hx (j := (0 : Int32)) (v := (.int c0)) (by rw [e0]; exact Ar31.1) (State.isArrayOf_alike hZ.alike Ar31.2.1) Ar31.2.2 (inb_of S31 ⟨by decide, by decide⟩) (H31.at (inb_of S31 ⟨by decide, by decide⟩) rfl) (g := (mkF m 12 #[.val (.ref u1), .val (.int (0 : Int32)), .val (.ref u2), .val (.int (0 : Int32)), .val (.int (2 : Int32)), .val (.int (0 : Int32)), .unset] [(.int (0 : Int32)), (.ref u1)])) rfl rfl (hb hby d6_12) _ ?_
    show Steps p.tables e below (s₁.setTop (mkF m 13 #[.val (.ref u1), .val (.int (0 : Int32)), .val (.ref u2), .val (.int (0 : Int32)), .val (.int (2 : Int32)), .val (.int (0 : Int32)), .unset] [(.int c0)])) _
    refine XS.istore X0.here hx rfl (hb hby d6_13) rfl (l' := #[.val (.ref u1), .val (.int (0 : Int32)), .val (.ref u2), .val (.int (0 : Int32)), .val (.int (2 : Int32)), .val (.int (0 : Int32)), .val (.int c0)]) rfl ?_
    refine XS.iload X0.here hx rfl (hb hby d6_15) rfl ?_
    refine XS.sipush X0.here hx rfl (hb hby d6_17) ?_
    refine XS.icmpYes X0.here hx rfl (pc0 := 20) (pc' := 26) rfl (hb hby d6_20) rfl k0 (by decide) (by decide) ?_
    refine XS.aloadN X0.here hx rfl (hb hby d6_26) rfl rfl ?_
    refine XS.iloadN X0.here hx rfl (hb hby d6_27) rfl ?_
    refine XS.iload X0.here hx rfl (hb hby d6_28) rfl ?_
    refine XS.i2b X0.here hx rfl (hb hby d6_30) rfl ?_
    show Steps p.tables e below (s₁.setTop (mkF m 31 #[.val (.ref u1), .val (.int (0 : Int32)), .val (.ref u2), .val (.int (0 : Int32)), .val (.int (2 : Int32)), .val (.int (0 : Int32)), .val (.int c0)] [(.int (c0.toInt8.toInt32)), (.int (0 : Int32)), (.ref u2)])) _
    refine st32 _ ?_
    refine XS.iinc X32.here hx rfl (hb hby d6_32) rfl (l' := #[.val (.ref u1), .val (.int (1 : Int32)), .val (.ref u2), .val (.int (0 : Int32)), .val (.int (2 : Int32)), .val (.int (0 : Int32)), .val (.int c0)]) rfl ?_
    refine XS.iinc X32.here hx rfl (hb hby d6_35) rfl (l' := #[.val (.ref u1), .val (.int (1 : Int32)), .val (.ref u2), .val (.int (1 : Int32)), .val (.int (2 : Int32)), .val (.int (0 : Int32)), .val (.int c0)]) rfl ?_
    refine XS.iinc X32.here hx rfl (hb hby d6_38) rfl (l' := #[.val (.ref u1), .val (.int (1 : Int32)), .val (.ref u2), .val (.int (1 : Int32)), .val (.int (2 : Int32)), .val (.int (1 : Int32)), .val (.int c0)]) rfl ?_
    refine XS.goto X32.here hx rfl (pc0 := 41) (pc' := 3) rfl (hb hby d6_41) (by decide) (by decide) ?_
    refine XS.iload X32.here hx rfl (hb hby d6_3) rfl ?_
    refine XS.iload X32.here hx rfl (hb hby d6_5) rfl ?_
    refine XS.icmpNo X32.here hx rfl (hb hby d6_7) rfl (by decide) ?_
    show Steps p.tables e below (T32.setTop (mkF m 10 #[.val (.ref u1), .val (.int (1 : Int32)), .val (.ref u2), .val (.int (1 : Int32)), .val (.int (2 : Int32)), .val (.int (1 : Int32)), .val (.int c0)] [])) _
    refine XS.aloadN X32.here hx rfl (hb hby d6_10) rfl rfl ?_
    refine XS.iloadN X32.here hx rfl (hb hby d6_11) rfl ?_
    refine X32.caload hx (j := (1 : Int32)) (v := (.int c1)) (by rw [e32]; exact Ar33.1) (State.isArrayOf_alike hZ.alike Ar33.2.1) Ar33.2.2 (inb_of S33 ⟨by decide, by decide⟩) (H33.at (inb_of S33 ⟨by decide, by decide⟩) rfl) (g := (mkF m 12 #[.val (.ref u1), .val (.int (1 : Int32)), .val (.ref u2), .val (.int (1 : Int32)), .val (.int (2 : Int32)), .val (.int (1 : Int32)), .val (.int c0)] [(.int (1 : Int32)), (.ref u1)])) rfl rfl (hb hby d6_12) _ ?_
    refine XS.istore X32.here hx rfl (hb hby d6_13) rfl (l' := #[.val (.ref u1), .val (.int (1 : Int32)), .val (.ref u2), .val (.int (1 : Int32)), .val (.int (2 : Int32)), .val (.int (1 : Int32)), .val (.int c1)]) rfl ?_
    refine XS.iload X32.here hx rfl (hb hby d6_15) rfl ?_
    refine XS.sipush X32.here hx rfl (hb hby d6_17) ?_
    refine XS.icmpNo X32.here hx rfl (hb hby d6_20) rfl k1 ?_
    refine XS.iload X32.here hx rfl (hb hby d6_23) rfl ?_
    show Steps p.tables e below (T32.setTop (mkF m 25 #[.val (.ref u1), .val (.int (1 : Int32)), .val (.ref u2), .val (.int (1 : Int32)), .val (.int (2 : Int32)), .val (.int (1 : Int32)), .val (.int c1)] [(.int (1 : Int32))])) _
    exact retI X32 hx Bd.returns (hb hby d6_25) hr
  · show Q_rm_cmp2_1 Z _ _ _ _ _ _ h0 n0 _ T32.heap _
    rw [e32]
    exact ⟨rfl, N32, K32⟩
theorem ef_rm_cmp3 (m : MethodId) (x0 : Addr) (x1 : Int32) (x2 : Addr) (x3 : Int32) (x4 : Int32) : entryFrame m #[(.ref x0), (.int x1), (.ref x2), (.int x3), (.int x4)] 7 = mkF m 0 #[.val (.ref x0), .val (.int x1), .val (.ref x2), .val (.int x3), .val (.int x4), .unset, .unset] [] := by first | (simp [entryFrame, mkF, argsToLocals, Value.category]; done) | rfl
def Q_rm_cmp3 (Z : State) (u1 : Addr) (u2 : Addr) (kc : ClassId) (kb : ClassId) (c0 : Int32) (c1 : Int32) (c2 : Int32) (h0 : Heap) (n0 : Nat) (v : Option Value) (h : Heap) (L : List Loc) : Prop := v = some (.int (3 : Int32)) ∧ Fr n0 L ∧ Keep h0 h [u2] ∧ Arv Z h u2 kb .byte (3 : Int32) [(.int (c0.toInt8.toInt32)), (.int (c1.toInt8.toInt32)), (.int (c2.toInt8.toInt32))] (.int (0 : Int32))
set_option maxRecDepth 65536 in
set_option maxHeartbeats 40000000 in
theorem rm_cmp3 (l : Launch) (Z : State) (a0 : Array Value) (hw : ∀ d ∈ tables_1, d.before a0 Z = true) (ws : List Jvm.Cond) (u1 : Addr) (u2 : Addr) (kc : ClassId) (kb : ClassId) (c0 : Int32) (c1 : Int32) (c2 : Int32) (h0 : Heap) (n0 : Nat) (Z0 : n0 ≤ h0.size) (V1 : Arv Z h0 u1 kc .char (3 : Int32) [(.int c0), (.int c1), (.int c2)] (.int (0 : Int32))) (V2 : Arv Z h0 u2 kb .byte (3 : Int32) [(.int (0 : Int32)), (.int (0 : Int32)), (.int (0 : Int32))] (.int (0 : Int32))) (g2 : n0 ≤ u2) (hne : u1 ≠ u2) (k0 : if_icmp.holds .le c0 (255 : Int32) = true) (k1 : if_icmp.holds .le c1 (255 : Int32) = true) (k2 : if_icmp.holds .le c2 (255 : Int32) = true) :
    MetFree l (⟨"java/lang/StringUTF16", "compress", "([CI[BII)I"⟩ : MethodName) (head1 (Jvm.Cond.code (⟨"java/lang/StringUTF16", "compress", "([CI[BII)I"⟩ : MethodName) jdk_52_method_21_code 7 (some .int) :: ws) ({ frames := 0, cells := 0, slots := 0, locals := 0 } : Room)) (fun a U => a = #[(.ref u1), (.int (0 : Int32)), (.ref u2), (.int (0 : Int32)), (.int (3 : Int32))] ∧ Z.Warmed39 U.vm ∧ U.heap = h0) (fun _ _ _ _ _ => True) (fun _ U o U' => ∃ v L, o = .returned v ∧ Q_rm_cmp3 Z u1 u2 kc kb c0 c1 c2 h0 n0 v U'.heap L ∧ FrameEnd U o U' L ({ frames := 0, cells := 0, slots := 0, locals := 0 } : Room).cells ({ frames := 0, cells := 0, slots := 0, locals := 0 } : Room).slots) := by
  refine MetFree.of_bodySF (plainFor_of_name pn_50925) hisR ?_
  intro p e s m args below meth c s₁ Bd hml0 hP hK
  obtain ⟨rfl, hZ, hh⟩ := hP
  have hx := Bd.exec
  have hby := Bd.bytes
  have hml : c.maxLocals = 7 := hml0
  have hown : s.vm.findClass "java/lang/StringUTF16" = some m.cls := findClass_of_methodNamed Bd.named
  have hnm := (name_of_methodNamed Bd.named Bd.method).1
  have X0 : Stand p l e ({ frames := 0, cells := 0, slots := 0, locals := 0 } : Room) s m #[(.ref u1), (.int (0 : Int32)), (.ref u2), (.int (0 : Int32)), (.int (3 : Int32))] below meth c s₁ [] 0 0 := Stand.of_body Bd
  have e0 : s₁.heap = h0 := by rw [← hh, Bd.state]; rfl
  have N0 := Fr.nil n0
  have K0 : Keep h0 h0 [u2] := Keep.refl _ _
  have pre0 : ∀ t, Steps p.tables e below (s₁.setTop (mkF m 0 #[.val (.ref u1), .val (.int (0 : Int32)), .val (.ref u2), .val (.int (0 : Int32)), .val (.int (3 : Int32)), .unset, .unset] [])) t → Steps p.tables e below (s₁.setTop (entryFrame m #[(.ref u1), (.int (0 : Int32)), (.ref u2), (.int (0 : Int32)), (.int (3 : Int32))] 7)) t := fun t k => castTop (ef_rm_cmp3 m u1 (0 : Int32) u2 (0 : Int32) (3 : Int32)) k
  obtain ⟨cl31, Ar31, -, S31, M31, H31, -⟩ := id V1
  obtain ⟨cl32, Ar32, q32, S32, M32, H32, G32⟩ := id V2
  obtain ⟨T32, h32, X32, e32, W32, st32⟩ := stB X0 hx hZ e0 Ar32 (j := (0 : Int32)) (inb_of S32 ⟨by decide, by decide⟩) (g := (mkF m 31 #[.val (.ref u1), .val (.int (0 : Int32)), .val (.ref u2), .val (.int (0 : Int32)), .val (.int (3 : Int32)), .val (.int (0 : Int32)), .val (.int c0)] [(.int (c0.toInt8.toInt32)), (.int (0 : Int32)), (.ref u2)])) rfl rfl (hb hby d6_31)
  have V32 := Arv.set Ar32 q32 S32 M32 H32 G32 (fits_nar_byte _) W32 0 rfl (Nat.le_of_ble_eq_true rfl)
  have N32 := Fr.snoc X32 N0 g2
  have Z32 : n0 ≤ h32.size := Nat.le_trans Z0 (Keep.of_wr W32).1
  have K32 : Keep h0 h32 [u2] := Keep.wr K0 W32 (Or.inl (List.mem_of_getElem? (i := 0) rfl))
  have V32q : Arv Z h32 u2 kb .byte (3 : Int32) [(.int (c0.toInt8.toInt32)), (.int (0 : Int32)), (.int (0 : Int32))] (.int (0 : Int32)) := by rw [own_nb] at V32; exact V32
  obtain ⟨cl33, Ar33, -, S33, M33, H33, -⟩ := id (V1.other W32 hne)
  obtain ⟨cl34, Ar34, q34, S34, M34, H34, G34⟩ := id V32q
  obtain ⟨T34, h34, X34, e34, W34, st34⟩ := stB X32 hx hZ e32 Ar34 (j := (1 : Int32)) (inb_of S34 ⟨by decide, by decide⟩) (g := (mkF m 31 #[.val (.ref u1), .val (.int (1 : Int32)), .val (.ref u2), .val (.int (1 : Int32)), .val (.int (3 : Int32)), .val (.int (1 : Int32)), .val (.int c1)] [(.int (c1.toInt8.toInt32)), (.int (1 : Int32)), (.ref u2)])) rfl rfl (hb hby d6_31)
  have V34 := Arv.set Ar34 q34 S34 M34 H34 G34 (fits_nar_byte _) W34 1 rfl (Nat.le_of_ble_eq_true rfl)
  have N34 := Fr.snoc X34 N32 g2
  have Z34 : n0 ≤ h34.size := Nat.le_trans Z32 (Keep.of_wr W34).1
  have K34 : Keep h0 h34 [u2] := Keep.wr K32 W34 (Or.inl (List.mem_of_getElem? (i := 0) rfl))
  have V34q : Arv Z h34 u2 kb .byte (3 : Int32) [(.int (c0.toInt8.toInt32)), (.int (c1.toInt8.toInt32)), (.int (0 : Int32))] (.int (0 : Int32)) := by rw [own_nb] at V34; exact V34
  obtain ⟨cl35, Ar35, -, S35, M35, H35, -⟩ := id ((V1.other W32 hne).other W34 hne)
  obtain ⟨cl36, Ar36, q36, S36, M36, H36, G36⟩ := id V34q
  obtain ⟨T36, h36, X36, e36, W36, st36⟩ := stB X34 hx hZ e34 Ar36 (j := (2 : Int32)) (inb_of S36 ⟨by decide, by decide⟩) (g := (mkF m 31 #[.val (.ref u1), .val (.int (2 : Int32)), .val (.ref u2), .val (.int (2 : Int32)), .val (.int (3 : Int32)), .val (.int (2 : Int32)), .val (.int c2)] [(.int (c2.toInt8.toInt32)), (.int (2 : Int32)), (.ref u2)])) rfl rfl (hb hby d6_31)
  have V36 := Arv.set Ar36 q36 S36 M36 H36 G36 (fits_nar_byte _) W36 2 rfl (Nat.le_of_ble_eq_true rfl)
  have N36 := Fr.snoc X36 N34 g2
  have Z36 : n0 ≤ h36.size := Nat.le_trans Z34 (Keep.of_wr W36).1
  have K36 : Keep h0 h36 [u2] := Keep.wr K34 W36 (Or.inl (List.mem_of_getElem? (i := 0) rfl))
  have V36q : Arv Z h36 u2 kb .byte (3 : Int32) [(.int (c0.toInt8.toInt32)), (.int (c1.toInt8.toInt32)), (.int (c2.toInt8.toInt32))] (.int (0 : Int32)) := by rw [own_nb] at V36; exact V36
  obtain ⟨fs, hr, hrun, hended, hW, hsame⟩ := X36.leave (v := some (.int (3 : Int32))) (fun h => by rw [Bd.returns] at h; cases h)
  refine ⟨_, _, pre0 _ ?_, hrun, hended, _, _, rfl, ?_, ⟨_, rfl⟩, hW, hsame.mono (by decide) (by decide)⟩
  · show Steps p.tables e below (s₁.setTop (mkF m 0 #[.val (.ref u1), .val (.int (0 : Int32)), .val (.ref u2), .val (.int (0 : Int32)), .val (.int (3 : Int32)), .unset, .unset] [])) _
    refine XS.iconst X0.here hx rfl (hb hby d6_0) ?_
    refine XS.istore X0.here hx rfl (hb hby d6_1) rfl (l' := #[.val (.ref u1), .val (.int (0 : Int32)), .val (.ref u2), .val (.int (0 : Int32)), .val (.int (3 : Int32)), .val (.int (0 : Int32)), .unset]) rfl ?_
    refine XS.iload X0.here hx rfl (hb hby d6_3) rfl ?_
    refine XS.iload X0.here hx rfl (hb hby d6_5) rfl ?_
    refine XS.icmpNo X0.here hx rfl (hb hby d6_7) rfl (by decide) ?_
    refine XS.aloadN X0.here hx rfl (hb hby d6_10) rfl rfl ?_
    refine XS.iloadN X0.here hx rfl (hb hby d6_11) rfl ?_
    refine X0.caload hx (j := (0 : Int32)) (v := (.int c0)) (by rw [e0]; exact Ar31.1) (State.isArrayOf_alike hZ.alike Ar31.2.1) Ar31.2.2 (inb_of S31 ⟨by decide, by decide⟩) (H31.at (inb_of S31 ⟨by decide, by decide⟩) rfl) (g := (mkF m 12 #[.val (.ref u1), .val (.int (0 : Int32)), .val (.ref u2), .val (.int (0 : Int32)), .val (.int (3 : Int32)), .val (.int (0 : Int32)), .unset] [(.int (0 : Int32)), (.ref u1)])) rfl rfl (hb hby d6_12) _ ?_
    show Steps p.tables e below (s₁.setTop (mkF m 13 #[.val (.ref u1), .val (.int (0 : Int32)), .val (.ref u2), .val (.int (0 : Int32)), .val (.int (3 : Int32)), .val (.int (0 : Int32)), .unset] [(.int c0)])) _
    refine XS.istore X0.here hx rfl (hb hby d6_13) rfl (l' := #[.val (.ref u1), .val (.int (0 : Int32)), .val (.ref u2), .val (.int (0 : Int32)), .val (.int (3 : Int32)), .val (.int (0 : Int32)), .val (.int c0)]) rfl ?_
    refine XS.iload X0.here hx rfl (hb hby d6_15) rfl ?_
    refine XS.sipush X0.here hx rfl (hb hby d6_17) ?_
    refine XS.icmpYes X0.here hx rfl (pc0 := 20) (pc' := 26) rfl (hb hby d6_20) rfl k0 (by decide) (by decide) ?_
    refine XS.aloadN X0.here hx rfl (hb hby d6_26) rfl rfl ?_
    refine XS.iloadN X0.here hx rfl (hb hby d6_27) rfl ?_
    refine XS.iload X0.here hx rfl (hb hby d6_28) rfl ?_
    refine XS.i2b X0.here hx rfl (hb hby d6_30) rfl ?_
    show Steps p.tables e below (s₁.setTop (mkF m 31 #[.val (.ref u1), .val (.int (0 : Int32)), .val (.ref u2), .val (.int (0 : Int32)), .val (.int (3 : Int32)), .val (.int (0 : Int32)), .val (.int c0)] [(.int (c0.toInt8.toInt32)), (.int (0 : Int32)), (.ref u2)])) _
    refine st32 _ ?_
    refine XS.iinc X32.here hx rfl (hb hby d6_32) rfl (l' := #[.val (.ref u1), .val (.int (1 : Int32)), .val (.ref u2), .val (.int (0 : Int32)), .val (.int (3 : Int32)), .val (.int (0 : Int32)), .val (.int c0)]) rfl ?_
    refine XS.iinc X32.here hx rfl (hb hby d6_35) rfl (l' := #[.val (.ref u1), .val (.int (1 : Int32)), .val (.ref u2), .val (.int (1 : Int32)), .val (.int (3 : Int32)), .val (.int (0 : Int32)), .val (.int c0)]) rfl ?_
    refine XS.iinc X32.here hx rfl (hb hby d6_38) rfl (l' := #[.val (.ref u1), .val (.int (1 : Int32)), .val (.ref u2), .val (.int (1 : Int32)), .val (.int (3 : Int32)), .val (.int (1 : Int32)), .val (.int c0)]) rfl ?_
    refine XS.goto X32.here hx rfl (pc0 := 41) (pc' := 3) rfl (hb hby d6_41) (by decide) (by decide) ?_
    refine XS.iload X32.here hx rfl (hb hby d6_3) rfl ?_
    refine XS.iload X32.here hx rfl (hb hby d6_5) rfl ?_
    refine XS.icmpNo X32.here hx rfl (hb hby d6_7) rfl (by decide) ?_
    show Steps p.tables e below (T32.setTop (mkF m 10 #[.val (.ref u1), .val (.int (1 : Int32)), .val (.ref u2), .val (.int (1 : Int32)), .val (.int (3 : Int32)), .val (.int (1 : Int32)), .val (.int c0)] [])) _
    refine XS.aloadN X32.here hx rfl (hb hby d6_10) rfl rfl ?_
    refine XS.iloadN X32.here hx rfl (hb hby d6_11) rfl ?_
    refine X32.caload hx (j := (1 : Int32)) (v := (.int c1)) (by rw [e32]; exact Ar33.1) (State.isArrayOf_alike hZ.alike Ar33.2.1) Ar33.2.2 (inb_of S33 ⟨by decide, by decide⟩) (H33.at (inb_of S33 ⟨by decide, by decide⟩) rfl) (g := (mkF m 12 #[.val (.ref u1), .val (.int (1 : Int32)), .val (.ref u2), .val (.int (1 : Int32)), .val (.int (3 : Int32)), .val (.int (1 : Int32)), .val (.int c0)] [(.int (1 : Int32)), (.ref u1)])) rfl rfl (hb hby d6_12) _ ?_
    refine XS.istore X32.here hx rfl (hb hby d6_13) rfl (l' := #[.val (.ref u1), .val (.int (1 : Int32)), .val (.ref u2), .val (.int (1 : Int32)), .val (.int (3 : Int32)), .val (.int (1 : Int32)), .val (.int c1)]) rfl ?_
    refine XS.iload X32.here hx rfl (hb hby d6_15) rfl ?_
    refine XS.sipush X32.here hx rfl (hb hby d6_17) ?_
    refine XS.icmpYes X32.here hx rfl (pc0 := 20) (pc' := 26) rfl (hb hby d6_20) rfl k1 (by decide) (by decide) ?_
    refine XS.aloadN X32.here hx rfl (hb hby d6_26) rfl rfl ?_
    show Steps p.tables e below (T32.setTop (mkF m 27 #[.val (.ref u1), .val (.int (1 : Int32)), .val (.ref u2), .val (.int (1 : Int32)), .val (.int (3 : Int32)), .val (.int (1 : Int32)), .val (.int c1)] [(.ref u2)])) _
    refine XS.iloadN X32.here hx rfl (hb hby d6_27) rfl ?_
    refine XS.iload X32.here hx rfl (hb hby d6_28) rfl ?_
    refine XS.i2b X32.here hx rfl (hb hby d6_30) rfl ?_
    refine st34 _ ?_
    refine XS.iinc X34.here hx rfl (hb hby d6_32) rfl (l' := #[.val (.ref u1), .val (.int (2 : Int32)), .val (.ref u2), .val (.int (1 : Int32)), .val (.int (3 : Int32)), .val (.int (1 : Int32)), .val (.int c1)]) rfl ?_
    refine XS.iinc X34.here hx rfl (hb hby d6_35) rfl (l' := #[.val (.ref u1), .val (.int (2 : Int32)), .val (.ref u2), .val (.int (2 : Int32)), .val (.int (3 : Int32)), .val (.int (1 : Int32)), .val (.int c1)]) rfl ?_
    refine XS.iinc X34.here hx rfl (hb hby d6_38) rfl (l' := #[.val (.ref u1), .val (.int (2 : Int32)), .val (.ref u2), .val (.int (2 : Int32)), .val (.int (3 : Int32)), .val (.int (2 : Int32)), .val (.int c1)]) rfl ?_
    refine XS.goto X34.here hx rfl (pc0 := 41) (pc' := 3) rfl (hb hby d6_41) (by decide) (by decide) ?_
    show Steps p.tables e below (T34.setTop (mkF m 3 #[.val (.ref u1), .val (.int (2 : Int32)), .val (.ref u2), .val (.int (2 : Int32)), .val (.int (3 : Int32)), .val (.int (2 : Int32)), .val (.int c1)] [])) _
    refine XS.iload X34.here hx rfl (hb hby d6_3) rfl ?_
    refine XS.iload X34.here hx rfl (hb hby d6_5) rfl ?_
    refine XS.icmpNo X34.here hx rfl (hb hby d6_7) rfl (by decide) ?_
    refine XS.aloadN X34.here hx rfl (hb hby d6_10) rfl rfl ?_
    refine XS.iloadN X34.here hx rfl (hb hby d6_11) rfl ?_
    refine X34.caload hx (j := (2 : Int32)) (v := (.int c2)) (by rw [e34]; exact Ar35.1) (State.isArrayOf_alike hZ.alike Ar35.2.1) Ar35.2.2 (inb_of S35 ⟨by decide, by decide⟩) (H35.at (inb_of S35 ⟨by decide, by decide⟩) rfl) (g := (mkF m 12 #[.val (.ref u1), .val (.int (2 : Int32)), .val (.ref u2), .val (.int (2 : Int32)), .val (.int (3 : Int32)), .val (.int (2 : Int32)), .val (.int c1)] [(.int (2 : Int32)), (.ref u1)])) rfl rfl (hb hby d6_12) _ ?_
    refine XS.istore X34.here hx rfl (hb hby d6_13) rfl (l' := #[.val (.ref u1), .val (.int (2 : Int32)), .val (.ref u2), .val (.int (2 : Int32)), .val (.int (3 : Int32)), .val (.int (2 : Int32)), .val (.int c2)]) rfl ?_
    refine XS.iload X34.here hx rfl (hb hby d6_15) rfl ?_
    show Steps p.tables e below (T34.setTop (mkF m 17 #[.val (.ref u1), .val (.int (2 : Int32)), .val (.ref u2), .val (.int (2 : Int32)), .val (.int (3 : Int32)), .val (.int (2 : Int32)), .val (.int c2)] [(.int c2)])) _
    refine XS.sipush X34.here hx rfl (hb hby d6_17) ?_
    refine XS.icmpYes X34.here hx rfl (pc0 := 20) (pc' := 26) rfl (hb hby d6_20) rfl k2 (by decide) (by decide) ?_
    refine XS.aloadN X34.here hx rfl (hb hby d6_26) rfl rfl ?_
    refine XS.iloadN X34.here hx rfl (hb hby d6_27) rfl ?_
    refine XS.iload X34.here hx rfl (hb hby d6_28) rfl ?_
    refine XS.i2b X34.here hx rfl (hb hby d6_30) rfl ?_
    refine st36 _ ?_
    refine XS.iinc X36.here hx rfl (hb hby d6_32) rfl (l' := #[.val (.ref u1), .val (.int (3 : Int32)), .val (.ref u2), .val (.int (2 : Int32)), .val (.int (3 : Int32)), .val (.int (2 : Int32)), .val (.int c2)]) rfl ?_
    show Steps p.tables e below (T36.setTop (mkF m 35 #[.val (.ref u1), .val (.int (3 : Int32)), .val (.ref u2), .val (.int (2 : Int32)), .val (.int (3 : Int32)), .val (.int (2 : Int32)), .val (.int c2)] [])) _
    refine XS.iinc X36.here hx rfl (hb hby d6_35) rfl (l' := #[.val (.ref u1), .val (.int (3 : Int32)), .val (.ref u2), .val (.int (3 : Int32)), .val (.int (3 : Int32)), .val (.int (2 : Int32)), .val (.int c2)]) rfl ?_
    refine XS.iinc X36.here hx rfl (hb hby d6_38) rfl (l' := #[.val (.ref u1), .val (.int (3 : Int32)), .val (.ref u2), .val (.int (3 : Int32)), .val (.int (3 : Int32)), .val (.int (3 : Int32)), .val (.int c2)]) rfl ?_
    refine XS.goto X36.here hx rfl (pc0 := 41) (pc' := 3) rfl (hb hby d6_41) (by decide) (by decide) ?_
    refine XS.iload X36.here hx rfl (hb hby d6_3) rfl ?_
    refine XS.iload X36.here hx rfl (hb hby d6_5) rfl ?_
    refine XS.icmpYes X36.here hx rfl (pc0 := 7) (pc' := 44) rfl (hb hby d6_7) rfl (by decide) (by decide) (by decide) ?_
    refine XS.iload X36.here hx rfl (hb hby d6_44) rfl ?_
    show Steps p.tables e below (T36.setTop (mkF m 46 #[.val (.ref u1), .val (.int (3 : Int32)), .val (.ref u2), .val (.int (3 : Int32)), .val (.int (3 : Int32)), .val (.int (3 : Int32)), .val (.int c2)] [(.int (3 : Int32))])) _
    exact retI X36 hx Bd.returns (hb hby d6_46) hr
  · show Q_rm_cmp3 Z _ _ _ _ _ _ _ h0 n0 _ T36.heap _
    rw [e36]
    exact ⟨rfl, N36, K36, V36q⟩
theorem ef_rm_cmp3_0 (m : MethodId) (x0 : Addr) (x1 : Int32) (x2 : Addr) (x3 : Int32) (x4 : Int32) : entryFrame m #[(.ref x0), (.int x1), (.ref x2), (.int x3), (.int x4)] 7 = mkF m 0 #[.val (.ref x0), .val (.int x1), .val (.ref x2), .val (.int x3), .val (.int x4), .unset, .unset] [] := by first | (simp [entryFrame, mkF, argsToLocals, Value.category]; done) | rfl
def Q_rm_cmp3_0 (Z : State) (u1 : Addr) (u2 : Addr) (kc : ClassId) (kb : ClassId) (c0 : Int32) (c1 : Int32) (c2 : Int32) (h0 : Heap) (n0 : Nat) (v : Option Value) (h : Heap) (L : List Loc) : Prop := v = some (.int (0 : Int32)) ∧ Fr n0 L ∧ Keep h0 h [u2]
set_option maxRecDepth 65536 in
set_option maxHeartbeats 40000000 in
theorem rm_cmp3_0 (l : Launch) (Z : State) (a0 : Array Value) (hw : ∀ d ∈ tables_1, d.before a0 Z = true) (ws : List Jvm.Cond) (u1 : Addr) (u2 : Addr) (kc : ClassId) (kb : ClassId) (c0 : Int32) (c1 : Int32) (c2 : Int32) (h0 : Heap) (n0 : Nat) (Z0 : n0 ≤ h0.size) (V1 : Arv Z h0 u1 kc .char (3 : Int32) [(.int c0), (.int c1), (.int c2)] (.int (0 : Int32))) (V2 : Arv Z h0 u2 kb .byte (3 : Int32) [(.int (0 : Int32)), (.int (0 : Int32)), (.int (0 : Int32))] (.int (0 : Int32))) (g2 : n0 ≤ u2) (hne : u1 ≠ u2) (k0 : if_icmp.holds .le c0 (255 : Int32) = false) :
    MetFree l (⟨"java/lang/StringUTF16", "compress", "([CI[BII)I"⟩ : MethodName) (head1 (Jvm.Cond.code (⟨"java/lang/StringUTF16", "compress", "([CI[BII)I"⟩ : MethodName) jdk_52_method_21_code 7 (some .int) :: ws) ({ frames := 0, cells := 0, slots := 0, locals := 0 } : Room)) (fun a U => a = #[(.ref u1), (.int (0 : Int32)), (.ref u2), (.int (0 : Int32)), (.int (3 : Int32))] ∧ Z.Warmed39 U.vm ∧ U.heap = h0) (fun _ _ _ _ _ => True) (fun _ U o U' => ∃ v L, o = .returned v ∧ Q_rm_cmp3_0 Z u1 u2 kc kb c0 c1 c2 h0 n0 v U'.heap L ∧ FrameEnd U o U' L ({ frames := 0, cells := 0, slots := 0, locals := 0 } : Room).cells ({ frames := 0, cells := 0, slots := 0, locals := 0 } : Room).slots) := by
  refine MetFree.of_bodySF (plainFor_of_name pn_50925) hisR ?_
  intro p e s m args below meth c s₁ Bd hml0 hP hK
  obtain ⟨rfl, hZ, hh⟩ := hP
  have hx := Bd.exec
  have hby := Bd.bytes
  have hml : c.maxLocals = 7 := hml0
  have hown : s.vm.findClass "java/lang/StringUTF16" = some m.cls := findClass_of_methodNamed Bd.named
  have hnm := (name_of_methodNamed Bd.named Bd.method).1
  have X0 : Stand p l e ({ frames := 0, cells := 0, slots := 0, locals := 0 } : Room) s m #[(.ref u1), (.int (0 : Int32)), (.ref u2), (.int (0 : Int32)), (.int (3 : Int32))] below meth c s₁ [] 0 0 := Stand.of_body Bd
  have e0 : s₁.heap = h0 := by rw [← hh, Bd.state]; rfl
  have N0 := Fr.nil n0
  have K0 : Keep h0 h0 [u2] := Keep.refl _ _
  have pre0 : ∀ t, Steps p.tables e below (s₁.setTop (mkF m 0 #[.val (.ref u1), .val (.int (0 : Int32)), .val (.ref u2), .val (.int (0 : Int32)), .val (.int (3 : Int32)), .unset, .unset] [])) t → Steps p.tables e below (s₁.setTop (entryFrame m #[(.ref u1), (.int (0 : Int32)), (.ref u2), (.int (0 : Int32)), (.int (3 : Int32))] 7)) t := fun t k => castTop (ef_rm_cmp3_0 m u1 (0 : Int32) u2 (0 : Int32) (3 : Int32)) k
  obtain ⟨cl31, Ar31, -, S31, M31, H31, -⟩ := id V1
  obtain ⟨fs, hr, hrun, hended, hW, hsame⟩ := X0.leave (v := some (.int (0 : Int32))) (fun h => by rw [Bd.returns] at h; cases h)
  refine ⟨_, _, pre0 _ ?_, hrun, hended, _, _, rfl, ?_, ⟨_, rfl⟩, hW, hsame.mono (by decide) (by decide)⟩
  · show Steps p.tables e below (s₁.setTop (mkF m 0 #[.val (.ref u1), .val (.int (0 : Int32)), .val (.ref u2), .val (.int (0 : Int32)), .val (.int (3 : Int32)), .unset, .unset] [])) _
    refine XS.iconst X0.here hx rfl (hb hby d6_0) ?_
    refine XS.istore X0.here hx rfl (hb hby d6_1) rfl (l' := #[.val (.ref u1), .val (.int (0 : Int32)), .val (.ref u2), .val (.int (0 : Int32)), .val (.int (3 : Int32)), .val (.int (0 : Int32)), .unset]) rfl ?_
    refine XS.iload X0.here hx rfl (hb hby d6_3) rfl ?_
    refine XS.iload X0.here hx rfl (hb hby d6_5) rfl ?_
    refine XS.icmpNo X0.here hx rfl (hb hby d6_7) rfl (by decide) ?_
    refine XS.aloadN X0.here hx rfl (hb hby d6_10) rfl rfl ?_
    refine XS.iloadN X0.here hx rfl (hb hby d6_11) rfl ?_
    refine X0.caload hx (j := (0 : Int32)) (v := (.int c0)) (by rw [e0]; exact Ar31.1) (State.isArrayOf_alike hZ.alike Ar31.2.1) Ar31.2.2 (inb_of S31 ⟨by decide, by decide⟩) (H31.at (inb_of S31 ⟨by decide, by decide⟩) rfl) (g := (mkF m 12 #[.val (.ref u1), .val (.int (0 : Int32)), .val (.ref u2), .val (.int (0 : Int32)), .val (.int (3 : Int32)), .val (.int (0 : Int32)), .unset] [(.int (0 : Int32)), (.ref u1)])) rfl rfl (hb hby d6_12) _ ?_
    show Steps p.tables e below (s₁.setTop (mkF m 13 #[.val (.ref u1), .val (.int (0 : Int32)), .val (.ref u2), .val (.int (0 : Int32)), .val (.int (3 : Int32)), .val (.int (0 : Int32)), .unset] [(.int c0)])) _
    refine XS.istore X0.here hx rfl (hb hby d6_13) rfl (l' := #[.val (.ref u1), .val (.int (0 : Int32)), .val (.ref u2), .val (.int (0 : Int32)), .val (.int (3 : Int32)), .val (.int (0 : Int32)), .val (.int c0)]) rfl ?_
    refine XS.iload X0.here hx rfl (hb hby d6_15) rfl ?_
    refine XS.sipush X0.here hx rfl (hb hby d6_17) ?_
    refine XS.icmpNo X0.here hx rfl (hb hby d6_20) rfl k0 ?_
    refine XS.iload X0.here hx rfl (hb hby d6_23) rfl ?_
    show Steps p.tables e below (s₁.setTop (mkF m 25 #[.val (.ref u1), .val (.int (0 : Int32)), .val (.ref u2), .val (.int (0 : Int32)), .val (.int (3 : Int32)), .val (.int (0 : Int32)), .val (.int c0)] [(.int (0 : Int32))])) _
    exact retI X0 hx Bd.returns (hb hby d6_25) hr
  · show Q_rm_cmp3_0 Z _ _ _ _ _ _ _ h0 n0 _ s₁.heap _
    rw [e0]
    exact ⟨rfl, N0, K0⟩
theorem ef_rm_cmp3_1 (m : MethodId) (x0 : Addr) (x1 : Int32) (x2 : Addr) (x3 : Int32) (x4 : Int32) : entryFrame m #[(.ref x0), (.int x1), (.ref x2), (.int x3), (.int x4)] 7 = mkF m 0 #[.val (.ref x0), .val (.int x1), .val (.ref x2), .val (.int x3), .val (.int x4), .unset, .unset] [] := by first | (simp [entryFrame, mkF, argsToLocals, Value.category]; done) | rfl
def Q_rm_cmp3_1 (Z : State) (u1 : Addr) (u2 : Addr) (kc : ClassId) (kb : ClassId) (c0 : Int32) (c1 : Int32) (c2 : Int32) (h0 : Heap) (n0 : Nat) (v : Option Value) (h : Heap) (L : List Loc) : Prop := v = some (.int (1 : Int32)) ∧ Fr n0 L ∧ Keep h0 h [u2]
set_option maxRecDepth 65536 in
set_option maxHeartbeats 40000000 in
theorem rm_cmp3_1 (l : Launch) (Z : State) (a0 : Array Value) (hw : ∀ d ∈ tables_1, d.before a0 Z = true) (ws : List Jvm.Cond) (u1 : Addr) (u2 : Addr) (kc : ClassId) (kb : ClassId) (c0 : Int32) (c1 : Int32) (c2 : Int32) (h0 : Heap) (n0 : Nat) (Z0 : n0 ≤ h0.size) (V1 : Arv Z h0 u1 kc .char (3 : Int32) [(.int c0), (.int c1), (.int c2)] (.int (0 : Int32))) (V2 : Arv Z h0 u2 kb .byte (3 : Int32) [(.int (0 : Int32)), (.int (0 : Int32)), (.int (0 : Int32))] (.int (0 : Int32))) (g2 : n0 ≤ u2) (hne : u1 ≠ u2) (k0 : if_icmp.holds .le c0 (255 : Int32) = true) (k1 : if_icmp.holds .le c1 (255 : Int32) = false) :
    MetFree l (⟨"java/lang/StringUTF16", "compress", "([CI[BII)I"⟩ : MethodName) (head1 (Jvm.Cond.code (⟨"java/lang/StringUTF16", "compress", "([CI[BII)I"⟩ : MethodName) jdk_52_method_21_code 7 (some .int) :: ws) ({ frames := 0, cells := 0, slots := 0, locals := 0 } : Room)) (fun a U => a = #[(.ref u1), (.int (0 : Int32)), (.ref u2), (.int (0 : Int32)), (.int (3 : Int32))] ∧ Z.Warmed39 U.vm ∧ U.heap = h0) (fun _ _ _ _ _ => True) (fun _ U o U' => ∃ v L, o = .returned v ∧ Q_rm_cmp3_1 Z u1 u2 kc kb c0 c1 c2 h0 n0 v U'.heap L ∧ FrameEnd U o U' L ({ frames := 0, cells := 0, slots := 0, locals := 0 } : Room).cells ({ frames := 0, cells := 0, slots := 0, locals := 0 } : Room).slots) := by
  refine MetFree.of_bodySF (plainFor_of_name pn_50925) hisR ?_
  intro p e s m args below meth c s₁ Bd hml0 hP hK
  obtain ⟨rfl, hZ, hh⟩ := hP
  have hx := Bd.exec
  have hby := Bd.bytes
  have hml : c.maxLocals = 7 := hml0
  have hown : s.vm.findClass "java/lang/StringUTF16" = some m.cls := findClass_of_methodNamed Bd.named
  have hnm := (name_of_methodNamed Bd.named Bd.method).1
  have X0 : Stand p l e ({ frames := 0, cells := 0, slots := 0, locals := 0 } : Room) s m #[(.ref u1), (.int (0 : Int32)), (.ref u2), (.int (0 : Int32)), (.int (3 : Int32))] below meth c s₁ [] 0 0 := Stand.of_body Bd
  have e0 : s₁.heap = h0 := by rw [← hh, Bd.state]; rfl
  have N0 := Fr.nil n0
  have K0 : Keep h0 h0 [u2] := Keep.refl _ _
  have pre0 : ∀ t, Steps p.tables e below (s₁.setTop (mkF m 0 #[.val (.ref u1), .val (.int (0 : Int32)), .val (.ref u2), .val (.int (0 : Int32)), .val (.int (3 : Int32)), .unset, .unset] [])) t → Steps p.tables e below (s₁.setTop (entryFrame m #[(.ref u1), (.int (0 : Int32)), (.ref u2), (.int (0 : Int32)), (.int (3 : Int32))] 7)) t := fun t k => castTop (ef_rm_cmp3_1 m u1 (0 : Int32) u2 (0 : Int32) (3 : Int32)) k
  obtain ⟨cl31, Ar31, -, S31, M31, H31, -⟩ := id V1
  obtain ⟨cl32, Ar32, q32, S32, M32, H32, G32⟩ := id V2
  obtain ⟨T32, h32, X32, e32, W32, st32⟩ := stB X0 hx hZ e0 Ar32 (j := (0 : Int32)) (inb_of S32 ⟨by decide, by decide⟩) (g := (mkF m 31 #[.val (.ref u1), .val (.int (0 : Int32)), .val (.ref u2), .val (.int (0 : Int32)), .val (.int (3 : Int32)), .val (.int (0 : Int32)), .val (.int c0)] [(.int (c0.toInt8.toInt32)), (.int (0 : Int32)), (.ref u2)])) rfl rfl (hb hby d6_31)
  have V32 := Arv.set Ar32 q32 S32 M32 H32 G32 (fits_nar_byte _) W32 0 rfl (Nat.le_of_ble_eq_true rfl)
  have N32 := Fr.snoc X32 N0 g2
  have Z32 : n0 ≤ h32.size := Nat.le_trans Z0 (Keep.of_wr W32).1
  have K32 : Keep h0 h32 [u2] := Keep.wr K0 W32 (Or.inl (List.mem_of_getElem? (i := 0) rfl))
  have V32q : Arv Z h32 u2 kb .byte (3 : Int32) [(.int (c0.toInt8.toInt32)), (.int (0 : Int32)), (.int (0 : Int32))] (.int (0 : Int32)) := by rw [own_nb] at V32; exact V32
  obtain ⟨cl33, Ar33, -, S33, M33, H33, -⟩ := id (V1.other W32 hne)
  obtain ⟨fs, hr, hrun, hended, hW, hsame⟩ := X32.leave (v := some (.int (1 : Int32))) (fun h => by rw [Bd.returns] at h; cases h)
  refine ⟨_, _, pre0 _ ?_, hrun, hended, _, _, rfl, ?_, ⟨_, rfl⟩, hW, hsame.mono (by decide) (by decide)⟩
  · show Steps p.tables e below (s₁.setTop (mkF m 0 #[.val (.ref u1), .val (.int (0 : Int32)), .val (.ref u2), .val (.int (0 : Int32)), .val (.int (3 : Int32)), .unset, .unset] [])) _
    refine XS.iconst X0.here hx rfl (hb hby d6_0) ?_
    refine XS.istore X0.here hx rfl (hb hby d6_1) rfl (l' := #[.val (.ref u1), .val (.int (0 : Int32)), .val (.ref u2), .val (.int (0 : Int32)), .val (.int (3 : Int32)), .val (.int (0 : Int32)), .unset]) rfl ?_
    refine XS.iload X0.here hx rfl (hb hby d6_3) rfl ?_
    refine XS.iload X0.here hx rfl (hb hby d6_5) rfl ?_
    refine XS.icmpNo X0.here hx rfl (hb hby d6_7) rfl (by decide) ?_
    refine XS.aloadN X0.here hx rfl (hb hby d6_10) rfl rfl ?_
    refine XS.iloadN X0.here hx rfl (hb hby d6_11) rfl ?_
    refine X0.caload hx (j := (0 : Int32)) (v := (.int c0)) (by rw [e0]; exact Ar31.1) (State.isArrayOf_alike hZ.alike Ar31.2.1) Ar31.2.2 (inb_of S31 ⟨by decide, by decide⟩) (H31.at (inb_of S31 ⟨by decide, by decide⟩) rfl) (g := (mkF m 12 #[.val (.ref u1), .val (.int (0 : Int32)), .val (.ref u2), .val (.int (0 : Int32)), .val (.int (3 : Int32)), .val (.int (0 : Int32)), .unset] [(.int (0 : Int32)), (.ref u1)])) rfl rfl (hb hby d6_12) _ ?_
    show Steps p.tables e below (s₁.setTop (mkF m 13 #[.val (.ref u1), .val (.int (0 : Int32)), .val (.ref u2), .val (.int (0 : Int32)), .val (.int (3 : Int32)), .val (.int (0 : Int32)), .unset] [(.int c0)])) _
    refine XS.istore X0.here hx rfl (hb hby d6_13) rfl (l' := #[.val (.ref u1), .val (.int (0 : Int32)), .val (.ref u2), .val (.int (0 : Int32)), .val (.int (3 : Int32)), .val (.int (0 : Int32)), .val (.int c0)]) rfl ?_
    refine XS.iload X0.here hx rfl (hb hby d6_15) rfl ?_
    refine XS.sipush X0.here hx rfl (hb hby d6_17) ?_
    refine XS.icmpYes X0.here hx rfl (pc0 := 20) (pc' := 26) rfl (hb hby d6_20) rfl k0 (by decide) (by decide) ?_
    refine XS.aloadN X0.here hx rfl (hb hby d6_26) rfl rfl ?_
    refine XS.iloadN X0.here hx rfl (hb hby d6_27) rfl ?_
    refine XS.iload X0.here hx rfl (hb hby d6_28) rfl ?_
    refine XS.i2b X0.here hx rfl (hb hby d6_30) rfl ?_
    show Steps p.tables e below (s₁.setTop (mkF m 31 #[.val (.ref u1), .val (.int (0 : Int32)), .val (.ref u2), .val (.int (0 : Int32)), .val (.int (3 : Int32)), .val (.int (0 : Int32)), .val (.int c0)] [(.int (c0.toInt8.toInt32)), (.int (0 : Int32)), (.ref u2)])) _
    refine st32 _ ?_
    refine XS.iinc X32.here hx rfl (hb hby d6_32) rfl (l' := #[.val (.ref u1), .val (.int (1 : Int32)), .val (.ref u2), .val (.int (0 : Int32)), .val (.int (3 : Int32)), .val (.int (0 : Int32)), .val (.int c0)]) rfl ?_
    refine XS.iinc X32.here hx rfl (hb hby d6_35) rfl (l' := #[.val (.ref u1), .val (.int (1 : Int32)), .val (.ref u2), .val (.int (1 : Int32)), .val (.int (3 : Int32)), .val (.int (0 : Int32)), .val (.int c0)]) rfl ?_
    refine XS.iinc X32.here hx rfl (hb hby d6_38) rfl (l' := #[.val (.ref u1), .val (.int (1 : Int32)), .val (.ref u2), .val (.int (1 : Int32)), .val (.int (3 : Int32)), .val (.int (1 : Int32)), .val (.int c0)]) rfl ?_
    refine XS.goto X32.here hx rfl (pc0 := 41) (pc' := 3) rfl (hb hby d6_41) (by decide) (by decide) ?_
    refine XS.iload X32.here hx rfl (hb hby d6_3) rfl ?_
    refine XS.iload X32.here hx rfl (hb hby d6_5) rfl ?_
    refine XS.icmpNo X32.here hx rfl (hb hby d6_7) rfl (by decide) ?_
    show Steps p.tables e below (T32.setTop (mkF m 10 #[.val (.ref u1), .val (.int (1 : Int32)), .val (.ref u2), .val (.int (1 : Int32)), .val (.int (3 : Int32)), .val (.int (1 : Int32)), .val (.int c0)] [])) _
    refine XS.aloadN X32.here hx rfl (hb hby d6_10) rfl rfl ?_
    refine XS.iloadN X32.here hx rfl (hb hby d6_11) rfl ?_
    refine X32.caload hx (j := (1 : Int32)) (v := (.int c1)) (by rw [e32]; exact Ar33.1) (State.isArrayOf_alike hZ.alike Ar33.2.1) Ar33.2.2 (inb_of S33 ⟨by decide, by decide⟩) (H33.at (inb_of S33 ⟨by decide, by decide⟩) rfl) (g := (mkF m 12 #[.val (.ref u1), .val (.int (1 : Int32)), .val (.ref u2), .val (.int (1 : Int32)), .val (.int (3 : Int32)), .val (.int (1 : Int32)), .val (.int c0)] [(.int (1 : Int32)), (.ref u1)])) rfl rfl (hb hby d6_12) _ ?_
    refine XS.istore X32.here hx rfl (hb hby d6_13) rfl (l' := #[.val (.ref u1), .val (.int (1 : Int32)), .val (.ref u2), .val (.int (1 : Int32)), .val (.int (3 : Int32)), .val (.int (1 : Int32)), .val (.int c1)]) rfl ?_
    refine XS.iload X32.here hx rfl (hb hby d6_15) rfl ?_
    refine XS.sipush X32.here hx rfl (hb hby d6_17) ?_
    refine XS.icmpNo X32.here hx rfl (hb hby d6_20) rfl k1 ?_
    refine XS.iload X32.here hx rfl (hb hby d6_23) rfl ?_
    show Steps p.tables e below (T32.setTop (mkF m 25 #[.val (.ref u1), .val (.int (1 : Int32)), .val (.ref u2), .val (.int (1 : Int32)), .val (.int (3 : Int32)), .val (.int (1 : Int32)), .val (.int c1)] [(.int (1 : Int32))])) _
    exact retI X32 hx Bd.returns (hb hby d6_25) hr
  · show Q_rm_cmp3_1 Z _ _ _ _ _ _ _ h0 n0 _ T32.heap _
    rw [e32]
    exact ⟨rfl, N32, K32⟩
theorem ef_rm_cmp3_2 (m : MethodId) (x0 : Addr) (x1 : Int32) (x2 : Addr) (x3 : Int32) (x4 : Int32) : entryFrame m #[(.ref x0), (.int x1), (.ref x2), (.int x3), (.int x4)] 7 = mkF m 0 #[.val (.ref x0), .val (.int x1), .val (.ref x2), .val (.int x3), .val (.int x4), .unset, .unset] [] := by first | (simp [entryFrame, mkF, argsToLocals, Value.category]; done) | rfl
def Q_rm_cmp3_2 (Z : State) (u1 : Addr) (u2 : Addr) (kc : ClassId) (kb : ClassId) (c0 : Int32) (c1 : Int32) (c2 : Int32) (h0 : Heap) (n0 : Nat) (v : Option Value) (h : Heap) (L : List Loc) : Prop := v = some (.int (2 : Int32)) ∧ Fr n0 L ∧ Keep h0 h [u2]
set_option maxRecDepth 65536 in
set_option maxHeartbeats 40000000 in
theorem rm_cmp3_2 (l : Launch) (Z : State) (a0 : Array Value) (hw : ∀ d ∈ tables_1, d.before a0 Z = true) (ws : List Jvm.Cond) (u1 : Addr) (u2 : Addr) (kc : ClassId) (kb : ClassId) (c0 : Int32) (c1 : Int32) (c2 : Int32) (h0 : Heap) (n0 : Nat) (Z0 : n0 ≤ h0.size) (V1 : Arv Z h0 u1 kc .char (3 : Int32) [(.int c0), (.int c1), (.int c2)] (.int (0 : Int32))) (V2 : Arv Z h0 u2 kb .byte (3 : Int32) [(.int (0 : Int32)), (.int (0 : Int32)), (.int (0 : Int32))] (.int (0 : Int32))) (g2 : n0 ≤ u2) (hne : u1 ≠ u2) (k0 : if_icmp.holds .le c0 (255 : Int32) = true) (k1 : if_icmp.holds .le c1 (255 : Int32) = true) (k2 : if_icmp.holds .le c2 (255 : Int32) = false) :
    MetFree l (⟨"java/lang/StringUTF16", "compress", "([CI[BII)I"⟩ : MethodName) (head1 (Jvm.Cond.code (⟨"java/lang/StringUTF16", "compress", "([CI[BII)I"⟩ : MethodName) jdk_52_method_21_code 7 (some .int) :: ws) ({ frames := 0, cells := 0, slots := 0, locals := 0 } : Room)) (fun a U => a = #[(.ref u1), (.int (0 : Int32)), (.ref u2), (.int (0 : Int32)), (.int (3 : Int32))] ∧ Z.Warmed39 U.vm ∧ U.heap = h0) (fun _ _ _ _ _ => True) (fun _ U o U' => ∃ v L, o = .returned v ∧ Q_rm_cmp3_2 Z u1 u2 kc kb c0 c1 c2 h0 n0 v U'.heap L ∧ FrameEnd U o U' L ({ frames := 0, cells := 0, slots := 0, locals := 0 } : Room).cells ({ frames := 0, cells := 0, slots := 0, locals := 0 } : Room).slots) := by
  refine MetFree.of_bodySF (plainFor_of_name pn_50925) hisR ?_
  intro p e s m args below meth c s₁ Bd hml0 hP hK
  obtain ⟨rfl, hZ, hh⟩ := hP
  have hx := Bd.exec
  have hby := Bd.bytes
  have hml : c.maxLocals = 7 := hml0
  have hown : s.vm.findClass "java/lang/StringUTF16" = some m.cls := findClass_of_methodNamed Bd.named
  have hnm := (name_of_methodNamed Bd.named Bd.method).1
  have X0 : Stand p l e ({ frames := 0, cells := 0, slots := 0, locals := 0 } : Room) s m #[(.ref u1), (.int (0 : Int32)), (.ref u2), (.int (0 : Int32)), (.int (3 : Int32))] below meth c s₁ [] 0 0 := Stand.of_body Bd
  have e0 : s₁.heap = h0 := by rw [← hh, Bd.state]; rfl
  have N0 := Fr.nil n0
  have K0 : Keep h0 h0 [u2] := Keep.refl _ _
  have pre0 : ∀ t, Steps p.tables e below (s₁.setTop (mkF m 0 #[.val (.ref u1), .val (.int (0 : Int32)), .val (.ref u2), .val (.int (0 : Int32)), .val (.int (3 : Int32)), .unset, .unset] [])) t → Steps p.tables e below (s₁.setTop (entryFrame m #[(.ref u1), (.int (0 : Int32)), (.ref u2), (.int (0 : Int32)), (.int (3 : Int32))] 7)) t := fun t k => castTop (ef_rm_cmp3_2 m u1 (0 : Int32) u2 (0 : Int32) (3 : Int32)) k
  obtain ⟨cl31, Ar31, -, S31, M31, H31, -⟩ := id V1
  obtain ⟨cl32, Ar32, q32, S32, M32, H32, G32⟩ := id V2
  obtain ⟨T32, h32, X32, e32, W32, st32⟩ := stB X0 hx hZ e0 Ar32 (j := (0 : Int32)) (inb_of S32 ⟨by decide, by decide⟩) (g := (mkF m 31 #[.val (.ref u1), .val (.int (0 : Int32)), .val (.ref u2), .val (.int (0 : Int32)), .val (.int (3 : Int32)), .val (.int (0 : Int32)), .val (.int c0)] [(.int (c0.toInt8.toInt32)), (.int (0 : Int32)), (.ref u2)])) rfl rfl (hb hby d6_31)
  have V32 := Arv.set Ar32 q32 S32 M32 H32 G32 (fits_nar_byte _) W32 0 rfl (Nat.le_of_ble_eq_true rfl)
  have N32 := Fr.snoc X32 N0 g2
  have Z32 : n0 ≤ h32.size := Nat.le_trans Z0 (Keep.of_wr W32).1
  have K32 : Keep h0 h32 [u2] := Keep.wr K0 W32 (Or.inl (List.mem_of_getElem? (i := 0) rfl))
  have V32q : Arv Z h32 u2 kb .byte (3 : Int32) [(.int (c0.toInt8.toInt32)), (.int (0 : Int32)), (.int (0 : Int32))] (.int (0 : Int32)) := by rw [own_nb] at V32; exact V32
  obtain ⟨cl33, Ar33, -, S33, M33, H33, -⟩ := id (V1.other W32 hne)
  obtain ⟨cl34, Ar34, q34, S34, M34, H34, G34⟩ := id V32q
  obtain ⟨T34, h34, X34, e34, W34, st34⟩ := stB X32 hx hZ e32 Ar34 (j := (1 : Int32)) (inb_of S34 ⟨by decide, by decide⟩) (g := (mkF m 31 #[.val (.ref u1), .val (.int (1 : Int32)), .val (.ref u2), .val (.int (1 : Int32)), .val (.int (3 : Int32)), .val (.int (1 : Int32)), .val (.int c1)] [(.int (c1.toInt8.toInt32)), (.int (1 : Int32)), (.ref u2)])) rfl rfl (hb hby d6_31)
  have V34 := Arv.set Ar34 q34 S34 M34 H34 G34 (fits_nar_byte _) W34 1 rfl (Nat.le_of_ble_eq_true rfl)
  have N34 := Fr.snoc X34 N32 g2
  have Z34 : n0 ≤ h34.size := Nat.le_trans Z32 (Keep.of_wr W34).1
  have K34 : Keep h0 h34 [u2] := Keep.wr K32 W34 (Or.inl (List.mem_of_getElem? (i := 0) rfl))
  have V34q : Arv Z h34 u2 kb .byte (3 : Int32) [(.int (c0.toInt8.toInt32)), (.int (c1.toInt8.toInt32)), (.int (0 : Int32))] (.int (0 : Int32)) := by rw [own_nb] at V34; exact V34
  obtain ⟨cl35, Ar35, -, S35, M35, H35, -⟩ := id ((V1.other W32 hne).other W34 hne)
  obtain ⟨fs, hr, hrun, hended, hW, hsame⟩ := X34.leave (v := some (.int (2 : Int32))) (fun h => by rw [Bd.returns] at h; cases h)
  refine ⟨_, _, pre0 _ ?_, hrun, hended, _, _, rfl, ?_, ⟨_, rfl⟩, hW, hsame.mono (by decide) (by decide)⟩
  · show Steps p.tables e below (s₁.setTop (mkF m 0 #[.val (.ref u1), .val (.int (0 : Int32)), .val (.ref u2), .val (.int (0 : Int32)), .val (.int (3 : Int32)), .unset, .unset] [])) _
    refine XS.iconst X0.here hx rfl (hb hby d6_0) ?_
    refine XS.istore X0.here hx rfl (hb hby d6_1) rfl (l' := #[.val (.ref u1), .val (.int (0 : Int32)), .val (.ref u2), .val (.int (0 : Int32)), .val (.int (3 : Int32)), .val (.int (0 : Int32)), .unset]) rfl ?_
    refine XS.iload X0.here hx rfl (hb hby d6_3) rfl ?_
    refine XS.iload X0.here hx rfl (hb hby d6_5) rfl ?_
    refine XS.icmpNo X0.here hx rfl (hb hby d6_7) rfl (by decide) ?_
    refine XS.aloadN X0.here hx rfl (hb hby d6_10) rfl rfl ?_
    refine XS.iloadN X0.here hx rfl (hb hby d6_11) rfl ?_
    refine X0.caload hx (j := (0 : Int32)) (v := (.int c0)) (by rw [e0]; exact Ar31.1) (State.isArrayOf_alike hZ.alike Ar31.2.1) Ar31.2.2 (inb_of S31 ⟨by decide, by decide⟩) (H31.at (inb_of S31 ⟨by decide, by decide⟩) rfl) (g := (mkF m 12 #[.val (.ref u1), .val (.int (0 : Int32)), .val (.ref u2), .val (.int (0 : Int32)), .val (.int (3 : Int32)), .val (.int (0 : Int32)), .unset] [(.int (0 : Int32)), (.ref u1)])) rfl rfl (hb hby d6_12) _ ?_
    show Steps p.tables e below (s₁.setTop (mkF m 13 #[.val (.ref u1), .val (.int (0 : Int32)), .val (.ref u2), .val (.int (0 : Int32)), .val (.int (3 : Int32)), .val (.int (0 : Int32)), .unset] [(.int c0)])) _
    refine XS.istore X0.here hx rfl (hb hby d6_13) rfl (l' := #[.val (.ref u1), .val (.int (0 : Int32)), .val (.ref u2), .val (.int (0 : Int32)), .val (.int (3 : Int32)), .val (.int (0 : Int32)), .val (.int c0)]) rfl ?_
    refine XS.iload X0.here hx rfl (hb hby d6_15) rfl ?_
    refine XS.sipush X0.here hx rfl (hb hby d6_17) ?_
    refine XS.icmpYes X0.here hx rfl (pc0 := 20) (pc' := 26) rfl (hb hby d6_20) rfl k0 (by decide) (by decide) ?_
    refine XS.aloadN X0.here hx rfl (hb hby d6_26) rfl rfl ?_
    refine XS.iloadN X0.here hx rfl (hb hby d6_27) rfl ?_
    refine XS.iload X0.here hx rfl (hb hby d6_28) rfl ?_
    refine XS.i2b X0.here hx rfl (hb hby d6_30) rfl ?_
    show Steps p.tables e below (s₁.setTop (mkF m 31 #[.val (.ref u1), .val (.int (0 : Int32)), .val (.ref u2), .val (.int (0 : Int32)), .val (.int (3 : Int32)), .val (.int (0 : Int32)), .val (.int c0)] [(.int (c0.toInt8.toInt32)), (.int (0 : Int32)), (.ref u2)])) _
    refine st32 _ ?_
    refine XS.iinc X32.here hx rfl (hb hby d6_32) rfl (l' := #[.val (.ref u1), .val (.int (1 : Int32)), .val (.ref u2), .val (.int (0 : Int32)), .val (.int (3 : Int32)), .val (.int (0 : Int32)), .val (.int c0)]) rfl ?_
    refine XS.iinc X32.here hx rfl (hb hby d6_35) rfl (l' := #[.val (.ref u1), .val (.int (1 : Int32)), .val (.ref u2), .val (.int (1 : Int32)), .val (.int (3 : Int32)), .val (.int (0 : Int32)), .val (.int c0)]) rfl ?_
    refine XS.iinc X32.here hx rfl (hb hby d6_38) rfl (l' := #[.val (.ref u1), .val (.int (1 : Int32)), .val (.ref u2), .val (.int (1 : Int32)), .val (.int (3 : Int32)), .val (.int (1 : Int32)), .val (.int c0)]) rfl ?_
    refine XS.goto X32.here hx rfl (pc0 := 41) (pc' := 3) rfl (hb hby d6_41) (by decide) (by decide) ?_
    refine XS.iload X32.here hx rfl (hb hby d6_3) rfl ?_
    refine XS.iload X32.here hx rfl (hb hby d6_5) rfl ?_
    refine XS.icmpNo X32.here hx rfl (hb hby d6_7) rfl (by decide) ?_
    show Steps p.tables e below (T32.setTop (mkF m 10 #[.val (.ref u1), .val (.int (1 : Int32)), .val (.ref u2), .val (.int (1 : Int32)), .val (.int (3 : Int32)), .val (.int (1 : Int32)), .val (.int c0)] [])) _
    refine XS.aloadN X32.here hx rfl (hb hby d6_10) rfl rfl ?_
    refine XS.iloadN X32.here hx rfl (hb hby d6_11) rfl ?_
    refine X32.caload hx (j := (1 : Int32)) (v := (.int c1)) (by rw [e32]; exact Ar33.1) (State.isArrayOf_alike hZ.alike Ar33.2.1) Ar33.2.2 (inb_of S33 ⟨by decide, by decide⟩) (H33.at (inb_of S33 ⟨by decide, by decide⟩) rfl) (g := (mkF m 12 #[.val (.ref u1), .val (.int (1 : Int32)), .val (.ref u2), .val (.int (1 : Int32)), .val (.int (3 : Int32)), .val (.int (1 : Int32)), .val (.int c0)] [(.int (1 : Int32)), (.ref u1)])) rfl rfl (hb hby d6_12) _ ?_
    refine XS.istore X32.here hx rfl (hb hby d6_13) rfl (l' := #[.val (.ref u1), .val (.int (1 : Int32)), .val (.ref u2), .val (.int (1 : Int32)), .val (.int (3 : Int32)), .val (.int (1 : Int32)), .val (.int c1)]) rfl ?_
    refine XS.iload X32.here hx rfl (hb hby d6_15) rfl ?_
    refine XS.sipush X32.here hx rfl (hb hby d6_17) ?_
    refine XS.icmpYes X32.here hx rfl (pc0 := 20) (pc' := 26) rfl (hb hby d6_20) rfl k1 (by decide) (by decide) ?_
    refine XS.aloadN X32.here hx rfl (hb hby d6_26) rfl rfl ?_
    show Steps p.tables e below (T32.setTop (mkF m 27 #[.val (.ref u1), .val (.int (1 : Int32)), .val (.ref u2), .val (.int (1 : Int32)), .val (.int (3 : Int32)), .val (.int (1 : Int32)), .val (.int c1)] [(.ref u2)])) _
    refine XS.iloadN X32.here hx rfl (hb hby d6_27) rfl ?_
    refine XS.iload X32.here hx rfl (hb hby d6_28) rfl ?_
    refine XS.i2b X32.here hx rfl (hb hby d6_30) rfl ?_
    refine st34 _ ?_
    refine XS.iinc X34.here hx rfl (hb hby d6_32) rfl (l' := #[.val (.ref u1), .val (.int (2 : Int32)), .val (.ref u2), .val (.int (1 : Int32)), .val (.int (3 : Int32)), .val (.int (1 : Int32)), .val (.int c1)]) rfl ?_
    refine XS.iinc X34.here hx rfl (hb hby d6_35) rfl (l' := #[.val (.ref u1), .val (.int (2 : Int32)), .val (.ref u2), .val (.int (2 : Int32)), .val (.int (3 : Int32)), .val (.int (1 : Int32)), .val (.int c1)]) rfl ?_
    refine XS.iinc X34.here hx rfl (hb hby d6_38) rfl (l' := #[.val (.ref u1), .val (.int (2 : Int32)), .val (.ref u2), .val (.int (2 : Int32)), .val (.int (3 : Int32)), .val (.int (2 : Int32)), .val (.int c1)]) rfl ?_
    refine XS.goto X34.here hx rfl (pc0 := 41) (pc' := 3) rfl (hb hby d6_41) (by decide) (by decide) ?_
    show Steps p.tables e below (T34.setTop (mkF m 3 #[.val (.ref u1), .val (.int (2 : Int32)), .val (.ref u2), .val (.int (2 : Int32)), .val (.int (3 : Int32)), .val (.int (2 : Int32)), .val (.int c1)] [])) _
    refine XS.iload X34.here hx rfl (hb hby d6_3) rfl ?_
    refine XS.iload X34.here hx rfl (hb hby d6_5) rfl ?_
    refine XS.icmpNo X34.here hx rfl (hb hby d6_7) rfl (by decide) ?_
    refine XS.aloadN X34.here hx rfl (hb hby d6_10) rfl rfl ?_
    refine XS.iloadN X34.here hx rfl (hb hby d6_11) rfl ?_
    refine X34.caload hx (j := (2 : Int32)) (v := (.int c2)) (by rw [e34]; exact Ar35.1) (State.isArrayOf_alike hZ.alike Ar35.2.1) Ar35.2.2 (inb_of S35 ⟨by decide, by decide⟩) (H35.at (inb_of S35 ⟨by decide, by decide⟩) rfl) (g := (mkF m 12 #[.val (.ref u1), .val (.int (2 : Int32)), .val (.ref u2), .val (.int (2 : Int32)), .val (.int (3 : Int32)), .val (.int (2 : Int32)), .val (.int c1)] [(.int (2 : Int32)), (.ref u1)])) rfl rfl (hb hby d6_12) _ ?_
    refine XS.istore X34.here hx rfl (hb hby d6_13) rfl (l' := #[.val (.ref u1), .val (.int (2 : Int32)), .val (.ref u2), .val (.int (2 : Int32)), .val (.int (3 : Int32)), .val (.int (2 : Int32)), .val (.int c2)]) rfl ?_
    refine XS.iload X34.here hx rfl (hb hby d6_15) rfl ?_
    show Steps p.tables e below (T34.setTop (mkF m 17 #[.val (.ref u1), .val (.int (2 : Int32)), .val (.ref u2), .val (.int (2 : Int32)), .val (.int (3 : Int32)), .val (.int (2 : Int32)), .val (.int c2)] [(.int c2)])) _
    refine XS.sipush X34.here hx rfl (hb hby d6_17) ?_
    refine XS.icmpNo X34.here hx rfl (hb hby d6_20) rfl k2 ?_
    refine XS.iload X34.here hx rfl (hb hby d6_23) rfl ?_
    show Steps p.tables e below (T34.setTop (mkF m 25 #[.val (.ref u1), .val (.int (2 : Int32)), .val (.ref u2), .val (.int (2 : Int32)), .val (.int (3 : Int32)), .val (.int (2 : Int32)), .val (.int c2)] [(.int (2 : Int32))])) _
    exact retI X34 hx Bd.returns (hb hby d6_25) hr
  · show Q_rm_cmp3_2 Z _ _ _ _ _ _ _ h0 n0 _ T34.heap _
    rw [e34]
    exact ⟨rfl, N34, K34⟩
theorem d19_0 : decode jdk_52_method_3_code 0 = .ok (.iload_n 0, 1) := by decide +kernel
theorem d19_1 : decode jdk_52_method_3_code 1 = .ok (.ifCond .ge 11, 3) := by decide +kernel
theorem d19_12 : decode jdk_52_method_3_code 12 = .ok (.iload_n 0, 1) := by decide +kernel
theorem d19_13 : decode jdk_52_method_3_code 13 = .ok (.ldc 20, 2) := by decide +kernel
theorem d19_15 : decode jdk_52_method_3_code 15 = .ok (.if_icmp .lt 40, 3) := by decide +kernel
theorem d19_55 : decode jdk_52_method_3_code 55 = .ok (.iload_n 0, 1) := by decide +kernel
theorem d19_56 : decode jdk_52_method_3_code 56 = .ok (.iconst 1, 1) := by decide +kernel
theorem d19_57 : decode jdk_52_method_3_code 57 = .ok (.ishl, 1) := by decide +kernel
theorem d19_58 : decode jdk_52_method_3_code 58 = .ok (.ireturn, 1) := by decide +kernel
theorem ef_rm_nbl1 (m : MethodId) (x0 : Int32) : entryFrame m #[(.int x0)] 1 = mkF m 0 #[.val (.int x0)] [] := by first | (simp [entryFrame, mkF, argsToLocals, Value.category]; done) | rfl
def Q_rm_nbl1 (Z : State)  (h0 : Heap) (n0 : Nat) (v : Option Value) (h : Heap) (L : List Loc) : Prop := v = some (.int (2 : Int32)) ∧ Fr n0 L ∧ h = h0
set_option maxRecDepth 65536 in
set_option maxHeartbeats 40000000 in
theorem rm_nbl1 (l : Launch) (Z : State) (a0 : Array Value) (hw : ∀ d ∈ tables_1, d.before a0 Z = true) (ws : List Jvm.Cond)  (h0 : Heap) (n0 : Nat) (Z0 : n0 ≤ h0.size) :
    MetFree l (⟨"java/lang/StringUTF16", "newBytesLength", "(I)I"⟩ : MethodName) (head1 (Jvm.Cond.code (⟨"java/lang/StringUTF16", "newBytesLength", "(I)I"⟩ : MethodName) jdk_52_method_3_code 1 (some .int) :: ws) ({ frames := 0, cells := 0, slots := 0, locals := 0 } : Room)) (fun a U => a = #[(.int (1 : Int32))] ∧ Z.Warmed39 U.vm ∧ U.heap = h0) (fun _ _ _ _ _ => True) (fun _ U o U' => ∃ v L, o = .returned v ∧ Q_rm_nbl1 Z  h0 n0 v U'.heap L ∧ FrameEnd U o U' L ({ frames := 0, cells := 0, slots := 0, locals := 0 } : Room).cells ({ frames := 0, cells := 0, slots := 0, locals := 0 } : Room).slots) := by
  refine MetFree.of_bodySF (plainFor_of_name pn_50925) hisR ?_
  intro p e s m args below meth c s₁ Bd hml0 hP hK
  obtain ⟨rfl, hZ, hh⟩ := hP
  have hx := Bd.exec
  have hby := Bd.bytes
  have hml : c.maxLocals = 1 := hml0
  have hown : s.vm.findClass "java/lang/StringUTF16" = some m.cls := findClass_of_methodNamed Bd.named
  have hnm := (name_of_methodNamed Bd.named Bd.method).1
  have X0 : Stand p l e ({ frames := 0, cells := 0, slots := 0, locals := 0 } : Room) s m #[(.int (1 : Int32))] below meth c s₁ [] 0 0 := Stand.of_body Bd
  have e0 : s₁.heap = h0 := by rw [← hh, Bd.state]; rfl
  have N0 := Fr.nil n0
  have pre0 : ∀ t, Steps p.tables e below (s₁.setTop (mkF m 0 #[.val (.int (1 : Int32))] [])) t → Steps p.tables e below (s₁.setTop (entryFrame m #[(.int (1 : Int32))] 1)) t := fun t k => castTop (ef_rm_nbl1 m (1 : Int32)) k
  obtain ⟨fs, hr, hrun, hended, hW, hsame⟩ := X0.leave (v := some (.int (2 : Int32))) (fun h => by rw [Bd.returns] at h; cases h)
  refine ⟨_, _, pre0 _ ?_, hrun, hended, _, _, rfl, ?_, ⟨_, rfl⟩, hW, hsame.mono (by decide) (by decide)⟩
  · show Steps p.tables e below (s₁.setTop (mkF m 0 #[.val (.int (1 : Int32))] [])) _
    refine XS.iloadN X0.here hx rfl (hb hby d19_0) rfl ?_
    refine XS.ifYes X0.here hx rfl (pc0 := 1) (pc' := 12) rfl (hb hby d19_1) rfl (by decide) (by decide) (by decide) ?_
    refine XS.iloadN X0.here hx rfl (hb hby d19_12) rfl ?_
    refine X0.ldcInt hx hown (mvT hZ (own_w hw 86 rfl)) (g := (mkF m 13 #[.val (.int (1 : Int32))] [(.int (1 : Int32))])) rfl (hb hby d19_13) _ ?_
    refine XS.icmpYes X0.here hx rfl (pc0 := 15) (pc' := 55) rfl (hb hby d19_15) rfl (by decide) (by decide) (by decide) ?_
    refine XS.iloadN X0.here hx rfl (hb hby d19_55) rfl ?_
    refine XS.iconst X0.here hx rfl (hb hby d19_56) ?_
    refine XS.ishl X0.here hx rfl (hb hby d19_57) rfl ?_
    show Steps p.tables e below (s₁.setTop (mkF m 58 #[.val (.int (1 : Int32))] [(.int (2 : Int32))])) _
    exact retI X0 hx Bd.returns (hb hby d19_58) hr
  · show Q_rm_nbl1 Z  h0 n0 _ s₁.heap _
    rw [e0]
    exact ⟨rfl, N0, rfl⟩
theorem d18_0 : decode jdk_52_method_2_code 0 = .ok (.iload_n 0, 1) := by decide +kernel
theorem d18_1 : decode jdk_52_method_2_code 1 = .ok (.invokestatic 11, 3) := by decide +kernel
theorem pd_181564 : parseMethodDescriptor "(I)I" = some ⟨[.int], some .int⟩ := by decide +kernel
theorem d18_4 : decode jdk_52_method_2_code 4 = .ok (.newarray .byte, 2) := by decide +kernel
theorem d18_6 : decode jdk_52_method_2_code 6 = .ok (.areturn, 1) := by decide +kernel
theorem ef_rm_nbf1 (m : MethodId) (x0 : Int32) : entryFrame m #[(.int x0)] 1 = mkF m 0 #[.val (.int x0)] [] := by first | (simp [entryFrame, mkF, argsToLocals, Value.category]; done) | rfl
def Q_rm_nbf1 (Z : State)  (h0 : Heap) (n0 : Nat) (v : Option Value) (h : Heap) (L : List Loc) : Prop := ∃ (t : Addr) (kt : ClassId), v = some (.ref t) ∧ Fr n0 L ∧ Keep h0 h [] ∧ h0.size ≤ t ∧ Arv Z h t kt .byte (2 : Int32) [(.int (0 : Int32)), (.int (0 : Int32))] (.int (0 : Int32))
set_option maxRecDepth 65536 in
set_option maxHeartbeats 40000000 in
theorem rm_nbf1 (l : Launch) (Z : State) (a0 : Array Value) (hw : ∀ d ∈ tables_1, d.before a0 Z = true) (ws : List Jvm.Cond)  (h0 : Heap) (n0 : Nat) (Z0 : n0 ≤ h0.size) :
    MetFree l (⟨"java/lang/StringUTF16", "newBytesFor", "(I)[B"⟩ : MethodName) (head1 (Jvm.Cond.code (⟨"java/lang/StringUTF16", "newBytesFor", "(I)[B"⟩ : MethodName) jdk_52_method_2_code 1 (some (.array .byte)) :: ws) ({ frames := 1, cells := 1, slots := 2, locals := 12 } : Room)) (fun a U => a = #[(.int (1 : Int32))] ∧ Z.Warmed39 U.vm ∧ U.heap = h0) (fun _ _ _ _ _ => True) (fun _ U o U' => ∃ v L, o = .returned v ∧ Q_rm_nbf1 Z  h0 n0 v U'.heap L ∧ FrameEnd U o U' L ({ frames := 1, cells := 1, slots := 2, locals := 12 } : Room).cells ({ frames := 1, cells := 1, slots := 2, locals := 12 } : Room).slots) := by
  refine MetFree.of_bodySF (plainFor_of_name pn_50925) hisR ?_
  intro p e s m args below meth c s₁ Bd hml0 hP hK
  obtain ⟨rfl, hZ, hh⟩ := hP
  have hx := Bd.exec
  have hby := Bd.bytes
  have hml : c.maxLocals = 1 := hml0
  have hown : s.vm.findClass "java/lang/StringUTF16" = some m.cls := findClass_of_methodNamed Bd.named
  have hnm := (name_of_methodNamed Bd.named Bd.method).1
  have X0 : Stand p l e ({ frames := 1, cells := 1, slots := 2, locals := 12 } : Room) s m #[(.int (1 : Int32))] below meth c s₁ [] 0 0 := Stand.of_body Bd
  have e0 : s₁.heap = h0 := by rw [← hh, Bd.state]; rfl
  have N0 := Fr.nil n0
  have K0 : Keep h0 h0 [] := Keep.refl _ _
  have pre0 : ∀ t, Steps p.tables e below (s₁.setTop (mkF m 0 #[.val (.int (1 : Int32))] [])) t → Steps p.tables e below (s₁.setTop (entryFrame m #[(.int (1 : Int32))] 1)) t := fun t k => castTop (ef_rm_nbf1 m (1 : Int32)) k
  obtain ⟨_, _, ⟨T31, L31, k31, n31⟩, -, X31, ⟨Lc31, hQ31, l31, y31, z31⟩, st31⟩ := Jvm.LawKit.callS X0 hx (y := (⟨"java/lang/StringUTF16", "newBytesLength", "(I)I"⟩ : MethodName)) hown (mvT hZ (own_w hw 83 rfl)) (mvT hZ (own_w hw 84 rfl)) (mvT hZ (own_w hw 21 rfl)) (mvT hZ (own_w hw 85 rfl)) (by decide) (backOf (W := 0) (rm_nbl1 l Z a0 hw []  h0 n0 Z0 ) hZ (own_w hw 85 rfl) (own_w hw 21 rfl) (by decide) (by decide)) (g := (mkF m 1 #[.val (.int (1 : Int32))] [(.int (1 : Int32))])) rfl (by rw [hml]; rfl) (argsL := [(.int (1 : Int32))]) (rest := []) (lenOf pd_181564 rfl) rfl (by show 2 * 0 + _ ≤ _; exact Nat.le_of_eq rfl) (hb hby d18_1) (fun _ _ => ⟨rfl, e0, (by decide : 0 + 0 ≤ _), (by decide : 0 + 0 ≤ _)⟩)
  dsimp only [Pt.U, Pt.locs, Pt.cells, Pt.slots] at X31 l31 y31 z31 st31 hQ31
  replace y31 : k31 = 0 := y31
  replace z31 : n31 = 0 := z31
  subst y31 z31
  obtain ⟨rfl, Nq31, eq31⟩ := hQ31
  have N31 : Fr n0 L31 := by rw [l31]; exact Fr.app N0 Nq31
  obtain ⟨T32, h32, k32, X32, e32, E32, A32, st32⟩ := newP X31 hx hZ (own_w hw 23 rfl) eq31 (g := (mkF m 4 #[.val (.int (1 : Int32))] [(.int (2 : Int32))])) rfl (hb hby d18_4) rfl (by decide) (cap := 2) (by decide) (by decide) (by decide) (by decide)
  obtain ⟨b32, g32⟩ : ∃ z, z = h0.size := ⟨_, rfl⟩
  rw [← g32] at A32 st32
  have fr_b32 : n0 ≤ b32 := Nat.le_trans Z0 (Nat.le_of_eq g32.symm)
  have sz_b32 : h0.size ≤ b32 := Nat.le_trans K0.1 (Nat.le_of_eq g32.symm)
  have Z32 : n0 ≤ h32.size := Nat.le_trans Z0 E32.1
  have K32 : Keep h0 h32 [] := K0.ext E32
  have V32 := Arv.new A32 (by decide)
  have V32p : Arv Z h32 b32 k32 .byte (2 : Int32) [(.int (0 : Int32)), (.int (0 : Int32))] (.int (0 : Int32)) := V32.pad (pad_rep [] (.int (0 : Int32)) 2)
  obtain ⟨fs, hr, hrun, hended, hW, hsame⟩ := X32.leave (v := some (.ref b32)) (fun h => by rw [Bd.returns] at h; cases h)
  refine ⟨_, _, pre0 _ ?_, hrun, hended, _, _, rfl, ?_, ⟨_, rfl⟩, hW, hsame.mono (by decide) (by decide)⟩
  · show Steps p.tables e below (s₁.setTop (mkF m 0 #[.val (.int (1 : Int32))] [])) _
    refine XS.iloadN X0.here hx rfl (hb hby d18_0) rfl ?_
    refine st31 _ ?_
    refine st32 _ ?_
    show Steps p.tables e below (T32.setTop (mkF m 6 #[.val (.int (1 : Int32))] [(.ref b32)])) _
    jvm_step X32.here [X32.here.top, hx, (hb hby d18_6), X32.method', Bd.returns, Value.isRef, FieldType.isReference]
    first | (intro acts; rw [hr _ acts rfl rfl rfl]) | rw [hr _ _ rfl rfl rfl]
    exact Steps.refl _
  · show Q_rm_nbf1 Z  h0 n0 _ T32.heap _
    rw [e32]
    exact ⟨b32, k32, rfl, N31, K32, sz_b32, V32p⟩
theorem ef_rm_nbl2 (m : MethodId) (x0 : Int32) : entryFrame m #[(.int x0)] 1 = mkF m 0 #[.val (.int x0)] [] := by first | (simp [entryFrame, mkF, argsToLocals, Value.category]; done) | rfl
def Q_rm_nbl2 (Z : State)  (h0 : Heap) (n0 : Nat) (v : Option Value) (h : Heap) (L : List Loc) : Prop := v = some (.int (4 : Int32)) ∧ Fr n0 L ∧ h = h0
set_option maxRecDepth 65536 in
set_option maxHeartbeats 40000000 in
theorem rm_nbl2 (l : Launch) (Z : State) (a0 : Array Value) (hw : ∀ d ∈ tables_1, d.before a0 Z = true) (ws : List Jvm.Cond)  (h0 : Heap) (n0 : Nat) (Z0 : n0 ≤ h0.size) :
    MetFree l (⟨"java/lang/StringUTF16", "newBytesLength", "(I)I"⟩ : MethodName) (head1 (Jvm.Cond.code (⟨"java/lang/StringUTF16", "newBytesLength", "(I)I"⟩ : MethodName) jdk_52_method_3_code 1 (some .int) :: ws) ({ frames := 0, cells := 0, slots := 0, locals := 0 } : Room)) (fun a U => a = #[(.int (2 : Int32))] ∧ Z.Warmed39 U.vm ∧ U.heap = h0) (fun _ _ _ _ _ => True) (fun _ U o U' => ∃ v L, o = .returned v ∧ Q_rm_nbl2 Z  h0 n0 v U'.heap L ∧ FrameEnd U o U' L ({ frames := 0, cells := 0, slots := 0, locals := 0 } : Room).cells ({ frames := 0, cells := 0, slots := 0, locals := 0 } : Room).slots) := by
  refine MetFree.of_bodySF (plainFor_of_name pn_50925) hisR ?_
  intro p e s m args below meth c s₁ Bd hml0 hP hK
  obtain ⟨rfl, hZ, hh⟩ := hP
  have hx := Bd.exec
  have hby := Bd.bytes
  have hml : c.maxLocals = 1 := hml0
  have hown : s.vm.findClass "java/lang/StringUTF16" = some m.cls := findClass_of_methodNamed Bd.named
  have hnm := (name_of_methodNamed Bd.named Bd.method).1
  have X0 : Stand p l e ({ frames := 0, cells := 0, slots := 0, locals := 0 } : Room) s m #[(.int (2 : Int32))] below meth c s₁ [] 0 0 := Stand.of_body Bd
  have e0 : s₁.heap = h0 := by rw [← hh, Bd.state]; rfl
  have N0 := Fr.nil n0
  have pre0 : ∀ t, Steps p.tables e below (s₁.setTop (mkF m 0 #[.val (.int (2 : Int32))] [])) t → Steps p.tables e below (s₁.setTop (entryFrame m #[(.int (2 : Int32))] 1)) t := fun t k => castTop (ef_rm_nbl2 m (2 : Int32)) k
  obtain ⟨fs, hr, hrun, hended, hW, hsame⟩ := X0.leave (v := some (.int (4 : Int32))) (fun h => by rw [Bd.returns] at h; cases h)
  refine ⟨_, _, pre0 _ ?_, hrun, hended, _, _, rfl, ?_, ⟨_, rfl⟩, hW, hsame.mono (by decide) (by decide)⟩
  · show Steps p.tables e below (s₁.setTop (mkF m 0 #[.val (.int (2 : Int32))] [])) _
    refine XS.iloadN X0.here hx rfl (hb hby d19_0) rfl ?_
    refine XS.ifYes X0.here hx rfl (pc0 := 1) (pc' := 12) rfl (hb hby d19_1) rfl (by decide) (by decide) (by decide) ?_
    refine XS.iloadN X0.here hx rfl (hb hby d19_12) rfl ?_
    refine X0.ldcInt hx hown (mvT hZ (own_w hw 86 rfl)) (g := (mkF m 13 #[.val (.int (2 : Int32))] [(.int (2 : Int32))])) rfl (hb hby d19_13) _ ?_
    refine XS.icmpYes X0.here hx rfl (pc0 := 15) (pc' := 55) rfl (hb hby d19_15) rfl (by decide) (by decide) (by decide) ?_
    refine XS.iloadN X0.here hx rfl (hb hby d19_55) rfl ?_
    refine XS.iconst X0.here hx rfl (hb hby d19_56) ?_
    refine XS.ishl X0.here hx rfl (hb hby d19_57) rfl ?_
    show Steps p.tables e below (s₁.setTop (mkF m 58 #[.val (.int (2 : Int32))] [(.int (4 : Int32))])) _
    exact retI X0 hx Bd.returns (hb hby d19_58) hr
  · show Q_rm_nbl2 Z  h0 n0 _ s₁.heap _
    rw [e0]
    exact ⟨rfl, N0, rfl⟩
theorem ef_rm_nbf2 (m : MethodId) (x0 : Int32) : entryFrame m #[(.int x0)] 1 = mkF m 0 #[.val (.int x0)] [] := by first | (simp [entryFrame, mkF, argsToLocals, Value.category]; done) | rfl
def Q_rm_nbf2 (Z : State)  (h0 : Heap) (n0 : Nat) (v : Option Value) (h : Heap) (L : List Loc) : Prop := ∃ (t : Addr) (kt : ClassId), v = some (.ref t) ∧ Fr n0 L ∧ Keep h0 h [] ∧ h0.size ≤ t ∧ Arv Z h t kt .byte (4 : Int32) [(.int (0 : Int32)), (.int (0 : Int32)), (.int (0 : Int32)), (.int (0 : Int32))] (.int (0 : Int32))
set_option maxRecDepth 65536 in
set_option maxHeartbeats 40000000 in
theorem rm_nbf2 (l : Launch) (Z : State) (a0 : Array Value) (hw : ∀ d ∈ tables_1, d.before a0 Z = true) (ws : List Jvm.Cond)  (h0 : Heap) (n0 : Nat) (Z0 : n0 ≤ h0.size) :
    MetFree l (⟨"java/lang/StringUTF16", "newBytesFor", "(I)[B"⟩ : MethodName) (head1 (Jvm.Cond.code (⟨"java/lang/StringUTF16", "newBytesFor", "(I)[B"⟩ : MethodName) jdk_52_method_2_code 1 (some (.array .byte)) :: ws) ({ frames := 1, cells := 1, slots := 4, locals := 12 } : Room)) (fun a U => a = #[(.int (2 : Int32))] ∧ Z.Warmed39 U.vm ∧ U.heap = h0) (fun _ _ _ _ _ => True) (fun _ U o U' => ∃ v L, o = .returned v ∧ Q_rm_nbf2 Z  h0 n0 v U'.heap L ∧ FrameEnd U o U' L ({ frames := 1, cells := 1, slots := 4, locals := 12 } : Room).cells ({ frames := 1, cells := 1, slots := 4, locals := 12 } : Room).slots) := by
  refine MetFree.of_bodySF (plainFor_of_name pn_50925) hisR ?_
  intro p e s m args below meth c s₁ Bd hml0 hP hK
  obtain ⟨rfl, hZ, hh⟩ := hP
  have hx := Bd.exec
  have hby := Bd.bytes
  have hml : c.maxLocals = 1 := hml0
  have hown : s.vm.findClass "java/lang/StringUTF16" = some m.cls := findClass_of_methodNamed Bd.named
  have hnm := (name_of_methodNamed Bd.named Bd.method).1
  have X0 : Stand p l e ({ frames := 1, cells := 1, slots := 4, locals := 12 } : Room) s m #[(.int (2 : Int32))] below meth c s₁ [] 0 0 := Stand.of_body Bd
  have e0 : s₁.heap = h0 := by rw [← hh, Bd.state]; rfl
  have N0 := Fr.nil n0
  have K0 : Keep h0 h0 [] := Keep.refl _ _
  have pre0 : ∀ t, Steps p.tables e below (s₁.setTop (mkF m 0 #[.val (.int (2 : Int32))] [])) t → Steps p.tables e below (s₁.setTop (entryFrame m #[(.int (2 : Int32))] 1)) t := fun t k => castTop (ef_rm_nbf2 m (2 : Int32)) k
  obtain ⟨_, _, ⟨T31, L31, k31, n31⟩, -, X31, ⟨Lc31, hQ31, l31, y31, z31⟩, st31⟩ := Jvm.LawKit.callS X0 hx (y := (⟨"java/lang/StringUTF16", "newBytesLength", "(I)I"⟩ : MethodName)) hown (mvT hZ (own_w hw 83 rfl)) (mvT hZ (own_w hw 84 rfl)) (mvT hZ (own_w hw 21 rfl)) (mvT hZ (own_w hw 85 rfl)) (by decide) (backOf (W := 0) (rm_nbl2 l Z a0 hw []  h0 n0 Z0 ) hZ (own_w hw 85 rfl) (own_w hw 21 rfl) (by decide) (by decide)) (g := (mkF m 1 #[.val (.int (2 : Int32))] [(.int (2 : Int32))])) rfl (by rw [hml]; rfl) (argsL := [(.int (2 : Int32))]) (rest := []) (lenOf pd_181564 rfl) rfl (by show 2 * 0 + _ ≤ _; exact Nat.le_of_eq rfl) (hb hby d18_1) (fun _ _ => ⟨rfl, e0, (by decide : 0 + 0 ≤ _), (by decide : 0 + 0 ≤ _)⟩)
  dsimp only [Pt.U, Pt.locs, Pt.cells, Pt.slots] at X31 l31 y31 z31 st31 hQ31
  replace y31 : k31 = 0 := y31
  replace z31 : n31 = 0 := z31
  subst y31 z31
  obtain ⟨rfl, Nq31, eq31⟩ := hQ31
  have N31 : Fr n0 L31 := by rw [l31]; exact Fr.app N0 Nq31
  obtain ⟨T32, h32, k32, X32, e32, E32, A32, st32⟩ := newP X31 hx hZ (own_w hw 23 rfl) eq31 (g := (mkF m 4 #[.val (.int (2 : Int32))] [(.int (4 : Int32))])) rfl (hb hby d18_4) rfl (by decide) (cap := 4) (by decide) (by decide) (by decide) (by decide)
  obtain ⟨b32, g32⟩ : ∃ z, z = h0.size := ⟨_, rfl⟩
  rw [← g32] at A32 st32
  have fr_b32 : n0 ≤ b32 := Nat.le_trans Z0 (Nat.le_of_eq g32.symm)
  have sz_b32 : h0.size ≤ b32 := Nat.le_trans K0.1 (Nat.le_of_eq g32.symm)
  have Z32 : n0 ≤ h32.size := Nat.le_trans Z0 E32.1
  have K32 : Keep h0 h32 [] := K0.ext E32
  have V32 := Arv.new A32 (by decide)
  have V32p : Arv Z h32 b32 k32 .byte (4 : Int32) [(.int (0 : Int32)), (.int (0 : Int32)), (.int (0 : Int32)), (.int (0 : Int32))] (.int (0 : Int32)) := V32.pad (pad_rep [] (.int (0 : Int32)) 4)
  obtain ⟨fs, hr, hrun, hended, hW, hsame⟩ := X32.leave (v := some (.ref b32)) (fun h => by rw [Bd.returns] at h; cases h)
  refine ⟨_, _, pre0 _ ?_, hrun, hended, _, _, rfl, ?_, ⟨_, rfl⟩, hW, hsame.mono (by decide) (by decide)⟩
  · show Steps p.tables e below (s₁.setTop (mkF m 0 #[.val (.int (2 : Int32))] [])) _
    refine XS.iloadN X0.here hx rfl (hb hby d18_0) rfl ?_
    refine st31 _ ?_
    refine st32 _ ?_
    show Steps p.tables e below (T32.setTop (mkF m 6 #[.val (.int (2 : Int32))] [(.ref b32)])) _
    jvm_step X32.here [X32.here.top, hx, (hb hby d18_6), X32.method', Bd.returns, Value.isRef, FieldType.isReference]
    first | (intro acts; rw [hr _ acts rfl rfl rfl]) | rw [hr _ _ rfl rfl rfl]
    exact Steps.refl _
  · show Q_rm_nbf2 Z  h0 n0 _ T32.heap _
    rw [e32]
    exact ⟨b32, k32, rfl, N31, K32, sz_b32, V32p⟩
theorem ef_rm_nbl3 (m : MethodId) (x0 : Int32) : entryFrame m #[(.int x0)] 1 = mkF m 0 #[.val (.int x0)] [] := by first | (simp [entryFrame, mkF, argsToLocals, Value.category]; done) | rfl
def Q_rm_nbl3 (Z : State)  (h0 : Heap) (n0 : Nat) (v : Option Value) (h : Heap) (L : List Loc) : Prop := v = some (.int (6 : Int32)) ∧ Fr n0 L ∧ h = h0
set_option maxRecDepth 65536 in
set_option maxHeartbeats 40000000 in
theorem rm_nbl3 (l : Launch) (Z : State) (a0 : Array Value) (hw : ∀ d ∈ tables_1, d.before a0 Z = true) (ws : List Jvm.Cond)  (h0 : Heap) (n0 : Nat) (Z0 : n0 ≤ h0.size) :
    MetFree l (⟨"java/lang/StringUTF16", "newBytesLength", "(I)I"⟩ : MethodName) (head1 (Jvm.Cond.code (⟨"java/lang/StringUTF16", "newBytesLength", "(I)I"⟩ : MethodName) jdk_52_method_3_code 1 (some .int) :: ws) ({ frames := 0, cells := 0, slots := 0, locals := 0 } : Room)) (fun a U => a = #[(.int (3 : Int32))] ∧ Z.Warmed39 U.vm ∧ U.heap = h0) (fun _ _ _ _ _ => True) (fun _ U o U' => ∃ v L, o = .returned v ∧ Q_rm_nbl3 Z  h0 n0 v U'.heap L ∧ FrameEnd U o U' L ({ frames := 0, cells := 0, slots := 0, locals := 0 } : Room).cells ({ frames := 0, cells := 0, slots := 0, locals := 0 } : Room).slots) := by
  refine MetFree.of_bodySF (plainFor_of_name pn_50925) hisR ?_
  intro p e s m args below meth c s₁ Bd hml0 hP hK
  obtain ⟨rfl, hZ, hh⟩ := hP
  have hx := Bd.exec
  have hby := Bd.bytes
  have hml : c.maxLocals = 1 := hml0
  have hown : s.vm.findClass "java/lang/StringUTF16" = some m.cls := findClass_of_methodNamed Bd.named
  have hnm := (name_of_methodNamed Bd.named Bd.method).1
  have X0 : Stand p l e ({ frames := 0, cells := 0, slots := 0, locals := 0 } : Room) s m #[(.int (3 : Int32))] below meth c s₁ [] 0 0 := Stand.of_body Bd
  have e0 : s₁.heap = h0 := by rw [← hh, Bd.state]; rfl
  have N0 := Fr.nil n0
  have pre0 : ∀ t, Steps p.tables e below (s₁.setTop (mkF m 0 #[.val (.int (3 : Int32))] [])) t → Steps p.tables e below (s₁.setTop (entryFrame m #[(.int (3 : Int32))] 1)) t := fun t k => castTop (ef_rm_nbl3 m (3 : Int32)) k
  obtain ⟨fs, hr, hrun, hended, hW, hsame⟩ := X0.leave (v := some (.int (6 : Int32))) (fun h => by rw [Bd.returns] at h; cases h)
  refine ⟨_, _, pre0 _ ?_, hrun, hended, _, _, rfl, ?_, ⟨_, rfl⟩, hW, hsame.mono (by decide) (by decide)⟩
  · show Steps p.tables e below (s₁.setTop (mkF m 0 #[.val (.int (3 : Int32))] [])) _
    refine XS.iloadN X0.here hx rfl (hb hby d19_0) rfl ?_
    refine XS.ifYes X0.here hx rfl (pc0 := 1) (pc' := 12) rfl (hb hby d19_1) rfl (by decide) (by decide) (by decide) ?_
    refine XS.iloadN X0.here hx rfl (hb hby d19_12) rfl ?_
    refine X0.ldcInt hx hown (mvT hZ (own_w hw 86 rfl)) (g := (mkF m 13 #[.val (.int (3 : Int32))] [(.int (3 : Int32))])) rfl (hb hby d19_13) _ ?_
    refine XS.icmpYes X0.here hx rfl (pc0 := 15) (pc' := 55) rfl (hb hby d19_15) rfl (by decide) (by decide) (by decide) ?_
    refine XS.iloadN X0.here hx rfl (hb hby d19_55) rfl ?_
    refine XS.iconst X0.here hx rfl (hb hby d19_56) ?_
    refine XS.ishl X0.here hx rfl (hb hby d19_57) rfl ?_
    show Steps p.tables e below (s₁.setTop (mkF m 58 #[.val (.int (3 : Int32))] [(.int (6 : Int32))])) _
    exact retI X0 hx Bd.returns (hb hby d19_58) hr
  · show Q_rm_nbl3 Z  h0 n0 _ s₁.heap _
    rw [e0]
    exact ⟨rfl, N0, rfl⟩
theorem ef_rm_nbf3 (m : MethodId) (x0 : Int32) : entryFrame m #[(.int x0)] 1 = mkF m 0 #[.val (.int x0)] [] := by first | (simp [entryFrame, mkF, argsToLocals, Value.category]; done) | rfl
def Q_rm_nbf3 (Z : State)  (h0 : Heap) (n0 : Nat) (v : Option Value) (h : Heap) (L : List Loc) : Prop := ∃ (t : Addr) (kt : ClassId), v = some (.ref t) ∧ Fr n0 L ∧ Keep h0 h [] ∧ h0.size ≤ t ∧ Arv Z h t kt .byte (6 : Int32) [(.int (0 : Int32)), (.int (0 : Int32)), (.int (0 : Int32)), (.int (0 : Int32)), (.int (0 : Int32)), (.int (0 : Int32))] (.int (0 : Int32))
set_option maxRecDepth 65536 in
set_option maxHeartbeats 40000000 in
theorem rm_nbf3 (l : Launch) (Z : State) (a0 : Array Value) (hw : ∀ d ∈ tables_1, d.before a0 Z = true) (ws : List Jvm.Cond)  (h0 : Heap) (n0 : Nat) (Z0 : n0 ≤ h0.size) :
    MetFree l (⟨"java/lang/StringUTF16", "newBytesFor", "(I)[B"⟩ : MethodName) (head1 (Jvm.Cond.code (⟨"java/lang/StringUTF16", "newBytesFor", "(I)[B"⟩ : MethodName) jdk_52_method_2_code 1 (some (.array .byte)) :: ws) ({ frames := 1, cells := 1, slots := 6, locals := 12 } : Room)) (fun a U => a = #[(.int (3 : Int32))] ∧ Z.Warmed39 U.vm ∧ U.heap = h0) (fun _ _ _ _ _ => True) (fun _ U o U' => ∃ v L, o = .returned v ∧ Q_rm_nbf3 Z  h0 n0 v U'.heap L ∧ FrameEnd U o U' L ({ frames := 1, cells := 1, slots := 6, locals := 12 } : Room).cells ({ frames := 1, cells := 1, slots := 6, locals := 12 } : Room).slots) := by
  refine MetFree.of_bodySF (plainFor_of_name pn_50925) hisR ?_
  intro p e s m args below meth c s₁ Bd hml0 hP hK
  obtain ⟨rfl, hZ, hh⟩ := hP
  have hx := Bd.exec
  have hby := Bd.bytes
  have hml : c.maxLocals = 1 := hml0
  have hown : s.vm.findClass "java/lang/StringUTF16" = some m.cls := findClass_of_methodNamed Bd.named
  have hnm := (name_of_methodNamed Bd.named Bd.method).1
  have X0 : Stand p l e ({ frames := 1, cells := 1, slots := 6, locals := 12 } : Room) s m #[(.int (3 : Int32))] below meth c s₁ [] 0 0 := Stand.of_body Bd
  have e0 : s₁.heap = h0 := by rw [← hh, Bd.state]; rfl
  have N0 := Fr.nil n0
  have K0 : Keep h0 h0 [] := Keep.refl _ _
  have pre0 : ∀ t, Steps p.tables e below (s₁.setTop (mkF m 0 #[.val (.int (3 : Int32))] [])) t → Steps p.tables e below (s₁.setTop (entryFrame m #[(.int (3 : Int32))] 1)) t := fun t k => castTop (ef_rm_nbf3 m (3 : Int32)) k
  obtain ⟨_, _, ⟨T31, L31, k31, n31⟩, -, X31, ⟨Lc31, hQ31, l31, y31, z31⟩, st31⟩ := Jvm.LawKit.callS X0 hx (y := (⟨"java/lang/StringUTF16", "newBytesLength", "(I)I"⟩ : MethodName)) hown (mvT hZ (own_w hw 83 rfl)) (mvT hZ (own_w hw 84 rfl)) (mvT hZ (own_w hw 21 rfl)) (mvT hZ (own_w hw 85 rfl)) (by decide) (backOf (W := 0) (rm_nbl3 l Z a0 hw []  h0 n0 Z0 ) hZ (own_w hw 85 rfl) (own_w hw 21 rfl) (by decide) (by decide)) (g := (mkF m 1 #[.val (.int (3 : Int32))] [(.int (3 : Int32))])) rfl (by rw [hml]; rfl) (argsL := [(.int (3 : Int32))]) (rest := []) (lenOf pd_181564 rfl) rfl (by show 2 * 0 + _ ≤ _; exact Nat.le_of_eq rfl) (hb hby d18_1) (fun _ _ => ⟨rfl, e0, (by decide : 0 + 0 ≤ _), (by decide : 0 + 0 ≤ _)⟩)
  dsimp only [Pt.U, Pt.locs, Pt.cells, Pt.slots] at X31 l31 y31 z31 st31 hQ31
  replace y31 : k31 = 0 := y31
  replace z31 : n31 = 0 := z31
  subst y31 z31
  obtain ⟨rfl, Nq31, eq31⟩ := hQ31
  have N31 : Fr n0 L31 := by rw [l31]; exact Fr.app N0 Nq31
  obtain ⟨T32, h32, k32, X32, e32, E32, A32, st32⟩ := newP X31 hx hZ (own_w hw 23 rfl) eq31 (g := (mkF m 4 #[.val (.int (3 : Int32))] [(.int (6 : Int32))])) rfl (hb hby d18_4) rfl (by decide) (cap := 6) (by decide) (by decide) (by decide) (by decide)
  obtain ⟨b32, g32⟩ : ∃ z, z = h0.size := ⟨_, rfl⟩
  rw [← g32] at A32 st32
  have fr_b32 : n0 ≤ b32 := Nat.le_trans Z0 (Nat.le_of_eq g32.symm)
  have sz_b32 : h0.size ≤ b32 := Nat.le_trans K0.1 (Nat.le_of_eq g32.symm)
  have Z32 : n0 ≤ h32.size := Nat.le_trans Z0 E32.1
  have K32 : Keep h0 h32 [] := K0.ext E32
  have V32 := Arv.new A32 (by decide)
  have V32p : Arv Z h32 b32 k32 .byte (6 : Int32) [(.int (0 : Int32)), (.int (0 : Int32)), (.int (0 : Int32)), (.int (0 : Int32)), (.int (0 : Int32)), (.int (0 : Int32))] (.int (0 : Int32)) := V32.pad (pad_rep [] (.int (0 : Int32)) 6)
  obtain ⟨fs, hr, hrun, hended, hW, hsame⟩ := X32.leave (v := some (.ref b32)) (fun h => by rw [Bd.returns] at h; cases h)
  refine ⟨_, _, pre0 _ ?_, hrun, hended, _, _, rfl, ?_, ⟨_, rfl⟩, hW, hsame.mono (by decide) (by decide)⟩
  · show Steps p.tables e below (s₁.setTop (mkF m 0 #[.val (.int (3 : Int32))] [])) _
    refine XS.iloadN X0.here hx rfl (hb hby d18_0) rfl ?_
    refine st31 _ ?_
    refine st32 _ ?_
    show Steps p.tables e below (T32.setTop (mkF m 6 #[.val (.int (3 : Int32))] [(.ref b32)])) _
    jvm_step X32.here [X32.here.top, hx, (hb hby d18_6), X32.method', Bd.returns, Value.isRef, FieldType.isReference]
    first | (intro acts; rw [hr _ acts rfl rfl rfl]) | rw [hr _ _ rfl rfl rfl]
    exact Steps.refl _
  · show Q_rm_nbf3 Z  h0 n0 _ T32.heap _
    rw [e32]
    exact ⟨b32, k32, rfl, N31, K32, sz_b32, V32p⟩
theorem d20_0 : decode jdk_52_method_4_code 0 = .ok (.getstatic 44, 3) := by decide +kernel
theorem d20_3 : decode jdk_52_method_4_code 3 = .ok (.ifCond .ne 25, 3) := by decide +kernel
theorem d20_28 : decode jdk_52_method_4_code 28 = .ok (.iload_n 1, 1) := by decide +kernel
theorem d20_29 : decode jdk_52_method_4_code 29 = .ok (.iconst 1, 1) := by decide +kernel
theorem d20_30 : decode jdk_52_method_4_code 30 = .ok (.ishl, 1) := by decide +kernel
theorem d20_31 : decode jdk_52_method_4_code 31 = .ok (.istore_n 1, 1) := by decide +kernel
theorem d20_32 : decode jdk_52_method_4_code 32 = .ok (.aload_n 0, 1) := by decide +kernel
theorem d20_33 : decode jdk_52_method_4_code 33 = .ok (.iload_n 1, 1) := by decide +kernel
theorem d20_34 : decode jdk_52_method_4_code 34 = .ok (.iinc 1 1, 3) := by decide +kernel
theorem d20_37 : decode jdk_52_method_4_code 37 = .ok (.iload_n 2, 1) := by decide +kernel
theorem d20_38 : decode jdk_52_method_4_code 38 = .ok (.getstatic 59, 3) := by decide +kernel
theorem d20_41 : decode jdk_52_method_4_code 41 = .ok (.ishr, 1) := by decide +kernel
theorem d20_42 : decode jdk_52_method_4_code 42 = .ok (.i2b, 1) := by decide +kernel
theorem d20_43 : decode jdk_52_method_4_code 43 = .ok (.bastore, 1) := by decide +kernel
theorem d20_44 : decode jdk_52_method_4_code 44 = .ok (.aload_n 0, 1) := by decide +kernel
theorem d20_45 : decode jdk_52_method_4_code 45 = .ok (.iload_n 1, 1) := by decide +kernel
theorem d20_46 : decode jdk_52_method_4_code 46 = .ok (.iload_n 2, 1) := by decide +kernel
theorem d20_47 : decode jdk_52_method_4_code 47 = .ok (.getstatic 63, 3) := by decide +kernel
theorem d20_50 : decode jdk_52_method_4_code 50 = .ok (.ishr, 1) := by decide +kernel
theorem d20_51 : decode jdk_52_method_4_code 51 = .ok (.i2b, 1) := by decide +kernel
theorem d20_52 : decode jdk_52_method_4_code 52 = .ok (.bastore, 1) := by decide +kernel
theorem d20_53 : decode jdk_52_method_4_code 53 = .ok (.return_, 1) := by decide +kernel
theorem ef_rm_put0 (m : MethodId) (x0 : Addr) (x1 : Int32) (x2 : Int32) : entryFrame m #[(.ref x0), (.int x1), (.int x2)] 3 = mkF m 0 #[.val (.ref x0), .val (.int x1), .val (.int x2)] [] := by first | (simp [entryFrame, mkF, argsToLocals, Value.category]; done) | rfl
def Q_rm_put0 (Z : State) (u1 : Addr) (u3 : Int32) (kb : ClassId) (z : Int32) (vs : List Value) (h0 : Heap) (n0 : Nat) (v : Option Value) (h : Heap) (L : List Loc) : Prop := v = none ∧ Fr n0 L ∧ Keep h0 h [u1] ∧ Arv Z h u1 kb .byte z ((vs.set 0 (.int ((u3 >>> ((0 : Int32) &&& 31)).toInt8.toInt32))).set 1 (.int ((u3 >>> ((8 : Int32) &&& 31)).toInt8.toInt32))) (.int (0 : Int32))
set_option maxRecDepth 65536 in
set_option maxHeartbeats 40000000 in
theorem rm_put0 (l : Launch) (Z : State) (a0 : Array Value) (hw : ∀ d ∈ tables_1, d.before a0 Z = true) (ws : List Jvm.Cond) (u1 : Addr) (u3 : Int32) (kb : ClassId) (z : Int32) (vs : List Value) (h0 : Heap) (n0 : Nat) (Z0 : n0 ≤ h0.size) (SA : Sta Z h0 "java/lang/StringUTF16" "$assertionsDisabled" "Z" (.int (1 : Int32))) (SH : Sta Z h0 "java/lang/StringUTF16" "HI_BYTE_SHIFT" "I" (.int (0 : Int32))) (SLo : Sta Z h0 "java/lang/StringUTF16" "LO_BYTE_SHIFT" "I" (.int (8 : Int32))) (V1 : Arv Z h0 u1 kb .byte z vs (.int (0 : Int32))) (g1 : n0 ≤ u1) (hN0 : (0 : Int32) < z) (hN : (1 : Int32) < z) (hl0 : 0 < vs.length) (hl1 : 1 < vs.length) :
    MetFree l (⟨"java/lang/StringUTF16", "putChar", "([BII)V"⟩ : MethodName) (head1 (Jvm.Cond.code (⟨"java/lang/StringUTF16", "putChar", "([BII)V"⟩ : MethodName) jdk_52_method_4_code 3 none :: ws) ({ frames := 0, cells := 0, slots := 0, locals := 0 } : Room)) (fun a U => a = #[(.ref u1), (.int (0 : Int32)), (.int u3)] ∧ Z.Warmed39 U.vm ∧ U.heap = h0) (fun _ _ _ _ _ => True) (fun _ U o U' => ∃ v L, o = .returned v ∧ Q_rm_put0 Z u1 u3 kb z vs h0 n0 v U'.heap L ∧ FrameEnd U o U' L ({ frames := 0, cells := 0, slots := 0, locals := 0 } : Room).cells ({ frames := 0, cells := 0, slots := 0, locals := 0 } : Room).slots) := by
  refine MetFree.of_bodySF (plainFor_of_name pn_50925) hisR ?_
  intro p e s m args below meth c s₁ Bd hml0 hP hK
  obtain ⟨rfl, hZ, hh⟩ := hP
  have hx := Bd.exec
  have hby := Bd.bytes
  have hml : c.maxLocals = 3 := hml0
  have hown : s.vm.findClass "java/lang/StringUTF16" = some m.cls := findClass_of_methodNamed Bd.named
  have hnm := (name_of_methodNamed Bd.named Bd.method).1
  have X0 : Stand p l e ({ frames := 0, cells := 0, slots := 0, locals := 0 } : Room) s m #[(.ref u1), (.int (0 : Int32)), (.int u3)] below meth c s₁ [] 0 0 := Stand.of_body Bd
  have e0 : s₁.heap = h0 := by rw [← hh, Bd.state]; rfl
  have N0 := Fr.nil n0
  have K0 : Keep h0 h0 [u1] := Keep.refl _ _
  have pre0 : ∀ t, Steps p.tables e below (s₁.setTop (mkF m 0 #[.val (.ref u1), .val (.int (0 : Int32)), .val (.int u3)] [])) t → Steps p.tables e below (s₁.setTop (entryFrame m #[(.ref u1), (.int (0 : Int32)), (.int u3)] 3)) t := fun t k => castTop (ef_rm_put0 m u1 (0 : Int32) u3) k
  obtain ⟨T31, X31, e31, st31⟩ := getS2 X0 hx hZ hown (host := "") (Or.inl (own_w hw 90 rfl)) Via.refl e0 SA (g := (mkF m 0 #[.val (.ref u1), .val (.int (0 : Int32)), .val (.int u3)] [])) rfl (hb hby d20_0)
  obtain ⟨T32, X32, e32, st32⟩ := getS2 X31 hx hZ hown (host := "") (Or.inl (own_w hw 91 rfl)) Via.refl e31 SH (g := (mkF m 38 #[.val (.ref u1), .val (.int (1 : Int32)), .val (.int u3)] [(.int u3), (.int (0 : Int32)), (.ref u1)])) rfl (hb hby d20_38)
  obtain ⟨cl33, Ar33, q33, S33, M33, H33, G33⟩ := id V1
  obtain ⟨T33, h33, X33, e33, W33, st33⟩ := stB X32 hx hZ e32 Ar33 (j := (0 : Int32)) (inb_of S33 ⟨by decide, hN0⟩) (g := (mkF m 43 #[.val (.ref u1), .val (.int (1 : Int32)), .val (.int u3)] [(.int ((u3 >>> ((0 : Int32) &&& 31)).toInt8.toInt32)), (.int (0 : Int32)), (.ref u1)])) rfl rfl (hb hby d20_43)
  have V33 := Arv.set Ar33 q33 S33 M33 H33 G33 (fits_nar_byte _) W33 0 rfl hl0
  have N33 := Fr.snoc X33 N0 g1
  have Z33 : n0 ≤ h33.size := Nat.le_trans Z0 (Keep.of_wr W33).1
  have K33 : Keep h0 h33 [u1] := Keep.wr K0 W33 (Or.inl (List.mem_of_getElem? (i := 0) rfl))
  rw [own_nb] at V33
  obtain ⟨T34, X34, e34, st34⟩ := getS2 X33 hx hZ hown (host := "") (Or.inl (own_w hw 92 rfl)) Via.refl e33 (Sta.wr W33 SLo) (g := (mkF m 47 #[.val (.ref u1), .val (.int (1 : Int32)), .val (.int u3)] [(.int u3), (.int (1 : Int32)), (.ref u1)])) rfl (hb hby d20_47)
  obtain ⟨cl35, Ar35, q35, S35, M35, H35, G35⟩ := id V33
  obtain ⟨T35, h35, X35, e35, W35, st35⟩ := stB X34 hx hZ e34 Ar35 (j := (1 : Int32)) (inb_of S35 ⟨by decide, hN⟩) (g := (mkF m 52 #[.val (.ref u1), .val (.int (1 : Int32)), .val (.int u3)] [(.int ((u3 >>> ((8 : Int32) &&& 31)).toInt8.toInt32)), (.int (1 : Int32)), (.ref u1)])) rfl rfl (hb hby d20_52)
  have V35 := Arv.set Ar35 q35 S35 M35 H35 G35 (fits_nar_byte _) W35 1 rfl (by rw [List.length_set]; exact hl1)
  have N35 := Fr.snoc X35 N33 g1
  have Z35 : n0 ≤ h35.size := Nat.le_trans Z33 (Keep.of_wr W35).1
  have K35 : Keep h0 h35 [u1] := Keep.wr K33 W35 (Or.inl (List.mem_of_getElem? (i := 0) rfl))
  rw [own_nb] at V35
  obtain ⟨fs, hr, hrun, hended, hW, hsame⟩ := X35.leave (v := none) (fun _ => rfl)
  refine ⟨_, _, pre0 _ ?_, hrun, hended, _, _, rfl, ?_, ⟨_, rfl⟩, hW, hsame.mono (by decide) (by decide)⟩
  · show Steps p.tables e below (s₁.setTop (mkF m 0 #[.val (.ref u1), .val (.int (0 : Int32)), .val (.int u3)] [])) _
    refine st31 _ ?_
    refine XS.ifYes X31.here hx rfl (pc0 := 3) (pc' := 28) rfl (hb hby d20_3) rfl (by decide) (by decide) (by decide) ?_
    refine XS.iloadN X31.here hx rfl (hb hby d20_28) rfl ?_
    refine XS.iconst X31.here hx rfl (hb hby d20_29) ?_
    refine XS.ishl X31.here hx rfl (hb hby d20_30) rfl ?_
    refine XS.istoreN X31.here hx rfl (hb hby d20_31) rfl (l' := #[.val (.ref u1), .val (.int (0 : Int32)), .val (.int u3)]) rfl ?_
    refine XS.aloadN X31.here hx rfl (hb hby d20_32) rfl rfl ?_
    refine XS.iloadN X31.here hx rfl (hb hby d20_33) rfl ?_
    show Steps p.tables e below (T31.setTop (mkF m 34 #[.val (.ref u1), .val (.int (0 : Int32)), .val (.int u3)] [(.int (0 : Int32)), (.ref u1)])) _
    refine XS.iinc X31.here hx rfl (hb hby d20_34) rfl (l' := #[.val (.ref u1), .val (.int (1 : Int32)), .val (.int u3)]) rfl ?_
    refine XS.iloadN X31.here hx rfl (hb hby d20_37) rfl ?_
    refine st32 _ ?_
    refine XS.ishr X32.here hx rfl (hb hby d20_41) rfl ?_
    refine XS.i2b X32.here hx rfl (hb hby d20_42) rfl ?_
    refine st33 _ ?_
    refine XS.aloadN X33.here hx rfl (hb hby d20_44) rfl rfl ?_
    refine XS.iloadN X33.here hx rfl (hb hby d20_45) rfl ?_
    show Steps p.tables e below (T33.setTop (mkF m 46 #[.val (.ref u1), .val (.int (1 : Int32)), .val (.int u3)] [(.int (1 : Int32)), (.ref u1)])) _
    refine XS.iloadN X33.here hx rfl (hb hby d20_46) rfl ?_
    refine st34 _ ?_
    refine XS.ishr X34.here hx rfl (hb hby d20_50) rfl ?_
    refine XS.i2b X34.here hx rfl (hb hby d20_51) rfl ?_
    refine st35 _ ?_
    show Steps p.tables e below (T35.setTop (mkF m 53 #[.val (.ref u1), .val (.int (1 : Int32)), .val (.int u3)] [])) _
    exact X35.returnOut hx Bd.returns (hb hby d20_53) hr
  · show Q_rm_put0 Z _ _ _ _ _ h0 n0 _ T35.heap _
    rw [e35]
    exact ⟨rfl, N35, K35, V35⟩
theorem ef_rm_put1 (m : MethodId) (x0 : Addr) (x1 : Int32) (x2 : Int32) : entryFrame m #[(.ref x0), (.int x1), (.int x2)] 3 = mkF m 0 #[.val (.ref x0), .val (.int x1), .val (.int x2)] [] := by first | (simp [entryFrame, mkF, argsToLocals, Value.category]; done) | rfl
def Q_rm_put1 (Z : State) (u1 : Addr) (u3 : Int32) (kb : ClassId) (z : Int32) (vs : List Value) (h0 : Heap) (n0 : Nat) (v : Option Value) (h : Heap) (L : List Loc) : Prop := v = none ∧ Fr n0 L ∧ Keep h0 h [u1] ∧ Arv Z h u1 kb .byte z ((vs.set 2 (.int ((u3 >>> ((0 : Int32) &&& 31)).toInt8.toInt32))).set 3 (.int ((u3 >>> ((8 : Int32) &&& 31)).toInt8.toInt32))) (.int (0 : Int32))
set_option maxRecDepth 65536 in
set_option maxHeartbeats 40000000 in
theorem rm_put1 (l : Launch) (Z : State) (a0 : Array Value) (hw : ∀ d ∈ tables_1, d.before a0 Z = true) (ws : List Jvm.Cond) (u1 : Addr) (u3 : Int32) (kb : ClassId) (z : Int32) (vs : List Value) (h0 : Heap) (n0 : Nat) (Z0 : n0 ≤ h0.size) (SA : Sta Z h0 "java/lang/StringUTF16" "$assertionsDisabled" "Z" (.int (1 : Int32))) (SH : Sta Z h0 "java/lang/StringUTF16" "HI_BYTE_SHIFT" "I" (.int (0 : Int32))) (SLo : Sta Z h0 "java/lang/StringUTF16" "LO_BYTE_SHIFT" "I" (.int (8 : Int32))) (V1 : Arv Z h0 u1 kb .byte z vs (.int (0 : Int32))) (g1 : n0 ≤ u1) (hN0 : (2 : Int32) < z) (hN : (3 : Int32) < z) (hl0 : 2 < vs.length) (hl1 : 3 < vs.length) :
    MetFree l (⟨"java/lang/StringUTF16", "putChar", "([BII)V"⟩ : MethodName) (head1 (Jvm.Cond.code (⟨"java/lang/StringUTF16", "putChar", "([BII)V"⟩ : MethodName) jdk_52_method_4_code 3 none :: ws) ({ frames := 0, cells := 0, slots := 0, locals := 0 } : Room)) (fun a U => a = #[(.ref u1), (.int (1 : Int32)), (.int u3)] ∧ Z.Warmed39 U.vm ∧ U.heap = h0) (fun _ _ _ _ _ => True) (fun _ U o U' => ∃ v L, o = .returned v ∧ Q_rm_put1 Z u1 u3 kb z vs h0 n0 v U'.heap L ∧ FrameEnd U o U' L ({ frames := 0, cells := 0, slots := 0, locals := 0 } : Room).cells ({ frames := 0, cells := 0, slots := 0, locals := 0 } : Room).slots) := by
  refine MetFree.of_bodySF (plainFor_of_name pn_50925) hisR ?_
  intro p e s m args below meth c s₁ Bd hml0 hP hK
  obtain ⟨rfl, hZ, hh⟩ := hP
  have hx := Bd.exec
  have hby := Bd.bytes
  have hml : c.maxLocals = 3 := hml0
  have hown : s.vm.findClass "java/lang/StringUTF16" = some m.cls := findClass_of_methodNamed Bd.named
  have hnm := (name_of_methodNamed Bd.named Bd.method).1
  have X0 : Stand p l e ({ frames := 0, cells := 0, slots := 0, locals := 0 } : Room) s m #[(.ref u1), (.int (1 : Int32)), (.int u3)] below meth c s₁ [] 0 0 := Stand.of_body Bd
  have e0 : s₁.heap = h0 := by rw [← hh, Bd.state]; rfl
  have N0 := Fr.nil n0
  have K0 : Keep h0 h0 [u1] := Keep.refl _ _
  have pre0 : ∀ t, Steps p.tables e below (s₁.setTop (mkF m 0 #[.val (.ref u1), .val (.int (1 : Int32)), .val (.int u3)] [])) t → Steps p.tables e below (s₁.setTop (entryFrame m #[(.ref u1), (.int (1 : Int32)), (.int u3)] 3)) t := fun t k => castTop (ef_rm_put1 m u1 (1 : Int32) u3) k
  obtain ⟨T31, X31, e31, st31⟩ := getS2 X0 hx hZ hown (host := "") (Or.inl (own_w hw 90 rfl)) Via.refl e0 SA (g := (mkF m 0 #[.val (.ref u1), .val (.int (1 : Int32)), .val (.int u3)] [])) rfl (hb hby d20_0)
  obtain ⟨T32, X32, e32, st32⟩ := getS2 X31 hx hZ hown (host := "") (Or.inl (own_w hw 91 rfl)) Via.refl e31 SH (g := (mkF m 38 #[.val (.ref u1), .val (.int (3 : Int32)), .val (.int u3)] [(.int u3), (.int (2 : Int32)), (.ref u1)])) rfl (hb hby d20_38)
  obtain ⟨cl33, Ar33, q33, S33, M33, H33, G33⟩ := id V1
  obtain ⟨T33, h33, X33, e33, W33, st33⟩ := stB X32 hx hZ e32 Ar33 (j := (2 : Int32)) (inb_of S33 ⟨by decide, hN0⟩) (g := (mkF m 43 #[.val (.ref u1), .val (.int (3 : Int32)), .val (.int u3)] [(.int ((u3 >>> ((0 : Int32) &&& 31)).toInt8.toInt32)), (.int (2 : Int32)), (.ref u1)])) rfl rfl (hb hby d20_43)
  have V33 := Arv.set Ar33 q33 S33 M33 H33 G33 (fits_nar_byte _) W33 2 rfl hl0
  have N33 := Fr.snoc X33 N0 g1
  have Z33 : n0 ≤ h33.size := Nat.le_trans Z0 (Keep.of_wr W33).1
  have K33 : Keep h0 h33 [u1] := Keep.wr K0 W33 (Or.inl (List.mem_of_getElem? (i := 0) rfl))
  rw [own_nb] at V33
  obtain ⟨T34, X34, e34, st34⟩ := getS2 X33 hx hZ hown (host := "") (Or.inl (own_w hw 92 rfl)) Via.refl e33 (Sta.wr W33 SLo) (g := (mkF m 47 #[.val (.ref u1), .val (.int (3 : Int32)), .val (.int u3)] [(.int u3), (.int (3 : Int32)), (.ref u1)])) rfl (hb hby d20_47)
  obtain ⟨cl35, Ar35, q35, S35, M35, H35, G35⟩ := id V33
  obtain ⟨T35, h35, X35, e35, W35, st35⟩ := stB X34 hx hZ e34 Ar35 (j := (3 : Int32)) (inb_of S35 ⟨by decide, hN⟩) (g := (mkF m 52 #[.val (.ref u1), .val (.int (3 : Int32)), .val (.int u3)] [(.int ((u3 >>> ((8 : Int32) &&& 31)).toInt8.toInt32)), (.int (3 : Int32)), (.ref u1)])) rfl rfl (hb hby d20_52)
  have V35 := Arv.set Ar35 q35 S35 M35 H35 G35 (fits_nar_byte _) W35 3 rfl (by rw [List.length_set]; exact hl1)
  have N35 := Fr.snoc X35 N33 g1
  have Z35 : n0 ≤ h35.size := Nat.le_trans Z33 (Keep.of_wr W35).1
  have K35 : Keep h0 h35 [u1] := Keep.wr K33 W35 (Or.inl (List.mem_of_getElem? (i := 0) rfl))
  rw [own_nb] at V35
  obtain ⟨fs, hr, hrun, hended, hW, hsame⟩ := X35.leave (v := none) (fun _ => rfl)
  refine ⟨_, _, pre0 _ ?_, hrun, hended, _, _, rfl, ?_, ⟨_, rfl⟩, hW, hsame.mono (by decide) (by decide)⟩
  · show Steps p.tables e below (s₁.setTop (mkF m 0 #[.val (.ref u1), .val (.int (1 : Int32)), .val (.int u3)] [])) _
    refine st31 _ ?_
    refine XS.ifYes X31.here hx rfl (pc0 := 3) (pc' := 28) rfl (hb hby d20_3) rfl (by decide) (by decide) (by decide) ?_
    refine XS.iloadN X31.here hx rfl (hb hby d20_28) rfl ?_
    refine XS.iconst X31.here hx rfl (hb hby d20_29) ?_
    refine XS.ishl X31.here hx rfl (hb hby d20_30) rfl ?_
    refine XS.istoreN X31.here hx rfl (hb hby d20_31) rfl (l' := #[.val (.ref u1), .val (.int (2 : Int32)), .val (.int u3)]) rfl ?_
    refine XS.aloadN X31.here hx rfl (hb hby d20_32) rfl rfl ?_
    refine XS.iloadN X31.here hx rfl (hb hby d20_33) rfl ?_
    show Steps p.tables e below (T31.setTop (mkF m 34 #[.val (.ref u1), .val (.int (2 : Int32)), .val (.int u3)] [(.int (2 : Int32)), (.ref u1)])) _
    refine XS.iinc X31.here hx rfl (hb hby d20_34) rfl (l' := #[.val (.ref u1), .val (.int (3 : Int32)), .val (.int u3)]) rfl ?_
    refine XS.iloadN X31.here hx rfl (hb hby d20_37) rfl ?_
    refine st32 _ ?_
    refine XS.ishr X32.here hx rfl (hb hby d20_41) rfl ?_
    refine XS.i2b X32.here hx rfl (hb hby d20_42) rfl ?_
    refine st33 _ ?_
    refine XS.aloadN X33.here hx rfl (hb hby d20_44) rfl rfl ?_
    refine XS.iloadN X33.here hx rfl (hb hby d20_45) rfl ?_
    show Steps p.tables e below (T33.setTop (mkF m 46 #[.val (.ref u1), .val (.int (3 : Int32)), .val (.int u3)] [(.int (3 : Int32)), (.ref u1)])) _
    refine XS.iloadN X33.here hx rfl (hb hby d20_46) rfl ?_
    refine st34 _ ?_
    refine XS.ishr X34.here hx rfl (hb hby d20_50) rfl ?_
    refine XS.i2b X34.here hx rfl (hb hby d20_51) rfl ?_
    refine st35 _ ?_
    show Steps p.tables e below (T35.setTop (mkF m 53 #[.val (.ref u1), .val (.int (3 : Int32)), .val (.int u3)] [])) _
    exact X35.returnOut hx Bd.returns (hb hby d20_53) hr
  · show Q_rm_put1 Z _ _ _ _ _ h0 n0 _ T35.heap _
    rw [e35]
    exact ⟨rfl, N35, K35, V35⟩
theorem ef_rm_put2 (m : MethodId) (x0 : Addr) (x1 : Int32) (x2 : Int32) : entryFrame m #[(.ref x0), (.int x1), (.int x2)] 3 = mkF m 0 #[.val (.ref x0), .val (.int x1), .val (.int x2)] [] := by first | (simp [entryFrame, mkF, argsToLocals, Value.category]; done) | rfl
def Q_rm_put2 (Z : State) (u1 : Addr) (u3 : Int32) (kb : ClassId) (z : Int32) (vs : List Value) (h0 : Heap) (n0 : Nat) (v : Option Value) (h : Heap) (L : List Loc) : Prop := v = none ∧ Fr n0 L ∧ Keep h0 h [u1] ∧ Arv Z h u1 kb .byte z ((vs.set 4 (.int ((u3 >>> ((0 : Int32) &&& 31)).toInt8.toInt32))).set 5 (.int ((u3 >>> ((8 : Int32) &&& 31)).toInt8.toInt32))) (.int (0 : Int32))
set_option maxRecDepth 65536 in
set_option maxHeartbeats 40000000 in
theorem rm_put2 (l : Launch) (Z : State) (a0 : Array Value) (hw : ∀ d ∈ tables_1, d.before a0 Z = true) (ws : List Jvm.Cond) (u1 : Addr) (u3 : Int32) (kb : ClassId) (z : Int32) (vs : List Value) (h0 : Heap) (n0 : Nat) (Z0 : n0 ≤ h0.size) (SA : Sta Z h0 "java/lang/StringUTF16" "$assertionsDisabled" "Z" (.int (1 : Int32))) (SH : Sta Z h0 "java/lang/StringUTF16" "HI_BYTE_SHIFT" "I" (.int (0 : Int32))) (SLo : Sta Z h0 "java/lang/StringUTF16" "LO_BYTE_SHIFT" "I" (.int (8 : Int32))) (V1 : Arv Z h0 u1 kb .byte z vs (.int (0 : Int32))) (g1 : n0 ≤ u1) (hN0 : (4 : Int32) < z) (hN : (5 : Int32) < z) (hl0 : 4 < vs.length) (hl1 : 5 < vs.length) :
    MetFree l (⟨"java/lang/StringUTF16", "putChar", "([BII)V"⟩ : MethodName) (head1 (Jvm.Cond.code (⟨"java/lang/StringUTF16", "putChar", "([BII)V"⟩ : MethodName) jdk_52_method_4_code 3 none :: ws) ({ frames := 0, cells := 0, slots := 0, locals := 0 } : Room)) (fun a U => a = #[(.ref u1), (.int (2 : Int32)), (.int u3)] ∧ Z.Warmed39 U.vm ∧ U.heap = h0) (fun _ _ _ _ _ => True) (fun _ U o U' => ∃ v L, o = .returned v ∧ Q_rm_put2 Z u1 u3 kb z vs h0 n0 v U'.heap L ∧ FrameEnd U o U' L ({ frames := 0, cells := 0, slots := 0, locals := 0 } : Room).cells ({ frames := 0, cells := 0, slots := 0, locals := 0 } : Room).slots) := by
  refine MetFree.of_bodySF (plainFor_of_name pn_50925) hisR ?_
  intro p e s m args below meth c s₁ Bd hml0 hP hK
  obtain ⟨rfl, hZ, hh⟩ := hP
  have hx := Bd.exec
  have hby := Bd.bytes
  have hml : c.maxLocals = 3 := hml0
  have hown : s.vm.findClass "java/lang/StringUTF16" = some m.cls := findClass_of_methodNamed Bd.named
  have hnm := (name_of_methodNamed Bd.named Bd.method).1
  have X0 : Stand p l e ({ frames := 0, cells := 0, slots := 0, locals := 0 } : Room) s m #[(.ref u1), (.int (2 : Int32)), (.int u3)] below meth c s₁ [] 0 0 := Stand.of_body Bd
  have e0 : s₁.heap = h0 := by rw [← hh, Bd.state]; rfl
  have N0 := Fr.nil n0
  have K0 : Keep h0 h0 [u1] := Keep.refl _ _
  have pre0 : ∀ t, Steps p.tables e below (s₁.setTop (mkF m 0 #[.val (.ref u1), .val (.int (2 : Int32)), .val (.int u3)] [])) t → Steps p.tables e below (s₁.setTop (entryFrame m #[(.ref u1), (.int (2 : Int32)), (.int u3)] 3)) t := fun t k => castTop (ef_rm_put2 m u1 (2 : Int32) u3) k
  obtain ⟨T31, X31, e31, st31⟩ := getS2 X0 hx hZ hown (host := "") (Or.inl (own_w hw 90 rfl)) Via.refl e0 SA (g := (mkF m 0 #[.val (.ref u1), .val (.int (2 : Int32)), .val (.int u3)] [])) rfl (hb hby d20_0)
  obtain ⟨T32, X32, e32, st32⟩ := getS2 X31 hx hZ hown (host := "") (Or.inl (own_w hw 91 rfl)) Via.refl e31 SH (g := (mkF m 38 #[.val (.ref u1), .val (.int (5 : Int32)), .val (.int u3)] [(.int u3), (.int (4 : Int32)), (.ref u1)])) rfl (hb hby d20_38)
  obtain ⟨cl33, Ar33, q33, S33, M33, H33, G33⟩ := id V1
  obtain ⟨T33, h33, X33, e33, W33, st33⟩ := stB X32 hx hZ e32 Ar33 (j := (4 : Int32)) (inb_of S33 ⟨by decide, hN0⟩) (g := (mkF m 43 #[.val (.ref u1), .val (.int (5 : Int32)), .val (.int u3)] [(.int ((u3 >>> ((0 : Int32) &&& 31)).toInt8.toInt32)), (.int (4 : Int32)), (.ref u1)])) rfl rfl (hb hby d20_43)
  have V33 := Arv.set Ar33 q33 S33 M33 H33 G33 (fits_nar_byte _) W33 4 rfl hl0
  have N33 := Fr.snoc X33 N0 g1
  have Z33 : n0 ≤ h33.size := Nat.le_trans Z0 (Keep.of_wr W33).1
  have K33 : Keep h0 h33 [u1] := Keep.wr K0 W33 (Or.inl (List.mem_of_getElem? (i := 0) rfl))
  rw [own_nb] at V33
  obtain ⟨T34, X34, e34, st34⟩ := getS2 X33 hx hZ hown (host := "") (Or.inl (own_w hw 92 rfl)) Via.refl e33 (Sta.wr W33 SLo) (g := (mkF m 47 #[.val (.ref u1), .val (.int (5 : Int32)), .val (.int u3)] [(.int u3), (.int (5 : Int32)), (.ref u1)])) rfl (hb hby d20_47)
  obtain ⟨cl35, Ar35, q35, S35, M35, H35, G35⟩ := id V33
  obtain ⟨T35, h35, X35, e35, W35, st35⟩ := stB X34 hx hZ e34 Ar35 (j := (5 : Int32)) (inb_of S35 ⟨by decide, hN⟩) (g := (mkF m 52 #[.val (.ref u1), .val (.int (5 : Int32)), .val (.int u3)] [(.int ((u3 >>> ((8 : Int32) &&& 31)).toInt8.toInt32)), (.int (5 : Int32)), (.ref u1)])) rfl rfl (hb hby d20_52)
  have V35 := Arv.set Ar35 q35 S35 M35 H35 G35 (fits_nar_byte _) W35 5 rfl (by rw [List.length_set]; exact hl1)
  have N35 := Fr.snoc X35 N33 g1
  have Z35 : n0 ≤ h35.size := Nat.le_trans Z33 (Keep.of_wr W35).1
  have K35 : Keep h0 h35 [u1] := Keep.wr K33 W35 (Or.inl (List.mem_of_getElem? (i := 0) rfl))
  rw [own_nb] at V35
  obtain ⟨fs, hr, hrun, hended, hW, hsame⟩ := X35.leave (v := none) (fun _ => rfl)
  refine ⟨_, _, pre0 _ ?_, hrun, hended, _, _, rfl, ?_, ⟨_, rfl⟩, hW, hsame.mono (by decide) (by decide)⟩
  · show Steps p.tables e below (s₁.setTop (mkF m 0 #[.val (.ref u1), .val (.int (2 : Int32)), .val (.int u3)] [])) _
    refine st31 _ ?_
    refine XS.ifYes X31.here hx rfl (pc0 := 3) (pc' := 28) rfl (hb hby d20_3) rfl (by decide) (by decide) (by decide) ?_
    refine XS.iloadN X31.here hx rfl (hb hby d20_28) rfl ?_
    refine XS.iconst X31.here hx rfl (hb hby d20_29) ?_
    refine XS.ishl X31.here hx rfl (hb hby d20_30) rfl ?_
    refine XS.istoreN X31.here hx rfl (hb hby d20_31) rfl (l' := #[.val (.ref u1), .val (.int (4 : Int32)), .val (.int u3)]) rfl ?_
    refine XS.aloadN X31.here hx rfl (hb hby d20_32) rfl rfl ?_
    refine XS.iloadN X31.here hx rfl (hb hby d20_33) rfl ?_
    show Steps p.tables e below (T31.setTop (mkF m 34 #[.val (.ref u1), .val (.int (4 : Int32)), .val (.int u3)] [(.int (4 : Int32)), (.ref u1)])) _
    refine XS.iinc X31.here hx rfl (hb hby d20_34) rfl (l' := #[.val (.ref u1), .val (.int (5 : Int32)), .val (.int u3)]) rfl ?_
    refine XS.iloadN X31.here hx rfl (hb hby d20_37) rfl ?_
    refine st32 _ ?_
    refine XS.ishr X32.here hx rfl (hb hby d20_41) rfl ?_
    refine XS.i2b X32.here hx rfl (hb hby d20_42) rfl ?_
    refine st33 _ ?_
    refine XS.aloadN X33.here hx rfl (hb hby d20_44) rfl rfl ?_
    refine XS.iloadN X33.here hx rfl (hb hby d20_45) rfl ?_
    show Steps p.tables e below (T33.setTop (mkF m 46 #[.val (.ref u1), .val (.int (5 : Int32)), .val (.int u3)] [(.int (5 : Int32)), (.ref u1)])) _
    refine XS.iloadN X33.here hx rfl (hb hby d20_46) rfl ?_
    refine st34 _ ?_
    refine XS.ishr X34.here hx rfl (hb hby d20_50) rfl ?_
    refine XS.i2b X34.here hx rfl (hb hby d20_51) rfl ?_
    refine st35 _ ?_
    show Steps p.tables e below (T35.setTop (mkF m 53 #[.val (.ref u1), .val (.int (5 : Int32)), .val (.int u3)] [])) _
    exact X35.returnOut hx Bd.returns (hb hby d20_53) hr
  · show Q_rm_put2 Z _ _ _ _ _ h0 n0 _ T35.heap _
    rw [e35]
    exact ⟨rfl, N35, K35, V35⟩
theorem d21_0 : decode jdk_52_method_5_code 0 = .ok (.getstatic 44, 3) := by decide +kernel
theorem d21_3 : decode jdk_52_method_5_code 3 = .ok (.ifCond .ne 25, 3) := by decide +kernel
theorem d21_28 : decode jdk_52_method_5_code 28 = .ok (.iload_n 1, 1) := by decide +kernel
theorem d21_29 : decode jdk_52_method_5_code 29 = .ok (.iconst 1, 1) := by decide +kernel
theorem d21_30 : decode jdk_52_method_5_code 30 = .ok (.ishl, 1) := by decide +kernel
theorem d21_31 : decode jdk_52_method_5_code 31 = .ok (.istore_n 1, 1) := by decide +kernel
theorem d21_32 : decode jdk_52_method_5_code 32 = .ok (.aload_n 0, 1) := by decide +kernel
theorem d21_33 : decode jdk_52_method_5_code 33 = .ok (.iload_n 1, 1) := by decide +kernel
theorem d21_34 : decode jdk_52_method_5_code 34 = .ok (.iinc 1 1, 3) := by decide +kernel
theorem d21_37 : decode jdk_52_method_5_code 37 = .ok (.baload, 1) := by decide +kernel
theorem d21_38 : decode jdk_52_method_5_code 38 = .ok (.sipush 255, 3) := by decide +kernel
theorem d21_41 : decode jdk_52_method_5_code 41 = .ok (.iand, 1) := by decide +kernel
theorem d21_42 : decode jdk_52_method_5_code 42 = .ok (.getstatic 59, 3) := by decide +kernel
theorem d21_45 : decode jdk_52_method_5_code 45 = .ok (.ishl, 1) := by decide +kernel
theorem d21_46 : decode jdk_52_method_5_code 46 = .ok (.aload_n 0, 1) := by decide +kernel
theorem d21_47 : decode jdk_52_method_5_code 47 = .ok (.iload_n 1, 1) := by decide +kernel
theorem d21_48 : decode jdk_52_method_5_code 48 = .ok (.baload, 1) := by decide +kernel
theorem d21_49 : decode jdk_52_method_5_code 49 = .ok (.sipush 255, 3) := by decide +kernel
theorem d21_52 : decode jdk_52_method_5_code 52 = .ok (.iand, 1) := by decide +kernel
theorem d21_53 : decode jdk_52_method_5_code 53 = .ok (.getstatic 63, 3) := by decide +kernel
theorem d21_56 : decode jdk_52_method_5_code 56 = .ok (.ishl, 1) := by decide +kernel
theorem d21_57 : decode jdk_52_method_5_code 57 = .ok (.ior, 1) := by decide +kernel
theorem d21_58 : decode jdk_52_method_5_code 58 = .ok (.i2c, 1) := by decide +kernel
theorem d21_59 : decode jdk_52_method_5_code 59 = .ok (.ireturn, 1) := by decide +kernel
theorem ef_rm_get0 (m : MethodId) (x0 : Addr) (x1 : Int32) : entryFrame m #[(.ref x0), (.int x1)] 2 = mkF m 0 #[.val (.ref x0), .val (.int x1)] [] := by first | (simp [entryFrame, mkF, argsToLocals, Value.category]; done) | rfl
def Q_rm_get0 (Z : State) (u1 : Addr) (kb : ClassId) (z : Int32) (vs : List Value) (x0 : Int32) (x1 : Int32) (rr : Int32) (h0 : Heap) (n0 : Nat) (v : Option Value) (h : Heap) (L : List Loc) : Prop := v = some (.int rr) ∧ Fr n0 L ∧ h = h0
set_option maxRecDepth 65536 in
set_option maxHeartbeats 40000000 in
theorem rm_get0 (l : Launch) (Z : State) (a0 : Array Value) (hw : ∀ d ∈ tables_1, d.before a0 Z = true) (ws : List Jvm.Cond) (u1 : Addr) (kb : ClassId) (z : Int32) (vs : List Value) (x0 : Int32) (x1 : Int32) (rr : Int32) (h0 : Heap) (n0 : Nat) (Z0 : n0 ≤ h0.size) (SA : Sta Z h0 "java/lang/StringUTF16" "$assertionsDisabled" "Z" (.int (1 : Int32))) (SH : Sta Z h0 "java/lang/StringUTF16" "HI_BYTE_SHIFT" "I" (.int (0 : Int32))) (SLo : Sta Z h0 "java/lang/StringUTF16" "LO_BYTE_SHIFT" "I" (.int (8 : Int32))) (hrr : (nar .char ((((x0 &&& (255 : Int32)) <<< ((0 : Int32) &&& 31)) ||| ((x1 &&& (255 : Int32)) <<< ((8 : Int32) &&& 31))).toUInt32.toUInt16.toUInt32.toInt32)) = rr) (V1 : Arv Z h0 u1 kb .byte z vs (.int (0 : Int32))) (hN0 : (0 : Int32) < z) (hN1 : (1 : Int32) < z) (hv0 : vs.getD ((0 : Int32)).toNatClampNeg (.int (0 : Int32)) = .int x0) (hv1 : vs.getD ((1 : Int32)).toNatClampNeg (.int (0 : Int32)) = .int x1) :
    MetFree l (⟨"java/lang/StringUTF16", "getChar", "([BI)C"⟩ : MethodName) (head1 (Jvm.Cond.code (⟨"java/lang/StringUTF16", "getChar", "([BI)C"⟩ : MethodName) jdk_52_method_5_code 2 (some .char) :: ws) ({ frames := 0, cells := 0, slots := 0, locals := 0 } : Room)) (fun a U => a = #[(.ref u1), (.int (0 : Int32))] ∧ Z.Warmed39 U.vm ∧ U.heap = h0) (fun _ _ _ _ _ => True) (fun _ U o U' => ∃ v L, o = .returned v ∧ Q_rm_get0 Z u1 kb z vs x0 x1 rr h0 n0 v U'.heap L ∧ FrameEnd U o U' L ({ frames := 0, cells := 0, slots := 0, locals := 0 } : Room).cells ({ frames := 0, cells := 0, slots := 0, locals := 0 } : Room).slots) := by
  refine MetFree.of_bodySF (plainFor_of_name pn_50925) hisR ?_
  intro p e s m args below meth c s₁ Bd hml0 hP hK
  obtain ⟨rfl, hZ, hh⟩ := hP
  have hx := Bd.exec
  have hby := Bd.bytes
  have hml : c.maxLocals = 2 := hml0
  have hown : s.vm.findClass "java/lang/StringUTF16" = some m.cls := findClass_of_methodNamed Bd.named
  have hnm := (name_of_methodNamed Bd.named Bd.method).1
  have X0 : Stand p l e ({ frames := 0, cells := 0, slots := 0, locals := 0 } : Room) s m #[(.ref u1), (.int (0 : Int32))] below meth c s₁ [] 0 0 := Stand.of_body Bd
  have e0 : s₁.heap = h0 := by rw [← hh, Bd.state]; rfl
  have N0 := Fr.nil n0
  have pre0 : ∀ t, Steps p.tables e below (s₁.setTop (mkF m 0 #[.val (.ref u1), .val (.int (0 : Int32))] [])) t → Steps p.tables e below (s₁.setTop (entryFrame m #[(.ref u1), (.int (0 : Int32))] 2)) t := fun t k => castTop (ef_rm_get0 m u1 (0 : Int32)) k
  obtain ⟨cl, Ar, -, Sz, Mz, Hz, -⟩ := id V1
  obtain ⟨T31, X31, e31, st31⟩ := getS2 X0 hx hZ hown (host := "") (Or.inl (own_w hw 90 rfl)) Via.refl e0 SA (g := (mkF m 0 #[.val (.ref u1), .val (.int (0 : Int32))] [])) rfl (hb hby d21_0)
  obtain ⟨T32, X32, e32, st32⟩ := getS2 X31 hx hZ hown (host := "") (Or.inl (own_w hw 91 rfl)) Via.refl e31 SH (g := (mkF m 42 #[.val (.ref u1), .val (.int (1 : Int32))] [(.int (x0 &&& (255 : Int32)))])) rfl (hb hby d21_42)
  obtain ⟨T33, X33, e33, st33⟩ := getS2 X32 hx hZ hown (host := "") (Or.inl (own_w hw 92 rfl)) Via.refl e32 SLo (g := (mkF m 53 #[.val (.ref u1), .val (.int (1 : Int32))] [(.int (x1 &&& (255 : Int32))), (.int ((x0 &&& (255 : Int32)) <<< ((0 : Int32) &&& 31)))])) rfl (hb hby d21_53)
  obtain ⟨fs, hr, hrun, hended, hW, hsame⟩ := X33.leave (v := some (.int (nar .char ((((x0 &&& (255 : Int32)) <<< ((0 : Int32) &&& 31)) ||| ((x1 &&& (255 : Int32)) <<< ((8 : Int32) &&& 31))).toUInt32.toUInt16.toUInt32.toInt32)))) (fun h => by rw [Bd.returns] at h; cases h)
  refine ⟨_, _, pre0 _ ?_, hrun, hended, _, _, rfl, ?_, ⟨_, rfl⟩, hW, hsame.mono (by decide) (by decide)⟩
  · show Steps p.tables e below (s₁.setTop (mkF m 0 #[.val (.ref u1), .val (.int (0 : Int32))] [])) _
    refine st31 _ ?_
    refine XS.ifYes X31.here hx rfl (pc0 := 3) (pc' := 28) rfl (hb hby d21_3) rfl (by decide) (by decide) (by decide) ?_
    refine XS.iloadN X31.here hx rfl (hb hby d21_28) rfl ?_
    refine XS.iconst X31.here hx rfl (hb hby d21_29) ?_
    refine XS.ishl X31.here hx rfl (hb hby d21_30) rfl ?_
    refine XS.istoreN X31.here hx rfl (hb hby d21_31) rfl (l' := #[.val (.ref u1), .val (.int (0 : Int32))]) rfl ?_
    refine XS.aloadN X31.here hx rfl (hb hby d21_32) rfl rfl ?_
    refine XS.iloadN X31.here hx rfl (hb hby d21_33) rfl ?_
    show Steps p.tables e below (T31.setTop (mkF m 34 #[.val (.ref u1), .val (.int (0 : Int32))] [(.int (0 : Int32)), (.ref u1)])) _
    refine XS.iinc X31.here hx rfl (hb hby d21_34) rfl (l' := #[.val (.ref u1), .val (.int (1 : Int32))]) rfl ?_
    refine X31.baloadBytes hx (j := (0 : Int32)) (v := (.int x0)) (by rw [e31]; exact Ar.1) (State.isArrayOf_alike hZ.alike Ar.2.1) Ar.2.2 (inb_of Sz ⟨by decide, hN0⟩) (Hz.at (inb_of Sz ⟨by decide, hN0⟩) hv0) (g := (mkF m 37 #[.val (.ref u1), .val (.int (1 : Int32))] [(.int (0 : Int32)), (.ref u1)])) rfl rfl (hb hby d21_37) _ ?_
    refine XS.sipush X31.here hx rfl (hb hby d21_38) ?_
    refine XS.iand X31.here hx rfl (hb hby d21_41) rfl ?_
    refine st32 _ ?_
    refine XS.ishl X32.here hx rfl (hb hby d21_45) rfl ?_
    refine XS.aloadN X32.here hx rfl (hb hby d21_46) rfl rfl ?_
    refine XS.iloadN X32.here hx rfl (hb hby d21_47) rfl ?_
    show Steps p.tables e below (T32.setTop (mkF m 48 #[.val (.ref u1), .val (.int (1 : Int32))] [(.int (1 : Int32)), (.ref u1), (.int ((x0 &&& (255 : Int32)) <<< ((0 : Int32) &&& 31)))])) _
    refine X32.baloadBytes hx (j := (1 : Int32)) (v := (.int x1)) (by rw [e32]; exact Ar.1) (State.isArrayOf_alike hZ.alike Ar.2.1) Ar.2.2 (inb_of Sz ⟨by decide, hN1⟩) (Hz.at (inb_of Sz ⟨by decide, hN1⟩) hv1) (g := (mkF m 48 #[.val (.ref u1), .val (.int (1 : Int32))] [(.int (1 : Int32)), (.ref u1), (.int ((x0 &&& (255 : Int32)) <<< ((0 : Int32) &&& 31)))])) rfl rfl (hb hby d21_48) _ ?_
    refine XS.sipush X32.here hx rfl (hb hby d21_49) ?_
    refine XS.iand X32.here hx rfl (hb hby d21_52) rfl ?_
    refine st33 _ ?_
    refine XS.ishl X33.here hx rfl (hb hby d21_56) rfl ?_
    refine XS.ior X33.here hx rfl (hb hby d21_57) rfl ?_
    refine XS.i2c X33.here hx rfl (hb hby d21_58) rfl ?_
    show Steps p.tables e below (T33.setTop (mkF m 59 #[.val (.ref u1), .val (.int (1 : Int32))] [(.int ((((x0 &&& (255 : Int32)) <<< ((0 : Int32) &&& 31)) ||| ((x1 &&& (255 : Int32)) <<< ((8 : Int32) &&& 31))).toUInt32.toUInt16.toUInt32.toInt32))])) _
    exact retN X33 hx (t := .char) Bd.returns (by simp) (hb hby d21_59) hr
  · show Q_rm_get0 Z _ _ _ _ _ _ _ h0 n0 _ T33.heap _
    rw [e33]
    exact ⟨(by rw [hrr]), N0, rfl⟩
theorem ef_rm_get1 (m : MethodId) (x0 : Addr) (x1 : Int32) : entryFrame m #[(.ref x0), (.int x1)] 2 = mkF m 0 #[.val (.ref x0), .val (.int x1)] [] := by first | (simp [entryFrame, mkF, argsToLocals, Value.category]; done) | rfl
def Q_rm_get1 (Z : State) (u1 : Addr) (kb : ClassId) (z : Int32) (vs : List Value) (x0 : Int32) (x1 : Int32) (rr : Int32) (h0 : Heap) (n0 : Nat) (v : Option Value) (h : Heap) (L : List Loc) : Prop := v = some (.int rr) ∧ Fr n0 L ∧ h = h0
set_option maxRecDepth 65536 in
set_option maxHeartbeats 40000000 in
theorem rm_get1 (l : Launch) (Z : State) (a0 : Array Value) (hw : ∀ d ∈ tables_1, d.before a0 Z = true) (ws : List Jvm.Cond) (u1 : Addr) (kb : ClassId) (z : Int32) (vs : List Value) (x0 : Int32) (x1 : Int32) (rr : Int32) (h0 : Heap) (n0 : Nat) (Z0 : n0 ≤ h0.size) (SA : Sta Z h0 "java/lang/StringUTF16" "$assertionsDisabled" "Z" (.int (1 : Int32))) (SH : Sta Z h0 "java/lang/StringUTF16" "HI_BYTE_SHIFT" "I" (.int (0 : Int32))) (SLo : Sta Z h0 "java/lang/StringUTF16" "LO_BYTE_SHIFT" "I" (.int (8 : Int32))) (hrr : (nar .char ((((x0 &&& (255 : Int32)) <<< ((0 : Int32) &&& 31)) ||| ((x1 &&& (255 : Int32)) <<< ((8 : Int32) &&& 31))).toUInt32.toUInt16.toUInt32.toInt32)) = rr) (V1 : Arv Z h0 u1 kb .byte z vs (.int (0 : Int32))) (hN0 : (2 : Int32) < z) (hN1 : (3 : Int32) < z) (hv0 : vs.getD ((2 : Int32)).toNatClampNeg (.int (0 : Int32)) = .int x0) (hv1 : vs.getD ((3 : Int32)).toNatClampNeg (.int (0 : Int32)) = .int x1) :
    MetFree l (⟨"java/lang/StringUTF16", "getChar", "([BI)C"⟩ : MethodName) (head1 (Jvm.Cond.code (⟨"java/lang/StringUTF16", "getChar", "([BI)C"⟩ : MethodName) jdk_52_method_5_code 2 (some .char) :: ws) ({ frames := 0, cells := 0, slots := 0, locals := 0 } : Room)) (fun a U => a = #[(.ref u1), (.int (1 : Int32))] ∧ Z.Warmed39 U.vm ∧ U.heap = h0) (fun _ _ _ _ _ => True) (fun _ U o U' => ∃ v L, o = .returned v ∧ Q_rm_get1 Z u1 kb z vs x0 x1 rr h0 n0 v U'.heap L ∧ FrameEnd U o U' L ({ frames := 0, cells := 0, slots := 0, locals := 0 } : Room).cells ({ frames := 0, cells := 0, slots := 0, locals := 0 } : Room).slots) := by
  refine MetFree.of_bodySF (plainFor_of_name pn_50925) hisR ?_
  intro p e s m args below meth c s₁ Bd hml0 hP hK
  obtain ⟨rfl, hZ, hh⟩ := hP
  have hx := Bd.exec
  have hby := Bd.bytes
  have hml : c.maxLocals = 2 := hml0
  have hown : s.vm.findClass "java/lang/StringUTF16" = some m.cls := findClass_of_methodNamed Bd.named
  have hnm := (name_of_methodNamed Bd.named Bd.method).1
  have X0 : Stand p l e ({ frames := 0, cells := 0, slots := 0, locals := 0 } : Room) s m #[(.ref u1), (.int (1 : Int32))] below meth c s₁ [] 0 0 := Stand.of_body Bd
  have e0 : s₁.heap = h0 := by rw [← hh, Bd.state]; rfl
  have N0 := Fr.nil n0
  have pre0 : ∀ t, Steps p.tables e below (s₁.setTop (mkF m 0 #[.val (.ref u1), .val (.int (1 : Int32))] [])) t → Steps p.tables e below (s₁.setTop (entryFrame m #[(.ref u1), (.int (1 : Int32))] 2)) t := fun t k => castTop (ef_rm_get1 m u1 (1 : Int32)) k
  obtain ⟨cl, Ar, -, Sz, Mz, Hz, -⟩ := id V1
  obtain ⟨T31, X31, e31, st31⟩ := getS2 X0 hx hZ hown (host := "") (Or.inl (own_w hw 90 rfl)) Via.refl e0 SA (g := (mkF m 0 #[.val (.ref u1), .val (.int (1 : Int32))] [])) rfl (hb hby d21_0)
  obtain ⟨T32, X32, e32, st32⟩ := getS2 X31 hx hZ hown (host := "") (Or.inl (own_w hw 91 rfl)) Via.refl e31 SH (g := (mkF m 42 #[.val (.ref u1), .val (.int (3 : Int32))] [(.int (x0 &&& (255 : Int32)))])) rfl (hb hby d21_42)
  obtain ⟨T33, X33, e33, st33⟩ := getS2 X32 hx hZ hown (host := "") (Or.inl (own_w hw 92 rfl)) Via.refl e32 SLo (g := (mkF m 53 #[.val (.ref u1), .val (.int (3 : Int32))] [(.int (x1 &&& (255 : Int32))), (.int ((x0 &&& (255 : Int32)) <<< ((0 : Int32) &&& 31)))])) rfl (hb hby d21_53)
  obtain ⟨fs, hr, hrun, hended, hW, hsame⟩ := X33.leave (v := some (.int (nar .char ((((x0 &&& (255 : Int32)) <<< ((0 : Int32) &&& 31)) ||| ((x1 &&& (255 : Int32)) <<< ((8 : Int32) &&& 31))).toUInt32.toUInt16.toUInt32.toInt32)))) (fun h => by rw [Bd.returns] at h; cases h)
  refine ⟨_, _, pre0 _ ?_, hrun, hended, _, _, rfl, ?_, ⟨_, rfl⟩, hW, hsame.mono (by decide) (by decide)⟩
  · show Steps p.tables e below (s₁.setTop (mkF m 0 #[.val (.ref u1), .val (.int (1 : Int32))] [])) _
    refine st31 _ ?_
    refine XS.ifYes X31.here hx rfl (pc0 := 3) (pc' := 28) rfl (hb hby d21_3) rfl (by decide) (by decide) (by decide) ?_
    refine XS.iloadN X31.here hx rfl (hb hby d21_28) rfl ?_
    refine XS.iconst X31.here hx rfl (hb hby d21_29) ?_
    refine XS.ishl X31.here hx rfl (hb hby d21_30) rfl ?_
    refine XS.istoreN X31.here hx rfl (hb hby d21_31) rfl (l' := #[.val (.ref u1), .val (.int (2 : Int32))]) rfl ?_
    refine XS.aloadN X31.here hx rfl (hb hby d21_32) rfl rfl ?_
    refine XS.iloadN X31.here hx rfl (hb hby d21_33) rfl ?_
    show Steps p.tables e below (T31.setTop (mkF m 34 #[.val (.ref u1), .val (.int (2 : Int32))] [(.int (2 : Int32)), (.ref u1)])) _
    refine XS.iinc X31.here hx rfl (hb hby d21_34) rfl (l' := #[.val (.ref u1), .val (.int (3 : Int32))]) rfl ?_
    refine X31.baloadBytes hx (j := (2 : Int32)) (v := (.int x0)) (by rw [e31]; exact Ar.1) (State.isArrayOf_alike hZ.alike Ar.2.1) Ar.2.2 (inb_of Sz ⟨by decide, hN0⟩) (Hz.at (inb_of Sz ⟨by decide, hN0⟩) hv0) (g := (mkF m 37 #[.val (.ref u1), .val (.int (3 : Int32))] [(.int (2 : Int32)), (.ref u1)])) rfl rfl (hb hby d21_37) _ ?_
    refine XS.sipush X31.here hx rfl (hb hby d21_38) ?_
    refine XS.iand X31.here hx rfl (hb hby d21_41) rfl ?_
    refine st32 _ ?_
    refine XS.ishl X32.here hx rfl (hb hby d21_45) rfl ?_
    refine XS.aloadN X32.here hx rfl (hb hby d21_46) rfl rfl ?_
    refine XS.iloadN X32.here hx rfl (hb hby d21_47) rfl ?_
    show Steps p.tables e below (T32.setTop (mkF m 48 #[.val (.ref u1), .val (.int (3 : Int32))] [(.int (3 : Int32)), (.ref u1), (.int ((x0 &&& (255 : Int32)) <<< ((0 : Int32) &&& 31)))])) _
    refine X32.baloadBytes hx (j := (3 : Int32)) (v := (.int x1)) (by rw [e32]; exact Ar.1) (State.isArrayOf_alike hZ.alike Ar.2.1) Ar.2.2 (inb_of Sz ⟨by decide, hN1⟩) (Hz.at (inb_of Sz ⟨by decide, hN1⟩) hv1) (g := (mkF m 48 #[.val (.ref u1), .val (.int (3 : Int32))] [(.int (3 : Int32)), (.ref u1), (.int ((x0 &&& (255 : Int32)) <<< ((0 : Int32) &&& 31)))])) rfl rfl (hb hby d21_48) _ ?_
    refine XS.sipush X32.here hx rfl (hb hby d21_49) ?_
    refine XS.iand X32.here hx rfl (hb hby d21_52) rfl ?_
    refine st33 _ ?_
    refine XS.ishl X33.here hx rfl (hb hby d21_56) rfl ?_
    refine XS.ior X33.here hx rfl (hb hby d21_57) rfl ?_
    refine XS.i2c X33.here hx rfl (hb hby d21_58) rfl ?_
    show Steps p.tables e below (T33.setTop (mkF m 59 #[.val (.ref u1), .val (.int (3 : Int32))] [(.int ((((x0 &&& (255 : Int32)) <<< ((0 : Int32) &&& 31)) ||| ((x1 &&& (255 : Int32)) <<< ((8 : Int32) &&& 31))).toUInt32.toUInt16.toUInt32.toInt32))])) _
    exact retN X33 hx (t := .char) Bd.returns (by simp) (hb hby d21_59) hr
  · show Q_rm_get1 Z _ _ _ _ _ _ _ h0 n0 _ T33.heap _
    rw [e33]
    exact ⟨(by rw [hrr]), N0, rfl⟩
theorem ef_rm_get2 (m : MethodId) (x0 : Addr) (x1 : Int32) : entryFrame m #[(.ref x0), (.int x1)] 2 = mkF m 0 #[.val (.ref x0), .val (.int x1)] [] := by first | (simp [entryFrame, mkF, argsToLocals, Value.category]; done) | rfl
def Q_rm_get2 (Z : State) (u1 : Addr) (kb : ClassId) (z : Int32) (vs : List Value) (x0 : Int32) (x1 : Int32) (rr : Int32) (h0 : Heap) (n0 : Nat) (v : Option Value) (h : Heap) (L : List Loc) : Prop := v = some (.int rr) ∧ Fr n0 L ∧ h = h0
set_option maxRecDepth 65536 in
set_option maxHeartbeats 40000000 in
theorem rm_get2 (l : Launch) (Z : State) (a0 : Array Value) (hw : ∀ d ∈ tables_1, d.before a0 Z = true) (ws : List Jvm.Cond) (u1 : Addr) (kb : ClassId) (z : Int32) (vs : List Value) (x0 : Int32) (x1 : Int32) (rr : Int32) (h0 : Heap) (n0 : Nat) (Z0 : n0 ≤ h0.size) (SA : Sta Z h0 "java/lang/StringUTF16" "$assertionsDisabled" "Z" (.int (1 : Int32))) (SH : Sta Z h0 "java/lang/StringUTF16" "HI_BYTE_SHIFT" "I" (.int (0 : Int32))) (SLo : Sta Z h0 "java/lang/StringUTF16" "LO_BYTE_SHIFT" "I" (.int (8 : Int32))) (hrr : (nar .char ((((x0 &&& (255 : Int32)) <<< ((0 : Int32) &&& 31)) ||| ((x1 &&& (255 : Int32)) <<< ((8 : Int32) &&& 31))).toUInt32.toUInt16.toUInt32.toInt32)) = rr) (V1 : Arv Z h0 u1 kb .byte z vs (.int (0 : Int32))) (hN0 : (4 : Int32) < z) (hN1 : (5 : Int32) < z) (hv0 : vs.getD ((4 : Int32)).toNatClampNeg (.int (0 : Int32)) = .int x0) (hv1 : vs.getD ((5 : Int32)).toNatClampNeg (.int (0 : Int32)) = .int x1) :
    MetFree l (⟨"java/lang/StringUTF16", "getChar", "([BI)C"⟩ : MethodName) (head1 (Jvm.Cond.code (⟨"java/lang/StringUTF16", "getChar", "([BI)C"⟩ : MethodName) jdk_52_method_5_code 2 (some .char) :: ws) ({ frames := 0, cells := 0, slots := 0, locals := 0 } : Room)) (fun a U => a = #[(.ref u1), (.int (2 : Int32))] ∧ Z.Warmed39 U.vm ∧ U.heap = h0) (fun _ _ _ _ _ => True) (fun _ U o U' => ∃ v L, o = .returned v ∧ Q_rm_get2 Z u1 kb z vs x0 x1 rr h0 n0 v U'.heap L ∧ FrameEnd U o U' L ({ frames := 0, cells := 0, slots := 0, locals := 0 } : Room).cells ({ frames := 0, cells := 0, slots := 0, locals := 0 } : Room).slots) := by
  refine MetFree.of_bodySF (plainFor_of_name pn_50925) hisR ?_
  intro p e s m args below meth c s₁ Bd hml0 hP hK
  obtain ⟨rfl, hZ, hh⟩ := hP
  have hx := Bd.exec
  have hby := Bd.bytes
  have hml : c.maxLocals = 2 := hml0
  have hown : s.vm.findClass "java/lang/StringUTF16" = some m.cls := findClass_of_methodNamed Bd.named
  have hnm := (name_of_methodNamed Bd.named Bd.method).1
  have X0 : Stand p l e ({ frames := 0, cells := 0, slots := 0, locals := 0 } : Room) s m #[(.ref u1), (.int (2 : Int32))] below meth c s₁ [] 0 0 := Stand.of_body Bd
  have e0 : s₁.heap = h0 := by rw [← hh, Bd.state]; rfl
  have N0 := Fr.nil n0
  have pre0 : ∀ t, Steps p.tables e below (s₁.setTop (mkF m 0 #[.val (.ref u1), .val (.int (2 : Int32))] [])) t → Steps p.tables e below (s₁.setTop (entryFrame m #[(.ref u1), (.int (2 : Int32))] 2)) t := fun t k => castTop (ef_rm_get2 m u1 (2 : Int32)) k
  obtain ⟨cl, Ar, -, Sz, Mz, Hz, -⟩ := id V1
  obtain ⟨T31, X31, e31, st31⟩ := getS2 X0 hx hZ hown (host := "") (Or.inl (own_w hw 90 rfl)) Via.refl e0 SA (g := (mkF m 0 #[.val (.ref u1), .val (.int (2 : Int32))] [])) rfl (hb hby d21_0)
  obtain ⟨T32, X32, e32, st32⟩ := getS2 X31 hx hZ hown (host := "") (Or.inl (own_w hw 91 rfl)) Via.refl e31 SH (g := (mkF m 42 #[.val (.ref u1), .val (.int (5 : Int32))] [(.int (x0 &&& (255 : Int32)))])) rfl (hb hby d21_42)
  obtain ⟨T33, X33, e33, st33⟩ := getS2 X32 hx hZ hown (host := "") (Or.inl (own_w hw 92 rfl)) Via.refl e32 SLo (g := (mkF m 53 #[.val (.ref u1), .val (.int (5 : Int32))] [(.int (x1 &&& (255 : Int32))), (.int ((x0 &&& (255 : Int32)) <<< ((0 : Int32) &&& 31)))])) rfl (hb hby d21_53)
  obtain ⟨fs, hr, hrun, hended, hW, hsame⟩ := X33.leave (v := some (.int (nar .char ((((x0 &&& (255 : Int32)) <<< ((0 : Int32) &&& 31)) ||| ((x1 &&& (255 : Int32)) <<< ((8 : Int32) &&& 31))).toUInt32.toUInt16.toUInt32.toInt32)))) (fun h => by rw [Bd.returns] at h; cases h)
  refine ⟨_, _, pre0 _ ?_, hrun, hended, _, _, rfl, ?_, ⟨_, rfl⟩, hW, hsame.mono (by decide) (by decide)⟩
  · show Steps p.tables e below (s₁.setTop (mkF m 0 #[.val (.ref u1), .val (.int (2 : Int32))] [])) _
    refine st31 _ ?_
    refine XS.ifYes X31.here hx rfl (pc0 := 3) (pc' := 28) rfl (hb hby d21_3) rfl (by decide) (by decide) (by decide) ?_
    refine XS.iloadN X31.here hx rfl (hb hby d21_28) rfl ?_
    refine XS.iconst X31.here hx rfl (hb hby d21_29) ?_
    refine XS.ishl X31.here hx rfl (hb hby d21_30) rfl ?_
    refine XS.istoreN X31.here hx rfl (hb hby d21_31) rfl (l' := #[.val (.ref u1), .val (.int (4 : Int32))]) rfl ?_
    refine XS.aloadN X31.here hx rfl (hb hby d21_32) rfl rfl ?_
    refine XS.iloadN X31.here hx rfl (hb hby d21_33) rfl ?_
    show Steps p.tables e below (T31.setTop (mkF m 34 #[.val (.ref u1), .val (.int (4 : Int32))] [(.int (4 : Int32)), (.ref u1)])) _
    refine XS.iinc X31.here hx rfl (hb hby d21_34) rfl (l' := #[.val (.ref u1), .val (.int (5 : Int32))]) rfl ?_
    refine X31.baloadBytes hx (j := (4 : Int32)) (v := (.int x0)) (by rw [e31]; exact Ar.1) (State.isArrayOf_alike hZ.alike Ar.2.1) Ar.2.2 (inb_of Sz ⟨by decide, hN0⟩) (Hz.at (inb_of Sz ⟨by decide, hN0⟩) hv0) (g := (mkF m 37 #[.val (.ref u1), .val (.int (5 : Int32))] [(.int (4 : Int32)), (.ref u1)])) rfl rfl (hb hby d21_37) _ ?_
    refine XS.sipush X31.here hx rfl (hb hby d21_38) ?_
    refine XS.iand X31.here hx rfl (hb hby d21_41) rfl ?_
    refine st32 _ ?_
    refine XS.ishl X32.here hx rfl (hb hby d21_45) rfl ?_
    refine XS.aloadN X32.here hx rfl (hb hby d21_46) rfl rfl ?_
    refine XS.iloadN X32.here hx rfl (hb hby d21_47) rfl ?_
    show Steps p.tables e below (T32.setTop (mkF m 48 #[.val (.ref u1), .val (.int (5 : Int32))] [(.int (5 : Int32)), (.ref u1), (.int ((x0 &&& (255 : Int32)) <<< ((0 : Int32) &&& 31)))])) _
    refine X32.baloadBytes hx (j := (5 : Int32)) (v := (.int x1)) (by rw [e32]; exact Ar.1) (State.isArrayOf_alike hZ.alike Ar.2.1) Ar.2.2 (inb_of Sz ⟨by decide, hN1⟩) (Hz.at (inb_of Sz ⟨by decide, hN1⟩) hv1) (g := (mkF m 48 #[.val (.ref u1), .val (.int (5 : Int32))] [(.int (5 : Int32)), (.ref u1), (.int ((x0 &&& (255 : Int32)) <<< ((0 : Int32) &&& 31)))])) rfl rfl (hb hby d21_48) _ ?_
    refine XS.sipush X32.here hx rfl (hb hby d21_49) ?_
    refine XS.iand X32.here hx rfl (hb hby d21_52) rfl ?_
    refine st33 _ ?_
    refine XS.ishl X33.here hx rfl (hb hby d21_56) rfl ?_
    refine XS.ior X33.here hx rfl (hb hby d21_57) rfl ?_
    refine XS.i2c X33.here hx rfl (hb hby d21_58) rfl ?_
    show Steps p.tables e below (T33.setTop (mkF m 59 #[.val (.ref u1), .val (.int (5 : Int32))] [(.int ((((x0 &&& (255 : Int32)) <<< ((0 : Int32) &&& 31)) ||| ((x1 &&& (255 : Int32)) <<< ((8 : Int32) &&& 31))).toUInt32.toUInt16.toUInt32.toInt32))])) _
    exact retN X33 hx (t := .char) Bd.returns (by simp) (hb hby d21_59) hr
  · show Q_rm_get2 Z _ _ _ _ _ _ _ h0 n0 _ T33.heap _
    rw [e33]
    exact ⟨(by rw [hrr]), N0, rfl⟩
theorem d17_0 : decode jdk_52_method_14_code 0 = .ok (.iload_n 2, 1) := by decide +kernel
theorem d17_1 : decode jdk_52_method_14_code 1 = .ok (.invokestatic 107, 3) := by decide +kernel
theorem pd_787239 : parseMethodDescriptor "(I)[B" = some ⟨[.int], some (.array .byte)⟩ := by decide +kernel
theorem d17_4 : decode jdk_52_method_14_code 4 = .ok (.astore_n 3, 1) := by decide +kernel
theorem d17_5 : decode jdk_52_method_14_code 5 = .ok (.iconst 0, 1) := by decide +kernel
theorem d17_6 : decode jdk_52_method_14_code 6 = .ok (.istore 4, 2) := by decide +kernel
theorem d17_8 : decode jdk_52_method_14_code 8 = .ok (.iload 4, 2) := by decide +kernel
theorem d17_10 : decode jdk_52_method_14_code 10 = .ok (.iload_n 2, 1) := by decide +kernel
theorem d17_11 : decode jdk_52_method_14_code 11 = .ok (.if_icmp .ge 21, 3) := by decide +kernel
theorem d17_14 : decode jdk_52_method_14_code 14 = .ok (.aload_n 3, 1) := by decide +kernel
theorem d17_15 : decode jdk_52_method_14_code 15 = .ok (.iload 4, 2) := by decide +kernel
theorem d17_17 : decode jdk_52_method_14_code 17 = .ok (.aload_n 0, 1) := by decide +kernel
theorem d17_18 : decode jdk_52_method_14_code 18 = .ok (.iload_n 1, 1) := by decide +kernel
theorem d17_19 : decode jdk_52_method_14_code 19 = .ok (.caload, 1) := by decide +kernel
theorem d17_20 : decode jdk_52_method_14_code 20 = .ok (.invokestatic 111, 3) := by decide +kernel
theorem pd_634388 : parseMethodDescriptor "([BII)V" = some ⟨[(.array .byte), .int, .int], none⟩ := by decide +kernel
theorem d17_23 : decode jdk_52_method_14_code 23 = .ok (.iinc 1 1, 3) := by decide +kernel
theorem d17_26 : decode jdk_52_method_14_code 26 = .ok (.iinc 4 1, 3) := by decide +kernel
theorem d17_29 : decode jdk_52_method_14_code 29 = .ok (.goto (-21), 3) := by decide +kernel
theorem d17_32 : decode jdk_52_method_14_code 32 = .ok (.aload_n 3, 1) := by decide +kernel
theorem d17_33 : decode jdk_52_method_14_code 33 = .ok (.areturn, 1) := by decide +kernel
theorem ef_rm_tob1 (m : MethodId) (x0 : Addr) (x1 : Int32) (x2 : Int32) : entryFrame m #[(.ref x0), (.int x1), (.int x2)] 5 = mkF m 0 #[.val (.ref x0), .val (.int x1), .val (.int x2), .unset, .unset] [] := by first | (simp [entryFrame, mkF, argsToLocals, Value.category]; done) | rfl
def Q_rm_tob1 (Z : State) (u1 : Addr) (kc : ClassId) (c0 : Int32) (h0 : Heap) (n0 : Nat) (v : Option Value) (h : Heap) (L : List Loc) : Prop := ∃ (t : Addr) (kt : ClassId), v = some (.ref t) ∧ Fr n0 L ∧ Keep h0 h [] ∧ h0.size ≤ t ∧ Arv Z h t kt .byte (2 : Int32) [(.int ((c0 >>> ((0 : Int32) &&& 31)).toInt8.toInt32)), (.int ((c0 >>> ((8 : Int32) &&& 31)).toInt8.toInt32))] (.int (0 : Int32))
set_option maxRecDepth 65536 in
set_option maxHeartbeats 40000000 in
theorem rm_tob1 (l : Launch) (Z : State) (a0 : Array Value) (hw : ∀ d ∈ tables_1, d.before a0 Z = true) (ws : List Jvm.Cond) (u1 : Addr) (kc : ClassId) (c0 : Int32) (h0 : Heap) (n0 : Nat) (Z0 : n0 ≤ h0.size) (X00 : Old Z Z.heap.size h0) (O5 : Sta Z Z.heap "java/lang/StringUTF16" "$assertionsDisabled" "Z" (.int (1 : Int32))) (O6 : Sta Z Z.heap "java/lang/StringUTF16" "HI_BYTE_SHIFT" "I" (.int (0 : Int32))) (O7 : Sta Z Z.heap "java/lang/StringUTF16" "LO_BYTE_SHIFT" "I" (.int (8 : Int32))) (V1 : Arv Z h0 u1 kc .char (1 : Int32) [(.int c0)] (.int (0 : Int32))) :
    MetFree l (⟨"java/lang/StringUTF16", "toBytes", "([CII)[B"⟩ : MethodName) (head1 (Jvm.Cond.code (⟨"java/lang/StringUTF16", "toBytes", "([CII)[B"⟩ : MethodName) jdk_52_method_14_code 5 (some (.array .byte)) :: ws) ({ frames := 2, cells := 1, slots := 2, locals := 24 } : Room)) (fun a U => a = #[(.ref u1), (.int (0 : Int32)), (.int (1 : Int32))] ∧ Z.Warmed39 U.vm ∧ U.heap = h0) (fun _ _ _ _ _ => True) (fun _ U o U' => ∃ v L, o = .returned v ∧ Q_rm_tob1 Z u1 kc c0 h0 n0 v U'.heap L ∧ FrameEnd U o U' L ({ frames := 2, cells := 1, slots := 2, locals := 24 } : Room).cells ({ frames := 2, cells := 1, slots := 2, locals := 24 } : Room).slots) := by
  refine MetFree.of_bodySF (plainFor_of_name pn_50925) hisR ?_
  intro p e s m args below meth c s₁ Bd hml0 hP hK
  obtain ⟨rfl, hZ, hh⟩ := hP
  have hx := Bd.exec
  have hby := Bd.bytes
  have hml : c.maxLocals = 5 := hml0
  have hown : s.vm.findClass "java/lang/StringUTF16" = some m.cls := findClass_of_methodNamed Bd.named
  have hnm := (name_of_methodNamed Bd.named Bd.method).1
  have X0 : Stand p l e ({ frames := 2, cells := 1, slots := 2, locals := 24 } : Room) s m #[(.ref u1), (.int (0 : Int32)), (.int (1 : Int32))] below meth c s₁ [] 0 0 := Stand.of_body Bd
  have e0 : s₁.heap = h0 := by rw [← hh, Bd.state]; rfl
  have N0 := Fr.nil n0
  have K0 : Keep h0 h0 [] := Keep.refl _ _
  have pre0 : ∀ t, Steps p.tables e below (s₁.setTop (mkF m 0 #[.val (.ref u1), .val (.int (0 : Int32)), .val (.int (1 : Int32)), .unset, .unset] [])) t → Steps p.tables e below (s₁.setTop (entryFrame m #[(.ref u1), (.int (0 : Int32)), (.int (1 : Int32))] 5)) t := fun t k => castTop (ef_rm_tob1 m u1 (0 : Int32) (1 : Int32)) k
  obtain ⟨_, _, ⟨T31, L31, k31, n31⟩, -, X31, ⟨Lc31, hQ31, l31, y31, z31⟩, st31⟩ := Jvm.LawKit.callS X0 hx (y := (⟨"java/lang/StringUTF16", "newBytesFor", "(I)[B"⟩ : MethodName)) hown (mvT hZ (own_w hw 80 rfl)) (mvT hZ (own_w hw 81 rfl)) (mvT hZ (own_w hw 21 rfl)) (mvT hZ (own_w hw 82 rfl)) (by decide) (backOf (W := 0) (rm_nbf1 l Z a0 hw []  h0 n0 Z0 ) hZ (own_w hw 82 rfl) (own_w hw 21 rfl) (by decide) (by decide)) (g := (mkF m 1 #[.val (.ref u1), .val (.int (0 : Int32)), .val (.int (1 : Int32)), .unset, .unset] [(.int (1 : Int32))])) rfl (by rw [hml]; rfl) (argsL := [(.int (1 : Int32))]) (rest := []) (lenOf pd_787239 rfl) rfl (by show 2 * 0 + _ ≤ _; exact Nat.le_of_eq rfl) (hb hby d17_1) (fun _ _ => ⟨rfl, e0, (by decide : 0 + 1 ≤ _), (by decide : 0 + 2 ≤ _)⟩)
  dsimp only [Pt.U, Pt.locs, Pt.cells, Pt.slots] at X31 l31 y31 z31 st31 hQ31
  replace y31 : k31 = 1 := y31
  replace z31 : n31 = 2 := z31
  subst y31 z31
  obtain ⟨t1, kt1, rfl, Nq31, Kq31, gt1, Vt31⟩ := hQ31
  have N31 : Fr n0 L31 := by rw [l31]; exact Fr.app N0 Nq31
  have Z31 : n0 ≤ T31.heap.size := Nat.le_trans Z0 Kq31.1
  have K31 : Keep h0 T31.heap [] := K0.trans Kq31 all0
  have fr_t1 : n0 ≤ t1 := Nat.le_trans Z0 gt1
  have ne_t1 : u1 ≠ t1 := Nat.ne_of_lt (Nat.lt_of_lt_of_le V1.lt gt1)
  have Ox : Old Z Z.heap.size T31.heap := X00.keep Kq31 all0
  obtain ⟨cl32, Ar32, -, S32, M32, H32, -⟩ := id (V1.keep Kq31 nin0)
  obtain ⟨_, _, ⟨T33, L33, k33, n33⟩, -, X33, ⟨Lc33, hQ33, l33, y33, z33⟩, st33⟩ := Jvm.LawKit.callS X31 hx (y := (⟨"java/lang/StringUTF16", "putChar", "([BII)V"⟩ : MethodName)) hown (mvT hZ (own_w hw 87 rfl)) (mvT hZ (own_w hw 88 rfl)) (mvT hZ (own_w hw 21 rfl)) (mvT hZ (own_w hw 89 rfl)) (by decide) (backOf (W := 0) (rm_put0 l Z a0 hw [] t1 c0 kt1 (2 : Int32) [(.int (0 : Int32)), (.int (0 : Int32))] T31.heap n0 Z31 (O5.ext Ox.2) (O6.ext Ox.2) (O7.ext Ox.2) Vt31 fr_t1 (by decide) (by decide) (Nat.le_of_ble_eq_true rfl) (Nat.le_of_ble_eq_true rfl)) hZ (own_w hw 89 rfl) (own_w hw 21 rfl) (by decide) (by decide)) (g := (mkF m 20 #[.val (.ref u1), .val (.int (0 : Int32)), .val (.int (1 : Int32)), .val (.ref t1), .val (.int (0 : Int32))] [(.int c0), (.int (0 : Int32)), (.ref t1)])) rfl (by rw [hml]; rfl) (argsL := [(.ref t1), (.int (0 : Int32)), (.int c0)]) (rest := []) (lenOf pd_634388 rfl) rfl (by show 2 * 0 + _ ≤ _; exact Nat.le_of_eq rfl) (hb hby d17_20) (fun _ _ => ⟨rfl, rfl, (by decide : 1 + 0 ≤ _), (by decide : 2 + 0 ≤ _)⟩)
  dsimp only [Pt.U, Pt.locs, Pt.cells, Pt.slots] at X33 l33 y33 z33 st33 hQ33
  replace y33 : k33 = 1 := y33
  replace z33 : n33 = 2 := z33
  subst y33 z33
  obtain ⟨rfl, Nq33, Kq33, Vt33⟩ := hQ33
  have N33 : Fr n0 L33 := by rw [l33]; exact Fr.app N31 Nq33
  have Z33 : n0 ≤ T33.heap.size := Nat.le_trans Z31 Kq33.1
  have K33 : Keep h0 T33.heap [] := K31.trans Kq33 (allS (Or.inr gt1) all0)
  have Vt33p : Arv Z T33.heap t1 kt1 .byte (2 : Int32) [(.int ((c0 >>> ((0 : Int32) &&& 31)).toInt8.toInt32)), (.int ((c0 >>> ((8 : Int32) &&& 31)).toInt8.toInt32))] (.int (0 : Int32)) := Vt33
  have Ox33 : Old Z Z.heap.size T33.heap := Ox.keep Kq33 (allS (Nat.le_trans X00.2.1 gt1) all0)
  obtain ⟨fs, hr, hrun, hended, hW, hsame⟩ := X33.leave (v := some (.ref t1)) (fun h => by rw [Bd.returns] at h; cases h)
  refine ⟨_, _, pre0 _ ?_, hrun, hended, _, _, rfl, ?_, ⟨_, rfl⟩, hW, hsame.mono (by decide) (by decide)⟩
  · show Steps p.tables e below (s₁.setTop (mkF m 0 #[.val (.ref u1), .val (.int (0 : Int32)), .val (.int (1 : Int32)), .unset, .unset] [])) _
    refine XS.iloadN X0.here hx rfl (hb hby d17_0) rfl ?_
    refine st31 _ ?_
    refine XS.astoreN X31.here hx rfl (hb hby d17_4) rfl rfl (l' := #[.val (.ref u1), .val (.int (0 : Int32)), .val (.int (1 : Int32)), .val (.ref t1), .unset]) rfl ?_
    refine XS.iconst X31.here hx rfl (hb hby d17_5) ?_
    refine XS.istore X31.here hx rfl (hb hby d17_6) rfl (l' := #[.val (.ref u1), .val (.int (0 : Int32)), .val (.int (1 : Int32)), .val (.ref t1), .val (.int (0 : Int32))]) rfl ?_
    refine XS.iload X31.here hx rfl (hb hby d17_8) rfl ?_
    refine XS.iloadN X31.here hx rfl (hb hby d17_10) rfl ?_
    refine XS.icmpNo X31.here hx rfl (hb hby d17_11) rfl (by decide) ?_
    show Steps p.tables e below (T31.setTop (mkF m 14 #[.val (.ref u1), .val (.int (0 : Int32)), .val (.int (1 : Int32)), .val (.ref t1), .val (.int (0 : Int32))] [])) _
    refine XS.aloadN X31.here hx rfl (hb hby d17_14) rfl rfl ?_
    refine XS.iload X31.here hx rfl (hb hby d17_15) rfl ?_
    refine XS.aloadN X31.here hx rfl (hb hby d17_17) rfl rfl ?_
    refine XS.iloadN X31.here hx rfl (hb hby d17_18) rfl ?_
    refine X31.caload hx (j := (0 : Int32)) (v := (.int c0)) Ar32.1 (State.isArrayOf_alike hZ.alike Ar32.2.1) Ar32.2.2 (inb_of S32 ⟨by decide, by decide⟩) (H32.at (inb_of S32 ⟨by decide, by decide⟩) rfl) (g := (mkF m 19 #[.val (.ref u1), .val (.int (0 : Int32)), .val (.int (1 : Int32)), .val (.ref t1), .val (.int (0 : Int32))] [(.int (0 : Int32)), (.ref u1), (.int (0 : Int32)), (.ref t1)])) rfl rfl (hb hby d17_19) _ ?_
    refine st33 _ ?_
    refine XS.iinc X33.here hx rfl (hb hby d17_23) rfl (l' := #[.val (.ref u1), .val (.int (1 : Int32)), .val (.int (1 : Int32)), .val (.ref t1), .val (.int (0 : Int32))]) rfl ?_
    refine XS.iinc X33.here hx rfl (hb hby d17_26) rfl (l' := #[.val (.ref u1), .val (.int (1 : Int32)), .val (.int (1 : Int32)), .val (.ref t1), .val (.int (1 : Int32))]) rfl ?_
    show Steps p.tables e below (T33.setTop (mkF m 29 #[.val (.ref u1), .val (.int (1 : Int32)), .val (.int (1 : Int32)), .val (.ref t1), .val (.int (1 : Int32))] [])) _
    refine XS.goto X33.here hx rfl (pc0 := 29) (pc' := 8) rfl (hb hby d17_29) (by decide) (by decide) ?_
    refine XS.iload X33.here hx rfl (hb hby d17_8) rfl ?_
    refine XS.iloadN X33.here hx rfl (hb hby d17_10) rfl ?_
    refine XS.icmpYes X33.here hx rfl (pc0 := 11) (pc' := 32) rfl (hb hby d17_11) rfl (by decide) (by decide) (by decide) ?_
    refine XS.aloadN X33.here hx rfl (hb hby d17_32) rfl rfl ?_
    show Steps p.tables e below (T33.setTop (mkF m 33 #[.val (.ref u1), .val (.int (1 : Int32)), .val (.int (1 : Int32)), .val (.ref t1), .val (.int (1 : Int32))] [(.ref t1)])) _
    jvm_step X33.here [X33.here.top, hx, (hb hby d17_33), X33.method', Bd.returns, Value.isRef, FieldType.isReference]
    first | (intro acts; rw [hr _ acts rfl rfl rfl]) | rw [hr _ _ rfl rfl rfl]
    exact Steps.refl _
  · show Q_rm_tob1 Z _ _ _ h0 n0 _ T33.heap _
    exact ⟨t1, kt1, rfl, N33, K33, gt1, Vt33p⟩
theorem ef_rm_tob2 (m : MethodId) (x0 : Addr) (x1 : Int32) (x2 : Int32) : entryFrame m #[(.ref x0), (.int x1), (.int x2)] 5 = mkF m 0 #[.val (.ref x0), .val (.int x1), .val (.int x2), .unset, .unset] [] := by first | (simp [entryFrame, mkF, argsToLocals, Value.category]; done) | rfl
def Q_rm_tob2 (Z : State) (u1 : Addr) (kc : ClassId) (c0 : Int32) (c1 : Int32) (h0 : Heap) (n0 : Nat) (v : Option Value) (h : Heap) (L : List Loc) : Prop := ∃ (t : Addr) (kt : ClassId), v = some (.ref t) ∧ Fr n0 L ∧ Keep h0 h [] ∧ h0.size ≤ t ∧ Arv Z h t kt .byte (4 : Int32) [(.int ((c0 >>> ((0 : Int32) &&& 31)).toInt8.toInt32)), (.int ((c0 >>> ((8 : Int32) &&& 31)).toInt8.toInt32)), (.int ((c1 >>> ((0 : Int32) &&& 31)).toInt8.toInt32)), (.int ((c1 >>> ((8 : Int32) &&& 31)).toInt8.toInt32))] (.int (0 : Int32))
set_option maxRecDepth 65536 in
set_option maxHeartbeats 40000000 in
theorem rm_tob2 (l : Launch) (Z : State) (a0 : Array Value) (hw : ∀ d ∈ tables_1, d.before a0 Z = true) (ws : List Jvm.Cond) (u1 : Addr) (kc : ClassId) (c0 : Int32) (c1 : Int32) (h0 : Heap) (n0 : Nat) (Z0 : n0 ≤ h0.size) (X00 : Old Z Z.heap.size h0) (O5 : Sta Z Z.heap "java/lang/StringUTF16" "$assertionsDisabled" "Z" (.int (1 : Int32))) (O6 : Sta Z Z.heap "java/lang/StringUTF16" "HI_BYTE_SHIFT" "I" (.int (0 : Int32))) (O7 : Sta Z Z.heap "java/lang/StringUTF16" "LO_BYTE_SHIFT" "I" (.int (8 : Int32))) (V1 : Arv Z h0 u1 kc .char (2 : Int32) [(.int c0), (.int c1)] (.int (0 : Int32))) :
    MetFree l (⟨"java/lang/StringUTF16", "toBytes", "([CII)[B"⟩ : MethodName) (head1 (Jvm.Cond.code (⟨"java/lang/StringUTF16", "toBytes", "([CII)[B"⟩ : MethodName) jdk_52_method_14_code 5 (some (.array .byte)) :: ws) ({ frames := 2, cells := 1, slots := 4, locals := 24 } : Room)) (fun a U => a = #[(.ref u1), (.int (0 : Int32)), (.int (2 : Int32))] ∧ Z.Warmed39 U.vm ∧ U.heap = h0) (fun _ _ _ _ _ => True) (fun _ U o U' => ∃ v L, o = .returned v ∧ Q_rm_tob2 Z u1 kc c0 c1 h0 n0 v U'.heap L ∧ FrameEnd U o U' L ({ frames := 2, cells := 1, slots := 4, locals := 24 } : Room).cells ({ frames := 2, cells := 1, slots := 4, locals := 24 } : Room).slots) := by
  refine MetFree.of_bodySF (plainFor_of_name pn_50925) hisR ?_
  intro p e s m args below meth c s₁ Bd hml0 hP hK
  obtain ⟨rfl, hZ, hh⟩ := hP
  have hx := Bd.exec
  have hby := Bd.bytes
  have hml : c.maxLocals = 5 := hml0
  have hown : s.vm.findClass "java/lang/StringUTF16" = some m.cls := findClass_of_methodNamed Bd.named
  have hnm := (name_of_methodNamed Bd.named Bd.method).1
  have X0 : Stand p l e ({ frames := 2, cells := 1, slots := 4, locals := 24 } : Room) s m #[(.ref u1), (.int (0 : Int32)), (.int (2 : Int32))] below meth c s₁ [] 0 0 := Stand.of_body Bd
  have e0 : s₁.heap = h0 := by rw [← hh, Bd.state]; rfl
  have N0 := Fr.nil n0
  have K0 : Keep h0 h0 [] := Keep.refl _ _
  have pre0 : ∀ t, Steps p.tables e below (s₁.setTop (mkF m 0 #[.val (.ref u1), .val (.int (0 : Int32)), .val (.int (2 : Int32)), .unset, .unset] [])) t → Steps p.tables e below (s₁.setTop (entryFrame m #[(.ref u1), (.int (0 : Int32)), (.int (2 : Int32))] 5)) t := fun t k => castTop (ef_rm_tob2 m u1 (0 : Int32) (2 : Int32)) k
  obtain ⟨_, _, ⟨T31, L31, k31, n31⟩, -, X31, ⟨Lc31, hQ31, l31, y31, z31⟩, st31⟩ := Jvm.LawKit.callS X0 hx (y := (⟨"java/lang/StringUTF16", "newBytesFor", "(I)[B"⟩ : MethodName)) hown (mvT hZ (own_w hw 80 rfl)) (mvT hZ (own_w hw 81 rfl)) (mvT hZ (own_w hw 21 rfl)) (mvT hZ (own_w hw 82 rfl)) (by decide) (backOf (W := 0) (rm_nbf2 l Z a0 hw []  h0 n0 Z0 ) hZ (own_w hw 82 rfl) (own_w hw 21 rfl) (by decide) (by decide)) (g := (mkF m 1 #[.val (.ref u1), .val (.int (0 : Int32)), .val (.int (2 : Int32)), .unset, .unset] [(.int (2 : Int32))])) rfl (by rw [hml]; rfl) (argsL := [(.int (2 : Int32))]) (rest := []) (lenOf pd_787239 rfl) rfl (by show 2 * 0 + _ ≤ _; exact Nat.le_of_eq rfl) (hb hby d17_1) (fun _ _ => ⟨rfl, e0, (by decide : 0 + 1 ≤ _), (by decide : 0 + 4 ≤ _)⟩)
  dsimp only [Pt.U, Pt.locs, Pt.cells, Pt.slots] at X31 l31 y31 z31 st31 hQ31
  replace y31 : k31 = 1 := y31
  replace z31 : n31 = 4 := z31
  subst y31 z31
  obtain ⟨t1, kt1, rfl, Nq31, Kq31, gt1, Vt31⟩ := hQ31
  have N31 : Fr n0 L31 := by rw [l31]; exact Fr.app N0 Nq31
  have Z31 : n0 ≤ T31.heap.size := Nat.le_trans Z0 Kq31.1
  have K31 : Keep h0 T31.heap [] := K0.trans Kq31 all0
  have fr_t1 : n0 ≤ t1 := Nat.le_trans Z0 gt1
  have ne_t1 : u1 ≠ t1 := Nat.ne_of_lt (Nat.lt_of_lt_of_le V1.lt gt1)
  have Ox : Old Z Z.heap.size T31.heap := X00.keep Kq31 all0
  obtain ⟨cl32, Ar32, -, S32, M32, H32, -⟩ := id (V1.keep Kq31 nin0)
  obtain ⟨_, _, ⟨T33, L33, k33, n33⟩, -, X33, ⟨Lc33, hQ33, l33, y33, z33⟩, st33⟩ := Jvm.LawKit.callS X31 hx (y := (⟨"java/lang/StringUTF16", "putChar", "([BII)V"⟩ : MethodName)) hown (mvT hZ (own_w hw 87 rfl)) (mvT hZ (own_w hw 88 rfl)) (mvT hZ (own_w hw 21 rfl)) (mvT hZ (own_w hw 89 rfl)) (by decide) (backOf (W := 0) (rm_put0 l Z a0 hw [] t1 c0 kt1 (4 : Int32) [(.int (0 : Int32)), (.int (0 : Int32)), (.int (0 : Int32)), (.int (0 : Int32))] T31.heap n0 Z31 (O5.ext Ox.2) (O6.ext Ox.2) (O7.ext Ox.2) Vt31 fr_t1 (by decide) (by decide) (Nat.le_of_ble_eq_true rfl) (Nat.le_of_ble_eq_true rfl)) hZ (own_w hw 89 rfl) (own_w hw 21 rfl) (by decide) (by decide)) (g := (mkF m 20 #[.val (.ref u1), .val (.int (0 : Int32)), .val (.int (2 : Int32)), .val (.ref t1), .val (.int (0 : Int32))] [(.int c0), (.int (0 : Int32)), (.ref t1)])) rfl (by rw [hml]; rfl) (argsL := [(.ref t1), (.int (0 : Int32)), (.int c0)]) (rest := []) (lenOf pd_634388 rfl) rfl (by show 2 * 0 + _ ≤ _; exact Nat.le_of_eq rfl) (hb hby d17_20) (fun _ _ => ⟨rfl, rfl, (by decide : 1 + 0 ≤ _), (by decide : 4 + 0 ≤ _)⟩)
  dsimp only [Pt.U, Pt.locs, Pt.cells, Pt.slots] at X33 l33 y33 z33 st33 hQ33
  replace y33 : k33 = 1 := y33
  replace z33 : n33 = 4 := z33
  subst y33 z33
  obtain ⟨rfl, Nq33, Kq33, Vt33⟩ := hQ33
  have N33 : Fr n0 L33 := by rw [l33]; exact Fr.app N31 Nq33
  have Z33 : n0 ≤ T33.heap.size := Nat.le_trans Z31 Kq33.1
  have K33 : Keep h0 T33.heap [] := K31.trans Kq33 (allS (Or.inr gt1) all0)
  have Vt33p : Arv Z T33.heap t1 kt1 .byte (4 : Int32) [(.int ((c0 >>> ((0 : Int32) &&& 31)).toInt8.toInt32)), (.int ((c0 >>> ((8 : Int32) &&& 31)).toInt8.toInt32)), (.int (0 : Int32)), (.int (0 : Int32))] (.int (0 : Int32)) := Vt33
  have Ox33 : Old Z Z.heap.size T33.heap := Ox.keep Kq33 (allS (Nat.le_trans X00.2.1 gt1) all0)
  obtain ⟨cl34, Ar34, -, S34, M34, H34, -⟩ := id ((V1.keep Kq31 nin0).keep Kq33 (ninS ne_t1 nin0))
  obtain ⟨_, _, ⟨T35, L35, k35, n35⟩, -, X35, ⟨Lc35, hQ35, l35, y35, z35⟩, st35⟩ := Jvm.LawKit.callS X33 hx (y := (⟨"java/lang/StringUTF16", "putChar", "([BII)V"⟩ : MethodName)) hown (mvT hZ (own_w hw 87 rfl)) (mvT hZ (own_w hw 88 rfl)) (mvT hZ (own_w hw 21 rfl)) (mvT hZ (own_w hw 89 rfl)) (by decide) (backOf (W := 0) (rm_put1 l Z a0 hw [] t1 c1 kt1 (4 : Int32) [(.int ((c0 >>> ((0 : Int32) &&& 31)).toInt8.toInt32)), (.int ((c0 >>> ((8 : Int32) &&& 31)).toInt8.toInt32)), (.int (0 : Int32)), (.int (0 : Int32))] T33.heap n0 Z33 (O5.ext Ox33.2) (O6.ext Ox33.2) (O7.ext Ox33.2) Vt33p fr_t1 (by decide) (by decide) (Nat.le_of_ble_eq_true rfl) (Nat.le_of_ble_eq_true rfl)) hZ (own_w hw 89 rfl) (own_w hw 21 rfl) (by decide) (by decide)) (g := (mkF m 20 #[.val (.ref u1), .val (.int (1 : Int32)), .val (.int (2 : Int32)), .val (.ref t1), .val (.int (1 : Int32))] [(.int c1), (.int (1 : Int32)), (.ref t1)])) rfl (by rw [hml]; rfl) (argsL := [(.ref t1), (.int (1 : Int32)), (.int c1)]) (rest := []) (lenOf pd_634388 rfl) rfl (by show 2 * 0 + _ ≤ _; exact Nat.le_of_eq rfl) (hb hby d17_20) (fun _ _ => ⟨rfl, rfl, (by decide : 1 + 0 ≤ _), (by decide : 4 + 0 ≤ _)⟩)
  dsimp only [Pt.U, Pt.locs, Pt.cells, Pt.slots] at X35 l35 y35 z35 st35 hQ35
  replace y35 : k35 = 1 := y35
  replace z35 : n35 = 4 := z35
  subst y35 z35
  obtain ⟨rfl, Nq35, Kq35, Vt35⟩ := hQ35
  have N35 : Fr n0 L35 := by rw [l35]; exact Fr.app N33 Nq35
  have Z35 : n0 ≤ T35.heap.size := Nat.le_trans Z33 Kq35.1
  have K35 : Keep h0 T35.heap [] := K33.trans Kq35 (allS (Or.inr gt1) all0)
  have Vt35p : Arv Z T35.heap t1 kt1 .byte (4 : Int32) [(.int ((c0 >>> ((0 : Int32) &&& 31)).toInt8.toInt32)), (.int ((c0 >>> ((8 : Int32) &&& 31)).toInt8.toInt32)), (.int ((c1 >>> ((0 : Int32) &&& 31)).toInt8.toInt32)), (.int ((c1 >>> ((8 : Int32) &&& 31)).toInt8.toInt32))] (.int (0 : Int32)) := Vt35
  have Ox35 : Old Z Z.heap.size T35.heap := Ox33.keep Kq35 (allS (Nat.le_trans X00.2.1 gt1) all0)
  obtain ⟨fs, hr, hrun, hended, hW, hsame⟩ := X35.leave (v := some (.ref t1)) (fun h => by rw [Bd.returns] at h; cases h)
  refine ⟨_, _, pre0 _ ?_, hrun, hended, _, _, rfl, ?_, ⟨_, rfl⟩, hW, hsame.mono (by decide) (by decide)⟩
  · show Steps p.tables e below (s₁.setTop (mkF m 0 #[.val (.ref u1), .val (.int (0 : Int32)), .val (.int (2 : Int32)), .unset, .unset] [])) _
    refine XS.iloadN X0.here hx rfl (hb hby d17_0) rfl ?_
    refine st31 _ ?_
    refine XS.astoreN X31.here hx rfl (hb hby d17_4) rfl rfl (l' := #[.val (.ref u1), .val (.int (0 : Int32)), .val (.int (2 : Int32)), .val (.ref t1), .unset]) rfl ?_
    refine XS.iconst X31.here hx rfl (hb hby d17_5) ?_
    refine XS.istore X31.here hx rfl (hb hby d17_6) rfl (l' := #[.val (.ref u1), .val (.int (0 : Int32)), .val (.int (2 : Int32)), .val (.ref t1), .val (.int (0 : Int32))]) rfl ?_
    refine XS.iload X31.here hx rfl (hb hby d17_8) rfl ?_
    refine XS.iloadN X31.here hx rfl (hb hby d17_10) rfl ?_
    refine XS.icmpNo X31.here hx rfl (hb hby d17_11) rfl (by decide) ?_
    show Steps p.tables e below (T31.setTop (mkF m 14 #[.val (.ref u1), .val (.int (0 : Int32)), .val (.int (2 : Int32)), .val (.ref t1), .val (.int (0 : Int32))] [])) _
    refine XS.aloadN X31.here hx rfl (hb hby d17_14) rfl rfl ?_
    refine XS.iload X31.here hx rfl (hb hby d17_15) rfl ?_
    refine XS.aloadN X31.here hx rfl (hb hby d17_17) rfl rfl ?_
    refine XS.iloadN X31.here hx rfl (hb hby d17_18) rfl ?_
    refine X31.caload hx (j := (0 : Int32)) (v := (.int c0)) Ar32.1 (State.isArrayOf_alike hZ.alike Ar32.2.1) Ar32.2.2 (inb_of S32 ⟨by decide, by decide⟩) (H32.at (inb_of S32 ⟨by decide, by decide⟩) rfl) (g := (mkF m 19 #[.val (.ref u1), .val (.int (0 : Int32)), .val (.int (2 : Int32)), .val (.ref t1), .val (.int (0 : Int32))] [(.int (0 : Int32)), (.ref u1), (.int (0 : Int32)), (.ref t1)])) rfl rfl (hb hby d17_19) _ ?_
    refine st33 _ ?_
    refine XS.iinc X33.here hx rfl (hb hby d17_23) rfl (l' := #[.val (.ref u1), .val (.int (1 : Int32)), .val (.int (2 : Int32)), .val (.ref t1), .val (.int (0 : Int32))]) rfl ?_
    refine XS.iinc X33.here hx rfl (hb hby d17_26) rfl (l' := #[.val (.ref u1), .val (.int (1 : Int32)), .val (.int (2 : Int32)), .val (.ref t1), .val (.int (1 : Int32))]) rfl ?_
    show Steps p.tables e below (T33.setTop (mkF m 29 #[.val (.ref u1), .val (.int (1 : Int32)), .val (.int (2 : Int32)), .val (.ref t1), .val (.int (1 : Int32))] [])) _
    refine XS.goto X33.here hx rfl (pc0 := 29) (pc' := 8) rfl (hb hby d17_29) (by decide) (by decide) ?_
    refine XS.iload X33.here hx rfl (hb hby d17_8) rfl ?_
    refine XS.iloadN X33.here hx rfl (hb hby d17_10) rfl ?_
    refine XS.icmpNo X33.here hx rfl (hb hby d17_11) rfl (by decide) ?_
    refine XS.aloadN X33.here hx rfl (hb hby d17_14) rfl rfl ?_
    refine XS.iload X33.here hx rfl (hb hby d17_15) rfl ?_
    refine XS.aloadN X33.here hx rfl (hb hby d17_17) rfl rfl ?_
    refine XS.iloadN X33.here hx rfl (hb hby d17_18) rfl ?_
    show Steps p.tables e below (T33.setTop (mkF m 19 #[.val (.ref u1), .val (.int (1 : Int32)), .val (.int (2 : Int32)), .val (.ref t1), .val (.int (1 : Int32))] [(.int (1 : Int32)), (.ref u1), (.int (1 : Int32)), (.ref t1)])) _
    refine X33.caload hx (j := (1 : Int32)) (v := (.int c1)) Ar34.1 (State.isArrayOf_alike hZ.alike Ar34.2.1) Ar34.2.2 (inb_of S34 ⟨by decide, by decide⟩) (H34.at (inb_of S34 ⟨by decide, by decide⟩) rfl) (g := (mkF m 19 #[.val (.ref u1), .val (.int (1 : Int32)), .val (.int (2 : Int32)), .val (.ref t1), .val (.int (1 : Int32))] [(.int (1 : Int32)), (.ref u1), (.int (1 : Int32)), (.ref t1)])) rfl rfl (hb hby d17_19) _ ?_
    refine st35 _ ?_
    refine XS.iinc X35.here hx rfl (hb hby d17_23) rfl (l' := #[.val (.ref u1), .val (.int (2 : Int32)), .val (.int (2 : Int32)), .val (.ref t1), .val (.int (1 : Int32))]) rfl ?_
    refine XS.iinc X35.here hx rfl (hb hby d17_26) rfl (l' := #[.val (.ref u1), .val (.int (2 : Int32)), .val (.int (2 : Int32)), .val (.ref t1), .val (.int (2 : Int32))]) rfl ?_
    refine XS.goto X35.here hx rfl (pc0 := 29) (pc' := 8) rfl (hb hby d17_29) (by decide) (by decide) ?_
    refine XS.iload X35.here hx rfl (hb hby d17_8) rfl ?_
    refine XS.iloadN X35.here hx rfl (hb hby d17_10) rfl ?_
    refine XS.icmpYes X35.here hx rfl (pc0 := 11) (pc' := 32) rfl (hb hby d17_11) rfl (by decide) (by decide) (by decide) ?_
    show Steps p.tables e below (T35.setTop (mkF m 32 #[.val (.ref u1), .val (.int (2 : Int32)), .val (.int (2 : Int32)), .val (.ref t1), .val (.int (2 : Int32))] [])) _
    refine XS.aloadN X35.here hx rfl (hb hby d17_32) rfl rfl ?_
    show Steps p.tables e below (T35.setTop (mkF m 33 #[.val (.ref u1), .val (.int (2 : Int32)), .val (.int (2 : Int32)), .val (.ref t1), .val (.int (2 : Int32))] [(.ref t1)])) _
    jvm_step X35.here [X35.here.top, hx, (hb hby d17_33), X35.method', Bd.returns, Value.isRef, FieldType.isReference]
    first | (intro acts; rw [hr _ acts rfl rfl rfl]) | rw [hr _ _ rfl rfl rfl]
    exact Steps.refl _
  · show Q_rm_tob2 Z _ _ _ _ h0 n0 _ T35.heap _
    exact ⟨t1, kt1, rfl, N35, K35, gt1, Vt35p⟩
theorem ef_rm_tob3 (m : MethodId) (x0 : Addr) (x1 : Int32) (x2 : Int32) : entryFrame m #[(.ref x0), (.int x1), (.int x2)] 5 = mkF m 0 #[.val (.ref x0), .val (.int x1), .val (.int x2), .unset, .unset] [] := by first | (simp [entryFrame, mkF, argsToLocals, Value.category]; done) | rfl
def Q_rm_tob3 (Z : State) (u1 : Addr) (kc : ClassId) (c0 : Int32) (c1 : Int32) (c2 : Int32) (h0 : Heap) (n0 : Nat) (v : Option Value) (h : Heap) (L : List Loc) : Prop := ∃ (t : Addr) (kt : ClassId), v = some (.ref t) ∧ Fr n0 L ∧ Keep h0 h [] ∧ h0.size ≤ t ∧ Arv Z h t kt .byte (6 : Int32) [(.int ((c0 >>> ((0 : Int32) &&& 31)).toInt8.toInt32)), (.int ((c0 >>> ((8 : Int32) &&& 31)).toInt8.toInt32)), (.int ((c1 >>> ((0 : Int32) &&& 31)).toInt8.toInt32)), (.int ((c1 >>> ((8 : Int32) &&& 31)).toInt8.toInt32)), (.int ((c2 >>> ((0 : Int32) &&& 31)).toInt8.toInt32)), (.int ((c2 >>> ((8 : Int32) &&& 31)).toInt8.toInt32))] (.int (0 : Int32))
set_option maxRecDepth 65536 in
set_option maxHeartbeats 40000000 in
theorem rm_tob3 (l : Launch) (Z : State) (a0 : Array Value) (hw : ∀ d ∈ tables_1, d.before a0 Z = true) (ws : List Jvm.Cond) (u1 : Addr) (kc : ClassId) (c0 : Int32) (c1 : Int32) (c2 : Int32) (h0 : Heap) (n0 : Nat) (Z0 : n0 ≤ h0.size) (X00 : Old Z Z.heap.size h0) (O5 : Sta Z Z.heap "java/lang/StringUTF16" "$assertionsDisabled" "Z" (.int (1 : Int32))) (O6 : Sta Z Z.heap "java/lang/StringUTF16" "HI_BYTE_SHIFT" "I" (.int (0 : Int32))) (O7 : Sta Z Z.heap "java/lang/StringUTF16" "LO_BYTE_SHIFT" "I" (.int (8 : Int32))) (V1 : Arv Z h0 u1 kc .char (3 : Int32) [(.int c0), (.int c1), (.int c2)] (.int (0 : Int32))) :
    MetFree l (⟨"java/lang/StringUTF16", "toBytes", "([CII)[B"⟩ : MethodName) (head1 (Jvm.Cond.code (⟨"java/lang/StringUTF16", "toBytes", "([CII)[B"⟩ : MethodName) jdk_52_method_14_code 5 (some (.array .byte)) :: ws) ({ frames := 2, cells := 1, slots := 6, locals := 24 } : Room)) (fun a U => a = #[(.ref u1), (.int (0 : Int32)), (.int (3 : Int32))] ∧ Z.Warmed39 U.vm ∧ U.heap = h0) (fun _ _ _ _ _ => True) (fun _ U o U' => ∃ v L, o = .returned v ∧ Q_rm_tob3 Z u1 kc c0 c1 c2 h0 n0 v U'.heap L ∧ FrameEnd U o U' L ({ frames := 2, cells := 1, slots := 6, locals := 24 } : Room).cells ({ frames := 2, cells := 1, slots := 6, locals := 24 } : Room).slots) := by
  refine MetFree.of_bodySF (plainFor_of_name pn_50925) hisR ?_
  intro p e s m args below meth c s₁ Bd hml0 hP hK
  obtain ⟨rfl, hZ, hh⟩ := hP
  have hx := Bd.exec
  have hby := Bd.bytes
  have hml : c.maxLocals = 5 := hml0
  have hown : s.vm.findClass "java/lang/StringUTF16" = some m.cls := findClass_of_methodNamed Bd.named
  have hnm := (name_of_methodNamed Bd.named Bd.method).1
  have X0 : Stand p l e ({ frames := 2, cells := 1, slots := 6, locals := 24 } : Room) s m #[(.ref u1), (.int (0 : Int32)), (.int (3 : Int32))] below meth c s₁ [] 0 0 := Stand.of_body Bd
  have e0 : s₁.heap = h0 := by rw [← hh, Bd.state]; rfl
  have N0 := Fr.nil n0
  have K0 : Keep h0 h0 [] := Keep.refl _ _
  have pre0 : ∀ t, Steps p.tables e below (s₁.setTop (mkF m 0 #[.val (.ref u1), .val (.int (0 : Int32)), .val (.int (3 : Int32)), .unset, .unset] [])) t → Steps p.tables e below (s₁.setTop (entryFrame m #[(.ref u1), (.int (0 : Int32)), (.int (3 : Int32))] 5)) t := fun t k => castTop (ef_rm_tob3 m u1 (0 : Int32) (3 : Int32)) k
  obtain ⟨_, _, ⟨T31, L31, k31, n31⟩, -, X31, ⟨Lc31, hQ31, l31, y31, z31⟩, st31⟩ := Jvm.LawKit.callS X0 hx (y := (⟨"java/lang/StringUTF16", "newBytesFor", "(I)[B"⟩ : MethodName)) hown (mvT hZ (own_w hw 80 rfl)) (mvT hZ (own_w hw 81 rfl)) (mvT hZ (own_w hw 21 rfl)) (mvT hZ (own_w hw 82 rfl)) (by decide) (backOf (W := 0) (rm_nbf3 l Z a0 hw []  h0 n0 Z0 ) hZ (own_w hw 82 rfl) (own_w hw 21 rfl) (by decide) (by decide)) (g := (mkF m 1 #[.val (.ref u1), .val (.int (0 : Int32)), .val (.int (3 : Int32)), .unset, .unset] [(.int (3 : Int32))])) rfl (by rw [hml]; rfl) (argsL := [(.int (3 : Int32))]) (rest := []) (lenOf pd_787239 rfl) rfl (by show 2 * 0 + _ ≤ _; exact Nat.le_of_eq rfl) (hb hby d17_1) (fun _ _ => ⟨rfl, e0, (by decide : 0 + 1 ≤ _), (by decide : 0 + 6 ≤ _)⟩)
  dsimp only [Pt.U, Pt.locs, Pt.cells, Pt.slots] at X31 l31 y31 z31 st31 hQ31
  replace y31 : k31 = 1 := y31
  replace z31 : n31 = 6 := z31
  subst y31 z31
  obtain ⟨t1, kt1, rfl, Nq31, Kq31, gt1, Vt31⟩ := hQ31
  have N31 : Fr n0 L31 := by rw [l31]; exact Fr.app N0 Nq31
  have Z31 : n0 ≤ T31.heap.size := Nat.le_trans Z0 Kq31.1
  have K31 : Keep h0 T31.heap [] := K0.trans Kq31 all0
  have fr_t1 : n0 ≤ t1 := Nat.le_trans Z0 gt1
  have ne_t1 : u1 ≠ t1 := Nat.ne_of_lt (Nat.lt_of_lt_of_le V1.lt gt1)
  have Ox : Old Z Z.heap.size T31.heap := X00.keep Kq31 all0
  obtain ⟨cl32, Ar32, -, S32, M32, H32, -⟩ := id (V1.keep Kq31 nin0)
  obtain ⟨_, _, ⟨T33, L33, k33, n33⟩, -, X33, ⟨Lc33, hQ33, l33, y33, z33⟩, st33⟩ := Jvm.LawKit.callS X31 hx (y := (⟨"java/lang/StringUTF16", "putChar", "([BII)V"⟩ : MethodName)) hown (mvT hZ (own_w hw 87 rfl)) (mvT hZ (own_w hw 88 rfl)) (mvT hZ (own_w hw 21 rfl)) (mvT hZ (own_w hw 89 rfl)) (by decide) (backOf (W := 0) (rm_put0 l Z a0 hw [] t1 c0 kt1 (6 : Int32) [(.int (0 : Int32)), (.int (0 : Int32)), (.int (0 : Int32)), (.int (0 : Int32)), (.int (0 : Int32)), (.int (0 : Int32))] T31.heap n0 Z31 (O5.ext Ox.2) (O6.ext Ox.2) (O7.ext Ox.2) Vt31 fr_t1 (by decide) (by decide) (Nat.le_of_ble_eq_true rfl) (Nat.le_of_ble_eq_true rfl)) hZ (own_w hw 89 rfl) (own_w hw 21 rfl) (by decide) (by decide)) (g := (mkF m 20 #[.val (.ref u1), .val (.int (0 : Int32)), .val (.int (3 : Int32)), .val (.ref t1), .val (.int (0 : Int32))] [(.int c0), (.int (0 : Int32)), (.ref t1)])) rfl (by rw [hml]; rfl) (argsL := [(.ref t1), (.int (0 : Int32)), (.int c0)]) (rest := []) (lenOf pd_634388 rfl) rfl (by show 2 * 0 + _ ≤ _; exact Nat.le_of_eq rfl) (hb hby d17_20) (fun _ _ => ⟨rfl, rfl, (by decide : 1 + 0 ≤ _), (by decide : 6 + 0 ≤ _)⟩)
  dsimp only [Pt.U, Pt.locs, Pt.cells, Pt.slots] at X33 l33 y33 z33 st33 hQ33
  replace y33 : k33 = 1 := y33
  replace z33 : n33 = 6 := z33
  subst y33 z33
  obtain ⟨rfl, Nq33, Kq33, Vt33⟩ := hQ33
  have N33 : Fr n0 L33 := by rw [l33]; exact Fr.app N31 Nq33
  have Z33 : n0 ≤ T33.heap.size := Nat.le_trans Z31 Kq33.1
  have K33 : Keep h0 T33.heap [] := K31.trans Kq33 (allS (Or.inr gt1) all0)
  have Vt33p : Arv Z T33.heap t1 kt1 .byte (6 : Int32) [(.int ((c0 >>> ((0 : Int32) &&& 31)).toInt8.toInt32)), (.int ((c0 >>> ((8 : Int32) &&& 31)).toInt8.toInt32)), (.int (0 : Int32)), (.int (0 : Int32)), (.int (0 : Int32)), (.int (0 : Int32))] (.int (0 : Int32)) := Vt33
  have Ox33 : Old Z Z.heap.size T33.heap := Ox.keep Kq33 (allS (Nat.le_trans X00.2.1 gt1) all0)
  obtain ⟨cl34, Ar34, -, S34, M34, H34, -⟩ := id ((V1.keep Kq31 nin0).keep Kq33 (ninS ne_t1 nin0))
  obtain ⟨_, _, ⟨T35, L35, k35, n35⟩, -, X35, ⟨Lc35, hQ35, l35, y35, z35⟩, st35⟩ := Jvm.LawKit.callS X33 hx (y := (⟨"java/lang/StringUTF16", "putChar", "([BII)V"⟩ : MethodName)) hown (mvT hZ (own_w hw 87 rfl)) (mvT hZ (own_w hw 88 rfl)) (mvT hZ (own_w hw 21 rfl)) (mvT hZ (own_w hw 89 rfl)) (by decide) (backOf (W := 0) (rm_put1 l Z a0 hw [] t1 c1 kt1 (6 : Int32) [(.int ((c0 >>> ((0 : Int32) &&& 31)).toInt8.toInt32)), (.int ((c0 >>> ((8 : Int32) &&& 31)).toInt8.toInt32)), (.int (0 : Int32)), (.int (0 : Int32)), (.int (0 : Int32)), (.int (0 : Int32))] T33.heap n0 Z33 (O5.ext Ox33.2) (O6.ext Ox33.2) (O7.ext Ox33.2) Vt33p fr_t1 (by decide) (by decide) (Nat.le_of_ble_eq_true rfl) (Nat.le_of_ble_eq_true rfl)) hZ (own_w hw 89 rfl) (own_w hw 21 rfl) (by decide) (by decide)) (g := (mkF m 20 #[.val (.ref u1), .val (.int (1 : Int32)), .val (.int (3 : Int32)), .val (.ref t1), .val (.int (1 : Int32))] [(.int c1), (.int (1 : Int32)), (.ref t1)])) rfl (by rw [hml]; rfl) (argsL := [(.ref t1), (.int (1 : Int32)), (.int c1)]) (rest := []) (lenOf pd_634388 rfl) rfl (by show 2 * 0 + _ ≤ _; exact Nat.le_of_eq rfl) (hb hby d17_20) (fun _ _ => ⟨rfl, rfl, (by decide : 1 + 0 ≤ _), (by decide : 6 + 0 ≤ _)⟩)
  dsimp only [Pt.U, Pt.locs, Pt.cells, Pt.slots] at X35 l35 y35 z35 st35 hQ35
  replace y35 : k35 = 1 := y35
  replace z35 : n35 = 6 := z35
  subst y35 z35
  obtain ⟨rfl, Nq35, Kq35, Vt35⟩ := hQ35
  have N35 : Fr n0 L35 := by rw [l35]; exact Fr.app N33 Nq35
  have Z35 : n0 ≤ T35.heap.size := Nat.le_trans Z33 Kq35.1
  have K35 : Keep h0 T35.heap [] := K33.trans Kq35 (allS (Or.inr gt1) all0)
  have Vt35p : Arv Z T35.heap t1 kt1 .byte (6 : Int32) [(.int ((c0 >>> ((0 : Int32) &&& 31)).toInt8.toInt32)), (.int ((c0 >>> ((8 : Int32) &&& 31)).toInt8.toInt32)), (.int ((c1 >>> ((0 : Int32) &&& 31)).toInt8.toInt32)), (.int ((c1 >>> ((8 : Int32) &&& 31)).toInt8.toInt32)), (.int (0 : Int32)), (.int (0 : Int32))] (.int (0 : Int32)) := Vt35
  have Ox35 : Old Z Z.heap.size T35.heap := Ox33.keep Kq35 (allS (Nat.le_trans X00.2.1 gt1) all0)
  obtain ⟨cl36, Ar36, -, S36, M36, H36, -⟩ := id (((V1.keep Kq31 nin0).keep Kq33 (ninS ne_t1 nin0)).keep Kq35 (ninS ne_t1 nin0))
  obtain ⟨_, _, ⟨T37, L37, k37, n37⟩, -, X37, ⟨Lc37, hQ37, l37, y37, z37⟩, st37⟩ := Jvm.LawKit.callS X35 hx (y := (⟨"java/lang/StringUTF16", "putChar", "([BII)V"⟩ : MethodName)) hown (mvT hZ (own_w hw 87 rfl)) (mvT hZ (own_w hw 88 rfl)) (mvT hZ (own_w hw 21 rfl)) (mvT hZ (own_w hw 89 rfl)) (by decide) (backOf (W := 0) (rm_put2 l Z a0 hw [] t1 c2 kt1 (6 : Int32) [(.int ((c0 >>> ((0 : Int32) &&& 31)).toInt8.toInt32)), (.int ((c0 >>> ((8 : Int32) &&& 31)).toInt8.toInt32)), (.int ((c1 >>> ((0 : Int32) &&& 31)).toInt8.toInt32)), (.int ((c1 >>> ((8 : Int32) &&& 31)).toInt8.toInt32)), (.int (0 : Int32)), (.int (0 : Int32))] T35.heap n0 Z35 (O5.ext Ox35.2) (O6.ext Ox35.2) (O7.ext Ox35.2) Vt35p fr_t1 (by decide) (by decide) (Nat.le_of_ble_eq_true rfl) (Nat.le_of_ble_eq_true rfl)) hZ (own_w hw 89 rfl) (own_w hw 21 rfl) (by decide) (by decide)) (g := (mkF m 20 #[.val (.ref u1), .val (.int (2 : Int32)), .val (.int (3 : Int32)), .val (.ref t1), .val (.int (2 : Int32))] [(.int c2), (.int (2 : Int32)), (.ref t1)])) rfl (by rw [hml]; rfl) (argsL := [(.ref t1), (.int (2 : Int32)), (.int c2)]) (rest := []) (lenOf pd_634388 rfl) rfl (by show 2 * 0 + _ ≤ _; exact Nat.le_of_eq rfl) (hb hby d17_20) (fun _ _ => ⟨rfl, rfl, (by decide : 1 + 0 ≤ _), (by decide : 6 + 0 ≤ _)⟩)
  dsimp only [Pt.U, Pt.locs, Pt.cells, Pt.slots] at X37 l37 y37 z37 st37 hQ37
  replace y37 : k37 = 1 := y37
  replace z37 : n37 = 6 := z37
  subst y37 z37
  obtain ⟨rfl, Nq37, Kq37, Vt37⟩ := hQ37
  have N37 : Fr n0 L37 := by rw [l37]; exact Fr.app N35 Nq37
  have Z37 : n0 ≤ T37.heap.size := Nat.le_trans Z35 Kq37.1
  have K37 : Keep h0 T37.heap [] := K35.trans Kq37 (allS (Or.inr gt1) all0)
  have Vt37p : Arv Z T37.heap t1 kt1 .byte (6 : Int32) [(.int ((c0 >>> ((0 : Int32) &&& 31)).toInt8.toInt32)), (.int ((c0 >>> ((8 : Int32) &&& 31)).toInt8.toInt32)), (.int ((c1 >>> ((0 : Int32) &&& 31)).toInt8.toInt32)), (.int ((c1 >>> ((8 : Int32) &&& 31)).toInt8.toInt32)), (.int ((c2 >>> ((0 : Int32) &&& 31)).toInt8.toInt32)), (.int ((c2 >>> ((8 : Int32) &&& 31)).toInt8.toInt32))] (.int (0 : Int32)) := Vt37
  have Ox37 : Old Z Z.heap.size T37.heap := Ox35.keep Kq37 (allS (Nat.le_trans X00.2.1 gt1) all0)
  obtain ⟨fs, hr, hrun, hended, hW, hsame⟩ := X37.leave (v := some (.ref t1)) (fun h => by rw [Bd.returns] at h; cases h)
  refine ⟨_, _, pre0 _ ?_, hrun, hended, _, _, rfl, ?_, ⟨_, rfl⟩, hW, hsame.mono (by decide) (by decide)⟩
  · show Steps p.tables e below (s₁.setTop (mkF m 0 #[.val (.ref u1), .val (.int (0 : Int32)), .val (.int (3 : Int32)), .unset, .unset] [])) _
    refine XS.iloadN X0.here hx rfl (hb hby d17_0) rfl ?_
    refine st31 _ ?_
    refine XS.astoreN X31.here hx rfl (hb hby d17_4) rfl rfl (l' := #[.val (.ref u1), .val (.int (0 : Int32)), .val (.int (3 : Int32)), .val (.ref t1), .unset]) rfl ?_
    refine XS.iconst X31.here hx rfl (hb hby d17_5) ?_
    refine XS.istore X31.here hx rfl (hb hby d17_6) rfl (l' := #[.val (.ref u1), .val (.int (0 : Int32)), .val (.int (3 : Int32)), .val (.ref t1), .val (.int (0 : Int32))]) rfl ?_
    refine XS.iload X31.here hx rfl (hb hby d17_8) rfl ?_
    refine XS.iloadN X31.here hx rfl (hb hby d17_10) rfl ?_
    refine XS.icmpNo X31.here hx rfl (hb hby d17_11) rfl (by decide) ?_
    show Steps p.tables e below (T31.setTop (mkF m 14 #[.val (.ref u1), .val (.int (0 : Int32)), .val (.int (3 : Int32)), .val (.ref t1), .val (.int (0 : Int32))] [])) _
    refine XS.aloadN X31.here hx rfl (hb hby d17_14) rfl rfl ?_
    refine XS.iload X31.here hx rfl (hb hby d17_15) rfl ?_
    refine XS.aloadN X31.here hx rfl (hb hby d17_17) rfl rfl ?_
    refine XS.iloadN X31.here hx rfl (hb hby d17_18) rfl ?_
    refine X31.caload hx (j := (0 : Int32)) (v := (.int c0)) Ar32.1 (State.isArrayOf_alike hZ.alike Ar32.2.1) Ar32.2.2 (inb_of S32 ⟨by decide, by decide⟩) (H32.at (inb_of S32 ⟨by decide, by decide⟩) rfl) (g := (mkF m 19 #[.val (.ref u1), .val (.int (0 : Int32)), .val (.int (3 : Int32)), .val (.ref t1), .val (.int (0 : Int32))] [(.int (0 : Int32)), (.ref u1), (.int (0 : Int32)), (.ref t1)])) rfl rfl (hb hby d17_19) _ ?_
    refine st33 _ ?_
    refine XS.iinc X33.here hx rfl (hb hby d17_23) rfl (l' := #[.val (.ref u1), .val (.int (1 : Int32)), .val (.int (3 : Int32)), .val (.ref t1), .val (.int (0 : Int32))]) rfl ?_
    refine XS.iinc X33.here hx rfl (hb hby d17_26) rfl (l' := #[.val (.ref u1), .val (.int (1 : Int32)), .val (.int (3 : Int32)), .val (.ref t1), .val (.int (1 : Int32))]) rfl ?_
    show Steps p.tables e below (T33.setTop (mkF m 29 #[.val (.ref u1), .val (.int (1 : Int32)), .val (.int (3 : Int32)), .val (.ref t1), .val (.int (1 : Int32))] [])) _
    refine XS.goto X33.here hx rfl (pc0 := 29) (pc' := 8) rfl (hb hby d17_29) (by decide) (by decide) ?_
    refine XS.iload X33.here hx rfl (hb hby d17_8) rfl ?_
    refine XS.iloadN X33.here hx rfl (hb hby d17_10) rfl ?_
    refine XS.icmpNo X33.here hx rfl (hb hby d17_11) rfl (by decide) ?_
    refine XS.aloadN X33.here hx rfl (hb hby d17_14) rfl rfl ?_
    refine XS.iload X33.here hx rfl (hb hby d17_15) rfl ?_
    refine XS.aloadN X33.here hx rfl (hb hby d17_17) rfl rfl ?_
    refine XS.iloadN X33.here hx rfl (hb hby d17_18) rfl ?_
    show Steps p.tables e below (T33.setTop (mkF m 19 #[.val (.ref u1), .val (.int (1 : Int32)), .val (.int (3 : Int32)), .val (.ref t1), .val (.int (1 : Int32))] [(.int (1 : Int32)), (.ref u1), (.int (1 : Int32)), (.ref t1)])) _
    refine X33.caload hx (j := (1 : Int32)) (v := (.int c1)) Ar34.1 (State.isArrayOf_alike hZ.alike Ar34.2.1) Ar34.2.2 (inb_of S34 ⟨by decide, by decide⟩) (H34.at (inb_of S34 ⟨by decide, by decide⟩) rfl) (g := (mkF m 19 #[.val (.ref u1), .val (.int (1 : Int32)), .val (.int (3 : Int32)), .val (.ref t1), .val (.int (1 : Int32))] [(.int (1 : Int32)), (.ref u1), (.int (1 : Int32)), (.ref t1)])) rfl rfl (hb hby d17_19) _ ?_
    refine st35 _ ?_
    refine XS.iinc X35.here hx rfl (hb hby d17_23) rfl (l' := #[.val (.ref u1), .val (.int (2 : Int32)), .val (.int (3 : Int32)), .val (.ref t1), .val (.int (1 : Int32))]) rfl ?_
    refine XS.iinc X35.here hx rfl (hb hby d17_26) rfl (l' := #[.val (.ref u1), .val (.int (2 : Int32)), .val (.int (3 : Int32)), .val (.ref t1), .val (.int (2 : Int32))]) rfl ?_
    refine XS.goto X35.here hx rfl (pc0 := 29) (pc' := 8) rfl (hb hby d17_29) (by decide) (by decide) ?_
    refine XS.iload X35.here hx rfl (hb hby d17_8) rfl ?_
    refine XS.iloadN X35.here hx rfl (hb hby d17_10) rfl ?_
    refine XS.icmpNo X35.here hx rfl (hb hby d17_11) rfl (by decide) ?_
    show Steps p.tables e below (T35.setTop (mkF m 14 #[.val (.ref u1), .val (.int (2 : Int32)), .val (.int (3 : Int32)), .val (.ref t1), .val (.int (2 : Int32))] [])) _
    refine XS.aloadN X35.here hx rfl (hb hby d17_14) rfl rfl ?_
    refine XS.iload X35.here hx rfl (hb hby d17_15) rfl ?_
    refine XS.aloadN X35.here hx rfl (hb hby d17_17) rfl rfl ?_
    refine XS.iloadN X35.here hx rfl (hb hby d17_18) rfl ?_
    refine X35.caload hx (j := (2 : Int32)) (v := (.int c2)) Ar36.1 (State.isArrayOf_alike hZ.alike Ar36.2.1) Ar36.2.2 (inb_of S36 ⟨by decide, by decide⟩) (H36.at (inb_of S36 ⟨by decide, by decide⟩) rfl) (g := (mkF m 19 #[.val (.ref u1), .val (.int (2 : Int32)), .val (.int (3 : Int32)), .val (.ref t1), .val (.int (2 : Int32))] [(.int (2 : Int32)), (.ref u1), (.int (2 : Int32)), (.ref t1)])) rfl rfl (hb hby d17_19) _ ?_
    refine st37 _ ?_
    refine XS.iinc X37.here hx rfl (hb hby d17_23) rfl (l' := #[.val (.ref u1), .val (.int (3 : Int32)), .val (.int (3 : Int32)), .val (.ref t1), .val (.int (2 : Int32))]) rfl ?_
    refine XS.iinc X37.here hx rfl (hb hby d17_26) rfl (l' := #[.val (.ref u1), .val (.int (3 : Int32)), .val (.int (3 : Int32)), .val (.ref t1), .val (.int (3 : Int32))]) rfl ?_
    show Steps p.tables e below (T37.setTop (mkF m 29 #[.val (.ref u1), .val (.int (3 : Int32)), .val (.int (3 : Int32)), .val (.ref t1), .val (.int (3 : Int32))] [])) _
    refine XS.goto X37.here hx rfl (pc0 := 29) (pc' := 8) rfl (hb hby d17_29) (by decide) (by decide) ?_
    refine XS.iload X37.here hx rfl (hb hby d17_8) rfl ?_
    refine XS.iloadN X37.here hx rfl (hb hby d17_10) rfl ?_
    refine XS.icmpYes X37.here hx rfl (pc0 := 11) (pc' := 32) rfl (hb hby d17_11) rfl (by decide) (by decide) (by decide) ?_
    refine XS.aloadN X37.here hx rfl (hb hby d17_32) rfl rfl ?_
    show Steps p.tables e below (T37.setTop (mkF m 33 #[.val (.ref u1), .val (.int (3 : Int32)), .val (.int (3 : Int32)), .val (.ref t1), .val (.int (3 : Int32))] [(.ref t1)])) _
    jvm_step X37.here [X37.here.top, hx, (hb hby d17_33), X37.method', Bd.returns, Value.isRef, FieldType.isReference]
    first | (intro acts; rw [hr _ acts rfl rfl rfl]) | rw [hr _ _ rfl rfl rfl]
    exact Steps.refl _
  · show Q_rm_tob3 Z _ _ _ _ _ h0 n0 _ T37.heap _
    exact ⟨t1, kt1, rfl, N37, K37, gt1, Vt37p⟩
theorem own_gc (c : Int32) (h : ¬ c < 0 ∧ ¬ (65535 : Int32) < c) : (nar .char ((((((c >>> ((0 : Int32) &&& 31)).toInt8.toInt32) &&& (255 : Int32)) <<< ((0 : Int32) &&& 31)) ||| ((((c >>> ((8 : Int32) &&& 31)).toInt8.toInt32) &&& (255 : Int32)) <<< ((8 : Int32) &&& 31))).toUInt32.toUInt16.toUInt32.toInt32)) = c := by
  show (((((((c >>> ((0 : Int32) &&& 31)).toInt8.toInt32) &&& (255 : Int32)) <<< ((0 : Int32) &&& 31)) ||| ((((c >>> ((8 : Int32) &&& 31)).toInt8.toInt32) &&& (255 : Int32)) <<< ((8 : Int32) &&& 31))).toUInt32.toUInt16.toUInt32.toInt32)).toUInt32.toUInt16.toUInt32.toInt32 = c
  have e0 : (0 : Int32).toInt = 0 := by decide
  have e1 : (65535 : Int32).toInt = 65535 := by decide
  rw [Int32.lt_iff_toInt_lt, Int32.lt_iff_toInt_lt, e0, e1] at h
  have a1 := c_ishr c (0 : Int32) 0 (by decide)
  have a2 := c_ishr c (8 : Int32) 8 (by decide)
  generalize (c >>> ((0 : Int32) &&& 31)) = x at *
  generalize (c >>> ((8 : Int32) &&& 31)) = y at *
  have b1 := c_i2b x
  have b2 := c_i2b y
  generalize x.toInt8.toInt32 = x at *
  generalize y.toInt8.toInt32 = y at *
  have d1 := c_mask x (255 : Int32) 8 (by decide) (by decide)
  have d2 := c_mask y (255 : Int32) 8 (by decide) (by decide)
  generalize (x &&& (255 : Int32)) = x at *
  generalize (y &&& (255 : Int32)) = y at *
  have f1 := c_ishl x (0 : Int32) 0 (by decide)
  have f2 := c_ishl y (8 : Int32) 8 (by decide)
  have r1 := rng32 (x <<< ((0 : Int32) &&& 31))
  have r2 := rng32 (y <<< ((8 : Int32) &&& 31))
  generalize (x <<< ((0 : Int32) &&& 31)) = x at *
  generalize (y <<< ((8 : Int32) &&& 31)) = y at *
  have g := c_or' x y 8 (by decide) 256 rfl (by omega) (by omega) (by omega)
  have r3 := rng32 (x ||| y)
  generalize (x ||| y) = x at *
  have i1 := c_i2c x
  generalize x.toUInt32.toUInt16.toUInt32.toInt32 = x at *
  have i2 := c_i2c x
  rw [← Int32.toInt_inj]; omega
theorem own_gt {c : Int32} (h : if_icmp.holds .le c (255 : Int32) = false) : if_icmp.holds .gt c (255 : Int32) = true := by
  rw [own_ile] at h; rw [own_igt]; have h := of_decide_eq_false h; exact decide_eq_true (Int32.not_le.mp h)
theorem d5_0 : decode jdk_52_method_16_code 0 = .ok (.iload_n 2, 1) := by decide +kernel
theorem d5_1 : decode jdk_52_method_16_code 1 = .ok (.newarray .byte, 2) := by decide +kernel
theorem d5_3 : decode jdk_52_method_16_code 3 = .ok (.astore_n 3, 1) := by decide +kernel
theorem d5_4 : decode jdk_52_method_16_code 4 = .ok (.aload_n 0, 1) := by decide +kernel
theorem d5_5 : decode jdk_52_method_16_code 5 = .ok (.iload_n 1, 1) := by decide +kernel
theorem d5_6 : decode jdk_52_method_16_code 6 = .ok (.aload_n 3, 1) := by decide +kernel
theorem d5_7 : decode jdk_52_method_16_code 7 = .ok (.iconst 0, 1) := by decide +kernel
theorem d5_8 : decode jdk_52_method_16_code 8 = .ok (.iload_n 2, 1) := by decide +kernel
theorem d5_9 : decode jdk_52_method_16_code 9 = .ok (.invokestatic 115, 3) := by decide +kernel
theorem pd_633208 : parseMethodDescriptor "([CI[BII)I" = some ⟨[(.array .char), .int, (.array .byte), .int, .int], some .int⟩ := by decide +kernel
theorem d5_12 : decode jdk_52_method_16_code 12 = .ok (.istore 4, 2) := by decide +kernel
theorem d5_14 : decode jdk_52_method_16_code 14 = .ok (.iload 4, 2) := by decide +kernel
theorem d5_16 : decode jdk_52_method_16_code 16 = .ok (.iload_n 2, 1) := by decide +kernel
theorem d5_17 : decode jdk_52_method_16_code 17 = .ok (.if_icmp .eq 40, 3) := by decide +kernel
theorem d5_57 : decode jdk_52_method_16_code 57 = .ok (.aload_n 3, 1) := by decide +kernel
theorem d5_58 : decode jdk_52_method_16_code 58 = .ok (.areturn, 1) := by decide +kernel
theorem ef_rm_cc1 (m : MethodId) (x0 : Addr) (x1 : Int32) (x2 : Int32) : entryFrame m #[(.ref x0), (.int x1), (.int x2)] 6 = mkF m 0 #[.val (.ref x0), .val (.int x1), .val (.int x2), .unset, .unset, .unset] [] := by first | (simp [entryFrame, mkF, argsToLocals, Value.category]; done) | rfl
def Q_rm_cc1 (Z : State) (u1 : Addr) (kc : ClassId) (c0 : Int32) (h0 : Heap) (n0 : Nat) (v : Option Value) (h : Heap) (L : List Loc) : Prop := ∃ (t : Addr) (kt : ClassId), v = some (.ref t) ∧ Fr n0 L ∧ Keep h0 h [] ∧ h0.size ≤ t ∧ Arv Z h t kt .byte (1 : Int32) [(.int (c0.toInt8.toInt32))] (.int (0 : Int32))
set_option maxRecDepth 65536 in
set_option maxHeartbeats 40000000 in
theorem rm_cc1 (l : Launch) (Z : State) (a0 : Array Value) (hw : ∀ d ∈ tables_1, d.before a0 Z = true) (ws : List Jvm.Cond) (u1 : Addr) (kc : ClassId) (c0 : Int32) (h0 : Heap) (n0 : Nat) (Z0 : n0 ≤ h0.size) (V1 : Arv Z h0 u1 kc .char (1 : Int32) [(.int c0)] (.int (0 : Int32))) (k0 : if_icmp.holds .le c0 (255 : Int32) = true) :
    MetFree l (⟨"java/lang/StringUTF16", "compress", "([CII)[B"⟩ : MethodName) (head1 (Jvm.Cond.code (⟨"java/lang/StringUTF16", "compress", "([CII)[B"⟩ : MethodName) jdk_52_method_16_code 6 (some (.array .byte)) :: ws) ({ frames := 1, cells := 1, slots := 1, locals := 18 } : Room)) (fun a U => a = #[(.ref u1), (.int (0 : Int32)), (.int (1 : Int32))] ∧ Z.Warmed39 U.vm ∧ U.heap = h0) (fun _ _ _ _ _ => True) (fun _ U o U' => ∃ v L, o = .returned v ∧ Q_rm_cc1 Z u1 kc c0 h0 n0 v U'.heap L ∧ FrameEnd U o U' L ({ frames := 1, cells := 1, slots := 1, locals := 18 } : Room).cells ({ frames := 1, cells := 1, slots := 1, locals := 18 } : Room).slots) := by
  refine MetFree.of_bodySF (plainFor_of_name pn_50925) hisR ?_
  intro p e s m args below meth c s₁ Bd hml0 hP hK
  obtain ⟨rfl, hZ, hh⟩ := hP
  have hx := Bd.exec
  have hby := Bd.bytes
  have hml : c.maxLocals = 6 := hml0
  have hown : s.vm.findClass "java/lang/StringUTF16" = some m.cls := findClass_of_methodNamed Bd.named
  have hnm := (name_of_methodNamed Bd.named Bd.method).1
  have X0 : Stand p l e ({ frames := 1, cells := 1, slots := 1, locals := 18 } : Room) s m #[(.ref u1), (.int (0 : Int32)), (.int (1 : Int32))] below meth c s₁ [] 0 0 := Stand.of_body Bd
  have e0 : s₁.heap = h0 := by rw [← hh, Bd.state]; rfl
  have N0 := Fr.nil n0
  have K0 : Keep h0 h0 [] := Keep.refl _ _
  have pre0 : ∀ t, Steps p.tables e below (s₁.setTop (mkF m 0 #[.val (.ref u1), .val (.int (0 : Int32)), .val (.int (1 : Int32)), .unset, .unset, .unset] [])) t → Steps p.tables e below (s₁.setTop (entryFrame m #[(.ref u1), (.int (0 : Int32)), (.int (1 : Int32))] 6)) t := fun t k => castTop (ef_rm_cc1 m u1 (0 : Int32) (1 : Int32)) k
  obtain ⟨T31, h31, k31, X31, e31, E31, A31, st31⟩ := newP X0 hx hZ (own_w hw 23 rfl) e0 (g := (mkF m 1 #[.val (.ref u1), .val (.int (0 : Int32)), .val (.int (1 : Int32)), .unset, .unset, .unset] [(.int (1 : Int32))])) rfl (hb hby d5_1) rfl (by decide) (cap := 1) (by decide) (by decide) (by decide) (by decide)
  obtain ⟨b31, g31⟩ : ∃ z, z = h0.size := ⟨_, rfl⟩
  rw [← g31] at A31 st31
  have fr_b31 : n0 ≤ b31 := Nat.le_trans Z0 (Nat.le_of_eq g31.symm)
  have ne_u1_b31 : u1 ≠ b31 := Nat.ne_of_lt (Nat.lt_of_lt_of_le V1.lt (Nat.le_of_eq g31.symm))
  have sz_b31 : h0.size ≤ b31 := Nat.le_trans K0.1 (Nat.le_of_eq g31.symm)
  have Z31 : n0 ≤ h31.size := Nat.le_trans Z0 E31.1
  have K31 : Keep h0 h31 [] := K0.ext E31
  have V31 := Arv.new A31 (by decide)
  have V31p : Arv Z h31 b31 k31 .byte (1 : Int32) [(.int (0 : Int32))] (.int (0 : Int32)) := V31.pad (pad_rep [] (.int (0 : Int32)) 1)
  obtain ⟨_, _, ⟨T32, L32, k32, n32⟩, -, X32, ⟨Lc32, hQ32, l32, y32, z32⟩, st32⟩ := Jvm.LawKit.callS X31 hx (y := (⟨"java/lang/StringUTF16", "compress", "([CI[BII)I"⟩ : MethodName)) hown (mvT hZ (own_w hw 24 rfl)) (mvT hZ (own_w hw 25 rfl)) (mvT hZ (own_w hw 21 rfl)) (mvT hZ (own_w hw 26 rfl)) (by decide) (backOf (W := 0) (rm_cmp1 l Z a0 hw [] u1 b31 kc k31 c0 h31 n0 Z31 (V1.ext E31) V31p fr_b31 ne_u1_b31 k0) hZ (own_w hw 26 rfl) (own_w hw 21 rfl) (by decide) (by decide)) (g := (mkF m 9 #[.val (.ref u1), .val (.int (0 : Int32)), .val (.int (1 : Int32)), .val (.ref b31), .unset, .unset] [(.int (1 : Int32)), (.int (0 : Int32)), (.ref b31), (.int (0 : Int32)), (.ref u1)])) rfl (by rw [hml]; rfl) (argsL := [(.ref u1), (.int (0 : Int32)), (.ref b31), (.int (0 : Int32)), (.int (1 : Int32))]) (rest := []) (lenOf pd_633208 rfl) rfl (by show 2 * 0 + _ ≤ _; exact Nat.le_of_eq rfl) (hb hby d5_9) (fun _ _ => ⟨rfl, e31, (by decide : 1 + 0 ≤ _), (by decide : 1 + 0 ≤ _)⟩)
  dsimp only [Pt.U, Pt.locs, Pt.cells, Pt.slots] at X32 l32 y32 z32 st32 hQ32
  replace y32 : k32 = 1 := y32
  replace z32 : n32 = 1 := z32
  subst y32 z32
  obtain ⟨rfl, Nq32, Kq32, Vt32⟩ := hQ32
  have N32 : Fr n0 L32 := by rw [l32]; exact Fr.app N0 Nq32
  have Z32 : n0 ≤ T32.heap.size := Nat.le_trans Z31 Kq32.1
  have K32 : Keep h0 T32.heap [] := K31.trans Kq32 (allS (Or.inr sz_b31) all0)
  obtain ⟨fs, hr, hrun, hended, hW, hsame⟩ := X32.leave (v := some (.ref b31)) (fun h => by rw [Bd.returns] at h; cases h)
  refine ⟨_, _, pre0 _ ?_, hrun, hended, _, _, rfl, ?_, ⟨_, rfl⟩, hW, hsame.mono (by decide) (by decide)⟩
  · show Steps p.tables e below (s₁.setTop (mkF m 0 #[.val (.ref u1), .val (.int (0 : Int32)), .val (.int (1 : Int32)), .unset, .unset, .unset] [])) _
    refine XS.iloadN X0.here hx rfl (hb hby d5_0) rfl ?_
    refine st31 _ ?_
    refine XS.astoreN X31.here hx rfl (hb hby d5_3) rfl rfl (l' := #[.val (.ref u1), .val (.int (0 : Int32)), .val (.int (1 : Int32)), .val (.ref b31), .unset, .unset]) rfl ?_
    refine XS.aloadN X31.here hx rfl (hb hby d5_4) rfl rfl ?_
    refine XS.iloadN X31.here hx rfl (hb hby d5_5) rfl ?_
    refine XS.aloadN X31.here hx rfl (hb hby d5_6) rfl rfl ?_
    refine XS.iconst X31.here hx rfl (hb hby d5_7) ?_
    refine XS.iloadN X31.here hx rfl (hb hby d5_8) rfl ?_
    show Steps p.tables e below (T31.setTop (mkF m 9 #[.val (.ref u1), .val (.int (0 : Int32)), .val (.int (1 : Int32)), .val (.ref b31), .unset, .unset] [(.int (1 : Int32)), (.int (0 : Int32)), (.ref b31), (.int (0 : Int32)), (.ref u1)])) _
    refine st32 _ ?_
    refine XS.istore X32.here hx rfl (hb hby d5_12) rfl (l' := #[.val (.ref u1), .val (.int (0 : Int32)), .val (.int (1 : Int32)), .val (.ref b31), .val (.int (1 : Int32)), .unset]) rfl ?_
    refine XS.iload X32.here hx rfl (hb hby d5_14) rfl ?_
    refine XS.iloadN X32.here hx rfl (hb hby d5_16) rfl ?_
    refine XS.icmpYes X32.here hx rfl (pc0 := 17) (pc' := 57) rfl (hb hby d5_17) rfl (by decide) (by decide) (by decide) ?_
    refine XS.aloadN X32.here hx rfl (hb hby d5_57) rfl rfl ?_
    show Steps p.tables e below (T32.setTop (mkF m 58 #[.val (.ref u1), .val (.int (0 : Int32)), .val (.int (1 : Int32)), .val (.ref b31), .val (.int (1 : Int32)), .unset] [(.ref b31)])) _
    jvm_step X32.here [X32.here.top, hx, (hb hby d5_58), X32.method', Bd.returns, Value.isRef, FieldType.isReference]
    first | (intro acts; rw [hr _ acts rfl rfl rfl]) | rw [hr _ _ rfl rfl rfl]
    exact Steps.refl _
  · show Q_rm_cc1 Z _ _ _ h0 n0 _ T32.heap _
    exact ⟨b31, k31, rfl, N32, K32, sz_b31, Vt32⟩
theorem d5_20 : decode jdk_52_method_16_code 20 = .ok (.aload_n 0, 1) := by decide +kernel
theorem d5_21 : decode jdk_52_method_16_code 21 = .ok (.iload_n 1, 1) := by decide +kernel
theorem d5_22 : decode jdk_52_method_16_code 22 = .ok (.iload_n 2, 1) := by decide +kernel
theorem d5_23 : decode jdk_52_method_16_code 23 = .ok (.invokestatic 119, 3) := by decide +kernel
theorem pd_479214 : parseMethodDescriptor "([CII)[B" = some ⟨[(.array .char), .int, .int], some (.array .byte)⟩ := by decide +kernel
theorem d5_26 : decode jdk_52_method_16_code 26 = .ok (.astore 5, 2) := by decide +kernel
theorem d5_28 : decode jdk_52_method_16_code 28 = .ok (.aload 5, 2) := by decide +kernel
theorem d5_30 : decode jdk_52_method_16_code 30 = .ok (.iload 4, 2) := by decide +kernel
theorem d5_32 : decode jdk_52_method_16_code 32 = .ok (.invokestatic 71, 3) := by decide +kernel
theorem pd_676 : parseMethodDescriptor "([BI)C" = some ⟨[(.array .byte), .int], some .char⟩ := by decide +kernel
theorem d5_35 : decode jdk_52_method_16_code 35 = .ok (.sipush 255, 3) := by decide +kernel
theorem d5_38 : decode jdk_52_method_16_code 38 = .ok (.if_icmp .gt 16, 3) := by decide +kernel
theorem d5_54 : decode jdk_52_method_16_code 54 = .ok (.aload 5, 2) := by decide +kernel
theorem d5_56 : decode jdk_52_method_16_code 56 = .ok (.areturn, 1) := by decide +kernel
theorem ef_rm_cc1_0 (m : MethodId) (x0 : Addr) (x1 : Int32) (x2 : Int32) : entryFrame m #[(.ref x0), (.int x1), (.int x2)] 6 = mkF m 0 #[.val (.ref x0), .val (.int x1), .val (.int x2), .unset, .unset, .unset] [] := by first | (simp [entryFrame, mkF, argsToLocals, Value.category]; done) | rfl
def Q_rm_cc1_0 (Z : State) (u1 : Addr) (kc : ClassId) (c0 : Int32) (h0 : Heap) (n0 : Nat) (v : Option Value) (h : Heap) (L : List Loc) : Prop := ∃ (t : Addr) (kt : ClassId), v = some (.ref t) ∧ Fr n0 L ∧ Keep h0 h [] ∧ h0.size ≤ t ∧ Arv Z h t kt .byte (2 : Int32) [(.int ((c0 >>> ((0 : Int32) &&& 31)).toInt8.toInt32)), (.int ((c0 >>> ((8 : Int32) &&& 31)).toInt8.toInt32))] (.int (0 : Int32))
set_option maxRecDepth 65536 in
set_option maxHeartbeats 40000000 in
theorem rm_cc1_0 (l : Launch) (Z : State) (a0 : Array Value) (hw : ∀ d ∈ tables_1, d.before a0 Z = true) (ws : List Jvm.Cond) (u1 : Addr) (kc : ClassId) (c0 : Int32) (h0 : Heap) (n0 : Nat) (Z0 : n0 ≤ h0.size) (X00 : Old Z Z.heap.size h0) (O5 : Sta Z Z.heap "java/lang/StringUTF16" "$assertionsDisabled" "Z" (.int (1 : Int32))) (O6 : Sta Z Z.heap "java/lang/StringUTF16" "HI_BYTE_SHIFT" "I" (.int (0 : Int32))) (O7 : Sta Z Z.heap "java/lang/StringUTF16" "LO_BYTE_SHIFT" "I" (.int (8 : Int32))) (q0 : ¬ c0 < 0 ∧ ¬ (65535 : Int32) < c0) (V1 : Arv Z h0 u1 kc .char (1 : Int32) [(.int c0)] (.int (0 : Int32))) (k0 : if_icmp.holds .le c0 (255 : Int32) = false) :
    MetFree l (⟨"java/lang/StringUTF16", "compress", "([CII)[B"⟩ : MethodName) (head1 (Jvm.Cond.code (⟨"java/lang/StringUTF16", "compress", "([CII)[B"⟩ : MethodName) jdk_52_method_16_code 6 (some (.array .byte)) :: ws) ({ frames := 3, cells := 2, slots := 3, locals := 40 } : Room)) (fun a U => a = #[(.ref u1), (.int (0 : Int32)), (.int (1 : Int32))] ∧ Z.Warmed39 U.vm ∧ U.heap = h0) (fun _ _ _ _ _ => True) (fun _ U o U' => ∃ v L, o = .returned v ∧ Q_rm_cc1_0 Z u1 kc c0 h0 n0 v U'.heap L ∧ FrameEnd U o U' L ({ frames := 3, cells := 2, slots := 3, locals := 40 } : Room).cells ({ frames := 3, cells := 2, slots := 3, locals := 40 } : Room).slots) := by
  refine MetFree.of_bodySF (plainFor_of_name pn_50925) hisR ?_
  intro p e s m args below meth c s₁ Bd hml0 hP hK
  obtain ⟨rfl, hZ, hh⟩ := hP
  have hx := Bd.exec
  have hby := Bd.bytes
  have hml : c.maxLocals = 6 := hml0
  have hown : s.vm.findClass "java/lang/StringUTF16" = some m.cls := findClass_of_methodNamed Bd.named
  have hnm := (name_of_methodNamed Bd.named Bd.method).1
  have X0 : Stand p l e ({ frames := 3, cells := 2, slots := 3, locals := 40 } : Room) s m #[(.ref u1), (.int (0 : Int32)), (.int (1 : Int32))] below meth c s₁ [] 0 0 := Stand.of_body Bd
  have e0 : s₁.heap = h0 := by rw [← hh, Bd.state]; rfl
  have N0 := Fr.nil n0
  have K0 : Keep h0 h0 [] := Keep.refl _ _
  have pre0 : ∀ t, Steps p.tables e below (s₁.setTop (mkF m 0 #[.val (.ref u1), .val (.int (0 : Int32)), .val (.int (1 : Int32)), .unset, .unset, .unset] [])) t → Steps p.tables e below (s₁.setTop (entryFrame m #[(.ref u1), (.int (0 : Int32)), (.int (1 : Int32))] 6)) t := fun t k => castTop (ef_rm_cc1_0 m u1 (0 : Int32) (1 : Int32)) k
  obtain ⟨T31, h31, k31, X31, e31, E31, A31, st31⟩ := newP X0 hx hZ (own_w hw 23 rfl) e0 (g := (mkF m 1 #[.val (.ref u1), .val (.int (0 : Int32)), .val (.int (1 : Int32)), .unset, .unset, .unset] [(.int (1 : Int32))])) rfl (hb hby d5_1) rfl (by decide) (cap := 1) (by decide) (by decide) (by decide) (by decide)
  obtain ⟨b31, g31⟩ : ∃ z, z = h0.size := ⟨_, rfl⟩
  rw [← g31] at A31 st31
  have fr_b31 : n0 ≤ b31 := Nat.le_trans Z0 (Nat.le_of_eq g31.symm)
  have ne_u1_b31 : u1 ≠ b31 := Nat.ne_of_lt (Nat.lt_of_lt_of_le V1.lt (Nat.le_of_eq g31.symm))
  have sz_b31 : h0.size ≤ b31 := Nat.le_trans K0.1 (Nat.le_of_eq g31.symm)
  have Z31 : n0 ≤ h31.size := Nat.le_trans Z0 E31.1
  have K31 : Keep h0 h31 [] := K0.ext E31
  have V31 := Arv.new A31 (by decide)
  have V31p : Arv Z h31 b31 k31 .byte (1 : Int32) [(.int (0 : Int32))] (.int (0 : Int32)) := V31.pad (pad_rep [] (.int (0 : Int32)) 1)
  obtain ⟨_, _, ⟨T32, L32, k32, n32⟩, -, X32, ⟨Lc32, hQ32, l32, y32, z32⟩, st32⟩ := Jvm.LawKit.callS X31 hx (y := (⟨"java/lang/StringUTF16", "compress", "([CI[BII)I"⟩ : MethodName)) hown (mvT hZ (own_w hw 24 rfl)) (mvT hZ (own_w hw 25 rfl)) (mvT hZ (own_w hw 21 rfl)) (mvT hZ (own_w hw 26 rfl)) (by decide) (backOf (W := 0) (rm_cmp1_0 l Z a0 hw [] u1 b31 kc k31 c0 h31 n0 Z31 (V1.ext E31) V31p fr_b31 ne_u1_b31 k0) hZ (own_w hw 26 rfl) (own_w hw 21 rfl) (by decide) (by decide)) (g := (mkF m 9 #[.val (.ref u1), .val (.int (0 : Int32)), .val (.int (1 : Int32)), .val (.ref b31), .unset, .unset] [(.int (1 : Int32)), (.int (0 : Int32)), (.ref b31), (.int (0 : Int32)), (.ref u1)])) rfl (by rw [hml]; rfl) (argsL := [(.ref u1), (.int (0 : Int32)), (.ref b31), (.int (0 : Int32)), (.int (1 : Int32))]) (rest := []) (lenOf pd_633208 rfl) rfl (by show 2 * 0 + _ ≤ _; exact Nat.le_of_eq rfl) (hb hby d5_9) (fun _ _ => ⟨rfl, e31, (by decide : 1 + 0 ≤ _), (by decide : 1 + 0 ≤ _)⟩)
  dsimp only [Pt.U, Pt.locs, Pt.cells, Pt.slots] at X32 l32 y32 z32 st32 hQ32
  replace y32 : k32 = 1 := y32
  replace z32 : n32 = 1 := z32
  subst y32 z32
  obtain ⟨rfl, Nq32, Kq32⟩ := hQ32
  have N32 : Fr n0 L32 := by rw [l32]; exact Fr.app N0 Nq32
  have Z32 : n0 ≤ T32.heap.size := Nat.le_trans Z31 Kq32.1
  have K32 : Keep h0 T32.heap [] := K31.trans Kq32 (allS (Or.inr sz_b31) all0)
  have Ox : Old Z Z.heap.size T32.heap := X00.keep K32 all0
  obtain ⟨_, _, ⟨T33, L33, k33, n33⟩, -, X33, ⟨Lc33, hQ33, l33, y33, z33⟩, st33⟩ := Jvm.LawKit.callS X32 hx (y := (⟨"java/lang/StringUTF16", "toBytes", "([CII)[B"⟩ : MethodName)) hown (mvT hZ (own_w hw 77 rfl)) (mvT hZ (own_w hw 78 rfl)) (mvT hZ (own_w hw 21 rfl)) (mvT hZ (own_w hw 79 rfl)) (by decide) (backOf (W := 0) (rm_tob1 l Z a0 hw [] u1 kc c0 T32.heap n0 Z32 Ox O5 O6 O7 ((V1.ext E31).keep Kq32 (ninS ne_u1_b31 nin0))) hZ (own_w hw 79 rfl) (own_w hw 21 rfl) (by decide) (by decide)) (g := (mkF m 23 #[.val (.ref u1), .val (.int (0 : Int32)), .val (.int (1 : Int32)), .val (.ref b31), .val (.int (0 : Int32)), .unset] [(.int (1 : Int32)), (.int (0 : Int32)), (.ref u1)])) rfl (by rw [hml]; rfl) (argsL := [(.ref u1), (.int (0 : Int32)), (.int (1 : Int32))]) (rest := []) (lenOf pd_479214 rfl) rfl (by show 2 * 0 + _ ≤ _; exact Nat.le_of_eq rfl) (hb hby d5_23) (fun _ _ => ⟨rfl, rfl, (by decide : 1 + 1 ≤ _), (by decide : 1 + 2 ≤ _)⟩)
  dsimp only [Pt.U, Pt.locs, Pt.cells, Pt.slots] at X33 l33 y33 z33 st33 hQ33
  replace y33 : k33 = 2 := y33
  replace z33 : n33 = 3 := z33
  subst y33 z33
  obtain ⟨t2, kt2, rfl, Nq33, Kq33, gt2, Vt33⟩ := hQ33
  have N33 : Fr n0 L33 := by rw [l33]; exact Fr.app N32 Nq33
  have Z33 : n0 ≤ T33.heap.size := Nat.le_trans Z32 Kq33.1
  have K33 : Keep h0 T33.heap [] := K32.trans Kq33 all0
  have sz_t2 : h0.size ≤ t2 := Nat.le_trans K32.1 gt2
  have Oy := Ox.keep Kq33 all0
  obtain ⟨_, _, ⟨T34, L34, k34, n34⟩, -, X34, ⟨Lc34, hQ34, l34, y34, z34⟩, st34⟩ := Jvm.LawKit.callS X33 hx (y := (⟨"java/lang/StringUTF16", "getChar", "([BI)C"⟩ : MethodName)) hown (mvT hZ (own_w hw 93 rfl)) (mvT hZ (own_w hw 94 rfl)) (mvT hZ (own_w hw 21 rfl)) (mvT hZ (own_w hw 95 rfl)) (by decide) (backOf (W := 0) (rm_get0 l Z a0 hw [] t2 kt2 (2 : Int32) [(.int ((c0 >>> ((0 : Int32) &&& 31)).toInt8.toInt32)), (.int ((c0 >>> ((8 : Int32) &&& 31)).toInt8.toInt32))] ((c0 >>> ((0 : Int32) &&& 31)).toInt8.toInt32) ((c0 >>> ((8 : Int32) &&& 31)).toInt8.toInt32) c0 T33.heap n0 Z33 (O5.ext Oy.2) (O6.ext Oy.2) (O7.ext Oy.2) (own_gc _ q0) Vt33 (by decide) (by decide) rfl rfl) hZ (own_w hw 95 rfl) (own_w hw 21 rfl) (by decide) (by decide)) (g := (mkF m 32 #[.val (.ref u1), .val (.int (0 : Int32)), .val (.int (1 : Int32)), .val (.ref b31), .val (.int (0 : Int32)), .val (.ref t2)] [(.int (0 : Int32)), (.ref t2)])) rfl (by rw [hml]; rfl) (argsL := [(.ref t2), (.int (0 : Int32))]) (rest := []) (lenOf pd_676 rfl) rfl (by show 2 * 0 + _ ≤ _; exact Nat.le_of_eq rfl) (hb hby d5_32) (fun _ _ => ⟨rfl, rfl, (by decide : 2 + 0 ≤ _), (by decide : 3 + 0 ≤ _)⟩)
  dsimp only [Pt.U, Pt.locs, Pt.cells, Pt.slots] at X34 l34 y34 z34 st34 hQ34
  replace y34 : k34 = 2 := y34
  replace z34 : n34 = 3 := z34
  subst y34 z34
  obtain ⟨rfl, Nq34, eq34⟩ := hQ34
  have N34 : Fr n0 L34 := by rw [l34]; exact Fr.app N33 Nq34
  obtain ⟨fs, hr, hrun, hended, hW, hsame⟩ := X34.leave (v := some (.ref t2)) (fun h => by rw [Bd.returns] at h; cases h)
  refine ⟨_, _, pre0 _ ?_, hrun, hended, _, _, rfl, ?_, ⟨_, rfl⟩, hW, hsame.mono (by decide) (by decide)⟩
  · show Steps p.tables e below (s₁.setTop (mkF m 0 #[.val (.ref u1), .val (.int (0 : Int32)), .val (.int (1 : Int32)), .unset, .unset, .unset] [])) _
    refine XS.iloadN X0.here hx rfl (hb hby d5_0) rfl ?_
    refine st31 _ ?_
    refine XS.astoreN X31.here hx rfl (hb hby d5_3) rfl rfl (l' := #[.val (.ref u1), .val (.int (0 : Int32)), .val (.int (1 : Int32)), .val (.ref b31), .unset, .unset]) rfl ?_
    refine XS.aloadN X31.here hx rfl (hb hby d5_4) rfl rfl ?_
    refine XS.iloadN X31.here hx rfl (hb hby d5_5) rfl ?_
    refine XS.aloadN X31.here hx rfl (hb hby d5_6) rfl rfl ?_
    refine XS.iconst X31.here hx rfl (hb hby d5_7) ?_
    refine XS.iloadN X31.here hx rfl (hb hby d5_8) rfl ?_
    show Steps p.tables e below (T31.setTop (mkF m 9 #[.val (.ref u1), .val (.int (0 : Int32)), .val (.int (1 : Int32)), .val (.ref b31), .unset, .unset] [(.int (1 : Int32)), (.int (0 : Int32)), (.ref b31), (.int (0 : Int32)), (.ref u1)])) _
    refine st32 _ ?_
    refine XS.istore X32.here hx rfl (hb hby d5_12) rfl (l' := #[.val (.ref u1), .val (.int (0 : Int32)), .val (.int (1 : Int32)), .val (.ref b31), .val (.int (0 : Int32)), .unset]) rfl ?_
    refine XS.iload X32.here hx rfl (hb hby d5_14) rfl ?_
    refine XS.iloadN X32.here hx rfl (hb hby d5_16) rfl ?_
    refine XS.icmpNo X32.here hx rfl (hb hby d5_17) rfl (by decide) ?_
    refine XS.aloadN X32.here hx rfl (hb hby d5_20) rfl rfl ?_
    refine XS.iloadN X32.here hx rfl (hb hby d5_21) rfl ?_
    refine XS.iloadN X32.here hx rfl (hb hby d5_22) rfl ?_
    show Steps p.tables e below (T32.setTop (mkF m 23 #[.val (.ref u1), .val (.int (0 : Int32)), .val (.int (1 : Int32)), .val (.ref b31), .val (.int (0 : Int32)), .unset] [(.int (1 : Int32)), (.int (0 : Int32)), (.ref u1)])) _
    refine st33 _ ?_
    refine XS.astore X33.here hx rfl (hb hby d5_26) rfl rfl (l' := #[.val (.ref u1), .val (.int (0 : Int32)), .val (.int (1 : Int32)), .val (.ref b31), .val (.int (0 : Int32)), .val (.ref t2)]) rfl ?_
    refine XS.aload X33.here hx rfl (hb hby d5_28) rfl rfl ?_
    refine XS.iload X33.here hx rfl (hb hby d5_30) rfl ?_
    refine st34 _ ?_
    refine XS.sipush X34.here hx rfl (hb hby d5_35) ?_
    refine XS.icmpYes X34.here hx rfl (pc0 := 38) (pc' := 54) rfl (hb hby d5_38) rfl (own_gt k0) (by decide) (by decide) ?_
    refine XS.aload X34.here hx rfl (hb hby d5_54) rfl rfl ?_
    show Steps p.tables e below (T34.setTop (mkF m 56 #[.val (.ref u1), .val (.int (0 : Int32)), .val (.int (1 : Int32)), .val (.ref b31), .val (.int (0 : Int32)), .val (.ref t2)] [(.ref t2)])) _
    jvm_step X34.here [X34.here.top, hx, (hb hby d5_56), X34.method', Bd.returns, Value.isRef, FieldType.isReference]
    first | (intro acts; rw [hr _ acts rfl rfl rfl]) | rw [hr _ _ rfl rfl rfl]
    exact Steps.refl _
  · show Q_rm_cc1_0 Z _ _ _ h0 n0 _ T34.heap _
    rw [eq34]
    exact ⟨t2, kt2, rfl, N34, K33, sz_t2, Vt33⟩
theorem ef_rm_cc2 (m : MethodId) (x0 : Addr) (x1 : Int32) (x2 : Int32) : entryFrame m #[(.ref x0), (.int x1), (.int x2)] 6 = mkF m 0 #[.val (.ref x0), .val (.int x1), .val (.int x2), .unset, .unset, .unset] [] := by first | (simp [entryFrame, mkF, argsToLocals, Value.category]; done) | rfl
def Q_rm_cc2 (Z : State) (u1 : Addr) (kc : ClassId) (c0 : Int32) (c1 : Int32) (h0 : Heap) (n0 : Nat) (v : Option Value) (h : Heap) (L : List Loc) : Prop := ∃ (t : Addr) (kt : ClassId), v = some (.ref t) ∧ Fr n0 L ∧ Keep h0 h [] ∧ h0.size ≤ t ∧ Arv Z h t kt .byte (2 : Int32) [(.int (c0.toInt8.toInt32)), (.int (c1.toInt8.toInt32))] (.int (0 : Int32))
set_option maxRecDepth 65536 in
set_option maxHeartbeats 40000000 in
theorem rm_cc2 (l : Launch) (Z : State) (a0 : Array Value) (hw : ∀ d ∈ tables_1, d.before a0 Z = true) (ws : List Jvm.Cond) (u1 : Addr) (kc : ClassId) (c0 : Int32) (c1 : Int32) (h0 : Heap) (n0 : Nat) (Z0 : n0 ≤ h0.size) (V1 : Arv Z h0 u1 kc .char (2 : Int32) [(.int c0), (.int c1)] (.int (0 : Int32))) (k0 : if_icmp.holds .le c0 (255 : Int32) = true) (k1 : if_icmp.holds .le c1 (255 : Int32) = true) :
    MetFree l (⟨"java/lang/StringUTF16", "compress", "([CII)[B"⟩ : MethodName) (head1 (Jvm.Cond.code (⟨"java/lang/StringUTF16", "compress", "([CII)[B"⟩ : MethodName) jdk_52_method_16_code 6 (some (.array .byte)) :: ws) ({ frames := 1, cells := 1, slots := 2, locals := 18 } : Room)) (fun a U => a = #[(.ref u1), (.int (0 : Int32)), (.int (2 : Int32))] ∧ Z.Warmed39 U.vm ∧ U.heap = h0) (fun _ _ _ _ _ => True) (fun _ U o U' => ∃ v L, o = .returned v ∧ Q_rm_cc2 Z u1 kc c0 c1 h0 n0 v U'.heap L ∧ FrameEnd U o U' L ({ frames := 1, cells := 1, slots := 2, locals := 18 } : Room).cells ({ frames := 1, cells := 1, slots := 2, locals := 18 } : Room).slots) := by
  refine MetFree.of_bodySF (plainFor_of_name pn_50925) hisR ?_
  intro p e s m args below meth c s₁ Bd hml0 hP hK
  obtain ⟨rfl, hZ, hh⟩ := hP
  have hx := Bd.exec
  have hby := Bd.bytes
  have hml : c.maxLocals = 6 := hml0
  have hown : s.vm.findClass "java/lang/StringUTF16" = some m.cls := findClass_of_methodNamed Bd.named
  have hnm := (name_of_methodNamed Bd.named Bd.method).1
  have X0 : Stand p l e ({ frames := 1, cells := 1, slots := 2, locals := 18 } : Room) s m #[(.ref u1), (.int (0 : Int32)), (.int (2 : Int32))] below meth c s₁ [] 0 0 := Stand.of_body Bd
  have e0 : s₁.heap = h0 := by rw [← hh, Bd.state]; rfl
  have N0 := Fr.nil n0
  have K0 : Keep h0 h0 [] := Keep.refl _ _
  have pre0 : ∀ t, Steps p.tables e below (s₁.setTop (mkF m 0 #[.val (.ref u1), .val (.int (0 : Int32)), .val (.int (2 : Int32)), .unset, .unset, .unset] [])) t → Steps p.tables e below (s₁.setTop (entryFrame m #[(.ref u1), (.int (0 : Int32)), (.int (2 : Int32))] 6)) t := fun t k => castTop (ef_rm_cc2 m u1 (0 : Int32) (2 : Int32)) k
  obtain ⟨T31, h31, k31, X31, e31, E31, A31, st31⟩ := newP X0 hx hZ (own_w hw 23 rfl) e0 (g := (mkF m 1 #[.val (.ref u1), .val (.int (0 : Int32)), .val (.int (2 : Int32)), .unset, .unset, .unset] [(.int (2 : Int32))])) rfl (hb hby d5_1) rfl (by decide) (cap := 2) (by decide) (by decide) (by decide) (by decide)
  obtain ⟨b31, g31⟩ : ∃ z, z = h0.size := ⟨_, rfl⟩
  rw [← g31] at A31 st31
  have fr_b31 : n0 ≤ b31 := Nat.le_trans Z0 (Nat.le_of_eq g31.symm)
  have ne_u1_b31 : u1 ≠ b31 := Nat.ne_of_lt (Nat.lt_of_lt_of_le V1.lt (Nat.le_of_eq g31.symm))
  have sz_b31 : h0.size ≤ b31 := Nat.le_trans K0.1 (Nat.le_of_eq g31.symm)
  have Z31 : n0 ≤ h31.size := Nat.le_trans Z0 E31.1
  have K31 : Keep h0 h31 [] := K0.ext E31
  have V31 := Arv.new A31 (by decide)
  have V31p : Arv Z h31 b31 k31 .byte (2 : Int32) [(.int (0 : Int32)), (.int (0 : Int32))] (.int (0 : Int32)) := V31.pad (pad_rep [] (.int (0 : Int32)) 2)
  obtain ⟨_, _, ⟨T32, L32, k32, n32⟩, -, X32, ⟨Lc32, hQ32, l32, y32, z32⟩, st32⟩ := Jvm.LawKit.callS X31 hx (y := (⟨"java/lang/StringUTF16", "compress", "([CI[BII)I"⟩ : MethodName)) hown (mvT hZ (own_w hw 24 rfl)) (mvT hZ (own_w hw 25 rfl)) (mvT hZ (own_w hw 21 rfl)) (mvT hZ (own_w hw 26 rfl)) (by decide) (backOf (W := 0) (rm_cmp2 l Z a0 hw [] u1 b31 kc k31 c0 c1 h31 n0 Z31 (V1.ext E31) V31p fr_b31 ne_u1_b31 k0 k1) hZ (own_w hw 26 rfl) (own_w hw 21 rfl) (by decide) (by decide)) (g := (mkF m 9 #[.val (.ref u1), .val (.int (0 : Int32)), .val (.int (2 : Int32)), .val (.ref b31), .unset, .unset] [(.int (2 : Int32)), (.int (0 : Int32)), (.ref b31), (.int (0 : Int32)), (.ref u1)])) rfl (by rw [hml]; rfl) (argsL := [(.ref u1), (.int (0 : Int32)), (.ref b31), (.int (0 : Int32)), (.int (2 : Int32))]) (rest := []) (lenOf pd_633208 rfl) rfl (by show 2 * 0 + _ ≤ _; exact Nat.le_of_eq rfl) (hb hby d5_9) (fun _ _ => ⟨rfl, e31, (by decide : 1 + 0 ≤ _), (by decide : 2 + 0 ≤ _)⟩)
  dsimp only [Pt.U, Pt.locs, Pt.cells, Pt.slots] at X32 l32 y32 z32 st32 hQ32
  replace y32 : k32 = 1 := y32
  replace z32 : n32 = 2 := z32
  subst y32 z32
  obtain ⟨rfl, Nq32, Kq32, Vt32⟩ := hQ32
  have N32 : Fr n0 L32 := by rw [l32]; exact Fr.app N0 Nq32
  have Z32 : n0 ≤ T32.heap.size := Nat.le_trans Z31 Kq32.1
  have K32 : Keep h0 T32.heap [] := K31.trans Kq32 (allS (Or.inr sz_b31) all0)
  obtain ⟨fs, hr, hrun, hended, hW, hsame⟩ := X32.leave (v := some (.ref b31)) (fun h => by rw [Bd.returns] at h; cases h)
  refine ⟨_, _, pre0 _ ?_, hrun, hended, _, _, rfl, ?_, ⟨_, rfl⟩, hW, hsame.mono (by decide) (by decide)⟩
  · show Steps p.tables e below (s₁.setTop (mkF m 0 #[.val (.ref u1), .val (.int (0 : Int32)), .val (.int (2 : Int32)), .unset, .unset, .unset] [])) _
    refine XS.iloadN X0.here hx rfl (hb hby d5_0) rfl ?_
    refine st31 _ ?_
    refine XS.astoreN X31.here hx rfl (hb hby d5_3) rfl rfl (l' := #[.val (.ref u1), .val (.int (0 : Int32)), .val (.int (2 : Int32)), .val (.ref b31), .unset, .unset]) rfl ?_
    refine XS.aloadN X31.here hx rfl (hb hby d5_4) rfl rfl ?_
    refine XS.iloadN X31.here hx rfl (hb hby d5_5) rfl ?_
    refine XS.aloadN X31.here hx rfl (hb hby d5_6) rfl rfl ?_
    refine XS.iconst X31.here hx rfl (hb hby d5_7) ?_
    refine XS.iloadN X31.here hx rfl (hb hby d5_8) rfl ?_
    show Steps p.tables e below (T31.setTop (mkF m 9 #[.val (.ref u1), .val (.int (0 : Int32)), .val (.int (2 : Int32)), .val (.ref b31), .unset, .unset] [(.int (2 : Int32)), (.int (0 : Int32)), (.ref b31), (.int (0 : Int32)), (.ref u1)])) _
    refine st32 _ ?_
    refine XS.istore X32.here hx rfl (hb hby d5_12) rfl (l' := #[.val (.ref u1), .val (.int (0 : Int32)), .val (.int (2 : Int32)), .val (.ref b31), .val (.int (2 : Int32)), .unset]) rfl ?_
    refine XS.iload X32.here hx rfl (hb hby d5_14) rfl ?_
    refine XS.iloadN X32.here hx rfl (hb hby d5_16) rfl ?_
    refine XS.icmpYes X32.here hx rfl (pc0 := 17) (pc' := 57) rfl (hb hby d5_17) rfl (by decide) (by decide) (by decide) ?_
    refine XS.aloadN X32.here hx rfl (hb hby d5_57) rfl rfl ?_
    show Steps p.tables e below (T32.setTop (mkF m 58 #[.val (.ref u1), .val (.int (0 : Int32)), .val (.int (2 : Int32)), .val (.ref b31), .val (.int (2 : Int32)), .unset] [(.ref b31)])) _
    jvm_step X32.here [X32.here.top, hx, (hb hby d5_58), X32.method', Bd.returns, Value.isRef, FieldType.isReference]
    first | (intro acts; rw [hr _ acts rfl rfl rfl]) | rw [hr _ _ rfl rfl rfl]
    exact Steps.refl _
  · show Q_rm_cc2 Z _ _ _ _ h0 n0 _ T32.heap _
    exact ⟨b31, k31, rfl, N32, K32, sz_b31, Vt32⟩
theorem ef_rm_cc2_0 (m : MethodId) (x0 : Addr) (x1 : Int32) (x2 : Int32) : entryFrame m #[(.ref x0), (.int x1), (.int x2)] 6 = mkF m 0 #[.val (.ref x0), .val (.int x1), .val (.int x2), .unset, .unset, .unset] [] := by first | (simp [entryFrame, mkF, argsToLocals, Value.category]; done) | rfl
def Q_rm_cc2_0 (Z : State) (u1 : Addr) (kc : ClassId) (c0 : Int32) (c1 : Int32) (h0 : Heap) (n0 : Nat) (v : Option Value) (h : Heap) (L : List Loc) : Prop := ∃ (t : Addr) (kt : ClassId), v = some (.ref t) ∧ Fr n0 L ∧ Keep h0 h [] ∧ h0.size ≤ t ∧ Arv Z h t kt .byte (4 : Int32) [(.int ((c0 >>> ((0 : Int32) &&& 31)).toInt8.toInt32)), (.int ((c0 >>> ((8 : Int32) &&& 31)).toInt8.toInt32)), (.int ((c1 >>> ((0 : Int32) &&& 31)).toInt8.toInt32)), (.int ((c1 >>> ((8 : Int32) &&& 31)).toInt8.toInt32))] (.int (0 : Int32))
set_option maxRecDepth 65536 in
set_option maxHeartbeats 40000000 in
theorem rm_cc2_0 (l : Launch) (Z : State) (a0 : Array Value) (hw : ∀ d ∈ tables_1, d.before a0 Z = true) (ws : List Jvm.Cond) (u1 : Addr) (kc : ClassId) (c0 : Int32) (c1 : Int32) (h0 : Heap) (n0 : Nat) (Z0 : n0 ≤ h0.size) (X00 : Old Z Z.heap.size h0) (O5 : Sta Z Z.heap "java/lang/StringUTF16" "$assertionsDisabled" "Z" (.int (1 : Int32))) (O6 : Sta Z Z.heap "java/lang/StringUTF16" "HI_BYTE_SHIFT" "I" (.int (0 : Int32))) (O7 : Sta Z Z.heap "java/lang/StringUTF16" "LO_BYTE_SHIFT" "I" (.int (8 : Int32))) (q0 : ¬ c0 < 0 ∧ ¬ (65535 : Int32) < c0) (q1 : ¬ c1 < 0 ∧ ¬ (65535 : Int32) < c1) (V1 : Arv Z h0 u1 kc .char (2 : Int32) [(.int c0), (.int c1)] (.int (0 : Int32))) (k0 : if_icmp.holds .le c0 (255 : Int32) = false) :
    MetFree l (⟨"java/lang/StringUTF16", "compress", "([CII)[B"⟩ : MethodName) (head1 (Jvm.Cond.code (⟨"java/lang/StringUTF16", "compress", "([CII)[B"⟩ : MethodName) jdk_52_method_16_code 6 (some (.array .byte)) :: ws) ({ frames := 3, cells := 2, slots := 6, locals := 40 } : Room)) (fun a U => a = #[(.ref u1), (.int (0 : Int32)), (.int (2 : Int32))] ∧ Z.Warmed39 U.vm ∧ U.heap = h0) (fun _ _ _ _ _ => True) (fun _ U o U' => ∃ v L, o = .returned v ∧ Q_rm_cc2_0 Z u1 kc c0 c1 h0 n0 v U'.heap L ∧ FrameEnd U o U' L ({ frames := 3, cells := 2, slots := 6, locals := 40 } : Room).cells ({ frames := 3, cells := 2, slots := 6, locals := 40 } : Room).slots) := by
  refine MetFree.of_bodySF (plainFor_of_name pn_50925) hisR ?_
  intro p e s m args below meth c s₁ Bd hml0 hP hK
  obtain ⟨rfl, hZ, hh⟩ := hP
  have hx := Bd.exec
  have hby := Bd.bytes
  have hml : c.maxLocals = 6 := hml0
  have hown : s.vm.findClass "java/lang/StringUTF16" = some m.cls := findClass_of_methodNamed Bd.named
  have hnm := (name_of_methodNamed Bd.named Bd.method).1
  have X0 : Stand p l e ({ frames := 3, cells := 2, slots := 6, locals := 40 } : Room) s m #[(.ref u1), (.int (0 : Int32)), (.int (2 : Int32))] below meth c s₁ [] 0 0 := Stand.of_body Bd
  have e0 : s₁.heap = h0 := by rw [← hh, Bd.state]; rfl
  have N0 := Fr.nil n0
  have K0 : Keep h0 h0 [] := Keep.refl _ _
  have pre0 : ∀ t, Steps p.tables e below (s₁.setTop (mkF m 0 #[.val (.ref u1), .val (.int (0 : Int32)), .val (.int (2 : Int32)), .unset, .unset, .unset] [])) t → Steps p.tables e below (s₁.setTop (entryFrame m #[(.ref u1), (.int (0 : Int32)), (.int (2 : Int32))] 6)) t := fun t k => castTop (ef_rm_cc2_0 m u1 (0 : Int32) (2 : Int32)) k
  obtain ⟨T31, h31, k31, X31, e31, E31, A31, st31⟩ := newP X0 hx hZ (own_w hw 23 rfl) e0 (g := (mkF m 1 #[.val (.ref u1), .val (.int (0 : Int32)), .val (.int (2 : Int32)), .unset, .unset, .unset] [(.int (2 : Int32))])) rfl (hb hby d5_1) rfl (by decide) (cap := 2) (by decide) (by decide) (by decide) (by decide)
  obtain ⟨b31, g31⟩ : ∃ z, z = h0.size := ⟨_, rfl⟩
  rw [← g31] at A31 st31
  have fr_b31 : n0 ≤ b31 := Nat.le_trans Z0 (Nat.le_of_eq g31.symm)
  have ne_u1_b31 : u1 ≠ b31 := Nat.ne_of_lt (Nat.lt_of_lt_of_le V1.lt (Nat.le_of_eq g31.symm))
  have sz_b31 : h0.size ≤ b31 := Nat.le_trans K0.1 (Nat.le_of_eq g31.symm)
  have Z31 : n0 ≤ h31.size := Nat.le_trans Z0 E31.1
  have K31 : Keep h0 h31 [] := K0.ext E31
  have V31 := Arv.new A31 (by decide)
  have V31p : Arv Z h31 b31 k31 .byte (2 : Int32) [(.int (0 : Int32)), (.int (0 : Int32))] (.int (0 : Int32)) := V31.pad (pad_rep [] (.int (0 : Int32)) 2)
  obtain ⟨_, _, ⟨T32, L32, k32, n32⟩, -, X32, ⟨Lc32, hQ32, l32, y32, z32⟩, st32⟩ := Jvm.LawKit.callS X31 hx (y := (⟨"java/lang/StringUTF16", "compress", "([CI[BII)I"⟩ : MethodName)) hown (mvT hZ (own_w hw 24 rfl)) (mvT hZ (own_w hw 25 rfl)) (mvT hZ (own_w hw 21 rfl)) (mvT hZ (own_w hw 26 rfl)) (by decide) (backOf (W := 0) (rm_cmp2_0 l Z a0 hw [] u1 b31 kc k31 c0 c1 h31 n0 Z31 (V1.ext E31) V31p fr_b31 ne_u1_b31 k0) hZ (own_w hw 26 rfl) (own_w hw 21 rfl) (by decide) (by decide)) (g := (mkF m 9 #[.val (.ref u1), .val (.int (0 : Int32)), .val (.int (2 : Int32)), .val (.ref b31), .unset, .unset] [(.int (2 : Int32)), (.int (0 : Int32)), (.ref b31), (.int (0 : Int32)), (.ref u1)])) rfl (by rw [hml]; rfl) (argsL := [(.ref u1), (.int (0 : Int32)), (.ref b31), (.int (0 : Int32)), (.int (2 : Int32))]) (rest := []) (lenOf pd_633208 rfl) rfl (by show 2 * 0 + _ ≤ _; exact Nat.le_of_eq rfl) (hb hby d5_9) (fun _ _ => ⟨rfl, e31, (by decide : 1 + 0 ≤ _), (by decide : 2 + 0 ≤ _)⟩)
  dsimp only [Pt.U, Pt.locs, Pt.cells, Pt.slots] at X32 l32 y32 z32 st32 hQ32
  replace y32 : k32 = 1 := y32
  replace z32 : n32 = 2 := z32
  subst y32 z32
  obtain ⟨rfl, Nq32, Kq32⟩ := hQ32
  have N32 : Fr n0 L32 := by rw [l32]; exact Fr.app N0 Nq32
  have Z32 : n0 ≤ T32.heap.size := Nat.le_trans Z31 Kq32.1
  have K32 : Keep h0 T32.heap [] := K31.trans Kq32 (allS (Or.inr sz_b31) all0)
  have Ox : Old Z Z.heap.size T32.heap := X00.keep K32 all0
  obtain ⟨_, _, ⟨T33, L33, k33, n33⟩, -, X33, ⟨Lc33, hQ33, l33, y33, z33⟩, st33⟩ := Jvm.LawKit.callS X32 hx (y := (⟨"java/lang/StringUTF16", "toBytes", "([CII)[B"⟩ : MethodName)) hown (mvT hZ (own_w hw 77 rfl)) (mvT hZ (own_w hw 78 rfl)) (mvT hZ (own_w hw 21 rfl)) (mvT hZ (own_w hw 79 rfl)) (by decide) (backOf (W := 0) (rm_tob2 l Z a0 hw [] u1 kc c0 c1 T32.heap n0 Z32 Ox O5 O6 O7 ((V1.ext E31).keep Kq32 (ninS ne_u1_b31 nin0))) hZ (own_w hw 79 rfl) (own_w hw 21 rfl) (by decide) (by decide)) (g := (mkF m 23 #[.val (.ref u1), .val (.int (0 : Int32)), .val (.int (2 : Int32)), .val (.ref b31), .val (.int (0 : Int32)), .unset] [(.int (2 : Int32)), (.int (0 : Int32)), (.ref u1)])) rfl (by rw [hml]; rfl) (argsL := [(.ref u1), (.int (0 : Int32)), (.int (2 : Int32))]) (rest := []) (lenOf pd_479214 rfl) rfl (by show 2 * 0 + _ ≤ _; exact Nat.le_of_eq rfl) (hb hby d5_23) (fun _ _ => ⟨rfl, rfl, (by decide : 1 + 1 ≤ _), (by decide : 2 + 4 ≤ _)⟩)
  dsimp only [Pt.U, Pt.locs, Pt.cells, Pt.slots] at X33 l33 y33 z33 st33 hQ33
  replace y33 : k33 = 2 := y33
  replace z33 : n33 = 6 := z33
  subst y33 z33
  obtain ⟨t2, kt2, rfl, Nq33, Kq33, gt2, Vt33⟩ := hQ33
  have N33 : Fr n0 L33 := by rw [l33]; exact Fr.app N32 Nq33
  have Z33 : n0 ≤ T33.heap.size := Nat.le_trans Z32 Kq33.1
  have K33 : Keep h0 T33.heap [] := K32.trans Kq33 all0
  have sz_t2 : h0.size ≤ t2 := Nat.le_trans K32.1 gt2
  have Oy := Ox.keep Kq33 all0
  obtain ⟨_, _, ⟨T34, L34, k34, n34⟩, -, X34, ⟨Lc34, hQ34, l34, y34, z34⟩, st34⟩ := Jvm.LawKit.callS X33 hx (y := (⟨"java/lang/StringUTF16", "getChar", "([BI)C"⟩ : MethodName)) hown (mvT hZ (own_w hw 93 rfl)) (mvT hZ (own_w hw 94 rfl)) (mvT hZ (own_w hw 21 rfl)) (mvT hZ (own_w hw 95 rfl)) (by decide) (backOf (W := 0) (rm_get0 l Z a0 hw [] t2 kt2 (4 : Int32) [(.int ((c0 >>> ((0 : Int32) &&& 31)).toInt8.toInt32)), (.int ((c0 >>> ((8 : Int32) &&& 31)).toInt8.toInt32)), (.int ((c1 >>> ((0 : Int32) &&& 31)).toInt8.toInt32)), (.int ((c1 >>> ((8 : Int32) &&& 31)).toInt8.toInt32))] ((c0 >>> ((0 : Int32) &&& 31)).toInt8.toInt32) ((c0 >>> ((8 : Int32) &&& 31)).toInt8.toInt32) c0 T33.heap n0 Z33 (O5.ext Oy.2) (O6.ext Oy.2) (O7.ext Oy.2) (own_gc _ q0) Vt33 (by decide) (by decide) rfl rfl) hZ (own_w hw 95 rfl) (own_w hw 21 rfl) (by decide) (by decide)) (g := (mkF m 32 #[.val (.ref u1), .val (.int (0 : Int32)), .val (.int (2 : Int32)), .val (.ref b31), .val (.int (0 : Int32)), .val (.ref t2)] [(.int (0 : Int32)), (.ref t2)])) rfl (by rw [hml]; rfl) (argsL := [(.ref t2), (.int (0 : Int32))]) (rest := []) (lenOf pd_676 rfl) rfl (by show 2 * 0 + _ ≤ _; exact Nat.le_of_eq rfl) (hb hby d5_32) (fun _ _ => ⟨rfl, rfl, (by decide : 2 + 0 ≤ _), (by decide : 6 + 0 ≤ _)⟩)
  dsimp only [Pt.U, Pt.locs, Pt.cells, Pt.slots] at X34 l34 y34 z34 st34 hQ34
  replace y34 : k34 = 2 := y34
  replace z34 : n34 = 6 := z34
  subst y34 z34
  obtain ⟨rfl, Nq34, eq34⟩ := hQ34
  have N34 : Fr n0 L34 := by rw [l34]; exact Fr.app N33 Nq34
  obtain ⟨fs, hr, hrun, hended, hW, hsame⟩ := X34.leave (v := some (.ref t2)) (fun h => by rw [Bd.returns] at h; cases h)
  refine ⟨_, _, pre0 _ ?_, hrun, hended, _, _, rfl, ?_, ⟨_, rfl⟩, hW, hsame.mono (by decide) (by decide)⟩
  · show Steps p.tables e below (s₁.setTop (mkF m 0 #[.val (.ref u1), .val (.int (0 : Int32)), .val (.int (2 : Int32)), .unset, .unset, .unset] [])) _
    refine XS.iloadN X0.here hx rfl (hb hby d5_0) rfl ?_
    refine st31 _ ?_
    refine XS.astoreN X31.here hx rfl (hb hby d5_3) rfl rfl (l' := #[.val (.ref u1), .val (.int (0 : Int32)), .val (.int (2 : Int32)), .val (.ref b31), .unset, .unset]) rfl ?_
    refine XS.aloadN X31.here hx rfl (hb hby d5_4) rfl rfl ?_
    refine XS.iloadN X31.here hx rfl (hb hby d5_5) rfl ?_
    refine XS.aloadN X31.here hx rfl (hb hby d5_6) rfl rfl ?_
    refine XS.iconst X31.here hx rfl (hb hby d5_7) ?_
    refine XS.iloadN X31.here hx rfl (hb hby d5_8) rfl ?_
    show Steps p.tables e below (T31.setTop (mkF m 9 #[.val (.ref u1), .val (.int (0 : Int32)), .val (.int (2 : Int32)), .val (.ref b31), .unset, .unset] [(.int (2 : Int32)), (.int (0 : Int32)), (.ref b31), (.int (0 : Int32)), (.ref u1)])) _
    refine st32 _ ?_
    refine XS.istore X32.here hx rfl (hb hby d5_12) rfl (l' := #[.val (.ref u1), .val (.int (0 : Int32)), .val (.int (2 : Int32)), .val (.ref b31), .val (.int (0 : Int32)), .unset]) rfl ?_
    refine XS.iload X32.here hx rfl (hb hby d5_14) rfl ?_
    refine XS.iloadN X32.here hx rfl (hb hby d5_16) rfl ?_
    refine XS.icmpNo X32.here hx rfl (hb hby d5_17) rfl (by decide) ?_
    refine XS.aloadN X32.here hx rfl (hb hby d5_20) rfl rfl ?_
    refine XS.iloadN X32.here hx rfl (hb hby d5_21) rfl ?_
    refine XS.iloadN X32.here hx rfl (hb hby d5_22) rfl ?_
    show Steps p.tables e below (T32.setTop (mkF m 23 #[.val (.ref u1), .val (.int (0 : Int32)), .val (.int (2 : Int32)), .val (.ref b31), .val (.int (0 : Int32)), .unset] [(.int (2 : Int32)), (.int (0 : Int32)), (.ref u1)])) _
    refine st33 _ ?_
    refine XS.astore X33.here hx rfl (hb hby d5_26) rfl rfl (l' := #[.val (.ref u1), .val (.int (0 : Int32)), .val (.int (2 : Int32)), .val (.ref b31), .val (.int (0 : Int32)), .val (.ref t2)]) rfl ?_
    refine XS.aload X33.here hx rfl (hb hby d5_28) rfl rfl ?_
    refine XS.iload X33.here hx rfl (hb hby d5_30) rfl ?_
    refine st34 _ ?_
    refine XS.sipush X34.here hx rfl (hb hby d5_35) ?_
    refine XS.icmpYes X34.here hx rfl (pc0 := 38) (pc' := 54) rfl (hb hby d5_38) rfl (own_gt k0) (by decide) (by decide) ?_
    refine XS.aload X34.here hx rfl (hb hby d5_54) rfl rfl ?_
    show Steps p.tables e below (T34.setTop (mkF m 56 #[.val (.ref u1), .val (.int (0 : Int32)), .val (.int (2 : Int32)), .val (.ref b31), .val (.int (0 : Int32)), .val (.ref t2)] [(.ref t2)])) _
    jvm_step X34.here [X34.here.top, hx, (hb hby d5_56), X34.method', Bd.returns, Value.isRef, FieldType.isReference]
    first | (intro acts; rw [hr _ acts rfl rfl rfl]) | rw [hr _ _ rfl rfl rfl]
    exact Steps.refl _
  · show Q_rm_cc2_0 Z _ _ _ _ h0 n0 _ T34.heap _
    rw [eq34]
    exact ⟨t2, kt2, rfl, N34, K33, sz_t2, Vt33⟩
theorem ef_rm_cc2_1 (m : MethodId) (x0 : Addr) (x1 : Int32) (x2 : Int32) : entryFrame m #[(.ref x0), (.int x1), (.int x2)] 6 = mkF m 0 #[.val (.ref x0), .val (.int x1), .val (.int x2), .unset, .unset, .unset] [] := by first | (simp [entryFrame, mkF, argsToLocals, Value.category]; done) | rfl
def Q_rm_cc2_1 (Z : State) (u1 : Addr) (kc : ClassId) (c0 : Int32) (c1 : Int32) (h0 : Heap) (n0 : Nat) (v : Option Value) (h : Heap) (L : List Loc) : Prop := ∃ (t : Addr) (kt : ClassId), v = some (.ref t) ∧ Fr n0 L ∧ Keep h0 h [] ∧ h0.size ≤ t ∧ Arv Z h t kt .byte (4 : Int32) [(.int ((c0 >>> ((0 : Int32) &&& 31)).toInt8.toInt32)), (.int ((c0 >>> ((8 : Int32) &&& 31)).toInt8.toInt32)), (.int ((c1 >>> ((0 : Int32) &&& 31)).toInt8.toInt32)), (.int ((c1 >>> ((8 : Int32) &&& 31)).toInt8.toInt32))] (.int (0 : Int32))
set_option maxRecDepth 65536 in
set_option maxHeartbeats 40000000 in
theorem rm_cc2_1 (l : Launch) (Z : State) (a0 : Array Value) (hw : ∀ d ∈ tables_1, d.before a0 Z = true) (ws : List Jvm.Cond) (u1 : Addr) (kc : ClassId) (c0 : Int32) (c1 : Int32) (h0 : Heap) (n0 : Nat) (Z0 : n0 ≤ h0.size) (X00 : Old Z Z.heap.size h0) (O5 : Sta Z Z.heap "java/lang/StringUTF16" "$assertionsDisabled" "Z" (.int (1 : Int32))) (O6 : Sta Z Z.heap "java/lang/StringUTF16" "HI_BYTE_SHIFT" "I" (.int (0 : Int32))) (O7 : Sta Z Z.heap "java/lang/StringUTF16" "LO_BYTE_SHIFT" "I" (.int (8 : Int32))) (q0 : ¬ c0 < 0 ∧ ¬ (65535 : Int32) < c0) (q1 : ¬ c1 < 0 ∧ ¬ (65535 : Int32) < c1) (V1 : Arv Z h0 u1 kc .char (2 : Int32) [(.int c0), (.int c1)] (.int (0 : Int32))) (k0 : if_icmp.holds .le c0 (255 : Int32) = true) (k1 : if_icmp.holds .le c1 (255 : Int32) = false) :
    MetFree l (⟨"java/lang/StringUTF16", "compress", "([CII)[B"⟩ : MethodName) (head1 (Jvm.Cond.code (⟨"java/lang/StringUTF16", "compress", "([CII)[B"⟩ : MethodName) jdk_52_method_16_code 6 (some (.array .byte)) :: ws) ({ frames := 3, cells := 2, slots := 6, locals := 40 } : Room)) (fun a U => a = #[(.ref u1), (.int (0 : Int32)), (.int (2 : Int32))] ∧ Z.Warmed39 U.vm ∧ U.heap = h0) (fun _ _ _ _ _ => True) (fun _ U o U' => ∃ v L, o = .returned v ∧ Q_rm_cc2_1 Z u1 kc c0 c1 h0 n0 v U'.heap L ∧ FrameEnd U o U' L ({ frames := 3, cells := 2, slots := 6, locals := 40 } : Room).cells ({ frames := 3, cells := 2, slots := 6, locals := 40 } : Room).slots) := by
  refine MetFree.of_bodySF (plainFor_of_name pn_50925) hisR ?_
  intro p e s m args below meth c s₁ Bd hml0 hP hK
  obtain ⟨rfl, hZ, hh⟩ := hP
  have hx := Bd.exec
  have hby := Bd.bytes
  have hml : c.maxLocals = 6 := hml0
  have hown : s.vm.findClass "java/lang/StringUTF16" = some m.cls := findClass_of_methodNamed Bd.named
  have hnm := (name_of_methodNamed Bd.named Bd.method).1
  have X0 : Stand p l e ({ frames := 3, cells := 2, slots := 6, locals := 40 } : Room) s m #[(.ref u1), (.int (0 : Int32)), (.int (2 : Int32))] below meth c s₁ [] 0 0 := Stand.of_body Bd
  have e0 : s₁.heap = h0 := by rw [← hh, Bd.state]; rfl
  have N0 := Fr.nil n0
  have K0 : Keep h0 h0 [] := Keep.refl _ _
  have pre0 : ∀ t, Steps p.tables e below (s₁.setTop (mkF m 0 #[.val (.ref u1), .val (.int (0 : Int32)), .val (.int (2 : Int32)), .unset, .unset, .unset] [])) t → Steps p.tables e below (s₁.setTop (entryFrame m #[(.ref u1), (.int (0 : Int32)), (.int (2 : Int32))] 6)) t := fun t k => castTop (ef_rm_cc2_1 m u1 (0 : Int32) (2 : Int32)) k
  obtain ⟨T31, h31, k31, X31, e31, E31, A31, st31⟩ := newP X0 hx hZ (own_w hw 23 rfl) e0 (g := (mkF m 1 #[.val (.ref u1), .val (.int (0 : Int32)), .val (.int (2 : Int32)), .unset, .unset, .unset] [(.int (2 : Int32))])) rfl (hb hby d5_1) rfl (by decide) (cap := 2) (by decide) (by decide) (by decide) (by decide)
  obtain ⟨b31, g31⟩ : ∃ z, z = h0.size := ⟨_, rfl⟩
  rw [← g31] at A31 st31
  have fr_b31 : n0 ≤ b31 := Nat.le_trans Z0 (Nat.le_of_eq g31.symm)
  have ne_u1_b31 : u1 ≠ b31 := Nat.ne_of_lt (Nat.lt_of_lt_of_le V1.lt (Nat.le_of_eq g31.symm))
  have sz_b31 : h0.size ≤ b31 := Nat.le_trans K0.1 (Nat.le_of_eq g31.symm)
  have Z31 : n0 ≤ h31.size := Nat.le_trans Z0 E31.1
  have K31 : Keep h0 h31 [] := K0.ext E31
  have V31 := Arv.new A31 (by decide)
  have V31p : Arv Z h31 b31 k31 .byte (2 : Int32) [(.int (0 : Int32)), (.int (0 : Int32))] (.int (0 : Int32)) := V31.pad (pad_rep [] (.int (0 : Int32)) 2)
  obtain ⟨_, _, ⟨T32, L32, k32, n32⟩, -, X32, ⟨Lc32, hQ32, l32, y32, z32⟩, st32⟩ := Jvm.LawKit.callS X31 hx (y := (⟨"java/lang/StringUTF16", "compress", "([CI[BII)I"⟩ : MethodName)) hown (mvT hZ (own_w hw 24 rfl)) (mvT hZ (own_w hw 25 rfl)) (mvT hZ (own_w hw 21 rfl)) (mvT hZ (own_w hw 26 rfl)) (by decide) (backOf (W := 0) (rm_cmp2_1 l Z a0 hw [] u1 b31 kc k31 c0 c1 h31 n0 Z31 (V1.ext E31) V31p fr_b31 ne_u1_b31 k0 k1) hZ (own_w hw 26 rfl) (own_w hw 21 rfl) (by decide) (by decide)) (g := (mkF m 9 #[.val (.ref u1), .val (.int (0 : Int32)), .val (.int (2 : Int32)), .val (.ref b31), .unset, .unset] [(.int (2 : Int32)), (.int (0 : Int32)), (.ref b31), (.int (0 : Int32)), (.ref u1)])) rfl (by rw [hml]; rfl) (argsL := [(.ref u1), (.int (0 : Int32)), (.ref b31), (.int (0 : Int32)), (.int (2 : Int32))]) (rest := []) (lenOf pd_633208 rfl) rfl (by show 2 * 0 + _ ≤ _; exact Nat.le_of_eq rfl) (hb hby d5_9) (fun _ _ => ⟨rfl, e31, (by decide : 1 + 0 ≤ _), (by decide : 2 + 0 ≤ _)⟩)
  dsimp only [Pt.U, Pt.locs, Pt.cells, Pt.slots] at X32 l32 y32 z32 st32 hQ32
  replace y32 : k32 = 1 := y32
  replace z32 : n32 = 2 := z32
  subst y32 z32
  obtain ⟨rfl, Nq32, Kq32⟩ := hQ32
  have N32 : Fr n0 L32 := by rw [l32]; exact Fr.app N0 Nq32
  have Z32 : n0 ≤ T32.heap.size := Nat.le_trans Z31 Kq32.1
  have K32 : Keep h0 T32.heap [] := K31.trans Kq32 (allS (Or.inr sz_b31) all0)
  have Ox : Old Z Z.heap.size T32.heap := X00.keep K32 all0
  obtain ⟨_, _, ⟨T33, L33, k33, n33⟩, -, X33, ⟨Lc33, hQ33, l33, y33, z33⟩, st33⟩ := Jvm.LawKit.callS X32 hx (y := (⟨"java/lang/StringUTF16", "toBytes", "([CII)[B"⟩ : MethodName)) hown (mvT hZ (own_w hw 77 rfl)) (mvT hZ (own_w hw 78 rfl)) (mvT hZ (own_w hw 21 rfl)) (mvT hZ (own_w hw 79 rfl)) (by decide) (backOf (W := 0) (rm_tob2 l Z a0 hw [] u1 kc c0 c1 T32.heap n0 Z32 Ox O5 O6 O7 ((V1.ext E31).keep Kq32 (ninS ne_u1_b31 nin0))) hZ (own_w hw 79 rfl) (own_w hw 21 rfl) (by decide) (by decide)) (g := (mkF m 23 #[.val (.ref u1), .val (.int (0 : Int32)), .val (.int (2 : Int32)), .val (.ref b31), .val (.int (1 : Int32)), .unset] [(.int (2 : Int32)), (.int (0 : Int32)), (.ref u1)])) rfl (by rw [hml]; rfl) (argsL := [(.ref u1), (.int (0 : Int32)), (.int (2 : Int32))]) (rest := []) (lenOf pd_479214 rfl) rfl (by show 2 * 0 + _ ≤ _; exact Nat.le_of_eq rfl) (hb hby d5_23) (fun _ _ => ⟨rfl, rfl, (by decide : 1 + 1 ≤ _), (by decide : 2 + 4 ≤ _)⟩)
  dsimp only [Pt.U, Pt.locs, Pt.cells, Pt.slots] at X33 l33 y33 z33 st33 hQ33
  replace y33 : k33 = 2 := y33
  replace z33 : n33 = 6 := z33
  subst y33 z33
  obtain ⟨t2, kt2, rfl, Nq33, Kq33, gt2, Vt33⟩ := hQ33
  have N33 : Fr n0 L33 := by rw [l33]; exact Fr.app N32 Nq33
  have Z33 : n0 ≤ T33.heap.size := Nat.le_trans Z32 Kq33.1
  have K33 : Keep h0 T33.heap [] := K32.trans Kq33 all0
  have sz_t2 : h0.size ≤ t2 := Nat.le_trans K32.1 gt2
  have Oy := Ox.keep Kq33 all0
  obtain ⟨_, _, ⟨T34, L34, k34, n34⟩, -, X34, ⟨Lc34, hQ34, l34, y34, z34⟩, st34⟩ := Jvm.LawKit.callS X33 hx (y := (⟨"java/lang/StringUTF16", "getChar", "([BI)C"⟩ : MethodName)) hown (mvT hZ (own_w hw 93 rfl)) (mvT hZ (own_w hw 94 rfl)) (mvT hZ (own_w hw 21 rfl)) (mvT hZ (own_w hw 95 rfl)) (by decide) (backOf (W := 0) (rm_get1 l Z a0 hw [] t2 kt2 (4 : Int32) [(.int ((c0 >>> ((0 : Int32) &&& 31)).toInt8.toInt32)), (.int ((c0 >>> ((8 : Int32) &&& 31)).toInt8.toInt32)), (.int ((c1 >>> ((0 : Int32) &&& 31)).toInt8.toInt32)), (.int ((c1 >>> ((8 : Int32) &&& 31)).toInt8.toInt32))] ((c1 >>> ((0 : Int32) &&& 31)).toInt8.toInt32) ((c1 >>> ((8 : Int32) &&& 31)).toInt8.toInt32) c1 T33.heap n0 Z33 (O5.ext Oy.2) (O6.ext Oy.2) (O7.ext Oy.2) (own_gc _ q1) Vt33 (by decide) (by decide) rfl rfl) hZ (own_w hw 95 rfl) (own_w hw 21 rfl) (by decide) (by decide)) (g := (mkF m 32 #[.val (.ref u1), .val (.int (0 : Int32)), .val (.int (2 : Int32)), .val (.ref b31), .val (.int (1 : Int32)), .val (.ref t2)] [(.int (1 : Int32)), (.ref t2)])) rfl (by rw [hml]; rfl) (argsL := [(.ref t2), (.int (1 : Int32))]) (rest := []) (lenOf pd_676 rfl) rfl (by show 2 * 0 + _ ≤ _; exact Nat.le_of_eq rfl) (hb hby d5_32) (fun _ _ => ⟨rfl, rfl, (by decide : 2 + 0 ≤ _), (by decide : 6 + 0 ≤ _)⟩)
  dsimp only [Pt.U, Pt.locs, Pt.cells, Pt.slots] at X34 l34 y34 z34 st34 hQ34
  replace y34 : k34 = 2 := y34
  replace z34 : n34 = 6 := z34
  subst y34 z34
  obtain ⟨rfl, Nq34, eq34⟩ := hQ34
  have N34 : Fr n0 L34 := by rw [l34]; exact Fr.app N33 Nq34
  obtain ⟨fs, hr, hrun, hended, hW, hsame⟩ := X34.leave (v := some (.ref t2)) (fun h => by rw [Bd.returns] at h; cases h)
  refine ⟨_, _, pre0 _ ?_, hrun, hended, _, _, rfl, ?_, ⟨_, rfl⟩, hW, hsame.mono (by decide) (by decide)⟩
  · show Steps p.tables e below (s₁.setTop (mkF m 0 #[.val (.ref u1), .val (.int (0 : Int32)), .val (.int (2 : Int32)), .unset, .unset, .unset] [])) _
    refine XS.iloadN X0.here hx rfl (hb hby d5_0) rfl ?_
    refine st31 _ ?_
    refine XS.astoreN X31.here hx rfl (hb hby d5_3) rfl rfl (l' := #[.val (.ref u1), .val (.int (0 : Int32)), .val (.int (2 : Int32)), .val (.ref b31), .unset, .unset]) rfl ?_
    refine XS.aloadN X31.here hx rfl (hb hby d5_4) rfl rfl ?_
    refine XS.iloadN X31.here hx rfl (hb hby d5_5) rfl ?_
    refine XS.aloadN X31.here hx rfl (hb hby d5_6) rfl rfl ?_
    refine XS.iconst X31.here hx rfl (hb hby d5_7) ?_
    refine XS.iloadN X31.here hx rfl (hb hby d5_8) rfl ?_
    show Steps p.tables e below (T31.setTop (mkF m 9 #[.val (.ref u1), .val (.int (0 : Int32)), .val (.int (2 : Int32)), .val (.ref b31), .unset, .unset] [(.int (2 : Int32)), (.int (0 : Int32)), (.ref b31), (.int (0 : Int32)), (.ref u1)])) _
    refine st32 _ ?_
    refine XS.istore X32.here hx rfl (hb hby d5_12) rfl (l' := #[.val (.ref u1), .val (.int (0 : Int32)), .val (.int (2 : Int32)), .val (.ref b31), .val (.int (1 : Int32)), .unset]) rfl ?_
    refine XS.iload X32.here hx rfl (hb hby d5_14) rfl ?_
    refine XS.iloadN X32.here hx rfl (hb hby d5_16) rfl ?_
    refine XS.icmpNo X32.here hx rfl (hb hby d5_17) rfl (by decide) ?_
    refine XS.aloadN X32.here hx rfl (hb hby d5_20) rfl rfl ?_
    refine XS.iloadN X32.here hx rfl (hb hby d5_21) rfl ?_
    refine XS.iloadN X32.here hx rfl (hb hby d5_22) rfl ?_
    show Steps p.tables e below (T32.setTop (mkF m 23 #[.val (.ref u1), .val (.int (0 : Int32)), .val (.int (2 : Int32)), .val (.ref b31), .val (.int (1 : Int32)), .unset] [(.int (2 : Int32)), (.int (0 : Int32)), (.ref u1)])) _
    refine st33 _ ?_
    refine XS.astore X33.here hx rfl (hb hby d5_26) rfl rfl (l' := #[.val (.ref u1), .val (.int (0 : Int32)), .val (.int (2 : Int32)), .val (.ref b31), .val (.int (1 : Int32)), .val (.ref t2)]) rfl ?_
    refine XS.aload X33.here hx rfl (hb hby d5_28) rfl rfl ?_
    refine XS.iload X33.here hx rfl (hb hby d5_30) rfl ?_
    refine st34 _ ?_
    refine XS.sipush X34.here hx rfl (hb hby d5_35) ?_
    refine XS.icmpYes X34.here hx rfl (pc0 := 38) (pc' := 54) rfl (hb hby d5_38) rfl (own_gt k1) (by decide) (by decide) ?_
    refine XS.aload X34.here hx rfl (hb hby d5_54) rfl rfl ?_
    show Steps p.tables e below (T34.setTop (mkF m 56 #[.val (.ref u1), .val (.int (0 : Int32)), .val (.int (2 : Int32)), .val (.ref b31), .val (.int (1 : Int32)), .val (.ref t2)] [(.ref t2)])) _
    jvm_step X34.here [X34.here.top, hx, (hb hby d5_56), X34.method', Bd.returns, Value.isRef, FieldType.isReference]
    first | (intro acts; rw [hr _ acts rfl rfl rfl]) | rw [hr _ _ rfl rfl rfl]
    exact Steps.refl _
  · show Q_rm_cc2_1 Z _ _ _ _ h0 n0 _ T34.heap _
    rw [eq34]
    exact ⟨t2, kt2, rfl, N34, K33, sz_t2, Vt33⟩
theorem ef_rm_cc3 (m : MethodId) (x0 : Addr) (x1 : Int32) (x2 : Int32) : entryFrame m #[(.ref x0), (.int x1), (.int x2)] 6 = mkF m 0 #[.val (.ref x0), .val (.int x1), .val (.int x2), .unset, .unset, .unset] [] := by first | (simp [entryFrame, mkF, argsToLocals, Value.category]; done) | rfl
def Q_rm_cc3 (Z : State) (u1 : Addr) (kc : ClassId) (c0 : Int32) (c1 : Int32) (c2 : Int32) (h0 : Heap) (n0 : Nat) (v : Option Value) (h : Heap) (L : List Loc) : Prop := ∃ (t : Addr) (kt : ClassId), v = some (.ref t) ∧ Fr n0 L ∧ Keep h0 h [] ∧ h0.size ≤ t ∧ Arv Z h t kt .byte (3 : Int32) [(.int (c0.toInt8.toInt32)), (.int (c1.toInt8.toInt32)), (.int (c2.toInt8.toInt32))] (.int (0 : Int32))
set_option maxRecDepth 65536 in
set_option maxHeartbeats 40000000 in
theorem rm_cc3 (l : Launch) (Z : State) (a0 : Array Value) (hw : ∀ d ∈ tables_1, d.before a0 Z = true) (ws : List Jvm.Cond) (u1 : Addr) (kc : ClassId) (c0 : Int32) (c1 : Int32) (c2 : Int32) (h0 : Heap) (n0 : Nat) (Z0 : n0 ≤ h0.size) (V1 : Arv Z h0 u1 kc .char (3 : Int32) [(.int c0), (.int c1), (.int c2)] (.int (0 : Int32))) (k0 : if_icmp.holds .le c0 (255 : Int32) = true) (k1 : if_icmp.holds .le c1 (255 : Int32) = true) (k2 : if_icmp.holds .le c2 (255 : Int32) = true) :
    MetFree l (⟨"java/lang/StringUTF16", "compress", "([CII)[B"⟩ : MethodName) (head1 (Jvm.Cond.code (⟨"java/lang/StringUTF16", "compress", "([CII)[B"⟩ : MethodName) jdk_52_method_16_code 6 (some (.array .byte)) :: ws) ({ frames := 1, cells := 1, slots := 3, locals := 18 } : Room)) (fun a U => a = #[(.ref u1), (.int (0 : Int32)), (.int (3 : Int32))] ∧ Z.Warmed39 U.vm ∧ U.heap = h0) (fun _ _ _ _ _ => True) (fun _ U o U' => ∃ v L, o = .returned v ∧ Q_rm_cc3 Z u1 kc c0 c1 c2 h0 n0 v U'.heap L ∧ FrameEnd U o U' L ({ frames := 1, cells := 1, slots := 3, locals := 18 } : Room).cells ({ frames := 1, cells := 1, slots := 3, locals := 18 } : Room).slots) := by
  refine MetFree.of_bodySF (plainFor_of_name pn_50925) hisR ?_
  intro p e s m args below meth c s₁ Bd hml0 hP hK
  obtain ⟨rfl, hZ, hh⟩ := hP
  have hx := Bd.exec
  have hby := Bd.bytes
  have hml : c.maxLocals = 6 := hml0
  have hown : s.vm.findClass "java/lang/StringUTF16" = some m.cls := findClass_of_methodNamed Bd.named
  have hnm := (name_of_methodNamed Bd.named Bd.method).1
  have X0 : Stand p l e ({ frames := 1, cells := 1, slots := 3, locals := 18 } : Room) s m #[(.ref u1), (.int (0 : Int32)), (.int (3 : Int32))] below meth c s₁ [] 0 0 := Stand.of_body Bd
  have e0 : s₁.heap = h0 := by rw [← hh, Bd.state]; rfl
  have N0 := Fr.nil n0
  have K0 : Keep h0 h0 [] := Keep.refl _ _
  have pre0 : ∀ t, Steps p.tables e below (s₁.setTop (mkF m 0 #[.val (.ref u1), .val (.int (0 : Int32)), .val (.int (3 : Int32)), .unset, .unset, .unset] [])) t → Steps p.tables e below (s₁.setTop (entryFrame m #[(.ref u1), (.int (0 : Int32)), (.int (3 : Int32))] 6)) t := fun t k => castTop (ef_rm_cc3 m u1 (0 : Int32) (3 : Int32)) k
  obtain ⟨T31, h31, k31, X31, e31, E31, A31, st31⟩ := newP X0 hx hZ (own_w hw 23 rfl) e0 (g := (mkF m 1 #[.val (.ref u1), .val (.int (0 : Int32)), .val (.int (3 : Int32)), .unset, .unset, .unset] [(.int (3 : Int32))])) rfl (hb hby d5_1) rfl (by decide) (cap := 3) (by decide) (by decide) (by decide) (by decide)
  obtain ⟨b31, g31⟩ : ∃ z, z = h0.size := ⟨_, rfl⟩
  rw [← g31] at A31 st31
  have fr_b31 : n0 ≤ b31 := Nat.le_trans Z0 (Nat.le_of_eq g31.symm)
  have ne_u1_b31 : u1 ≠ b31 := Nat.ne_of_lt (Nat.lt_of_lt_of_le V1.lt (Nat.le_of_eq g31.symm))
  have sz_b31 : h0.size ≤ b31 := Nat.le_trans K0.1 (Nat.le_of_eq g31.symm)
  have Z31 : n0 ≤ h31.size := Nat.le_trans Z0 E31.1
  have K31 : Keep h0 h31 [] := K0.ext E31
  have V31 := Arv.new A31 (by decide)
  have V31p : Arv Z h31 b31 k31 .byte (3 : Int32) [(.int (0 : Int32)), (.int (0 : Int32)), (.int (0 : Int32))] (.int (0 : Int32)) := V31.pad (pad_rep [] (.int (0 : Int32)) 3)
  obtain ⟨_, _, ⟨T32, L32, k32, n32⟩, -, X32, ⟨Lc32, hQ32, l32, y32, z32⟩, st32⟩ := Jvm.LawKit.callS X31 hx (y := (⟨"java/lang/StringUTF16", "compress", "([CI[BII)I"⟩ : MethodName)) hown (mvT hZ (own_w hw 24 rfl)) (mvT hZ (own_w hw 25 rfl)) (mvT hZ (own_w hw 21 rfl)) (mvT hZ (own_w hw 26 rfl)) (by decide) (backOf (W := 0) (rm_cmp3 l Z a0 hw [] u1 b31 kc k31 c0 c1 c2 h31 n0 Z31 (V1.ext E31) V31p fr_b31 ne_u1_b31 k0 k1 k2) hZ (own_w hw 26 rfl) (own_w hw 21 rfl) (by decide) (by decide)) (g := (mkF m 9 #[.val (.ref u1), .val (.int (0 : Int32)), .val (.int (3 : Int32)), .val (.ref b31), .unset, .unset] [(.int (3 : Int32)), (.int (0 : Int32)), (.ref b31), (.int (0 : Int32)), (.ref u1)])) rfl (by rw [hml]; rfl) (argsL := [(.ref u1), (.int (0 : Int32)), (.ref b31), (.int (0 : Int32)), (.int (3 : Int32))]) (rest := []) (lenOf pd_633208 rfl) rfl (by show 2 * 0 + _ ≤ _; exact Nat.le_of_eq rfl) (hb hby d5_9) (fun _ _ => ⟨rfl, e31, (by decide : 1 + 0 ≤ _), (by decide : 3 + 0 ≤ _)⟩)
  dsimp only [Pt.U, Pt.locs, Pt.cells, Pt.slots] at X32 l32 y32 z32 st32 hQ32
  replace y32 : k32 = 1 := y32
  replace z32 : n32 = 3 := z32
  subst y32 z32
  obtain ⟨rfl, Nq32, Kq32, Vt32⟩ := hQ32
  have N32 : Fr n0 L32 := by rw [l32]; exact Fr.app N0 Nq32
  have Z32 : n0 ≤ T32.heap.size := Nat.le_trans Z31 Kq32.1
  have K32 : Keep h0 T32.heap [] := K31.trans Kq32 (allS (Or.inr sz_b31) all0)
  obtain ⟨fs, hr, hrun, hended, hW, hsame⟩ := X32.leave (v := some (.ref b31)) (fun h => by rw [Bd.returns] at h; cases h)
  refine ⟨_, _, pre0 _ ?_, hrun, hended, _, _, rfl, ?_, ⟨_, rfl⟩, hW, hsame.mono (by decide) (by decide)⟩
  · show Steps p.tables e below (s₁.setTop (mkF m 0 #[.val (.ref u1), .val (.int (0 : Int32)), .val (.int (3 : Int32)), .unset, .unset, .unset] [])) _
    refine XS.iloadN X0.here hx rfl (hb hby d5_0) rfl ?_
    refine st31 _ ?_
    refine XS.astoreN X31.here hx rfl (hb hby d5_3) rfl rfl (l' := #[.val (.ref u1), .val (.int (0 : Int32)), .val (.int (3 : Int32)), .val (.ref b31), .unset, .unset]) rfl ?_
    refine XS.aloadN X31.here hx rfl (hb hby d5_4) rfl rfl ?_
    refine XS.iloadN X31.here hx rfl (hb hby d5_5) rfl ?_
    refine XS.aloadN X31.here hx rfl (hb hby d5_6) rfl rfl ?_
    refine XS.iconst X31.here hx rfl (hb hby d5_7) ?_
    refine XS.iloadN X31.here hx rfl (hb hby d5_8) rfl ?_
    show Steps p.tables e below (T31.setTop (mkF m 9 #[.val (.ref u1), .val (.int (0 : Int32)), .val (.int (3 : Int32)), .val (.ref b31), .unset, .unset] [(.int (3 : Int32)), (.int (0 : Int32)), (.ref b31), (.int (0 : Int32)), (.ref u1)])) _
    refine st32 _ ?_
    refine XS.istore X32.here hx rfl (hb hby d5_12) rfl (l' := #[.val (.ref u1), .val (.int (0 : Int32)), .val (.int (3 : Int32)), .val (.ref b31), .val (.int (3 : Int32)), .unset]) rfl ?_
    refine XS.iload X32.here hx rfl (hb hby d5_14) rfl ?_
    refine XS.iloadN X32.here hx rfl (hb hby d5_16) rfl ?_
    refine XS.icmpYes X32.here hx rfl (pc0 := 17) (pc' := 57) rfl (hb hby d5_17) rfl (by decide) (by decide) (by decide) ?_
    refine XS.aloadN X32.here hx rfl (hb hby d5_57) rfl rfl ?_
    show Steps p.tables e below (T32.setTop (mkF m 58 #[.val (.ref u1), .val (.int (0 : Int32)), .val (.int (3 : Int32)), .val (.ref b31), .val (.int (3 : Int32)), .unset] [(.ref b31)])) _
    jvm_step X32.here [X32.here.top, hx, (hb hby d5_58), X32.method', Bd.returns, Value.isRef, FieldType.isReference]
    first | (intro acts; rw [hr _ acts rfl rfl rfl]) | rw [hr _ _ rfl rfl rfl]
    exact Steps.refl _
  · show Q_rm_cc3 Z _ _ _ _ _ h0 n0 _ T32.heap _
    exact ⟨b31, k31, rfl, N32, K32, sz_b31, Vt32⟩
theorem ef_rm_cc3_0 (m : MethodId) (x0 : Addr) (x1 : Int32) (x2 : Int32) : entryFrame m #[(.ref x0), (.int x1), (.int x2)] 6 = mkF m 0 #[.val (.ref x0), .val (.int x1), .val (.int x2), .unset, .unset, .unset] [] := by first | (simp [entryFrame, mkF, argsToLocals, Value.category]; done) | rfl
def Q_rm_cc3_0 (Z : State) (u1 : Addr) (kc : ClassId) (c0 : Int32) (c1 : Int32) (c2 : Int32) (h0 : Heap) (n0 : Nat) (v : Option Value) (h : Heap) (L : List Loc) : Prop := ∃ (t : Addr) (kt : ClassId), v = some (.ref t) ∧ Fr n0 L ∧ Keep h0 h [] ∧ h0.size ≤ t ∧ Arv Z h t kt .byte (6 : Int32) [(.int ((c0 >>> ((0 : Int32) &&& 31)).toInt8.toInt32)), (.int ((c0 >>> ((8 : Int32) &&& 31)).toInt8.toInt32)), (.int ((c1 >>> ((0 : Int32) &&& 31)).toInt8.toInt32)), (.int ((c1 >>> ((8 : Int32) &&& 31)).toInt8.toInt32)), (.int ((c2 >>> ((0 : Int32) &&& 31)).toInt8.toInt32)), (.int ((c2 >>> ((8 : Int32) &&& 31)).toInt8.toInt32))] (.int (0 : Int32))
set_option maxRecDepth 65536 in
set_option maxHeartbeats 40000000 in
theorem rm_cc3_0 (l : Launch) (Z : State) (a0 : Array Value) (hw : ∀ d ∈ tables_1, d.before a0 Z = true) (ws : List Jvm.Cond) (u1 : Addr) (kc : ClassId) (c0 : Int32) (c1 : Int32) (c2 : Int32) (h0 : Heap) (n0 : Nat) (Z0 : n0 ≤ h0.size) (X00 : Old Z Z.heap.size h0) (O5 : Sta Z Z.heap "java/lang/StringUTF16" "$assertionsDisabled" "Z" (.int (1 : Int32))) (O6 : Sta Z Z.heap "java/lang/StringUTF16" "HI_BYTE_SHIFT" "I" (.int (0 : Int32))) (O7 : Sta Z Z.heap "java/lang/StringUTF16" "LO_BYTE_SHIFT" "I" (.int (8 : Int32))) (q0 : ¬ c0 < 0 ∧ ¬ (65535 : Int32) < c0) (q1 : ¬ c1 < 0 ∧ ¬ (65535 : Int32) < c1) (q2 : ¬ c2 < 0 ∧ ¬ (65535 : Int32) < c2) (V1 : Arv Z h0 u1 kc .char (3 : Int32) [(.int c0), (.int c1), (.int c2)] (.int (0 : Int32))) (k0 : if_icmp.holds .le c0 (255 : Int32) = false) :
    MetFree l (⟨"java/lang/StringUTF16", "compress", "([CII)[B"⟩ : MethodName) (head1 (Jvm.Cond.code (⟨"java/lang/StringUTF16", "compress", "([CII)[B"⟩ : MethodName) jdk_52_method_16_code 6 (some (.array .byte)) :: ws) ({ frames := 3, cells := 2, slots := 9, locals := 40 } : Room)) (fun a U => a = #[(.ref u1), (.int (0 : Int32)), (.int (3 : Int32))] ∧ Z.Warmed39 U.vm ∧ U.heap = h0) (fun _ _ _ _ _ => True) (fun _ U o U' => ∃ v L, o = .returned v ∧ Q_rm_cc3_0 Z u1 kc c0 c1 c2 h0 n0 v U'.heap L ∧ FrameEnd U o U' L ({ frames := 3, cells := 2, slots := 9, locals := 40 } : Room).cells ({ frames := 3, cells := 2, slots := 9, locals := 40 } : Room).slots) := by
  refine MetFree.of_bodySF (plainFor_of_name pn_50925) hisR ?_
  intro p e s m args below meth c s₁ Bd hml0 hP hK
  obtain ⟨rfl, hZ, hh⟩ := hP
  have hx := Bd.exec
  have hby := Bd.bytes
  have hml : c.maxLocals = 6 := hml0
  have hown : s.vm.findClass "java/lang/StringUTF16" = some m.cls := findClass_of_methodNamed Bd.named
  have hnm := (name_of_methodNamed Bd.named Bd.method).1
  have X0 : Stand p l e ({ frames := 3, cells := 2, slots := 9, locals := 40 } : Room) s m #[(.ref u1), (.int (0 : Int32)), (.int (3 : Int32))] below meth c s₁ [] 0 0 := Stand.of_body Bd
  have e0 : s₁.heap = h0 := by rw [← hh, Bd.state]; rfl
  have N0 := Fr.nil n0
  have K0 : Keep h0 h0 [] := Keep.refl _ _
  have pre0 : ∀ t, Steps p.tables e below (s₁.setTop (mkF m 0 #[.val (.ref u1), .val (.int (0 : Int32)), .val (.int (3 : Int32)), .unset, .unset, .unset] [])) t → Steps p.tables e below (s₁.setTop (entryFrame m #[(.ref u1), (.int (0 : Int32)), (.int (3 : Int32))] 6)) t := fun t k => castTop (ef_rm_cc3_0 m u1 (0 : Int32) (3 : Int32)) k
  obtain ⟨T31, h31, k31, X31, e31, E31, A31, st31⟩ := newP X0 hx hZ (own_w hw 23 rfl) e0 (g := (mkF m 1 #[.val (.ref u1), .val (.int (0 : Int32)), .val (.int (3 : Int32)), .unset, .unset, .unset] [(.int (3 : Int32))])) rfl (hb hby d5_1) rfl (by decide) (cap := 3) (by decide) (by decide) (by decide) (by decide)
  obtain ⟨b31, g31⟩ : ∃ z, z = h0.size := ⟨_, rfl⟩
  rw [← g31] at A31 st31
  have fr_b31 : n0 ≤ b31 := Nat.le_trans Z0 (Nat.le_of_eq g31.symm)
  have ne_u1_b31 : u1 ≠ b31 := Nat.ne_of_lt (Nat.lt_of_lt_of_le V1.lt (Nat.le_of_eq g31.symm))
  have sz_b31 : h0.size ≤ b31 := Nat.le_trans K0.1 (Nat.le_of_eq g31.symm)
  have Z31 : n0 ≤ h31.size := Nat.le_trans Z0 E31.1
  have K31 : Keep h0 h31 [] := K0.ext E31
  have V31 := Arv.new A31 (by decide)
  have V31p : Arv Z h31 b31 k31 .byte (3 : Int32) [(.int (0 : Int32)), (.int (0 : Int32)), (.int (0 : Int32))] (.int (0 : Int32)) := V31.pad (pad_rep [] (.int (0 : Int32)) 3)
  obtain ⟨_, _, ⟨T32, L32, k32, n32⟩, -, X32, ⟨Lc32, hQ32, l32, y32, z32⟩, st32⟩ := Jvm.LawKit.callS X31 hx (y := (⟨"java/lang/StringUTF16", "compress", "([CI[BII)I"⟩ : MethodName)) hown (mvT hZ (own_w hw 24 rfl)) (mvT hZ (own_w hw 25 rfl)) (mvT hZ (own_w hw 21 rfl)) (mvT hZ (own_w hw 26 rfl)) (by decide) (backOf (W := 0) (rm_cmp3_0 l Z a0 hw [] u1 b31 kc k31 c0 c1 c2 h31 n0 Z31 (V1.ext E31) V31p fr_b31 ne_u1_b31 k0) hZ (own_w hw 26 rfl) (own_w hw 21 rfl) (by decide) (by decide)) (g := (mkF m 9 #[.val (.ref u1), .val (.int (0 : Int32)), .val (.int (3 : Int32)), .val (.ref b31), .unset, .unset] [(.int (3 : Int32)), (.int (0 : Int32)), (.ref b31), (.int (0 : Int32)), (.ref u1)])) rfl (by rw [hml]; rfl) (argsL := [(.ref u1), (.int (0 : Int32)), (.ref b31), (.int (0 : Int32)), (.int (3 : Int32))]) (rest := []) (lenOf pd_633208 rfl) rfl (by show 2 * 0 + _ ≤ _; exact Nat.le_of_eq rfl) (hb hby d5_9) (fun _ _ => ⟨rfl, e31, (by decide : 1 + 0 ≤ _), (by decide : 3 + 0 ≤ _)⟩)
  dsimp only [Pt.U, Pt.locs, Pt.cells, Pt.slots] at X32 l32 y32 z32 st32 hQ32
  replace y32 : k32 = 1 := y32
  replace z32 : n32 = 3 := z32
  subst y32 z32
  obtain ⟨rfl, Nq32, Kq32⟩ := hQ32
  have N32 : Fr n0 L32 := by rw [l32]; exact Fr.app N0 Nq32
  have Z32 : n0 ≤ T32.heap.size := Nat.le_trans Z31 Kq32.1
  have K32 : Keep h0 T32.heap [] := K31.trans Kq32 (allS (Or.inr sz_b31) all0)
  have Ox : Old Z Z.heap.size T32.heap := X00.keep K32 all0
  obtain ⟨_, _, ⟨T33, L33, k33, n33⟩, -, X33, ⟨Lc33, hQ33, l33, y33, z33⟩, st33⟩ := Jvm.LawKit.callS X32 hx (y := (⟨"java/lang/StringUTF16", "toBytes", "([CII)[B"⟩ : MethodName)) hown (mvT hZ (own_w hw 77 rfl)) (mvT hZ (own_w hw 78 rfl)) (mvT hZ (own_w hw 21 rfl)) (mvT hZ (own_w hw 79 rfl)) (by decide) (backOf (W := 0) (rm_tob3 l Z a0 hw [] u1 kc c0 c1 c2 T32.heap n0 Z32 Ox O5 O6 O7 ((V1.ext E31).keep Kq32 (ninS ne_u1_b31 nin0))) hZ (own_w hw 79 rfl) (own_w hw 21 rfl) (by decide) (by decide)) (g := (mkF m 23 #[.val (.ref u1), .val (.int (0 : Int32)), .val (.int (3 : Int32)), .val (.ref b31), .val (.int (0 : Int32)), .unset] [(.int (3 : Int32)), (.int (0 : Int32)), (.ref u1)])) rfl (by rw [hml]; rfl) (argsL := [(.ref u1), (.int (0 : Int32)), (.int (3 : Int32))]) (rest := []) (lenOf pd_479214 rfl) rfl (by show 2 * 0 + _ ≤ _; exact Nat.le_of_eq rfl) (hb hby d5_23) (fun _ _ => ⟨rfl, rfl, (by decide : 1 + 1 ≤ _), (by decide : 3 + 6 ≤ _)⟩)
  dsimp only [Pt.U, Pt.locs, Pt.cells, Pt.slots] at X33 l33 y33 z33 st33 hQ33
  replace y33 : k33 = 2 := y33
  replace z33 : n33 = 9 := z33
  subst y33 z33
  obtain ⟨t2, kt2, rfl, Nq33, Kq33, gt2, Vt33⟩ := hQ33
  have N33 : Fr n0 L33 := by rw [l33]; exact Fr.app N32 Nq33
  have Z33 : n0 ≤ T33.heap.size := Nat.le_trans Z32 Kq33.1
  have K33 : Keep h0 T33.heap [] := K32.trans Kq33 all0
  have sz_t2 : h0.size ≤ t2 := Nat.le_trans K32.1 gt2
  have Oy := Ox.keep Kq33 all0
  obtain ⟨_, _, ⟨T34, L34, k34, n34⟩, -, X34, ⟨Lc34, hQ34, l34, y34, z34⟩, st34⟩ := Jvm.LawKit.callS X33 hx (y := (⟨"java/lang/StringUTF16", "getChar", "([BI)C"⟩ : MethodName)) hown (mvT hZ (own_w hw 93 rfl)) (mvT hZ (own_w hw 94 rfl)) (mvT hZ (own_w hw 21 rfl)) (mvT hZ (own_w hw 95 rfl)) (by decide) (backOf (W := 0) (rm_get0 l Z a0 hw [] t2 kt2 (6 : Int32) [(.int ((c0 >>> ((0 : Int32) &&& 31)).toInt8.toInt32)), (.int ((c0 >>> ((8 : Int32) &&& 31)).toInt8.toInt32)), (.int ((c1 >>> ((0 : Int32) &&& 31)).toInt8.toInt32)), (.int ((c1 >>> ((8 : Int32) &&& 31)).toInt8.toInt32)), (.int ((c2 >>> ((0 : Int32) &&& 31)).toInt8.toInt32)), (.int ((c2 >>> ((8 : Int32) &&& 31)).toInt8.toInt32))] ((c0 >>> ((0 : Int32) &&& 31)).toInt8.toInt32) ((c0 >>> ((8 : Int32) &&& 31)).toInt8.toInt32) c0 T33.heap n0 Z33 (O5.ext Oy.2) (O6.ext Oy.2) (O7.ext Oy.2) (own_gc _ q0) Vt33 (by decide) (by decide) rfl rfl) hZ (own_w hw 95 rfl) (own_w hw 21 rfl) (by decide) (by decide)) (g := (mkF m 32 #[.val (.ref u1), .val (.int (0 : Int32)), .val (.int (3 : Int32)), .val (.ref b31), .val (.int (0 : Int32)), .val (.ref t2)] [(.int (0 : Int32)), (.ref t2)])) rfl (by rw [hml]; rfl) (argsL := [(.ref t2), (.int (0 : Int32))]) (rest := []) (lenOf pd_676 rfl) rfl (by show 2 * 0 + _ ≤ _; exact Nat.le_of_eq rfl) (hb hby d5_32) (fun _ _ => ⟨rfl, rfl, (by decide : 2 + 0 ≤ _), (by decide : 9 + 0 ≤ _)⟩)
  dsimp only [Pt.U, Pt.locs, Pt.cells, Pt.slots] at X34 l34 y34 z34 st34 hQ34
  replace y34 : k34 = 2 := y34
  replace z34 : n34 = 9 := z34
  subst y34 z34
  obtain ⟨rfl, Nq34, eq34⟩ := hQ34
  have N34 : Fr n0 L34 := by rw [l34]; exact Fr.app N33 Nq34
  obtain ⟨fs, hr, hrun, hended, hW, hsame⟩ := X34.leave (v := some (.ref t2)) (fun h => by rw [Bd.returns] at h; cases h)
  refine ⟨_, _, pre0 _ ?_, hrun, hended, _, _, rfl, ?_, ⟨_, rfl⟩, hW, hsame.mono (by decide) (by decide)⟩
  · show Steps p.tables e below (s₁.setTop (mkF m 0 #[.val (.ref u1), .val (.int (0 : Int32)), .val (.int (3 : Int32)), .unset, .unset, .unset] [])) _
    refine XS.iloadN X0.here hx rfl (hb hby d5_0) rfl ?_
    refine st31 _ ?_
    refine XS.astoreN X31.here hx rfl (hb hby d5_3) rfl rfl (l' := #[.val (.ref u1), .val (.int (0 : Int32)), .val (.int (3 : Int32)), .val (.ref b31), .unset, .unset]) rfl ?_
    refine XS.aloadN X31.here hx rfl (hb hby d5_4) rfl rfl ?_
    refine XS.iloadN X31.here hx rfl (hb hby d5_5) rfl ?_
    refine XS.aloadN X31.here hx rfl (hb hby d5_6) rfl rfl ?_
    refine XS.iconst X31.here hx rfl (hb hby d5_7) ?_
    refine XS.iloadN X31.here hx rfl (hb hby d5_8) rfl ?_
    show Steps p.tables e below (T31.setTop (mkF m 9 #[.val (.ref u1), .val (.int (0 : Int32)), .val (.int (3 : Int32)), .val (.ref b31), .unset, .unset] [(.int (3 : Int32)), (.int (0 : Int32)), (.ref b31), (.int (0 : Int32)), (.ref u1)])) _
    refine st32 _ ?_
    refine XS.istore X32.here hx rfl (hb hby d5_12) rfl (l' := #[.val (.ref u1), .val (.int (0 : Int32)), .val (.int (3 : Int32)), .val (.ref b31), .val (.int (0 : Int32)), .unset]) rfl ?_
    refine XS.iload X32.here hx rfl (hb hby d5_14) rfl ?_
    refine XS.iloadN X32.here hx rfl (hb hby d5_16) rfl ?_
    refine XS.icmpNo X32.here hx rfl (hb hby d5_17) rfl (by decide) ?_
    refine XS.aloadN X32.here hx rfl (hb hby d5_20) rfl rfl ?_
    refine XS.iloadN X32.here hx rfl (hb hby d5_21) rfl ?_
    refine XS.iloadN X32.here hx rfl (hb hby d5_22) rfl ?_
    show Steps p.tables e below (T32.setTop (mkF m 23 #[.val (.ref u1), .val (.int (0 : Int32)), .val (.int (3 : Int32)), .val (.ref b31), .val (.int (0 : Int32)), .unset] [(.int (3 : Int32)), (.int (0 : Int32)), (.ref u1)])) _
    refine st33 _ ?_
    refine XS.astore X33.here hx rfl (hb hby d5_26) rfl rfl (l' := #[.val (.ref u1), .val (.int (0 : Int32)), .val (.int (3 : Int32)), .val (.ref b31), .val (.int (0 : Int32)), .val (.ref t2)]) rfl ?_
    refine XS.aload X33.here hx rfl (hb hby d5_28) rfl rfl ?_
    refine XS.iload X33.here hx rfl (hb hby d5_30) rfl ?_
    refine st34 _ ?_
    refine XS.sipush X34.here hx rfl (hb hby d5_35) ?_
    refine XS.icmpYes X34.here hx rfl (pc0 := 38) (pc' := 54) rfl (hb hby d5_38) rfl (own_gt k0) (by decide) (by decide) ?_
    refine XS.aload X34.here hx rfl (hb hby d5_54) rfl rfl ?_
    show Steps p.tables e below (T34.setTop (mkF m 56 #[.val (.ref u1), .val (.int (0 : Int32)), .val (.int (3 : Int32)), .val (.ref b31), .val (.int (0 : Int32)), .val (.ref t2)] [(.ref t2)])) _
    jvm_step X34.here [X34.here.top, hx, (hb hby d5_56), X34.method', Bd.returns, Value.isRef, FieldType.isReference]
    first | (intro acts; rw [hr _ acts rfl rfl rfl]) | rw [hr _ _ rfl rfl rfl]
    exact Steps.refl _
  · show Q_rm_cc3_0 Z _ _ _ _ _ h0 n0 _ T34.heap _
    rw [eq34]
    exact ⟨t2, kt2, rfl, N34, K33, sz_t2, Vt33⟩
theorem ef_rm_cc3_1 (m : MethodId) (x0 : Addr) (x1 : Int32) (x2 : Int32) : entryFrame m #[(.ref x0), (.int x1), (.int x2)] 6 = mkF m 0 #[.val (.ref x0), .val (.int x1), .val (.int x2), .unset, .unset, .unset] [] := by first | (simp [entryFrame, mkF, argsToLocals, Value.category]; done) | rfl
def Q_rm_cc3_1 (Z : State) (u1 : Addr) (kc : ClassId) (c0 : Int32) (c1 : Int32) (c2 : Int32) (h0 : Heap) (n0 : Nat) (v : Option Value) (h : Heap) (L : List Loc) : Prop := ∃ (t : Addr) (kt : ClassId), v = some (.ref t) ∧ Fr n0 L ∧ Keep h0 h [] ∧ h0.size ≤ t ∧ Arv Z h t kt .byte (6 : Int32) [(.int ((c0 >>> ((0 : Int32) &&& 31)).toInt8.toInt32)), (.int ((c0 >>> ((8 : Int32) &&& 31)).toInt8.toInt32)), (.int ((c1 >>> ((0 : Int32) &&& 31)).toInt8.toInt32)), (.int ((c1 >>> ((8 : Int32) &&& 31)).toInt8.toInt32)), (.int ((c2 >>> ((0 : Int32) &&& 31)).toInt8.toInt32)), (.int ((c2 >>> ((8 : Int32) &&& 31)).toInt8.toInt32))] (.int (0 : Int32))
set_option maxRecDepth 65536 in
set_option maxHeartbeats 40000000 in
theorem rm_cc3_1 (l : Launch) (Z : State) (a0 : Array Value) (hw : ∀ d ∈ tables_1, d.before a0 Z = true) (ws : List Jvm.Cond) (u1 : Addr) (kc : ClassId) (c0 : Int32) (c1 : Int32) (c2 : Int32) (h0 : Heap) (n0 : Nat) (Z0 : n0 ≤ h0.size) (X00 : Old Z Z.heap.size h0) (O5 : Sta Z Z.heap "java/lang/StringUTF16" "$assertionsDisabled" "Z" (.int (1 : Int32))) (O6 : Sta Z Z.heap "java/lang/StringUTF16" "HI_BYTE_SHIFT" "I" (.int (0 : Int32))) (O7 : Sta Z Z.heap "java/lang/StringUTF16" "LO_BYTE_SHIFT" "I" (.int (8 : Int32))) (q0 : ¬ c0 < 0 ∧ ¬ (65535 : Int32) < c0) (q1 : ¬ c1 < 0 ∧ ¬ (65535 : Int32) < c1) (q2 : ¬ c2 < 0 ∧ ¬ (65535 : Int32) < c2) (V1 : Arv Z h0 u1 kc .char (3 : Int32) [(.int c0), (.int c1), (.int c2)] (.int (0 : Int32))) (k0 : if_icmp.holds .le c0 (255 : Int32) = true) (k1 : if_icmp.holds .le c1 (255 : Int32) = false) :
    MetFree l (⟨"java/lang/StringUTF16", "compress", "([CII)[B"⟩ : MethodName) (head1 (Jvm.Cond.code (⟨"java/lang/StringUTF16", "compress", "([CII)[B"⟩ : MethodName) jdk_52_method_16_code 6 (some (.array .byte)) :: ws) ({ frames := 3, cells := 2, slots := 9, locals := 40 } : Room)) (fun a U => a = #[(.ref u1), (.int (0 : Int32)), (.int (3 : Int32))] ∧ Z.Warmed39 U.vm ∧ U.heap = h0) (fun _ _ _ _ _ => True) (fun _ U o U' => ∃ v L, o = .returned v ∧ Q_rm_cc3_1 Z u1 kc c0 c1 c2 h0 n0 v U'.heap L ∧ FrameEnd U o U' L ({ frames := 3, cells := 2, slots := 9, locals := 40 } : Room).cells ({ frames := 3, cells := 2, slots := 9, locals := 40 } : Room).slots) := by
  refine MetFree.of_bodySF (plainFor_of_name pn_50925) hisR ?_
  intro p e s m args below meth c s₁ Bd hml0 hP hK
  obtain ⟨rfl, hZ, hh⟩ := hP
  have hx := Bd.exec
  have hby := Bd.bytes
  have hml : c.maxLocals = 6 := hml0
  have hown : s.vm.findClass "java/lang/StringUTF16" = some m.cls := findClass_of_methodNamed Bd.named
  have hnm := (name_of_methodNamed Bd.named Bd.method).1
  have X0 : Stand p l e ({ frames := 3, cells := 2, slots := 9, locals := 40 } : Room) s m #[(.ref u1), (.int (0 : Int32)), (.int (3 : Int32))] below meth c s₁ [] 0 0 := Stand.of_body Bd
  have e0 : s₁.heap = h0 := by rw [← hh, Bd.state]; rfl
  have N0 := Fr.nil n0
  have K0 : Keep h0 h0 [] := Keep.refl _ _
  have pre0 : ∀ t, Steps p.tables e below (s₁.setTop (mkF m 0 #[.val (.ref u1), .val (.int (0 : Int32)), .val (.int (3 : Int32)), .unset, .unset, .unset] [])) t → Steps p.tables e below (s₁.setTop (entryFrame m #[(.ref u1), (.int (0 : Int32)), (.int (3 : Int32))] 6)) t := fun t k => castTop (ef_rm_cc3_1 m u1 (0 : Int32) (3 : Int32)) k
  obtain ⟨T31, h31, k31, X31, e31, E31, A31, st31⟩ := newP X0 hx hZ (own_w hw 23 rfl) e0 (g := (mkF m 1 #[.val (.ref u1), .val (.int (0 : Int32)), .val (.int (3 : Int32)), .unset, .unset, .unset] [(.int (3 : Int32))])) rfl (hb hby d5_1) rfl (by decide) (cap := 3) (by decide) (by decide) (by decide) (by decide)
  obtain ⟨b31, g31⟩ : ∃ z, z = h0.size := ⟨_, rfl⟩
  rw [← g31] at A31 st31
  have fr_b31 : n0 ≤ b31 := Nat.le_trans Z0 (Nat.le_of_eq g31.symm)
  have ne_u1_b31 : u1 ≠ b31 := Nat.ne_of_lt (Nat.lt_of_lt_of_le V1.lt (Nat.le_of_eq g31.symm))
  have sz_b31 : h0.size ≤ b31 := Nat.le_trans K0.1 (Nat.le_of_eq g31.symm)
  have Z31 : n0 ≤ h31.size := Nat.le_trans Z0 E31.1
  have K31 : Keep h0 h31 [] := K0.ext E31
  have V31 := Arv.new A31 (by decide)
  have V31p : Arv Z h31 b31 k31 .byte (3 : Int32) [(.int (0 : Int32)), (.int (0 : Int32)), (.int (0 : Int32))] (.int (0 : Int32)) := V31.pad (pad_rep [] (.int (0 : Int32)) 3)
  obtain ⟨_, _, ⟨T32, L32, k32, n32⟩, -, X32, ⟨Lc32, hQ32, l32, y32, z32⟩, st32⟩ := Jvm.LawKit.callS X31 hx (y := (⟨"java/lang/StringUTF16", "compress", "([CI[BII)I"⟩ : MethodName)) hown (mvT hZ (own_w hw 24 rfl)) (mvT hZ (own_w hw 25 rfl)) (mvT hZ (own_w hw 21 rfl)) (mvT hZ (own_w hw 26 rfl)) (by decide) (backOf (W := 0) (rm_cmp3_1 l Z a0 hw [] u1 b31 kc k31 c0 c1 c2 h31 n0 Z31 (V1.ext E31) V31p fr_b31 ne_u1_b31 k0 k1) hZ (own_w hw 26 rfl) (own_w hw 21 rfl) (by decide) (by decide)) (g := (mkF m 9 #[.val (.ref u1), .val (.int (0 : Int32)), .val (.int (3 : Int32)), .val (.ref b31), .unset, .unset] [(.int (3 : Int32)), (.int (0 : Int32)), (.ref b31), (.int (0 : Int32)), (.ref u1)])) rfl (by rw [hml]; rfl) (argsL := [(.ref u1), (.int (0 : Int32)), (.ref b31), (.int (0 : Int32)), (.int (3 : Int32))]) (rest := []) (lenOf pd_633208 rfl) rfl (by show 2 * 0 + _ ≤ _; exact Nat.le_of_eq rfl) (hb hby d5_9) (fun _ _ => ⟨rfl, e31, (by decide : 1 + 0 ≤ _), (by decide : 3 + 0 ≤ _)⟩)
  dsimp only [Pt.U, Pt.locs, Pt.cells, Pt.slots] at X32 l32 y32 z32 st32 hQ32
  replace y32 : k32 = 1 := y32
  replace z32 : n32 = 3 := z32
  subst y32 z32
  obtain ⟨rfl, Nq32, Kq32⟩ := hQ32
  have N32 : Fr n0 L32 := by rw [l32]; exact Fr.app N0 Nq32
  have Z32 : n0 ≤ T32.heap.size := Nat.le_trans Z31 Kq32.1
  have K32 : Keep h0 T32.heap [] := K31.trans Kq32 (allS (Or.inr sz_b31) all0)
  have Ox : Old Z Z.heap.size T32.heap := X00.keep K32 all0
  obtain ⟨_, _, ⟨T33, L33, k33, n33⟩, -, X33, ⟨Lc33, hQ33, l33, y33, z33⟩, st33⟩ := Jvm.LawKit.callS X32 hx (y := (⟨"java/lang/StringUTF16", "toBytes", "([CII)[B"⟩ : MethodName)) hown (mvT hZ (own_w hw 77 rfl)) (mvT hZ (own_w hw 78 rfl)) (mvT hZ (own_w hw 21 rfl)) (mvT hZ (own_w hw 79 rfl)) (by decide) (backOf (W := 0) (rm_tob3 l Z a0 hw [] u1 kc c0 c1 c2 T32.heap n0 Z32 Ox O5 O6 O7 ((V1.ext E31).keep Kq32 (ninS ne_u1_b31 nin0))) hZ (own_w hw 79 rfl) (own_w hw 21 rfl) (by decide) (by decide)) (g := (mkF m 23 #[.val (.ref u1), .val (.int (0 : Int32)), .val (.int (3 : Int32)), .val (.ref b31), .val (.int (1 : Int32)), .unset] [(.int (3 : Int32)), (.int (0 : Int32)), (.ref u1)])) rfl (by rw [hml]; rfl) (argsL := [(.ref u1), (.int (0 : Int32)), (.int (3 : Int32))]) (rest := []) (lenOf pd_479214 rfl) rfl (by show 2 * 0 + _ ≤ _; exact Nat.le_of_eq rfl) (hb hby d5_23) (fun _ _ => ⟨rfl, rfl, (by decide : 1 + 1 ≤ _), (by decide : 3 + 6 ≤ _)⟩)
  dsimp only [Pt.U, Pt.locs, Pt.cells, Pt.slots] at X33 l33 y33 z33 st33 hQ33
  replace y33 : k33 = 2 := y33
  replace z33 : n33 = 9 := z33
  subst y33 z33
  obtain ⟨t2, kt2, rfl, Nq33, Kq33, gt2, Vt33⟩ := hQ33
  have N33 : Fr n0 L33 := by rw [l33]; exact Fr.app N32 Nq33
  have Z33 : n0 ≤ T33.heap.size := Nat.le_trans Z32 Kq33.1
  have K33 : Keep h0 T33.heap [] := K32.trans Kq33 all0
  have sz_t2 : h0.size ≤ t2 := Nat.le_trans K32.1 gt2
  have Oy := Ox.keep Kq33 all0
  obtain ⟨_, _, ⟨T34, L34, k34, n34⟩, -, X34, ⟨Lc34, hQ34, l34, y34, z34⟩, st34⟩ := Jvm.LawKit.callS X33 hx (y := (⟨"java/lang/StringUTF16", "getChar", "([BI)C"⟩ : MethodName)) hown (mvT hZ (own_w hw 93 rfl)) (mvT hZ (own_w hw 94 rfl)) (mvT hZ (own_w hw 21 rfl)) (mvT hZ (own_w hw 95 rfl)) (by decide) (backOf (W := 0) (rm_get1 l Z a0 hw [] t2 kt2 (6 : Int32) [(.int ((c0 >>> ((0 : Int32) &&& 31)).toInt8.toInt32)), (.int ((c0 >>> ((8 : Int32) &&& 31)).toInt8.toInt32)), (.int ((c1 >>> ((0 : Int32) &&& 31)).toInt8.toInt32)), (.int ((c1 >>> ((8 : Int32) &&& 31)).toInt8.toInt32)), (.int ((c2 >>> ((0 : Int32) &&& 31)).toInt8.toInt32)), (.int ((c2 >>> ((8 : Int32) &&& 31)).toInt8.toInt32))] ((c1 >>> ((0 : Int32) &&& 31)).toInt8.toInt32) ((c1 >>> ((8 : Int32) &&& 31)).toInt8.toInt32) c1 T33.heap n0 Z33 (O5.ext Oy.2) (O6.ext Oy.2) (O7.ext Oy.2) (own_gc _ q1) Vt33 (by decide) (by decide) rfl rfl) hZ (own_w hw 95 rfl) (own_w hw 21 rfl) (by decide) (by decide)) (g := (mkF m 32 #[.val (.ref u1), .val (.int (0 : Int32)), .val (.int (3 : Int32)), .val (.ref b31), .val (.int (1 : Int32)), .val (.ref t2)] [(.int (1 : Int32)), (.ref t2)])) rfl (by rw [hml]; rfl) (argsL := [(.ref t2), (.int (1 : Int32))]) (rest := []) (lenOf pd_676 rfl) rfl (by show 2 * 0 + _ ≤ _; exact Nat.le_of_eq rfl) (hb hby d5_32) (fun _ _ => ⟨rfl, rfl, (by decide : 2 + 0 ≤ _), (by decide : 9 + 0 ≤ _)⟩)
  dsimp only [Pt.U, Pt.locs, Pt.cells, Pt.slots] at X34 l34 y34 z34 st34 hQ34
  replace y34 : k34 = 2 := y34
  replace z34 : n34 = 9 := z34
  subst y34 z34
  obtain ⟨rfl, Nq34, eq34⟩ := hQ34
  have N34 : Fr n0 L34 := by rw [l34]; exact Fr.app N33 Nq34
  obtain ⟨fs, hr, hrun, hended, hW, hsame⟩ := X34.leave (v := some (.ref t2)) (fun h => by rw [Bd.returns] at h; cases h)
  refine ⟨_, _, pre0 _ ?_, hrun, hended, _, _, rfl, ?_, ⟨_, rfl⟩, hW, hsame.mono (by decide) (by decide)⟩
  · show Steps p.tables e below (s₁.setTop (mkF m 0 #[.val (.ref u1), .val (.int (0 : Int32)), .val (.int (3 : Int32)), .unset, .unset, .unset] [])) _
    refine XS.iloadN X0.here hx rfl (hb hby d5_0) rfl ?_
    refine st31 _ ?_
    refine XS.astoreN X31.here hx rfl (hb hby d5_3) rfl rfl (l' := #[.val (.ref u1), .val (.int (0 : Int32)), .val (.int (3 : Int32)), .val (.ref b31), .unset, .unset]) rfl ?_
    refine XS.aloadN X31.here hx rfl (hb hby d5_4) rfl rfl ?_
    refine XS.iloadN X31.here hx rfl (hb hby d5_5) rfl ?_
    refine XS.aloadN X31.here hx rfl (hb hby d5_6) rfl rfl ?_
    refine XS.iconst X31.here hx rfl (hb hby d5_7) ?_
    refine XS.iloadN X31.here hx rfl (hb hby d5_8) rfl ?_
    show Steps p.tables e below (T31.setTop (mkF m 9 #[.val (.ref u1), .val (.int (0 : Int32)), .val (.int (3 : Int32)), .val (.ref b31), .unset, .unset] [(.int (3 : Int32)), (.int (0 : Int32)), (.ref b31), (.int (0 : Int32)), (.ref u1)])) _
    refine st32 _ ?_
    refine XS.istore X32.here hx rfl (hb hby d5_12) rfl (l' := #[.val (.ref u1), .val (.int (0 : Int32)), .val (.int (3 : Int32)), .val (.ref b31), .val (.int (1 : Int32)), .unset]) rfl ?_
    refine XS.iload X32.here hx rfl (hb hby d5_14) rfl ?_
    refine XS.iloadN X32.here hx rfl (hb hby d5_16) rfl ?_
    refine XS.icmpNo X32.here hx rfl (hb hby d5_17) rfl (by decide) ?_
    refine XS.aloadN X32.here hx rfl (hb hby d5_20) rfl rfl ?_
    refine XS.iloadN X32.here hx rfl (hb hby d5_21) rfl ?_
    refine XS.iloadN X32.here hx rfl (hb hby d5_22) rfl ?_
    show Steps p.tables e below (T32.setTop (mkF m 23 #[.val (.ref u1), .val (.int (0 : Int32)), .val (.int (3 : Int32)), .val (.ref b31), .val (.int (1 : Int32)), .unset] [(.int (3 : Int32)), (.int (0 : Int32)), (.ref u1)])) _
    refine st33 _ ?_
    refine XS.astore X33.here hx rfl (hb hby d5_26) rfl rfl (l' := #[.val (.ref u1), .val (.int (0 : Int32)), .val (.int (3 : Int32)), .val (.ref b31), .val (.int (1 : Int32)), .val (.ref t2)]) rfl ?_
    refine XS.aload X33.here hx rfl (hb hby d5_28) rfl rfl ?_
    refine XS.iload X33.here hx rfl (hb hby d5_30) rfl ?_
    refine st34 _ ?_
    refine XS.sipush X34.here hx rfl (hb hby d5_35) ?_
    refine XS.icmpYes X34.here hx rfl (pc0 := 38) (pc' := 54) rfl (hb hby d5_38) rfl (own_gt k1) (by decide) (by decide) ?_
    refine XS.aload X34.here hx rfl (hb hby d5_54) rfl rfl ?_
    show Steps p.tables e below (T34.setTop (mkF m 56 #[.val (.ref u1), .val (.int (0 : Int32)), .val (.int (3 : Int32)), .val (.ref b31), .val (.int (1 : Int32)), .val (.ref t2)] [(.ref t2)])) _
    jvm_step X34.here [X34.here.top, hx, (hb hby d5_56), X34.method', Bd.returns, Value.isRef, FieldType.isReference]
    first | (intro acts; rw [hr _ acts rfl rfl rfl]) | rw [hr _ _ rfl rfl rfl]
    exact Steps.refl _
  · show Q_rm_cc3_1 Z _ _ _ _ _ h0 n0 _ T34.heap _
    rw [eq34]
    exact ⟨t2, kt2, rfl, N34, K33, sz_t2, Vt33⟩
theorem ef_rm_cc3_2 (m : MethodId) (x0 : Addr) (x1 : Int32) (x2 : Int32) : entryFrame m #[(.ref x0), (.int x1), (.int x2)] 6 = mkF m 0 #[.val (.ref x0), .val (.int x1), .val (.int x2), .unset, .unset, .unset] [] := by first | (simp [entryFrame, mkF, argsToLocals, Value.category]; done) | rfl
def Q_rm_cc3_2 (Z : State) (u1 : Addr) (kc : ClassId) (c0 : Int32) (c1 : Int32) (c2 : Int32) (h0 : Heap) (n0 : Nat) (v : Option Value) (h : Heap) (L : List Loc) : Prop := ∃ (t : Addr) (kt : ClassId), v = some (.ref t) ∧ Fr n0 L ∧ Keep h0 h [] ∧ h0.size ≤ t ∧ Arv Z h t kt .byte (6 : Int32) [(.int ((c0 >>> ((0 : Int32) &&& 31)).toInt8.toInt32)), (.int ((c0 >>> ((8 : Int32) &&& 31)).toInt8.toInt32)), (.int ((c1 >>> ((0 : Int32) &&& 31)).toInt8.toInt32)), (.int ((c1 >>> ((8 : Int32) &&& 31)).toInt8.toInt32)), (.int ((c2 >>> ((0 : Int32) &&& 31)).toInt8.toInt32)), (.int ((c2 >>> ((8 : Int32) &&& 31)).toInt8.toInt32))] (.int (0 : Int32))
set_option maxRecDepth 65536 in
set_option maxHeartbeats 40000000 in
theorem rm_cc3_2 (l : Launch) (Z : State) (a0 : Array Value) (hw : ∀ d ∈ tables_1, d.before a0 Z = true) (ws : List Jvm.Cond) (u1 : Addr) (kc : ClassId) (c0 : Int32) (c1 : Int32) (c2 : Int32) (h0 : Heap) (n0 : Nat) (Z0 : n0 ≤ h0.size) (X00 : Old Z Z.heap.size h0) (O5 : Sta Z Z.heap "java/lang/StringUTF16" "$assertionsDisabled" "Z" (.int (1 : Int32))) (O6 : Sta Z Z.heap "java/lang/StringUTF16" "HI_BYTE_SHIFT" "I" (.int (0 : Int32))) (O7 : Sta Z Z.heap "java/lang/StringUTF16" "LO_BYTE_SHIFT" "I" (.int (8 : Int32))) (q0 : ¬ c0 < 0 ∧ ¬ (65535 : Int32) < c0) (q1 : ¬ c1 < 0 ∧ ¬ (65535 : Int32) < c1) (q2 : ¬ c2 < 0 ∧ ¬ (65535 : Int32) < c2) (V1 : Arv Z h0 u1 kc .char (3 : Int32) [(.int c0), (.int c1), (.int c2)] (.int (0 : Int32))) (k0 : if_icmp.holds .le c0 (255 : Int32) = true) (k1 : if_icmp.holds .le c1 (255 : Int32) = true) (k2 : if_icmp.holds .le c2 (255 : Int32) = false) :
    MetFree l (⟨"java/lang/StringUTF16", "compress", "([CII)[B"⟩ : MethodName) (head1 (Jvm.Cond.code (⟨"java/lang/StringUTF16", "compress", "([CII)[B"⟩ : MethodName) jdk_52_method_16_code 6 (some (.array .byte)) :: ws) ({ frames := 3, cells := 2, slots := 9, locals := 40 } : Room)) (fun a U => a = #[(.ref u1), (.int (0 : Int32)), (.int (3 : Int32))] ∧ Z.Warmed39 U.vm ∧ U.heap = h0) (fun _ _ _ _ _ => True) (fun _ U o U' => ∃ v L, o = .returned v ∧ Q_rm_cc3_2 Z u1 kc c0 c1 c2 h0 n0 v U'.heap L ∧ FrameEnd U o U' L ({ frames := 3, cells := 2, slots := 9, locals := 40 } : Room).cells ({ frames := 3, cells := 2, slots := 9, locals := 40 } : Room).slots) := by
  refine MetFree.of_bodySF (plainFor_of_name pn_50925) hisR ?_
  intro p e s m args below meth c s₁ Bd hml0 hP hK
  obtain ⟨rfl, hZ, hh⟩ := hP
  have hx := Bd.exec
  have hby := Bd.bytes
  have hml : c.maxLocals = 6 := hml0
  have hown : s.vm.findClass "java/lang/StringUTF16" = some m.cls := findClass_of_methodNamed Bd.named
  have hnm := (name_of_methodNamed Bd.named Bd.method).1
  have X0 : Stand p l e ({ frames := 3, cells := 2, slots := 9, locals := 40 } : Room) s m #[(.ref u1), (.int (0 : Int32)), (.int (3 : Int32))] below meth c s₁ [] 0 0 := Stand.of_body Bd
  have e0 : s₁.heap = h0 := by rw [← hh, Bd.state]; rfl
  have N0 := Fr.nil n0
  have K0 : Keep h0 h0 [] := Keep.refl _ _
  have pre0 : ∀ t, Steps p.tables e below (s₁.setTop (mkF m 0 #[.val (.ref u1), .val (.int (0 : Int32)), .val (.int (3 : Int32)), .unset, .unset, .unset] [])) t → Steps p.tables e below (s₁.setTop (entryFrame m #[(.ref u1), (.int (0 : Int32)), (.int (3 : Int32))] 6)) t := fun t k => castTop (ef_rm_cc3_2 m u1 (0 : Int32) (3 : Int32)) k
  obtain ⟨T31, h31, k31, X31, e31, E31, A31, st31⟩ := newP X0 hx hZ (own_w hw 23 rfl) e0 (g := (mkF m 1 #[.val (.ref u1), .val (.int (0 : Int32)), .val (.int (3 : Int32)), .unset, .unset, .unset] [(.int (3 : Int32))])) rfl (hb hby d5_1) rfl (by decide) (cap := 3) (by decide) (by decide) (by decide) (by decide)
  obtain ⟨b31, g31⟩ : ∃ z, z = h0.size := ⟨_, rfl⟩
  rw [← g31] at A31 st31
  have fr_b31 : n0 ≤ b31 := Nat.le_trans Z0 (Nat.le_of_eq g31.symm)
  have ne_u1_b31 : u1 ≠ b31 := Nat.ne_of_lt (Nat.lt_of_lt_of_le V1.lt (Nat.le_of_eq g31.symm))
  have sz_b31 : h0.size ≤ b31 := Nat.le_trans K0.1 (Nat.le_of_eq g31.symm)
  have Z31 : n0 ≤ h31.size := Nat.le_trans Z0 E31.1
  have K31 : Keep h0 h31 [] := K0.ext E31
  have V31 := Arv.new A31 (by decide)
  have V31p : Arv Z h31 b31 k31 .byte (3 : Int32) [(.int (0 : Int32)), (.int (0 : Int32)), (.int (0 : Int32))] (.int (0 : Int32)) := V31.pad (pad_rep [] (.int (0 : Int32)) 3)
  obtain ⟨_, _, ⟨T32, L32, k32, n32⟩, -, X32, ⟨Lc32, hQ32, l32, y32, z32⟩, st32⟩ := Jvm.LawKit.callS X31 hx (y := (⟨"java/lang/StringUTF16", "compress", "([CI[BII)I"⟩ : MethodName)) hown (mvT hZ (own_w hw 24 rfl)) (mvT hZ (own_w hw 25 rfl)) (mvT hZ (own_w hw 21 rfl)) (mvT hZ (own_w hw 26 rfl)) (by decide) (backOf (W := 0) (rm_cmp3_2 l Z a0 hw [] u1 b31 kc k31 c0 c1 c2 h31 n0 Z31 (V1.ext E31) V31p fr_b31 ne_u1_b31 k0 k1 k2) hZ (own_w hw 26 rfl) (own_w hw 21 rfl) (by decide) (by decide)) (g := (mkF m 9 #[.val (.ref u1), .val (.int (0 : Int32)), .val (.int (3 : Int32)), .val (.ref b31), .unset, .unset] [(.int (3 : Int32)), (.int (0 : Int32)), (.ref b31), (.int (0 : Int32)), (.ref u1)])) rfl (by rw [hml]; rfl) (argsL := [(.ref u1), (.int (0 : Int32)), (.ref b31), (.int (0 : Int32)), (.int (3 : Int32))]) (rest := []) (lenOf pd_633208 rfl) rfl (by show 2 * 0 + _ ≤ _; exact Nat.le_of_eq rfl) (hb hby d5_9) (fun _ _ => ⟨rfl, e31, (by decide : 1 + 0 ≤ _), (by decide : 3 + 0 ≤ _)⟩)
  dsimp only [Pt.U, Pt.locs, Pt.cells, Pt.slots] at X32 l32 y32 z32 st32 hQ32
  replace y32 : k32 = 1 := y32
  replace z32 : n32 = 3 := z32
  subst y32 z32
  obtain ⟨rfl, Nq32, Kq32⟩ := hQ32
  have N32 : Fr n0 L32 := by rw [l32]; exact Fr.app N0 Nq32
  have Z32 : n0 ≤ T32.heap.size := Nat.le_trans Z31 Kq32.1
  have K32 : Keep h0 T32.heap [] := K31.trans Kq32 (allS (Or.inr sz_b31) all0)
  have Ox : Old Z Z.heap.size T32.heap := X00.keep K32 all0
  obtain ⟨_, _, ⟨T33, L33, k33, n33⟩, -, X33, ⟨Lc33, hQ33, l33, y33, z33⟩, st33⟩ := Jvm.LawKit.callS X32 hx (y := (⟨"java/lang/StringUTF16", "toBytes", "([CII)[B"⟩ : MethodName)) hown (mvT hZ (own_w hw 77 rfl)) (mvT hZ (own_w hw 78 rfl)) (mvT hZ (own_w hw 21 rfl)) (mvT hZ (own_w hw 79 rfl)) (by decide) (backOf (W := 0) (rm_tob3 l Z a0 hw [] u1 kc c0 c1 c2 T32.heap n0 Z32 Ox O5 O6 O7 ((V1.ext E31).keep Kq32 (ninS ne_u1_b31 nin0))) hZ (own_w hw 79 rfl) (own_w hw 21 rfl) (by decide) (by decide)) (g := (mkF m 23 #[.val (.ref u1), .val (.int (0 : Int32)), .val (.int (3 : Int32)), .val (.ref b31), .val (.int (2 : Int32)), .unset] [(.int (3 : Int32)), (.int (0 : Int32)), (.ref u1)])) rfl (by rw [hml]; rfl) (argsL := [(.ref u1), (.int (0 : Int32)), (.int (3 : Int32))]) (rest := []) (lenOf pd_479214 rfl) rfl (by show 2 * 0 + _ ≤ _; exact Nat.le_of_eq rfl) (hb hby d5_23) (fun _ _ => ⟨rfl, rfl, (by decide : 1 + 1 ≤ _), (by decide : 3 + 6 ≤ _)⟩)
  dsimp only [Pt.U, Pt.locs, Pt.cells, Pt.slots] at X33 l33 y33 z33 st33 hQ33
  replace y33 : k33 = 2 := y33
  replace z33 : n33 = 9 := z33
  subst y33 z33
  obtain ⟨t2, kt2, rfl, Nq33, Kq33, gt2, Vt33⟩ := hQ33
  have N33 : Fr n0 L33 := by rw [l33]; exact Fr.app N32 Nq33
  have Z33 : n0 ≤ T33.heap.size := Nat.le_trans Z32 Kq33.1
  have K33 : Keep h0 T33.heap [] := K32.trans Kq33 all0
  have sz_t2 : h0.size ≤ t2 := Nat.le_trans K32.1 gt2
  have Oy := Ox.keep Kq33 all0
  obtain ⟨_, _, ⟨T34, L34, k34, n34⟩, -, X34, ⟨Lc34, hQ34, l34, y34, z34⟩, st34⟩ := Jvm.LawKit.callS X33 hx (y := (⟨"java/lang/StringUTF16", "getChar", "([BI)C"⟩ : MethodName)) hown (mvT hZ (own_w hw 93 rfl)) (mvT hZ (own_w hw 94 rfl)) (mvT hZ (own_w hw 21 rfl)) (mvT hZ (own_w hw 95 rfl)) (by decide) (backOf (W := 0) (rm_get2 l Z a0 hw [] t2 kt2 (6 : Int32) [(.int ((c0 >>> ((0 : Int32) &&& 31)).toInt8.toInt32)), (.int ((c0 >>> ((8 : Int32) &&& 31)).toInt8.toInt32)), (.int ((c1 >>> ((0 : Int32) &&& 31)).toInt8.toInt32)), (.int ((c1 >>> ((8 : Int32) &&& 31)).toInt8.toInt32)), (.int ((c2 >>> ((0 : Int32) &&& 31)).toInt8.toInt32)), (.int ((c2 >>> ((8 : Int32) &&& 31)).toInt8.toInt32))] ((c2 >>> ((0 : Int32) &&& 31)).toInt8.toInt32) ((c2 >>> ((8 : Int32) &&& 31)).toInt8.toInt32) c2 T33.heap n0 Z33 (O5.ext Oy.2) (O6.ext Oy.2) (O7.ext Oy.2) (own_gc _ q2) Vt33 (by decide) (by decide) rfl rfl) hZ (own_w hw 95 rfl) (own_w hw 21 rfl) (by decide) (by decide)) (g := (mkF m 32 #[.val (.ref u1), .val (.int (0 : Int32)), .val (.int (3 : Int32)), .val (.ref b31), .val (.int (2 : Int32)), .val (.ref t2)] [(.int (2 : Int32)), (.ref t2)])) rfl (by rw [hml]; rfl) (argsL := [(.ref t2), (.int (2 : Int32))]) (rest := []) (lenOf pd_676 rfl) rfl (by show 2 * 0 + _ ≤ _; exact Nat.le_of_eq rfl) (hb hby d5_32) (fun _ _ => ⟨rfl, rfl, (by decide : 2 + 0 ≤ _), (by decide : 9 + 0 ≤ _)⟩)
  dsimp only [Pt.U, Pt.locs, Pt.cells, Pt.slots] at X34 l34 y34 z34 st34 hQ34
  replace y34 : k34 = 2 := y34
  replace z34 : n34 = 9 := z34
  subst y34 z34
  obtain ⟨rfl, Nq34, eq34⟩ := hQ34
  have N34 : Fr n0 L34 := by rw [l34]; exact Fr.app N33 Nq34
  obtain ⟨fs, hr, hrun, hended, hW, hsame⟩ := X34.leave (v := some (.ref t2)) (fun h => by rw [Bd.returns] at h; cases h)
  refine ⟨_, _, pre0 _ ?_, hrun, hended, _, _, rfl, ?_, ⟨_, rfl⟩, hW, hsame.mono (by decide) (by decide)⟩
  · show Steps p.tables e below (s₁.setTop (mkF m 0 #[.val (.ref u1), .val (.int (0 : Int32)), .val (.int (3 : Int32)), .unset, .unset, .unset] [])) _
    refine XS.iloadN X0.here hx rfl (hb hby d5_0) rfl ?_
    refine st31 _ ?_
    refine XS.astoreN X31.here hx rfl (hb hby d5_3) rfl rfl (l' := #[.val (.ref u1), .val (.int (0 : Int32)), .val (.int (3 : Int32)), .val (.ref b31), .unset, .unset]) rfl ?_
    refine XS.aloadN X31.here hx rfl (hb hby d5_4) rfl rfl ?_
    refine XS.iloadN X31.here hx rfl (hb hby d5_5) rfl ?_
    refine XS.aloadN X31.here hx rfl (hb hby d5_6) rfl rfl ?_
    refine XS.iconst X31.here hx rfl (hb hby d5_7) ?_
    refine XS.iloadN X31.here hx rfl (hb hby d5_8) rfl ?_
    show Steps p.tables e below (T31.setTop (mkF m 9 #[.val (.ref u1), .val (.int (0 : Int32)), .val (.int (3 : Int32)), .val (.ref b31), .unset, .unset] [(.int (3 : Int32)), (.int (0 : Int32)), (.ref b31), (.int (0 : Int32)), (.ref u1)])) _
    refine st32 _ ?_
    refine XS.istore X32.here hx rfl (hb hby d5_12) rfl (l' := #[.val (.ref u1), .val (.int (0 : Int32)), .val (.int (3 : Int32)), .val (.ref b31), .val (.int (2 : Int32)), .unset]) rfl ?_
    refine XS.iload X32.here hx rfl (hb hby d5_14) rfl ?_
    refine XS.iloadN X32.here hx rfl (hb hby d5_16) rfl ?_
    refine XS.icmpNo X32.here hx rfl (hb hby d5_17) rfl (by decide) ?_
    refine XS.aloadN X32.here hx rfl (hb hby d5_20) rfl rfl ?_
    refine XS.iloadN X32.here hx rfl (hb hby d5_21) rfl ?_
    refine XS.iloadN X32.here hx rfl (hb hby d5_22) rfl ?_
    show Steps p.tables e below (T32.setTop (mkF m 23 #[.val (.ref u1), .val (.int (0 : Int32)), .val (.int (3 : Int32)), .val (.ref b31), .val (.int (2 : Int32)), .unset] [(.int (3 : Int32)), (.int (0 : Int32)), (.ref u1)])) _
    refine st33 _ ?_
    refine XS.astore X33.here hx rfl (hb hby d5_26) rfl rfl (l' := #[.val (.ref u1), .val (.int (0 : Int32)), .val (.int (3 : Int32)), .val (.ref b31), .val (.int (2 : Int32)), .val (.ref t2)]) rfl ?_
    refine XS.aload X33.here hx rfl (hb hby d5_28) rfl rfl ?_
    refine XS.iload X33.here hx rfl (hb hby d5_30) rfl ?_
    refine st34 _ ?_
    refine XS.sipush X34.here hx rfl (hb hby d5_35) ?_
    refine XS.icmpYes X34.here hx rfl (pc0 := 38) (pc' := 54) rfl (hb hby d5_38) rfl (own_gt k2) (by decide) (by decide) ?_
    refine XS.aload X34.here hx rfl (hb hby d5_54) rfl rfl ?_
    show Steps p.tables e below (T34.setTop (mkF m 56 #[.val (.ref u1), .val (.int (0 : Int32)), .val (.int (3 : Int32)), .val (.ref b31), .val (.int (2 : Int32)), .val (.ref t2)] [(.ref t2)])) _
    jvm_step X34.here [X34.here.top, hx, (hb hby d5_56), X34.method', Bd.returns, Value.isRef, FieldType.isReference]
    first | (intro acts; rw [hr _ acts rfl rfl rfl]) | rw [hr _ _ rfl rfl rfl]
    exact Steps.refl _
  · show Q_rm_cc3_2 Z _ _ _ _ _ h0 n0 _ T34.heap _
    rw [eq34]
    exact ⟨t2, kt2, rfl, N34, K33, sz_t2, Vt33⟩
def own_lo (c : Int32) : Int32 := ((c >>> ((0 : Int32) &&& 31)).toInt8.toInt32)
def own_hi (c : Int32) : Int32 := ((c >>> ((8 : Int32) &&& 31)).toInt8.toInt32)
def own_cod (cs : List Int32) (cd N : Int32) (ys : List Int32) : Prop := (cd = 0 ∧ N = Int32.ofNat cs.length ∧ ys = cs.map (fun c => c.toInt8.toInt32) ∧ ∀ c ∈ cs, if_icmp.holds .le c (255 : Int32) = true) ∨ (cd = 1 ∧ N = Int32.ofNat (2 * cs.length) ∧ ys = cs.flatMap (fun c => [((c >>> ((0 : Int32) &&& 31)).toInt8.toInt32), ((c >>> ((8 : Int32) &&& 31)).toInt8.toInt32)]))
def own_str (Z : State) (h : Heap) (a : Addr) (cs : List Int32) : Prop := Exa Z h a "java/lang/String" ∧ ∃ (cd : Int32) (t : Addr) (kb : ClassId) (N : Int32) (ys : List Int32), Fld Z h a "java/lang/String" "coder" "B" (.int cd) ∧ Fld Z h a "java/lang/String" "value" "[B" (.ref t) ∧ Arv Z h t kb .byte N (ys.map Value.int) (.int (0 : Int32)) ∧ own_cod cs cd N ys
theorem own_cls1 (c0 : Int32) : (if_icmp.holds .le c0 (255 : Int32) = true) ∨ (if_icmp.holds .le c0 (255 : Int32) = false) := by
  cases if_icmp.holds .le c0 (255 : Int32) <;> simp
theorem d3_0 : decode jdk_42_method_149_code 0 = .ok (.aload_n 0, 1) := by decide +kernel
theorem d3_1 : decode jdk_42_method_149_code 1 = .ok (.invokespecial 1, 3) := by decide +kernel
theorem d3_4 : decode jdk_42_method_149_code 4 = .ok (.iload_n 3, 1) := by decide +kernel
theorem d3_5 : decode jdk_42_method_149_code 5 = .ok (.ifCond .ne 22, 3) := by decide +kernel
theorem d3_27 : decode jdk_42_method_149_code 27 = .ok (.getstatic 38, 3) := by decide +kernel
theorem d3_30 : decode jdk_42_method_149_code 30 = .ok (.ifCond .eq 28, 3) := by decide +kernel
theorem d3_33 : decode jdk_42_method_149_code 33 = .ok (.aload_n 1, 1) := by decide +kernel
theorem d3_34 : decode jdk_42_method_149_code 34 = .ok (.iload_n 2, 1) := by decide +kernel
theorem d3_35 : decode jdk_42_method_149_code 35 = .ok (.iload_n 3, 1) := by decide +kernel
theorem d3_36 : decode jdk_42_method_149_code 36 = .ok (.invokestatic 177, 3) := by decide +kernel
theorem d3_39 : decode jdk_42_method_149_code 39 = .ok (.astore 5, 2) := by decide +kernel
theorem d3_41 : decode jdk_42_method_149_code 41 = .ok (.aload_n 0, 1) := by decide +kernel
theorem d3_42 : decode jdk_42_method_149_code 42 = .ok (.aload 5, 2) := by decide +kernel
theorem d3_44 : decode jdk_42_method_149_code 44 = .ok (.iload_n 3, 1) := by decide +kernel
theorem d3_45 : decode jdk_42_method_149_code 45 = .ok (.invokestatic 47, 3) := by decide +kernel
theorem pd_675 : parseMethodDescriptor "([BI)B" = some ⟨[(.array .byte), .int], some .byte⟩ := by decide +kernel
theorem d3_48 : decode jdk_42_method_149_code 48 = .ok (.putfield 15, 3) := by decide +kernel
theorem d3_51 : decode jdk_42_method_149_code 51 = .ok (.aload_n 0, 1) := by decide +kernel
theorem d3_52 : decode jdk_42_method_149_code 52 = .ok (.aload 5, 2) := by decide +kernel
theorem d3_54 : decode jdk_42_method_149_code 54 = .ok (.putfield 9, 3) := by decide +kernel
theorem d3_57 : decode jdk_42_method_149_code 57 = .ok (.return_, 1) := by decide +kernel
theorem ef_rm_sv1 (m : MethodId) (x0 : Addr) (x1 : Addr) (x2 : Int32) (x3 : Int32) : entryFrame m #[(.ref x0), (.ref x1), (.int x2), (.int x3), .null] 6 = mkF m 0 #[.val (.ref x0), .val (.ref x1), .val (.int x2), .val (.int x3), .val .null, .unset] [] := by first | (simp [entryFrame, mkF, argsToLocals, Value.category]; done) | rfl
def Q_rm_sv1 (Z : State) (u1 : Addr) (u2 : Addr) (zc : Int32) (kc : ClassId) (c0 : Int32) (h0 : Heap) (n0 : Nat) (v : Option Value) (h : Heap) (L : List Loc) : Prop := v = none ∧ Fr n0 L ∧ Keep h0 h [u1] ∧ own_str Z h u1 [c0]
theorem pn_453642 : plainName "java/lang/String" = true := by first | (simp [plainName, overriddenIn]; done) | decide +kernel
set_option maxRecDepth 65536 in
set_option maxHeartbeats 40000000 in
theorem rm_sv1 (l : Launch) (Z : State) (a0 : Array Value) (hw : ∀ d ∈ tables_1, d.before a0 Z = true) (ws : List Jvm.Cond) (u1 : Addr) (u2 : Addr) (zc : Int32) (kc : ClassId) (c0 : Int32) (h0 : Heap) (n0 : Nat) (Z0 : n0 ≤ h0.size) (X00 : Old Z Z.heap.size h0) (O5 : Sta Z Z.heap "java/lang/StringUTF16" "$assertionsDisabled" "Z" (.int (1 : Int32))) (O6 : Sta Z Z.heap "java/lang/StringUTF16" "HI_BYTE_SHIFT" "I" (.int (0 : Int32))) (O7 : Sta Z Z.heap "java/lang/StringUTF16" "LO_BYTE_SHIFT" "I" (.int (8 : Int32))) (q0 : ¬ c0 < 0 ∧ ¬ (65535 : Int32) < c0) (O2 : Sta Z Z.heap "java/lang/String" "COMPACT_STRINGS" "Z" (.int zc)) (hz : ¬ zc = 0) (F1 : Fld Z h0 u1 "java/lang/String" "value" "[B" .null) (F2 : Fld Z h0 u1 "java/lang/String" "coder" "B" (.int (0 : Int32))) (E1 : Exa Z h0 u1 "java/lang/String") (g1 : n0 ≤ u1) (V1 : Arv Z h0 u2 kc .char (1 : Int32) [(.int c0)] (.int (0 : Int32))) (hne : u1 ≠ u2) :
    MetFree l (⟨"java/lang/String", "<init>", "([CIILjava/lang/Void;)V"⟩ : MethodName) (head1 (Jvm.Cond.code (⟨"java/lang/String", "<init>", "([CIILjava/lang/Void;)V"⟩ : MethodName) jdk_42_method_149_code 6 none :: ws) ({ frames := 4, cells := 2, slots := 3, locals := 57 } : Room)) (fun a U => a = #[(.ref u1), (.ref u2), (.int (0 : Int32)), (.int (1 : Int32)), .null] ∧ Z.Warmed39 U.vm ∧ U.heap = h0) (fun _ _ _ _ _ => True) (fun _ U o U' => ∃ v L, o = .returned v ∧ Q_rm_sv1 Z u1 u2 zc kc c0 h0 n0 v U'.heap L ∧ FrameEnd U o U' L ({ frames := 4, cells := 2, slots := 3, locals := 57 } : Room).cells ({ frames := 4, cells := 2, slots := 3, locals := 57 } : Room).slots) := by
  refine MetFree.of_bodySF (plainFor_of_name pn_453642) hisR ?_
  intro p e s m args below meth c s₁ Bd hml0 hP hK
  obtain ⟨rfl, hZ, hh⟩ := hP
  have hx := Bd.exec
  have hby := Bd.bytes
  have hml : c.maxLocals = 6 := hml0
  have hown : s.vm.findClass "java/lang/String" = some m.cls := findClass_of_methodNamed Bd.named
  have hnm := (name_of_methodNamed Bd.named Bd.method).1
  have X0 : Stand p l e ({ frames := 4, cells := 2, slots := 3, locals := 57 } : Room) s m #[(.ref u1), (.ref u2), (.int (0 : Int32)), (.int (1 : Int32)), .null] below meth c s₁ [] 0 0 := Stand.of_body Bd
  have e0 : s₁.heap = h0 := by rw [← hh, Bd.state]; rfl
  have N0 := Fr.nil n0
  have K0 : Keep h0 h0 [u1] := Keep.refl _ _
  have pre0 : ∀ t, Steps p.tables e below (s₁.setTop (mkF m 0 #[.val (.ref u1), .val (.ref u2), .val (.int (0 : Int32)), .val (.int (1 : Int32)), .val .null, .unset] [])) t → Steps p.tables e below (s₁.setTop (entryFrame m #[(.ref u1), (.ref u2), (.int (0 : Int32)), (.int (1 : Int32)), .null] 6)) t := fun t k => castTop (ef_rm_sv1 m u1 u2 (0 : Int32) (1 : Int32)) k
  obtain ⟨T31, X31, e31, st31⟩ := initO X0 hx hZ hown (own_w hw 15 rfl) (own_w hw 16 rfl) (own_w hw 17 rfl) e0 (g := (mkF m 1 #[.val (.ref u1), .val (.ref u2), .val (.int (0 : Int32)), .val (.int (1 : Int32)), .val .null, .unset] [(.ref u1)])) rfl (by rw [hml]; rfl) rfl (hb hby d3_1) (by decide) (W := 0) (by show 2 * 0 + _ ≤ _; exact Nat.le_of_eq rfl) (by decide)
  obtain ⟨T32, X32, e32, st32⟩ := getS2 X31 hx hZ hown (host := "") (Or.inl (own_w hw 18 rfl)) Via.refl e31 (O2.ext X00.2) (g := (mkF m 27 #[.val (.ref u1), .val (.ref u2), .val (.int (0 : Int32)), .val (.int (1 : Int32)), .val .null, .unset] [])) rfl (hb hby d3_27)
  have pre33 : ∀ t, Steps p.tables e below (T32.setTop (mkF m 36 #[.val (.ref u1), .val (.ref u2), .val (.int (0 : Int32)), .val (.int (1 : Int32)), .val .null, .unset] [(.int (1 : Int32)), (.int (0 : Int32)), (.ref u2)])) t → Steps p.tables e below (s₁.setTop (entryFrame m #[(.ref u1), (.ref u2), (.int (0 : Int32)), (.int (1 : Int32)), .null] 6)) t := by
    intro t k
    refine pre0 t ?_
    show Steps p.tables e below (s₁.setTop (mkF m 0 #[.val (.ref u1), .val (.ref u2), .val (.int (0 : Int32)), .val (.int (1 : Int32)), .val .null, .unset] [])) _
    refine XS.aloadN X0.here hx rfl (hb hby d3_0) rfl rfl ?_
    refine st31 _ ?_
    refine XS.iloadN X31.here hx rfl (hb hby d3_4) rfl ?_
    refine XS.ifYes X31.here hx rfl (pc0 := 5) (pc' := 27) rfl (hb hby d3_5) rfl (by decide) (by decide) (by decide) ?_
    refine st32 _ ?_
    refine XS.ifNo X32.here hx rfl (hb hby d3_30) rfl (own_nz hz) ?_
    refine XS.aloadN X32.here hx rfl (hb hby d3_33) rfl rfl ?_
    refine XS.iloadN X32.here hx rfl (hb hby d3_34) rfl ?_
    show Steps p.tables e below (T32.setTop (mkF m 35 #[.val (.ref u1), .val (.ref u2), .val (.int (0 : Int32)), .val (.int (1 : Int32)), .val .null, .unset] [(.int (0 : Int32)), (.ref u2)])) _
    refine XS.iloadN X32.here hx rfl (hb hby d3_35) rfl ?_
    exact k
  rcases own_cls1 c0 with k0 | k0
  · obtain ⟨_, _, ⟨T34, L34, k34, n34⟩, -, X34, ⟨Lc34, hQ34, l34, y34, z34⟩, st34⟩ := Jvm.LawKit.callS X32 hx (y := (⟨"java/lang/StringUTF16", "compress", "([CII)[B"⟩ : MethodName)) hown (mvT hZ (own_w hw 19 rfl)) (mvT hZ (own_w hw 20 rfl)) (mvT hZ (own_w hw 21 rfl)) (mvT hZ (own_w hw 22 rfl)) (by decide) (backOf (W := 0) (rm_cc1 l Z a0 hw [] u2 kc c0 h0 n0 Z0  V1 k0) hZ (own_w hw 22 rfl) (own_w hw 21 rfl) (by decide) (by decide)) (g := (mkF m 36 #[.val (.ref u1), .val (.ref u2), .val (.int (0 : Int32)), .val (.int (1 : Int32)), .val .null, .unset] [(.int (1 : Int32)), (.int (0 : Int32)), (.ref u2)])) rfl (by rw [hml]; rfl) (argsL := [(.ref u2), (.int (0 : Int32)), (.int (1 : Int32))]) (rest := []) (lenOf pd_479214 rfl) rfl (by show 2 * 0 + _ ≤ _; exact Nat.le_of_eq rfl) (hb hby d3_36) (fun _ _ => ⟨rfl, e32, (by decide : 0 + 1 ≤ _), (by decide : 0 + 1 ≤ _)⟩)
    dsimp only [Pt.U, Pt.locs, Pt.cells, Pt.slots] at X34 l34 y34 z34 st34 hQ34
    replace y34 : k34 = 1 := y34
    replace z34 : n34 = 1 := z34
    subst y34 z34
    obtain ⟨t1, kt1, rfl, Nq34, Kq34, gt1, Vt34⟩ := hQ34
    have N34 : Fr n0 L34 := by rw [l34]; exact Fr.app N0 Nq34
    have Z34 : n0 ≤ T34.heap.size := Nat.le_trans Z0 Kq34.1
    have K34 : Keep h0 T34.heap [u1] := K0.trans Kq34 all0
    have ne_t1 : u1 ≠ t1 := Nat.ne_of_lt (Nat.lt_of_lt_of_le E1.lt gt1)
    obtain ⟨_, _, ⟨T35, L35, k35, n35⟩, -, X35, ⟨Lc35, hQ35, l35, y35, z35⟩, st35⟩ := Jvm.LawKit.callS X34 hx (y := (⟨"java/lang/StringUTF16", "coderFromArrayLen", "([BI)B"⟩ : MethodName)) hown (mvT hZ (own_w hw 27 rfl)) (mvT hZ (own_w hw 28 rfl)) (mvT hZ (own_w hw 21 rfl)) (mvT hZ (own_w hw 29 rfl)) (by decide) (backOf (W := 1) (rm_cfl l Z a0 hw [] t1 (1 : Int32) kt1 (1 : Int32) [(.int (c0.toInt8.toInt32))] T34.heap n0 Z34 Vt34) hZ (own_w hw 29 rfl) (own_w hw 21 rfl) (by decide) (by decide)) (g := (mkF m 45 #[.val (.ref u1), .val (.ref u2), .val (.int (0 : Int32)), .val (.int (1 : Int32)), .val .null, .val (.ref t1)] [(.int (1 : Int32)), (.ref t1), (.ref u1)])) rfl (by rw [hml]; rfl) (argsL := [(.ref t1), (.int (1 : Int32))]) (rest := [(.ref u1)]) (lenOf pd_675 rfl) rfl (by show 2 * 0 + _ ≤ _; exact Nat.le_of_eq rfl) (hb hby d3_45) (fun _ _ => ⟨rfl, rfl, (by decide : 1 + 0 ≤ _), (by decide : 1 + 0 ≤ _)⟩)
    dsimp only [Pt.U, Pt.locs, Pt.cells, Pt.slots] at X35 l35 y35 z35 st35 hQ35
    replace y35 : k35 = 1 := y35
    replace z35 : n35 = 1 := z35
    subst y35 z35
    obtain ⟨rfl, Nq35, eq35⟩ := hQ35
    have N35 : Fr n0 L35 := by rw [l35]; exact Fr.app N34 Nq35
    obtain ⟨T36, h36, X36, e36, W36, st36⟩ := putFN X35 hx hZ hown (own_w hw 30 rfl) Via.refl eq35 (F2.keep Kq34 nin0) (E1.keep Kq34) (Or.inr ⟨(own_w hw 31 rfl), rfl, hnm⟩) (own_w hw 6 rfl) (ty := .byte) (v' := (.int (0 : Int32))) (by decide) rfl (by decide) (g := (mkF m 48 #[.val (.ref u1), .val (.ref u2), .val (.int (0 : Int32)), .val (.int (1 : Int32)), .val .null, .val (.ref t1)] [(.int (0 : Int32)), (.ref u1)])) rfl rfl (hb hby d3_48)
    have Fw36 := Fld.same W36 (F2.keep Kq34 nin0)
    have N36 := Fr.snoc X36 N35 g1
    have Z36 : n0 ≤ h36.size := Nat.le_trans Z34 (Keep.of_wr W36).1
    have K36 : Keep h0 h36 [u1] := Keep.wr K34 W36 (Or.inl (List.mem_of_getElem? (i := 0) rfl))
    obtain ⟨T37, h37, X37, e37, W37, st37⟩ := putF X36 hx hZ hown (host := "") (Or.inl (own_w hw 32 rfl)) Via.refl e36 (Fld.other W36 (F1.keep Kq34 nin0) (Or.inr (slot_ne (Or.inr (own_w hw 33 rfl)) (Or.inr (own_w hw 31 rfl)) (by decide) (t := (.array .byte)) (t' := .byte) (by decide) (by decide)))) ((E1.keep Kq34).wr W36) (Or.inr ⟨(own_w hw 33 rfl), rfl, hnm⟩) (own_w hw 6 rfl) (ty := (.array .byte)) (by decide) rfl rfl (g := (mkF m 54 #[.val (.ref u1), .val (.ref u2), .val (.int (0 : Int32)), .val (.int (1 : Int32)), .val .null, .val (.ref t1)] [(.ref t1), (.ref u1)])) rfl rfl (hb hby d3_54)
    have Fw37 := Fld.same W37 (Fld.other W36 (F1.keep Kq34 nin0) (Or.inr (slot_ne (Or.inr (own_w hw 33 rfl)) (Or.inr (own_w hw 31 rfl)) (by decide) (t := (.array .byte)) (t' := .byte) (by decide) (by decide))))
    have N37 := Fr.snoc X37 N36 g1
    have Z37 : n0 ≤ h37.size := Nat.le_trans Z36 (Keep.of_wr W37).1
    have K37 : Keep h0 h37 [u1] := Keep.wr K36 W37 (Or.inl (List.mem_of_getElem? (i := 0) rfl))
    obtain ⟨fs, hr, hrun, hended, hW, hsame⟩ := X37.leave (v := none) (fun _ => rfl)
    refine ⟨_, _, pre33 _ ?_, hrun, hended, _, _, rfl, ?_, ⟨_, rfl⟩, hW, hsame.mono (by decide) (by decide)⟩
    · show Steps p.tables e below (T32.setTop (mkF m 36 #[.val (.ref u1), .val (.ref u2), .val (.int (0 : Int32)), .val (.int (1 : Int32)), .val .null, .unset] [(.int (1 : Int32)), (.int (0 : Int32)), (.ref u2)])) _
      refine st34 _ ?_
      refine XS.astore X34.here hx rfl (hb hby d3_39) rfl rfl (l' := #[.val (.ref u1), .val (.ref u2), .val (.int (0 : Int32)), .val (.int (1 : Int32)), .val .null, .val (.ref t1)]) rfl ?_
      refine XS.aloadN X34.here hx rfl (hb hby d3_41) rfl rfl ?_
      refine XS.aload X34.here hx rfl (hb hby d3_42) rfl rfl ?_
      refine XS.iloadN X34.here hx rfl (hb hby d3_44) rfl ?_
      refine st35 _ ?_
      refine st36 _ ?_
      show Steps p.tables e below (T36.setTop (mkF m 51 #[.val (.ref u1), .val (.ref u2), .val (.int (0 : Int32)), .val (.int (1 : Int32)), .val .null, .val (.ref t1)] [])) _
      refine XS.aloadN X36.here hx rfl (hb hby d3_51) rfl rfl ?_
      refine XS.aload X36.here hx rfl (hb hby d3_52) rfl rfl ?_
      refine st37 _ ?_
      show Steps p.tables e below (T37.setTop (mkF m 57 #[.val (.ref u1), .val (.ref u2), .val (.int (0 : Int32)), .val (.int (1 : Int32)), .val .null, .val (.ref t1)] [])) _
      exact X37.returnOut hx Bd.returns (hb hby d3_57) hr
    · show Q_rm_sv1 Z _ _ _ _ _ h0 n0 _ T37.heap _
      rw [e37]
      exact ⟨rfl, N37, K37, (((E1.keep Kq34).wr W36).wr W37), (0 : Int32), t1, kt1, (1 : Int32), [(c0.toInt8.toInt32)], (Fld.other W37 Fw36 (Or.inr (slot_ne (Or.inr (own_w hw 31 rfl)) (Or.inr (own_w hw 33 rfl)) (by decide) (t := .byte) (t' := (.array .byte)) (by decide) (by decide)))), Fw37, ((Vt34.other W36 (Ne.symm ne_t1)).other W37 (Ne.symm ne_t1)), Or.inl ⟨rfl, rfl, rfl, by simp [k0]⟩⟩
  · obtain ⟨_, _, ⟨T38, L38, k38, n38⟩, -, X38, ⟨Lc38, hQ38, l38, y38, z38⟩, st38⟩ := Jvm.LawKit.callS X32 hx (y := (⟨"java/lang/StringUTF16", "compress", "([CII)[B"⟩ : MethodName)) hown (mvT hZ (own_w hw 19 rfl)) (mvT hZ (own_w hw 20 rfl)) (mvT hZ (own_w hw 21 rfl)) (mvT hZ (own_w hw 22 rfl)) (by decide) (backOf (W := 0) (rm_cc1_0 l Z a0 hw [] u2 kc c0 h0 n0 Z0 X00 O5 O6 O7 q0 V1 k0) hZ (own_w hw 22 rfl) (own_w hw 21 rfl) (by decide) (by decide)) (g := (mkF m 36 #[.val (.ref u1), .val (.ref u2), .val (.int (0 : Int32)), .val (.int (1 : Int32)), .val .null, .unset] [(.int (1 : Int32)), (.int (0 : Int32)), (.ref u2)])) rfl (by rw [hml]; rfl) (argsL := [(.ref u2), (.int (0 : Int32)), (.int (1 : Int32))]) (rest := []) (lenOf pd_479214 rfl) rfl (by show 2 * 0 + _ ≤ _; exact Nat.le_of_eq rfl) (hb hby d3_36) (fun _ _ => ⟨rfl, e32, (by decide : 0 + 2 ≤ _), (by decide : 0 + 3 ≤ _)⟩)
    dsimp only [Pt.U, Pt.locs, Pt.cells, Pt.slots] at X38 l38 y38 z38 st38 hQ38
    replace y38 : k38 = 2 := y38
    replace z38 : n38 = 3 := z38
    subst y38 z38
    obtain ⟨t1, kt1, rfl, Nq38, Kq38, gt1, Vt38⟩ := hQ38
    have N38 : Fr n0 L38 := by rw [l38]; exact Fr.app N0 Nq38
    have Z38 : n0 ≤ T38.heap.size := Nat.le_trans Z0 Kq38.1
    have K38 : Keep h0 T38.heap [u1] := K0.trans Kq38 all0
    have ne_t1 : u1 ≠ t1 := Nat.ne_of_lt (Nat.lt_of_lt_of_le E1.lt gt1)
    obtain ⟨_, _, ⟨T39, L39, k39, n39⟩, -, X39, ⟨Lc39, hQ39, l39, y39, z39⟩, st39⟩ := Jvm.LawKit.callS X38 hx (y := (⟨"java/lang/StringUTF16", "coderFromArrayLen", "([BI)B"⟩ : MethodName)) hown (mvT hZ (own_w hw 27 rfl)) (mvT hZ (own_w hw 28 rfl)) (mvT hZ (own_w hw 21 rfl)) (mvT hZ (own_w hw 29 rfl)) (by decide) (backOf (W := 1) (rm_cfl l Z a0 hw [] t1 (1 : Int32) kt1 (2 : Int32) [(.int ((c0 >>> ((0 : Int32) &&& 31)).toInt8.toInt32)), (.int ((c0 >>> ((8 : Int32) &&& 31)).toInt8.toInt32))] T38.heap n0 Z38 Vt38) hZ (own_w hw 29 rfl) (own_w hw 21 rfl) (by decide) (by decide)) (g := (mkF m 45 #[.val (.ref u1), .val (.ref u2), .val (.int (0 : Int32)), .val (.int (1 : Int32)), .val .null, .val (.ref t1)] [(.int (1 : Int32)), (.ref t1), (.ref u1)])) rfl (by rw [hml]; rfl) (argsL := [(.ref t1), (.int (1 : Int32))]) (rest := [(.ref u1)]) (lenOf pd_675 rfl) rfl (by show 2 * 0 + _ ≤ _; exact Nat.le_of_eq rfl) (hb hby d3_45) (fun _ _ => ⟨rfl, rfl, (by decide : 2 + 0 ≤ _), (by decide : 3 + 0 ≤ _)⟩)
    dsimp only [Pt.U, Pt.locs, Pt.cells, Pt.slots] at X39 l39 y39 z39 st39 hQ39
    replace y39 : k39 = 2 := y39
    replace z39 : n39 = 3 := z39
    subst y39 z39
    obtain ⟨rfl, Nq39, eq39⟩ := hQ39
    have N39 : Fr n0 L39 := by rw [l39]; exact Fr.app N38 Nq39
    obtain ⟨T40, h40, X40, e40, W40, st40⟩ := putFN X39 hx hZ hown (own_w hw 30 rfl) Via.refl eq39 (F2.keep Kq38 nin0) (E1.keep Kq38) (Or.inr ⟨(own_w hw 31 rfl), rfl, hnm⟩) (own_w hw 6 rfl) (ty := .byte) (v' := (.int (1 : Int32))) (by decide) rfl (by decide) (g := (mkF m 48 #[.val (.ref u1), .val (.ref u2), .val (.int (0 : Int32)), .val (.int (1 : Int32)), .val .null, .val (.ref t1)] [(.int (1 : Int32)), (.ref u1)])) rfl rfl (hb hby d3_48)
    have Fw40 := Fld.same W40 (F2.keep Kq38 nin0)
    have N40 := Fr.snoc X40 N39 g1
    have Z40 : n0 ≤ h40.size := Nat.le_trans Z38 (Keep.of_wr W40).1
    have K40 : Keep h0 h40 [u1] := Keep.wr K38 W40 (Or.inl (List.mem_of_getElem? (i := 0) rfl))
    obtain ⟨T41, h41, X41, e41, W41, st41⟩ := putF X40 hx hZ hown (host := "") (Or.inl (own_w hw 32 rfl)) Via.refl e40 (Fld.other W40 (F1.keep Kq38 nin0) (Or.inr (slot_ne (Or.inr (own_w hw 33 rfl)) (Or.inr (own_w hw 31 rfl)) (by decide) (t := (.array .byte)) (t' := .byte) (by decide) (by decide)))) ((E1.keep Kq38).wr W40) (Or.inr ⟨(own_w hw 33 rfl), rfl, hnm⟩) (own_w hw 6 rfl) (ty := (.array .byte)) (by decide) rfl rfl (g := (mkF m 54 #[.val (.ref u1), .val (.ref u2), .val (.int (0 : Int32)), .val (.int (1 : Int32)), .val .null, .val (.ref t1)] [(.ref t1), (.ref u1)])) rfl rfl (hb hby d3_54)
    have Fw41 := Fld.same W41 (Fld.other W40 (F1.keep Kq38 nin0) (Or.inr (slot_ne (Or.inr (own_w hw 33 rfl)) (Or.inr (own_w hw 31 rfl)) (by decide) (t := (.array .byte)) (t' := .byte) (by decide) (by decide))))
    have N41 := Fr.snoc X41 N40 g1
    have Z41 : n0 ≤ h41.size := Nat.le_trans Z40 (Keep.of_wr W41).1
    have K41 : Keep h0 h41 [u1] := Keep.wr K40 W41 (Or.inl (List.mem_of_getElem? (i := 0) rfl))
    obtain ⟨fs, hr, hrun, hended, hW, hsame⟩ := X41.leave (v := none) (fun _ => rfl)
    refine ⟨_, _, pre33 _ ?_, hrun, hended, _, _, rfl, ?_, ⟨_, rfl⟩, hW, hsame.mono (by decide) (by decide)⟩
    · show Steps p.tables e below (T32.setTop (mkF m 36 #[.val (.ref u1), .val (.ref u2), .val (.int (0 : Int32)), .val (.int (1 : Int32)), .val .null, .unset] [(.int (1 : Int32)), (.int (0 : Int32)), (.ref u2)])) _
      refine st38 _ ?_
      refine XS.astore X38.here hx rfl (hb hby d3_39) rfl rfl (l' := #[.val (.ref u1), .val (.ref u2), .val (.int (0 : Int32)), .val (.int (1 : Int32)), .val .null, .val (.ref t1)]) rfl ?_
      refine XS.aloadN X38.here hx rfl (hb hby d3_41) rfl rfl ?_
      refine XS.aload X38.here hx rfl (hb hby d3_42) rfl rfl ?_
      refine XS.iloadN X38.here hx rfl (hb hby d3_44) rfl ?_
      refine st39 _ ?_
      refine st40 _ ?_
      show Steps p.tables e below (T40.setTop (mkF m 51 #[.val (.ref u1), .val (.ref u2), .val (.int (0 : Int32)), .val (.int (1 : Int32)), .val .null, .val (.ref t1)] [])) _
      refine XS.aloadN X40.here hx rfl (hb hby d3_51) rfl rfl ?_
      refine XS.aload X40.here hx rfl (hb hby d3_52) rfl rfl ?_
      refine st41 _ ?_
      show Steps p.tables e below (T41.setTop (mkF m 57 #[.val (.ref u1), .val (.ref u2), .val (.int (0 : Int32)), .val (.int (1 : Int32)), .val .null, .val (.ref t1)] [])) _
      exact X41.returnOut hx Bd.returns (hb hby d3_57) hr
    · show Q_rm_sv1 Z _ _ _ _ _ h0 n0 _ T41.heap _
      rw [e41]
      exact ⟨rfl, N41, K41, (((E1.keep Kq38).wr W40).wr W41), (1 : Int32), t1, kt1, (2 : Int32), [((c0 >>> ((0 : Int32) &&& 31)).toInt8.toInt32), ((c0 >>> ((8 : Int32) &&& 31)).toInt8.toInt32)], (Fld.other W41 Fw40 (Or.inr (slot_ne (Or.inr (own_w hw 31 rfl)) (Or.inr (own_w hw 33 rfl)) (by decide) (t := .byte) (t' := (.array .byte)) (by decide) (by decide)))), Fw41, ((Vt38.other W40 (Ne.symm ne_t1)).other W41 (Ne.symm ne_t1)), Or.inr ⟨rfl, rfl, rfl⟩⟩
theorem d2_0 : decode jdk_42_method_3_code 0 = .ok (.aload_n 0, 1) := by decide +kernel
theorem d2_1 : decode jdk_42_method_3_code 1 = .ok (.aload_n 1, 1) := by decide +kernel
theorem d2_2 : decode jdk_42_method_3_code 2 = .ok (.iconst 0, 1) := by decide +kernel
theorem d2_3 : decode jdk_42_method_3_code 3 = .ok (.aload_n 1, 1) := by decide +kernel
theorem d2_4 : decode jdk_42_method_3_code 4 = .ok (.arraylength, 1) := by decide +kernel
theorem d2_5 : decode jdk_42_method_3_code 5 = .ok (.aconst_null, 1) := by decide +kernel
theorem d2_6 : decode jdk_42_method_3_code 6 = .ok (.invokespecial 27, 3) := by decide +kernel
theorem pd_335774 : parseMethodDescriptor "([CIILjava/lang/Void;)V" = some ⟨[(.array .char), .int, .int, (.object "java/lang/Void")], none⟩ := by decide +kernel
theorem d2_9 : decode jdk_42_method_3_code 9 = .ok (.return_, 1) := by decide +kernel
theorem ef_rm_s1 (m : MethodId) (x0 : Addr) (x1 : Addr) : entryFrame m #[(.ref x0), (.ref x1)] 2 = mkF m 0 #[.val (.ref x0), .val (.ref x1)] [] := by first | (simp [entryFrame, mkF, argsToLocals, Value.category]; done) | rfl
def Q_rm_s1 (Z : State) (u1 : Addr) (u2 : Addr) (zc : Int32) (kc : ClassId) (c0 : Int32) (h0 : Heap) (n0 : Nat) (v : Option Value) (h : Heap) (L : List Loc) : Prop := v = none ∧ Fr n0 L ∧ Keep h0 h [u1] ∧ own_str Z h u1 [c0]
set_option maxRecDepth 65536 in
set_option maxHeartbeats 40000000 in
theorem rm_s1 (l : Launch) (Z : State) (a0 : Array Value) (hw : ∀ d ∈ tables_1, d.before a0 Z = true) (ws : List Jvm.Cond) (u1 : Addr) (u2 : Addr) (zc : Int32) (kc : ClassId) (c0 : Int32) (h0 : Heap) (n0 : Nat) (Z0 : n0 ≤ h0.size) (X00 : Old Z Z.heap.size h0) (O5 : Sta Z Z.heap "java/lang/StringUTF16" "$assertionsDisabled" "Z" (.int (1 : Int32))) (O6 : Sta Z Z.heap "java/lang/StringUTF16" "HI_BYTE_SHIFT" "I" (.int (0 : Int32))) (O7 : Sta Z Z.heap "java/lang/StringUTF16" "LO_BYTE_SHIFT" "I" (.int (8 : Int32))) (q0 : ¬ c0 < 0 ∧ ¬ (65535 : Int32) < c0) (O2 : Sta Z Z.heap "java/lang/String" "COMPACT_STRINGS" "Z" (.int zc)) (hz : ¬ zc = 0) (F1 : Fld Z h0 u1 "java/lang/String" "value" "[B" .null) (F2 : Fld Z h0 u1 "java/lang/String" "coder" "B" (.int (0 : Int32))) (E1 : Exa Z h0 u1 "java/lang/String") (g1 : n0 ≤ u1) (V1 : Arv Z h0 u2 kc .char (1 : Int32) [(.int c0)] (.int (0 : Int32))) (hne : u1 ≠ u2) :
    MetFree l (⟨"java/lang/String", "<init>", "([C)V"⟩ : MethodName) (head1 (Jvm.Cond.code (⟨"java/lang/String", "<init>", "([C)V"⟩ : MethodName) jdk_42_method_3_code 2 none :: ws) ({ frames := 5, cells := 2, slots := 3, locals := 74 } : Room)) (fun a U => a = #[(.ref u1), (.ref u2)] ∧ Z.Warmed39 U.vm ∧ U.heap = h0) (fun _ _ _ _ _ => True) (fun _ U o U' => ∃ v L, o = .returned v ∧ Q_rm_s1 Z u1 u2 zc kc c0 h0 n0 v U'.heap L ∧ FrameEnd U o U' L ({ frames := 5, cells := 2, slots := 3, locals := 74 } : Room).cells ({ frames := 5, cells := 2, slots := 3, locals := 74 } : Room).slots) := by
  refine MetFree.of_bodySF (plainFor_of_name pn_453642) hisR ?_
  intro p e s m args below meth c s₁ Bd hml0 hP hK
  obtain ⟨rfl, hZ, hh⟩ := hP
  have hx := Bd.exec
  have hby := Bd.bytes
  have hml : c.maxLocals = 2 := hml0
  have hown : s.vm.findClass "java/lang/String" = some m.cls := findClass_of_methodNamed Bd.named
  have hnm := (name_of_methodNamed Bd.named Bd.method).1
  have X0 : Stand p l e ({ frames := 5, cells := 2, slots := 3, locals := 74 } : Room) s m #[(.ref u1), (.ref u2)] below meth c s₁ [] 0 0 := Stand.of_body Bd
  have e0 : s₁.heap = h0 := by rw [← hh, Bd.state]; rfl
  have N0 := Fr.nil n0
  have K0 : Keep h0 h0 [u1] := Keep.refl _ _
  have pre0 : ∀ t, Steps p.tables e below (s₁.setTop (mkF m 0 #[.val (.ref u1), .val (.ref u2)] [])) t → Steps p.tables e below (s₁.setTop (entryFrame m #[(.ref u1), (.ref u2)] 2)) t := fun t k => castTop (ef_rm_s1 m u1 u2) k
  obtain ⟨cl, Ar, -, Sz, Mz, -, -⟩ := id V1
  obtain ⟨_, _, ⟨T31, L31, k31, n31⟩, -, X31, ⟨Lc31, hQ31, l31, y31, z31⟩, st31⟩ := X0.specialBack hx (y := (⟨"java/lang/String", "<init>", "([CIILjava/lang/Void;)V"⟩ : MethodName)) rfl hown (mvT hZ (own_w hw 11 rfl)) (mvT hZ (own_w hw 12 rfl)) (mvT hZ (own_w hw 14 rfl)) (by decide) (backOf (W := 0) (rm_sv1 l Z a0 hw [] u1 u2 zc kc c0 h0 n0 Z0 X00 O5 O6 O7 q0 O2 hz F1 F2 E1 g1 V1 hne) hZ (own_w hw 14 rfl) (own_w hw 7 rfl) (by decide) (by decide)) (g := (mkF m 6 #[.val (.ref u1), .val (.ref u2)] [.null, (.int (1 : Int32)), (.int (0 : Int32)), (.ref u2), (.ref u1)])) rfl (by rw [hml]; rfl) (Steps.refl _) (a := u1) (argsL := [(.ref u2), (.int (0 : Int32)), (.int (1 : Int32)), .null]) (rest := []) (lenOf pd_335774 rfl) rfl (by show 2 * 0 + _ ≤ _; exact Nat.le_of_eq rfl) (hb hby d2_6) (fun _ _ => ⟨rfl, e0, (by decide : 0 + 2 ≤ _), (by decide : 0 + 3 ≤ _)⟩)
  dsimp only [Pt.U, Pt.locs, Pt.cells, Pt.slots] at X31 l31 y31 z31 st31 hQ31
  replace y31 : k31 = 2 := y31
  replace z31 : n31 = 3 := z31
  subst y31 z31
  obtain ⟨rfl, Nq31, Kq31, hs31⟩ := hQ31
  have N31 : Fr n0 L31 := by rw [l31]; exact Fr.app N0 Nq31
  have Z31 : n0 ≤ T31.heap.size := Nat.le_trans Z0 Kq31.1
  have K31 : Keep h0 T31.heap [u1] := K0.trans Kq31 (allS (Or.inl (List.mem_of_getElem? (i := 0) rfl)) all0)
  obtain ⟨fs, hr, hrun, hended, hW, hsame⟩ := X31.leave (v := none) (fun _ => rfl)
  refine ⟨_, _, pre0 _ ?_, hrun, hended, _, _, rfl, ?_, ⟨_, rfl⟩, hW, hsame.mono (by decide) (by decide)⟩
  · show Steps p.tables e below (s₁.setTop (mkF m 0 #[.val (.ref u1), .val (.ref u2)] [])) _
    refine XS.aloadN X0.here hx rfl (hb hby d2_0) rfl rfl ?_
    refine XS.aloadN X0.here hx rfl (hb hby d2_1) rfl rfl ?_
    refine XS.iconst X0.here hx rfl (hb hby d2_2) ?_
    refine XS.aloadN X0.here hx rfl (hb hby d2_3) rfl rfl ?_
    refine X0.arraylength hx (by rw [e0]; exact Ar.1) (State.isArrayOf_alike hZ.alike Ar.2.1) (g := (mkF m 4 #[.val (.ref u1), .val (.ref u2)] [(.ref u2), (.int (0 : Int32)), (.ref u2), (.ref u1)])) rfl rfl (hb hby d2_4) _ ?_
    rw [len_of Sz Mz]
    refine XS.aconstNull X0.here hx rfl (hb hby d2_5) ?_
    refine st31.trans ?_
    show Steps p.tables e below (T31.setTop (mkF m 9 #[.val (.ref u1), .val (.ref u2)] [])) _
    exact X31.returnOut hx Bd.returns (hb hby d2_9) hr
  · show Q_rm_s1 Z _ _ _ _ _ h0 n0 _ T31.heap _
    exact ⟨rfl, N31, K31, hs31⟩
theorem own_cls2 (c0 c1 : Int32) : (if_icmp.holds .le c0 (255 : Int32) = true ∧ if_icmp.holds .le c1 (255 : Int32) = true) ∨ (if_icmp.holds .le c0 (255 : Int32) = false) ∨ (if_icmp.holds .le c0 (255 : Int32) = true ∧ if_icmp.holds .le c1 (255 : Int32) = false) := by
  cases if_icmp.holds .le c0 (255 : Int32) <;> cases if_icmp.holds .le c1 (255 : Int32) <;> simp
theorem ef_rm_sv2 (m : MethodId) (x0 : Addr) (x1 : Addr) (x2 : Int32) (x3 : Int32) : entryFrame m #[(.ref x0), (.ref x1), (.int x2), (.int x3), .null] 6 = mkF m 0 #[.val (.ref x0), .val (.ref x1), .val (.int x2), .val (.int x3), .val .null, .unset] [] := by first | (simp [entryFrame, mkF, argsToLocals, Value.category]; done) | rfl
def Q_rm_sv2 (Z : State) (u1 : Addr) (u2 : Addr) (zc : Int32) (kc : ClassId) (c0 : Int32) (c1 : Int32) (h0 : Heap) (n0 : Nat) (v : Option Value) (h : Heap) (L : List Loc) : Prop := v = none ∧ Fr n0 L ∧ Keep h0 h [u1] ∧ own_str Z h u1 [c0, c1]
set_option maxRecDepth 65536 in
set_option maxHeartbeats 40000000 in
theorem rm_sv2 (l : Launch) (Z : State) (a0 : Array Value) (hw : ∀ d ∈ tables_1, d.before a0 Z = true) (ws : List Jvm.Cond) (u1 : Addr) (u2 : Addr) (zc : Int32) (kc : ClassId) (c0 : Int32) (c1 : Int32) (h0 : Heap) (n0 : Nat) (Z0 : n0 ≤ h0.size) (X00 : Old Z Z.heap.size h0) (O5 : Sta Z Z.heap "java/lang/StringUTF16" "$assertionsDisabled" "Z" (.int (1 : Int32))) (O6 : Sta Z Z.heap "java/lang/StringUTF16" "HI_BYTE_SHIFT" "I" (.int (0 : Int32))) (O7 : Sta Z Z.heap "java/lang/StringUTF16" "LO_BYTE_SHIFT" "I" (.int (8 : Int32))) (q0 : ¬ c0 < 0 ∧ ¬ (65535 : Int32) < c0) (q1 : ¬ c1 < 0 ∧ ¬ (65535 : Int32) < c1) (O2 : Sta Z Z.heap "java/lang/String" "COMPACT_STRINGS" "Z" (.int zc)) (hz : ¬ zc = 0) (F1 : Fld Z h0 u1 "java/lang/String" "value" "[B" .null) (F2 : Fld Z h0 u1 "java/lang/String" "coder" "B" (.int (0 : Int32))) (E1 : Exa Z h0 u1 "java/lang/String") (g1 : n0 ≤ u1) (V1 : Arv Z h0 u2 kc .char (2 : Int32) [(.int c0), (.int c1)] (.int (0 : Int32))) (hne : u1 ≠ u2) :
    MetFree l (⟨"java/lang/String", "<init>", "([CIILjava/lang/Void;)V"⟩ : MethodName) (head1 (Jvm.Cond.code (⟨"java/lang/String", "<init>", "([CIILjava/lang/Void;)V"⟩ : MethodName) jdk_42_method_149_code 6 none :: ws) ({ frames := 4, cells := 2, slots := 6, locals := 57 } : Room)) (fun a U => a = #[(.ref u1), (.ref u2), (.int (0 : Int32)), (.int (2 : Int32)), .null] ∧ Z.Warmed39 U.vm ∧ U.heap = h0) (fun _ _ _ _ _ => True) (fun _ U o U' => ∃ v L, o = .returned v ∧ Q_rm_sv2 Z u1 u2 zc kc c0 c1 h0 n0 v U'.heap L ∧ FrameEnd U o U' L ({ frames := 4, cells := 2, slots := 6, locals := 57 } : Room).cells ({ frames := 4, cells := 2, slots := 6, locals := 57 } : Room).slots) := by
  refine MetFree.of_bodySF (plainFor_of_name pn_453642) hisR ?_
  intro p e s m args below meth c s₁ Bd hml0 hP hK
  obtain ⟨rfl, hZ, hh⟩ := hP
  have hx := Bd.exec
  have hby := Bd.bytes
  have hml : c.maxLocals = 6 := hml0
  have hown : s.vm.findClass "java/lang/String" = some m.cls := findClass_of_methodNamed Bd.named
  have hnm := (name_of_methodNamed Bd.named Bd.method).1
  have X0 : Stand p l e ({ frames := 4, cells := 2, slots := 6, locals := 57 } : Room) s m #[(.ref u1), (.ref u2), (.int (0 : Int32)), (.int (2 : Int32)), .null] below meth c s₁ [] 0 0 := Stand.of_body Bd
  have e0 : s₁.heap = h0 := by rw [← hh, Bd.state]; rfl
  have N0 := Fr.nil n0
  have K0 : Keep h0 h0 [u1] := Keep.refl _ _
  have pre0 : ∀ t, Steps p.tables e below (s₁.setTop (mkF m 0 #[.val (.ref u1), .val (.ref u2), .val (.int (0 : Int32)), .val (.int (2 : Int32)), .val .null, .unset] [])) t → Steps p.tables e below (s₁.setTop (entryFrame m #[(.ref u1), (.ref u2), (.int (0 : Int32)), (.int (2 : Int32)), .null] 6)) t := fun t k => castTop (ef_rm_sv2 m u1 u2 (0 : Int32) (2 : Int32)) k
  obtain ⟨T31, X31, e31, st31⟩ := initO X0 hx hZ hown (own_w hw 15 rfl) (own_w hw 16 rfl) (own_w hw 17 rfl) e0 (g := (mkF m 1 #[.val (.ref u1), .val (.ref u2), .val (.int (0 : Int32)), .val (.int (2 : Int32)), .val .null, .unset] [(.ref u1)])) rfl (by rw [hml]; rfl) rfl (hb hby d3_1) (by decide) (W := 0) (by show 2 * 0 + _ ≤ _; exact Nat.le_of_eq rfl) (by decide)
  obtain ⟨T32, X32, e32, st32⟩ := getS2 X31 hx hZ hown (host := "") (Or.inl (own_w hw 18 rfl)) Via.refl e31 (O2.ext X00.2) (g := (mkF m 27 #[.val (.ref u1), .val (.ref u2), .val (.int (0 : Int32)), .val (.int (2 : Int32)), .val .null, .unset] [])) rfl (hb hby d3_27)
  have pre33 : ∀ t, Steps p.tables e below (T32.setTop (mkF m 36 #[.val (.ref u1), .val (.ref u2), .val (.int (0 : Int32)), .val (.int (2 : Int32)), .val .null, .unset] [(.int (2 : Int32)), (.int (0 : Int32)), (.ref u2)])) t → Steps p.tables e below (s₁.setTop (entryFrame m #[(.ref u1), (.ref u2), (.int (0 : Int32)), (.int (2 : Int32)), .null] 6)) t := by
    intro t k
    refine pre0 t ?_
    show Steps p.tables e below (s₁.setTop (mkF m 0 #[.val (.ref u1), .val (.ref u2), .val (.int (0 : Int32)), .val (.int (2 : Int32)), .val .null, .unset] [])) _
    refine XS.aloadN X0.here hx rfl (hb hby d3_0) rfl rfl ?_
    refine st31 _ ?_
    refine XS.iloadN X31.here hx rfl (hb hby d3_4) rfl ?_
    refine XS.ifYes X31.here hx rfl (pc0 := 5) (pc' := 27) rfl (hb hby d3_5) rfl (by decide) (by decide) (by decide) ?_
    refine st32 _ ?_
    refine XS.ifNo X32.here hx rfl (hb hby d3_30) rfl (own_nz hz) ?_
    refine XS.aloadN X32.here hx rfl (hb hby d3_33) rfl rfl ?_
    refine XS.iloadN X32.here hx rfl (hb hby d3_34) rfl ?_
    show Steps p.tables e below (T32.setTop (mkF m 35 #[.val (.ref u1), .val (.ref u2), .val (.int (0 : Int32)), .val (.int (2 : Int32)), .val .null, .unset] [(.int (0 : Int32)), (.ref u2)])) _
    refine XS.iloadN X32.here hx rfl (hb hby d3_35) rfl ?_
    exact k
  rcases own_cls2 c0 c1 with ⟨k0, k1⟩ | k0 | ⟨k0, k1⟩
  · obtain ⟨_, _, ⟨T34, L34, k34, n34⟩, -, X34, ⟨Lc34, hQ34, l34, y34, z34⟩, st34⟩ := Jvm.LawKit.callS X32 hx (y := (⟨"java/lang/StringUTF16", "compress", "([CII)[B"⟩ : MethodName)) hown (mvT hZ (own_w hw 19 rfl)) (mvT hZ (own_w hw 20 rfl)) (mvT hZ (own_w hw 21 rfl)) (mvT hZ (own_w hw 22 rfl)) (by decide) (backOf (W := 0) (rm_cc2 l Z a0 hw [] u2 kc c0 c1 h0 n0 Z0  V1 k0 k1) hZ (own_w hw 22 rfl) (own_w hw 21 rfl) (by decide) (by decide)) (g := (mkF m 36 #[.val (.ref u1), .val (.ref u2), .val (.int (0 : Int32)), .val (.int (2 : Int32)), .val .null, .unset] [(.int (2 : Int32)), (.int (0 : Int32)), (.ref u2)])) rfl (by rw [hml]; rfl) (argsL := [(.ref u2), (.int (0 : Int32)), (.int (2 : Int32))]) (rest := []) (lenOf pd_479214 rfl) rfl (by show 2 * 0 + _ ≤ _; exact Nat.le_of_eq rfl) (hb hby d3_36) (fun _ _ => ⟨rfl, e32, (by decide : 0 + 1 ≤ _), (by decide : 0 + 2 ≤ _)⟩)
    dsimp only [Pt.U, Pt.locs, Pt.cells, Pt.slots] at X34 l34 y34 z34 st34 hQ34
    replace y34 : k34 = 1 := y34
    replace z34 : n34 = 2 := z34
    subst y34 z34
    obtain ⟨t1, kt1, rfl, Nq34, Kq34, gt1, Vt34⟩ := hQ34
    have N34 : Fr n0 L34 := by rw [l34]; exact Fr.app N0 Nq34
    have Z34 : n0 ≤ T34.heap.size := Nat.le_trans Z0 Kq34.1
    have K34 : Keep h0 T34.heap [u1] := K0.trans Kq34 all0
    have ne_t1 : u1 ≠ t1 := Nat.ne_of_lt (Nat.lt_of_lt_of_le E1.lt gt1)
    obtain ⟨_, _, ⟨T35, L35, k35, n35⟩, -, X35, ⟨Lc35, hQ35, l35, y35, z35⟩, st35⟩ := Jvm.LawKit.callS X34 hx (y := (⟨"java/lang/StringUTF16", "coderFromArrayLen", "([BI)B"⟩ : MethodName)) hown (mvT hZ (own_w hw 27 rfl)) (mvT hZ (own_w hw 28 rfl)) (mvT hZ (own_w hw 21 rfl)) (mvT hZ (own_w hw 29 rfl)) (by decide) (backOf (W := 1) (rm_cfl l Z a0 hw [] t1 (2 : Int32) kt1 (2 : Int32) [(.int (c0.toInt8.toInt32)), (.int (c1.toInt8.toInt32))] T34.heap n0 Z34 Vt34) hZ (own_w hw 29 rfl) (own_w hw 21 rfl) (by decide) (by decide)) (g := (mkF m 45 #[.val (.ref u1), .val (.ref u2), .val (.int (0 : Int32)), .val (.int (2 : Int32)), .val .null, .val (.ref t1)] [(.int (2 : Int32)), (.ref t1), (.ref u1)])) rfl (by rw [hml]; rfl) (argsL := [(.ref t1), (.int (2 : Int32))]) (rest := [(.ref u1)]) (lenOf pd_675 rfl) rfl (by show 2 * 0 + _ ≤ _; exact Nat.le_of_eq rfl) (hb hby d3_45) (fun _ _ => ⟨rfl, rfl, (by decide : 1 + 0 ≤ _), (by decide : 2 + 0 ≤ _)⟩)
    dsimp only [Pt.U, Pt.locs, Pt.cells, Pt.slots] at X35 l35 y35 z35 st35 hQ35
    replace y35 : k35 = 1 := y35
    replace z35 : n35 = 2 := z35
    subst y35 z35
    obtain ⟨rfl, Nq35, eq35⟩ := hQ35
    have N35 : Fr n0 L35 := by rw [l35]; exact Fr.app N34 Nq35
    obtain ⟨T36, h36, X36, e36, W36, st36⟩ := putFN X35 hx hZ hown (own_w hw 30 rfl) Via.refl eq35 (F2.keep Kq34 nin0) (E1.keep Kq34) (Or.inr ⟨(own_w hw 31 rfl), rfl, hnm⟩) (own_w hw 6 rfl) (ty := .byte) (v' := (.int (0 : Int32))) (by decide) rfl (by decide) (g := (mkF m 48 #[.val (.ref u1), .val (.ref u2), .val (.int (0 : Int32)), .val (.int (2 : Int32)), .val .null, .val (.ref t1)] [(.int (0 : Int32)), (.ref u1)])) rfl rfl (hb hby d3_48)
    have Fw36 := Fld.same W36 (F2.keep Kq34 nin0)
    have N36 := Fr.snoc X36 N35 g1
    have Z36 : n0 ≤ h36.size := Nat.le_trans Z34 (Keep.of_wr W36).1
    have K36 : Keep h0 h36 [u1] := Keep.wr K34 W36 (Or.inl (List.mem_of_getElem? (i := 0) rfl))
    obtain ⟨T37, h37, X37, e37, W37, st37⟩ := putF X36 hx hZ hown (host := "") (Or.inl (own_w hw 32 rfl)) Via.refl e36 (Fld.other W36 (F1.keep Kq34 nin0) (Or.inr (slot_ne (Or.inr (own_w hw 33 rfl)) (Or.inr (own_w hw 31 rfl)) (by decide) (t := (.array .byte)) (t' := .byte) (by decide) (by decide)))) ((E1.keep Kq34).wr W36) (Or.inr ⟨(own_w hw 33 rfl), rfl, hnm⟩) (own_w hw 6 rfl) (ty := (.array .byte)) (by decide) rfl rfl (g := (mkF m 54 #[.val (.ref u1), .val (.ref u2), .val (.int (0 : Int32)), .val (.int (2 : Int32)), .val .null, .val (.ref t1)] [(.ref t1), (.ref u1)])) rfl rfl (hb hby d3_54)
    have Fw37 := Fld.same W37 (Fld.other W36 (F1.keep Kq34 nin0) (Or.inr (slot_ne (Or.inr (own_w hw 33 rfl)) (Or.inr (own_w hw 31 rfl)) (by decide) (t := (.array .byte)) (t' := .byte) (by decide) (by decide))))
    have N37 := Fr.snoc X37 N36 g1
    have Z37 : n0 ≤ h37.size := Nat.le_trans Z36 (Keep.of_wr W37).1
    have K37 : Keep h0 h37 [u1] := Keep.wr K36 W37 (Or.inl (List.mem_of_getElem? (i := 0) rfl))
    obtain ⟨fs, hr, hrun, hended, hW, hsame⟩ := X37.leave (v := none) (fun _ => rfl)
    refine ⟨_, _, pre33 _ ?_, hrun, hended, _, _, rfl, ?_, ⟨_, rfl⟩, hW, hsame.mono (by decide) (by decide)⟩
    · show Steps p.tables e below (T32.setTop (mkF m 36 #[.val (.ref u1), .val (.ref u2), .val (.int (0 : Int32)), .val (.int (2 : Int32)), .val .null, .unset] [(.int (2 : Int32)), (.int (0 : Int32)), (.ref u2)])) _
      refine st34 _ ?_
      refine XS.astore X34.here hx rfl (hb hby d3_39) rfl rfl (l' := #[.val (.ref u1), .val (.ref u2), .val (.int (0 : Int32)), .val (.int (2 : Int32)), .val .null, .val (.ref t1)]) rfl ?_
      refine XS.aloadN X34.here hx rfl (hb hby d3_41) rfl rfl ?_
      refine XS.aload X34.here hx rfl (hb hby d3_42) rfl rfl ?_
      refine XS.iloadN X34.here hx rfl (hb hby d3_44) rfl ?_
      refine st35 _ ?_
      refine st36 _ ?_
      show Steps p.tables e below (T36.setTop (mkF m 51 #[.val (.ref u1), .val (.ref u2), .val (.int (0 : Int32)), .val (.int (2 : Int32)), .val .null, .val (.ref t1)] [])) _
      refine XS.aloadN X36.here hx rfl (hb hby d3_51) rfl rfl ?_
      refine XS.aload X36.here hx rfl (hb hby d3_52) rfl rfl ?_
      refine st37 _ ?_
      show Steps p.tables e below (T37.setTop (mkF m 57 #[.val (.ref u1), .val (.ref u2), .val (.int (0 : Int32)), .val (.int (2 : Int32)), .val .null, .val (.ref t1)] [])) _
      exact X37.returnOut hx Bd.returns (hb hby d3_57) hr
    · show Q_rm_sv2 Z _ _ _ _ _ _ h0 n0 _ T37.heap _
      rw [e37]
      exact ⟨rfl, N37, K37, (((E1.keep Kq34).wr W36).wr W37), (0 : Int32), t1, kt1, (2 : Int32), [(c0.toInt8.toInt32), (c1.toInt8.toInt32)], (Fld.other W37 Fw36 (Or.inr (slot_ne (Or.inr (own_w hw 31 rfl)) (Or.inr (own_w hw 33 rfl)) (by decide) (t := .byte) (t' := (.array .byte)) (by decide) (by decide)))), Fw37, ((Vt34.other W36 (Ne.symm ne_t1)).other W37 (Ne.symm ne_t1)), Or.inl ⟨rfl, rfl, rfl, by simp [k0, k1]⟩⟩
  · obtain ⟨_, _, ⟨T38, L38, k38, n38⟩, -, X38, ⟨Lc38, hQ38, l38, y38, z38⟩, st38⟩ := Jvm.LawKit.callS X32 hx (y := (⟨"java/lang/StringUTF16", "compress", "([CII)[B"⟩ : MethodName)) hown (mvT hZ (own_w hw 19 rfl)) (mvT hZ (own_w hw 20 rfl)) (mvT hZ (own_w hw 21 rfl)) (mvT hZ (own_w hw 22 rfl)) (by decide) (backOf (W := 0) (rm_cc2_0 l Z a0 hw [] u2 kc c0 c1 h0 n0 Z0 X00 O5 O6 O7 q0 q1 V1 k0) hZ (own_w hw 22 rfl) (own_w hw 21 rfl) (by decide) (by decide)) (g := (mkF m 36 #[.val (.ref u1), .val (.ref u2), .val (.int (0 : Int32)), .val (.int (2 : Int32)), .val .null, .unset] [(.int (2 : Int32)), (.int (0 : Int32)), (.ref u2)])) rfl (by rw [hml]; rfl) (argsL := [(.ref u2), (.int (0 : Int32)), (.int (2 : Int32))]) (rest := []) (lenOf pd_479214 rfl) rfl (by show 2 * 0 + _ ≤ _; exact Nat.le_of_eq rfl) (hb hby d3_36) (fun _ _ => ⟨rfl, e32, (by decide : 0 + 2 ≤ _), (by decide : 0 + 6 ≤ _)⟩)
    dsimp only [Pt.U, Pt.locs, Pt.cells, Pt.slots] at X38 l38 y38 z38 st38 hQ38
    replace y38 : k38 = 2 := y38
    replace z38 : n38 = 6 := z38
    subst y38 z38
    obtain ⟨t1, kt1, rfl, Nq38, Kq38, gt1, Vt38⟩ := hQ38
    have N38 : Fr n0 L38 := by rw [l38]; exact Fr.app N0 Nq38
    have Z38 : n0 ≤ T38.heap.size := Nat.le_trans Z0 Kq38.1
    have K38 : Keep h0 T38.heap [u1] := K0.trans Kq38 all0
    have ne_t1 : u1 ≠ t1 := Nat.ne_of_lt (Nat.lt_of_lt_of_le E1.lt gt1)
    obtain ⟨_, _, ⟨T39, L39, k39, n39⟩, -, X39, ⟨Lc39, hQ39, l39, y39, z39⟩, st39⟩ := Jvm.LawKit.callS X38 hx (y := (⟨"java/lang/StringUTF16", "coderFromArrayLen", "([BI)B"⟩ : MethodName)) hown (mvT hZ (own_w hw 27 rfl)) (mvT hZ (own_w hw 28 rfl)) (mvT hZ (own_w hw 21 rfl)) (mvT hZ (own_w hw 29 rfl)) (by decide) (backOf (W := 1) (rm_cfl l Z a0 hw [] t1 (2 : Int32) kt1 (4 : Int32) [(.int ((c0 >>> ((0 : Int32) &&& 31)).toInt8.toInt32)), (.int ((c0 >>> ((8 : Int32) &&& 31)).toInt8.toInt32)), (.int ((c1 >>> ((0 : Int32) &&& 31)).toInt8.toInt32)), (.int ((c1 >>> ((8 : Int32) &&& 31)).toInt8.toInt32))] T38.heap n0 Z38 Vt38) hZ (own_w hw 29 rfl) (own_w hw 21 rfl) (by decide) (by decide)) (g := (mkF m 45 #[.val (.ref u1), .val (.ref u2), .val (.int (0 : Int32)), .val (.int (2 : Int32)), .val .null, .val (.ref t1)] [(.int (2 : Int32)), (.ref t1), (.ref u1)])) rfl (by rw [hml]; rfl) (argsL := [(.ref t1), (.int (2 : Int32))]) (rest := [(.ref u1)]) (lenOf pd_675 rfl) rfl (by show 2 * 0 + _ ≤ _; exact Nat.le_of_eq rfl) (hb hby d3_45) (fun _ _ => ⟨rfl, rfl, (by decide : 2 + 0 ≤ _), (by decide : 6 + 0 ≤ _)⟩)
    dsimp only [Pt.U, Pt.locs, Pt.cells, Pt.slots] at X39 l39 y39 z39 st39 hQ39
    replace y39 : k39 = 2 := y39
    replace z39 : n39 = 6 := z39
    subst y39 z39
    obtain ⟨rfl, Nq39, eq39⟩ := hQ39
    have N39 : Fr n0 L39 := by rw [l39]; exact Fr.app N38 Nq39
    obtain ⟨T40, h40, X40, e40, W40, st40⟩ := putFN X39 hx hZ hown (own_w hw 30 rfl) Via.refl eq39 (F2.keep Kq38 nin0) (E1.keep Kq38) (Or.inr ⟨(own_w hw 31 rfl), rfl, hnm⟩) (own_w hw 6 rfl) (ty := .byte) (v' := (.int (1 : Int32))) (by decide) rfl (by decide) (g := (mkF m 48 #[.val (.ref u1), .val (.ref u2), .val (.int (0 : Int32)), .val (.int (2 : Int32)), .val .null, .val (.ref t1)] [(.int (1 : Int32)), (.ref u1)])) rfl rfl (hb hby d3_48)
    have Fw40 := Fld.same W40 (F2.keep Kq38 nin0)
    have N40 := Fr.snoc X40 N39 g1
    have Z40 : n0 ≤ h40.size := Nat.le_trans Z38 (Keep.of_wr W40).1
    have K40 : Keep h0 h40 [u1] := Keep.wr K38 W40 (Or.inl (List.mem_of_getElem? (i := 0) rfl))
    obtain ⟨T41, h41, X41, e41, W41, st41⟩ := putF X40 hx hZ hown (host := "") (Or.inl (own_w hw 32 rfl)) Via.refl e40 (Fld.other W40 (F1.keep Kq38 nin0) (Or.inr (slot_ne (Or.inr (own_w hw 33 rfl)) (Or.inr (own_w hw 31 rfl)) (by decide) (t := (.array .byte)) (t' := .byte) (by decide) (by decide)))) ((E1.keep Kq38).wr W40) (Or.inr ⟨(own_w hw 33 rfl), rfl, hnm⟩) (own_w hw 6 rfl) (ty := (.array .byte)) (by decide) rfl rfl (g := (mkF m 54 #[.val (.ref u1), .val (.ref u2), .val (.int (0 : Int32)), .val (.int (2 : Int32)), .val .null, .val (.ref t1)] [(.ref t1), (.ref u1)])) rfl rfl (hb hby d3_54)
    have Fw41 := Fld.same W41 (Fld.other W40 (F1.keep Kq38 nin0) (Or.inr (slot_ne (Or.inr (own_w hw 33 rfl)) (Or.inr (own_w hw 31 rfl)) (by decide) (t := (.array .byte)) (t' := .byte) (by decide) (by decide))))
    have N41 := Fr.snoc X41 N40 g1
    have Z41 : n0 ≤ h41.size := Nat.le_trans Z40 (Keep.of_wr W41).1
    have K41 : Keep h0 h41 [u1] := Keep.wr K40 W41 (Or.inl (List.mem_of_getElem? (i := 0) rfl))
    obtain ⟨fs, hr, hrun, hended, hW, hsame⟩ := X41.leave (v := none) (fun _ => rfl)
    refine ⟨_, _, pre33 _ ?_, hrun, hended, _, _, rfl, ?_, ⟨_, rfl⟩, hW, hsame.mono (by decide) (by decide)⟩
    · show Steps p.tables e below (T32.setTop (mkF m 36 #[.val (.ref u1), .val (.ref u2), .val (.int (0 : Int32)), .val (.int (2 : Int32)), .val .null, .unset] [(.int (2 : Int32)), (.int (0 : Int32)), (.ref u2)])) _
      refine st38 _ ?_
      refine XS.astore X38.here hx rfl (hb hby d3_39) rfl rfl (l' := #[.val (.ref u1), .val (.ref u2), .val (.int (0 : Int32)), .val (.int (2 : Int32)), .val .null, .val (.ref t1)]) rfl ?_
      refine XS.aloadN X38.here hx rfl (hb hby d3_41) rfl rfl ?_
      refine XS.aload X38.here hx rfl (hb hby d3_42) rfl rfl ?_
      refine XS.iloadN X38.here hx rfl (hb hby d3_44) rfl ?_
      refine st39 _ ?_
      refine st40 _ ?_
      show Steps p.tables e below (T40.setTop (mkF m 51 #[.val (.ref u1), .val (.ref u2), .val (.int (0 : Int32)), .val (.int (2 : Int32)), .val .null, .val (.ref t1)] [])) _
      refine XS.aloadN X40.here hx rfl (hb hby d3_51) rfl rfl ?_
      refine XS.aload X40.here hx rfl (hb hby d3_52) rfl rfl ?_
      refine st41 _ ?_
      show Steps p.tables e below (T41.setTop (mkF m 57 #[.val (.ref u1), .val (.ref u2), .val (.int (0 : Int32)), .val (.int (2 : Int32)), .val .null, .val (.ref t1)] [])) _
      exact X41.returnOut hx Bd.returns (hb hby d3_57) hr
    · show Q_rm_sv2 Z _ _ _ _ _ _ h0 n0 _ T41.heap _
      rw [e41]
      exact ⟨rfl, N41, K41, (((E1.keep Kq38).wr W40).wr W41), (1 : Int32), t1, kt1, (4 : Int32), [((c0 >>> ((0 : Int32) &&& 31)).toInt8.toInt32), ((c0 >>> ((8 : Int32) &&& 31)).toInt8.toInt32), ((c1 >>> ((0 : Int32) &&& 31)).toInt8.toInt32), ((c1 >>> ((8 : Int32) &&& 31)).toInt8.toInt32)], (Fld.other W41 Fw40 (Or.inr (slot_ne (Or.inr (own_w hw 31 rfl)) (Or.inr (own_w hw 33 rfl)) (by decide) (t := .byte) (t' := (.array .byte)) (by decide) (by decide)))), Fw41, ((Vt38.other W40 (Ne.symm ne_t1)).other W41 (Ne.symm ne_t1)), Or.inr ⟨rfl, rfl, rfl⟩⟩
  · obtain ⟨_, _, ⟨T42, L42, k42, n42⟩, -, X42, ⟨Lc42, hQ42, l42, y42, z42⟩, st42⟩ := Jvm.LawKit.callS X32 hx (y := (⟨"java/lang/StringUTF16", "compress", "([CII)[B"⟩ : MethodName)) hown (mvT hZ (own_w hw 19 rfl)) (mvT hZ (own_w hw 20 rfl)) (mvT hZ (own_w hw 21 rfl)) (mvT hZ (own_w hw 22 rfl)) (by decide) (backOf (W := 0) (rm_cc2_1 l Z a0 hw [] u2 kc c0 c1 h0 n0 Z0 X00 O5 O6 O7 q0 q1 V1 k0 k1) hZ (own_w hw 22 rfl) (own_w hw 21 rfl) (by decide) (by decide)) (g := (mkF m 36 #[.val (.ref u1), .val (.ref u2), .val (.int (0 : Int32)), .val (.int (2 : Int32)), .val .null, .unset] [(.int (2 : Int32)), (.int (0 : Int32)), (.ref u2)])) rfl (by rw [hml]; rfl) (argsL := [(.ref u2), (.int (0 : Int32)), (.int (2 : Int32))]) (rest := []) (lenOf pd_479214 rfl) rfl (by show 2 * 0 + _ ≤ _; exact Nat.le_of_eq rfl) (hb hby d3_36) (fun _ _ => ⟨rfl, e32, (by decide : 0 + 2 ≤ _), (by decide : 0 + 6 ≤ _)⟩)
    dsimp only [Pt.U, Pt.locs, Pt.cells, Pt.slots] at X42 l42 y42 z42 st42 hQ42
    replace y42 : k42 = 2 := y42
    replace z42 : n42 = 6 := z42
    subst y42 z42
    obtain ⟨t1, kt1, rfl, Nq42, Kq42, gt1, Vt42⟩ := hQ42
    have N42 : Fr n0 L42 := by rw [l42]; exact Fr.app N0 Nq42
    have Z42 : n0 ≤ T42.heap.size := Nat.le_trans Z0 Kq42.1
    have K42 : Keep h0 T42.heap [u1] := K0.trans Kq42 all0
    have ne_t1 : u1 ≠ t1 := Nat.ne_of_lt (Nat.lt_of_lt_of_le E1.lt gt1)
    obtain ⟨_, _, ⟨T43, L43, k43, n43⟩, -, X43, ⟨Lc43, hQ43, l43, y43, z43⟩, st43⟩ := Jvm.LawKit.callS X42 hx (y := (⟨"java/lang/StringUTF16", "coderFromArrayLen", "([BI)B"⟩ : MethodName)) hown (mvT hZ (own_w hw 27 rfl)) (mvT hZ (own_w hw 28 rfl)) (mvT hZ (own_w hw 21 rfl)) (mvT hZ (own_w hw 29 rfl)) (by decide) (backOf (W := 1) (rm_cfl l Z a0 hw [] t1 (2 : Int32) kt1 (4 : Int32) [(.int ((c0 >>> ((0 : Int32) &&& 31)).toInt8.toInt32)), (.int ((c0 >>> ((8 : Int32) &&& 31)).toInt8.toInt32)), (.int ((c1 >>> ((0 : Int32) &&& 31)).toInt8.toInt32)), (.int ((c1 >>> ((8 : Int32) &&& 31)).toInt8.toInt32))] T42.heap n0 Z42 Vt42) hZ (own_w hw 29 rfl) (own_w hw 21 rfl) (by decide) (by decide)) (g := (mkF m 45 #[.val (.ref u1), .val (.ref u2), .val (.int (0 : Int32)), .val (.int (2 : Int32)), .val .null, .val (.ref t1)] [(.int (2 : Int32)), (.ref t1), (.ref u1)])) rfl (by rw [hml]; rfl) (argsL := [(.ref t1), (.int (2 : Int32))]) (rest := [(.ref u1)]) (lenOf pd_675 rfl) rfl (by show 2 * 0 + _ ≤ _; exact Nat.le_of_eq rfl) (hb hby d3_45) (fun _ _ => ⟨rfl, rfl, (by decide : 2 + 0 ≤ _), (by decide : 6 + 0 ≤ _)⟩)
    dsimp only [Pt.U, Pt.locs, Pt.cells, Pt.slots] at X43 l43 y43 z43 st43 hQ43
    replace y43 : k43 = 2 := y43
    replace z43 : n43 = 6 := z43
    subst y43 z43
    obtain ⟨rfl, Nq43, eq43⟩ := hQ43
    have N43 : Fr n0 L43 := by rw [l43]; exact Fr.app N42 Nq43
    obtain ⟨T44, h44, X44, e44, W44, st44⟩ := putFN X43 hx hZ hown (own_w hw 30 rfl) Via.refl eq43 (F2.keep Kq42 nin0) (E1.keep Kq42) (Or.inr ⟨(own_w hw 31 rfl), rfl, hnm⟩) (own_w hw 6 rfl) (ty := .byte) (v' := (.int (1 : Int32))) (by decide) rfl (by decide) (g := (mkF m 48 #[.val (.ref u1), .val (.ref u2), .val (.int (0 : Int32)), .val (.int (2 : Int32)), .val .null, .val (.ref t1)] [(.int (1 : Int32)), (.ref u1)])) rfl rfl (hb hby d3_48)
    have Fw44 := Fld.same W44 (F2.keep Kq42 nin0)
    have N44 := Fr.snoc X44 N43 g1
    have Z44 : n0 ≤ h44.size := Nat.le_trans Z42 (Keep.of_wr W44).1
    have K44 : Keep h0 h44 [u1] := Keep.wr K42 W44 (Or.inl (List.mem_of_getElem? (i := 0) rfl))
    obtain ⟨T45, h45, X45, e45, W45, st45⟩ := putF X44 hx hZ hown (host := "") (Or.inl (own_w hw 32 rfl)) Via.refl e44 (Fld.other W44 (F1.keep Kq42 nin0) (Or.inr (slot_ne (Or.inr (own_w hw 33 rfl)) (Or.inr (own_w hw 31 rfl)) (by decide) (t := (.array .byte)) (t' := .byte) (by decide) (by decide)))) ((E1.keep Kq42).wr W44) (Or.inr ⟨(own_w hw 33 rfl), rfl, hnm⟩) (own_w hw 6 rfl) (ty := (.array .byte)) (by decide) rfl rfl (g := (mkF m 54 #[.val (.ref u1), .val (.ref u2), .val (.int (0 : Int32)), .val (.int (2 : Int32)), .val .null, .val (.ref t1)] [(.ref t1), (.ref u1)])) rfl rfl (hb hby d3_54)
    have Fw45 := Fld.same W45 (Fld.other W44 (F1.keep Kq42 nin0) (Or.inr (slot_ne (Or.inr (own_w hw 33 rfl)) (Or.inr (own_w hw 31 rfl)) (by decide) (t := (.array .byte)) (t' := .byte) (by decide) (by decide))))
    have N45 := Fr.snoc X45 N44 g1
    have Z45 : n0 ≤ h45.size := Nat.le_trans Z44 (Keep.of_wr W45).1
    have K45 : Keep h0 h45 [u1] := Keep.wr K44 W45 (Or.inl (List.mem_of_getElem? (i := 0) rfl))
    obtain ⟨fs, hr, hrun, hended, hW, hsame⟩ := X45.leave (v := none) (fun _ => rfl)
    refine ⟨_, _, pre33 _ ?_, hrun, hended, _, _, rfl, ?_, ⟨_, rfl⟩, hW, hsame.mono (by decide) (by decide)⟩
    · show Steps p.tables e below (T32.setTop (mkF m 36 #[.val (.ref u1), .val (.ref u2), .val (.int (0 : Int32)), .val (.int (2 : Int32)), .val .null, .unset] [(.int (2 : Int32)), (.int (0 : Int32)), (.ref u2)])) _
      refine st42 _ ?_
      refine XS.astore X42.here hx rfl (hb hby d3_39) rfl rfl (l' := #[.val (.ref u1), .val (.ref u2), .val (.int (0 : Int32)), .val (.int (2 : Int32)), .val .null, .val (.ref t1)]) rfl ?_
      refine XS.aloadN X42.here hx rfl (hb hby d3_41) rfl rfl ?_
      refine XS.aload X42.here hx rfl (hb hby d3_42) rfl rfl ?_
      refine XS.iloadN X42.here hx rfl (hb hby d3_44) rfl ?_
      refine st43 _ ?_
      refine st44 _ ?_
      show Steps p.tables e below (T44.setTop (mkF m 51 #[.val (.ref u1), .val (.ref u2), .val (.int (0 : Int32)), .val (.int (2 : Int32)), .val .null, .val (.ref t1)] [])) _
      refine XS.aloadN X44.here hx rfl (hb hby d3_51) rfl rfl ?_
      refine XS.aload X44.here hx rfl (hb hby d3_52) rfl rfl ?_
      refine st45 _ ?_
      show Steps p.tables e below (T45.setTop (mkF m 57 #[.val (.ref u1), .val (.ref u2), .val (.int (0 : Int32)), .val (.int (2 : Int32)), .val .null, .val (.ref t1)] [])) _
      exact X45.returnOut hx Bd.returns (hb hby d3_57) hr
    · show Q_rm_sv2 Z _ _ _ _ _ _ h0 n0 _ T45.heap _
      rw [e45]
      exact ⟨rfl, N45, K45, (((E1.keep Kq42).wr W44).wr W45), (1 : Int32), t1, kt1, (4 : Int32), [((c0 >>> ((0 : Int32) &&& 31)).toInt8.toInt32), ((c0 >>> ((8 : Int32) &&& 31)).toInt8.toInt32), ((c1 >>> ((0 : Int32) &&& 31)).toInt8.toInt32), ((c1 >>> ((8 : Int32) &&& 31)).toInt8.toInt32)], (Fld.other W45 Fw44 (Or.inr (slot_ne (Or.inr (own_w hw 31 rfl)) (Or.inr (own_w hw 33 rfl)) (by decide) (t := .byte) (t' := (.array .byte)) (by decide) (by decide)))), Fw45, ((Vt42.other W44 (Ne.symm ne_t1)).other W45 (Ne.symm ne_t1)), Or.inr ⟨rfl, rfl, rfl⟩⟩
theorem ef_rm_s2 (m : MethodId) (x0 : Addr) (x1 : Addr) : entryFrame m #[(.ref x0), (.ref x1)] 2 = mkF m 0 #[.val (.ref x0), .val (.ref x1)] [] := by first | (simp [entryFrame, mkF, argsToLocals, Value.category]; done) | rfl
def Q_rm_s2 (Z : State) (u1 : Addr) (u2 : Addr) (zc : Int32) (kc : ClassId) (c0 : Int32) (c1 : Int32) (h0 : Heap) (n0 : Nat) (v : Option Value) (h : Heap) (L : List Loc) : Prop := v = none ∧ Fr n0 L ∧ Keep h0 h [u1] ∧ own_str Z h u1 [c0, c1]
set_option maxRecDepth 65536 in
set_option maxHeartbeats 40000000 in
theorem rm_s2 (l : Launch) (Z : State) (a0 : Array Value) (hw : ∀ d ∈ tables_1, d.before a0 Z = true) (ws : List Jvm.Cond) (u1 : Addr) (u2 : Addr) (zc : Int32) (kc : ClassId) (c0 : Int32) (c1 : Int32) (h0 : Heap) (n0 : Nat) (Z0 : n0 ≤ h0.size) (X00 : Old Z Z.heap.size h0) (O5 : Sta Z Z.heap "java/lang/StringUTF16" "$assertionsDisabled" "Z" (.int (1 : Int32))) (O6 : Sta Z Z.heap "java/lang/StringUTF16" "HI_BYTE_SHIFT" "I" (.int (0 : Int32))) (O7 : Sta Z Z.heap "java/lang/StringUTF16" "LO_BYTE_SHIFT" "I" (.int (8 : Int32))) (q0 : ¬ c0 < 0 ∧ ¬ (65535 : Int32) < c0) (q1 : ¬ c1 < 0 ∧ ¬ (65535 : Int32) < c1) (O2 : Sta Z Z.heap "java/lang/String" "COMPACT_STRINGS" "Z" (.int zc)) (hz : ¬ zc = 0) (F1 : Fld Z h0 u1 "java/lang/String" "value" "[B" .null) (F2 : Fld Z h0 u1 "java/lang/String" "coder" "B" (.int (0 : Int32))) (E1 : Exa Z h0 u1 "java/lang/String") (g1 : n0 ≤ u1) (V1 : Arv Z h0 u2 kc .char (2 : Int32) [(.int c0), (.int c1)] (.int (0 : Int32))) (hne : u1 ≠ u2) :
    MetFree l (⟨"java/lang/String", "<init>", "([C)V"⟩ : MethodName) (head1 (Jvm.Cond.code (⟨"java/lang/String", "<init>", "([C)V"⟩ : MethodName) jdk_42_method_3_code 2 none :: ws) ({ frames := 5, cells := 2, slots := 6, locals := 74 } : Room)) (fun a U => a = #[(.ref u1), (.ref u2)] ∧ Z.Warmed39 U.vm ∧ U.heap = h0) (fun _ _ _ _ _ => True) (fun _ U o U' => ∃ v L, o = .returned v ∧ Q_rm_s2 Z u1 u2 zc kc c0 c1 h0 n0 v U'.heap L ∧ FrameEnd U o U' L ({ frames := 5, cells := 2, slots := 6, locals := 74 } : Room).cells ({ frames := 5, cells := 2, slots := 6, locals := 74 } : Room).slots) := by
  refine MetFree.of_bodySF (plainFor_of_name pn_453642) hisR ?_
  intro p e s m args below meth c s₁ Bd hml0 hP hK
  obtain ⟨rfl, hZ, hh⟩ := hP
  have hx := Bd.exec
  have hby := Bd.bytes
  have hml : c.maxLocals = 2 := hml0
  have hown : s.vm.findClass "java/lang/String" = some m.cls := findClass_of_methodNamed Bd.named
  have hnm := (name_of_methodNamed Bd.named Bd.method).1
  have X0 : Stand p l e ({ frames := 5, cells := 2, slots := 6, locals := 74 } : Room) s m #[(.ref u1), (.ref u2)] below meth c s₁ [] 0 0 := Stand.of_body Bd
  have e0 : s₁.heap = h0 := by rw [← hh, Bd.state]; rfl
  have N0 := Fr.nil n0
  have K0 : Keep h0 h0 [u1] := Keep.refl _ _
  have pre0 : ∀ t, Steps p.tables e below (s₁.setTop (mkF m 0 #[.val (.ref u1), .val (.ref u2)] [])) t → Steps p.tables e below (s₁.setTop (entryFrame m #[(.ref u1), (.ref u2)] 2)) t := fun t k => castTop (ef_rm_s2 m u1 u2) k
  obtain ⟨cl, Ar, -, Sz, Mz, -, -⟩ := id V1
  obtain ⟨_, _, ⟨T31, L31, k31, n31⟩, -, X31, ⟨Lc31, hQ31, l31, y31, z31⟩, st31⟩ := X0.specialBack hx (y := (⟨"java/lang/String", "<init>", "([CIILjava/lang/Void;)V"⟩ : MethodName)) rfl hown (mvT hZ (own_w hw 11 rfl)) (mvT hZ (own_w hw 12 rfl)) (mvT hZ (own_w hw 14 rfl)) (by decide) (backOf (W := 0) (rm_sv2 l Z a0 hw [] u1 u2 zc kc c0 c1 h0 n0 Z0 X00 O5 O6 O7 q0 q1 O2 hz F1 F2 E1 g1 V1 hne) hZ (own_w hw 14 rfl) (own_w hw 7 rfl) (by decide) (by decide)) (g := (mkF m 6 #[.val (.ref u1), .val (.ref u2)] [.null, (.int (2 : Int32)), (.int (0 : Int32)), (.ref u2), (.ref u1)])) rfl (by rw [hml]; rfl) (Steps.refl _) (a := u1) (argsL := [(.ref u2), (.int (0 : Int32)), (.int (2 : Int32)), .null]) (rest := []) (lenOf pd_335774 rfl) rfl (by show 2 * 0 + _ ≤ _; exact Nat.le_of_eq rfl) (hb hby d2_6) (fun _ _ => ⟨rfl, e0, (by decide : 0 + 2 ≤ _), (by decide : 0 + 6 ≤ _)⟩)
  dsimp only [Pt.U, Pt.locs, Pt.cells, Pt.slots] at X31 l31 y31 z31 st31 hQ31
  replace y31 : k31 = 2 := y31
  replace z31 : n31 = 6 := z31
  subst y31 z31
  obtain ⟨rfl, Nq31, Kq31, hs31⟩ := hQ31
  have N31 : Fr n0 L31 := by rw [l31]; exact Fr.app N0 Nq31
  have Z31 : n0 ≤ T31.heap.size := Nat.le_trans Z0 Kq31.1
  have K31 : Keep h0 T31.heap [u1] := K0.trans Kq31 (allS (Or.inl (List.mem_of_getElem? (i := 0) rfl)) all0)
  obtain ⟨fs, hr, hrun, hended, hW, hsame⟩ := X31.leave (v := none) (fun _ => rfl)
  refine ⟨_, _, pre0 _ ?_, hrun, hended, _, _, rfl, ?_, ⟨_, rfl⟩, hW, hsame.mono (by decide) (by decide)⟩
  · show Steps p.tables e below (s₁.setTop (mkF m 0 #[.val (.ref u1), .val (.ref u2)] [])) _
    refine XS.aloadN X0.here hx rfl (hb hby d2_0) rfl rfl ?_
    refine XS.aloadN X0.here hx rfl (hb hby d2_1) rfl rfl ?_
    refine XS.iconst X0.here hx rfl (hb hby d2_2) ?_
    refine XS.aloadN X0.here hx rfl (hb hby d2_3) rfl rfl ?_
    refine X0.arraylength hx (by rw [e0]; exact Ar.1) (State.isArrayOf_alike hZ.alike Ar.2.1) (g := (mkF m 4 #[.val (.ref u1), .val (.ref u2)] [(.ref u2), (.int (0 : Int32)), (.ref u2), (.ref u1)])) rfl rfl (hb hby d2_4) _ ?_
    rw [len_of Sz Mz]
    refine XS.aconstNull X0.here hx rfl (hb hby d2_5) ?_
    refine st31.trans ?_
    show Steps p.tables e below (T31.setTop (mkF m 9 #[.val (.ref u1), .val (.ref u2)] [])) _
    exact X31.returnOut hx Bd.returns (hb hby d2_9) hr
  · show Q_rm_s2 Z _ _ _ _ _ _ h0 n0 _ T31.heap _
    exact ⟨rfl, N31, K31, hs31⟩
theorem own_cls3 (c0 c1 c2 : Int32) : (if_icmp.holds .le c0 (255 : Int32) = true ∧ if_icmp.holds .le c1 (255 : Int32) = true ∧ if_icmp.holds .le c2 (255 : Int32) = true) ∨ (if_icmp.holds .le c0 (255 : Int32) = false) ∨ (if_icmp.holds .le c0 (255 : Int32) = true ∧ if_icmp.holds .le c1 (255 : Int32) = false) ∨ (if_icmp.holds .le c0 (255 : Int32) = true ∧ if_icmp.holds .le c1 (255 : Int32) = true ∧ if_icmp.holds .le c2 (255 : Int32) = false) := by
  cases if_icmp.holds .le c0 (255 : Int32) <;> cases if_icmp.holds .le c1 (255 : Int32) <;> cases if_icmp.holds .le c2 (255 : Int32) <;> simp
theorem ef_rm_sv3 (m : MethodId) (x0 : Addr) (x1 : Addr) (x2 : Int32) (x3 : Int32) : entryFrame m #[(.ref x0), (.ref x1), (.int x2), (.int x3), .null] 6 = mkF m 0 #[.val (.ref x0), .val (.ref x1), .val (.int x2), .val (.int x3), .val .null, .unset] [] := by first | (simp [entryFrame, mkF, argsToLocals, Value.category]; done) | rfl
def Q_rm_sv3 (Z : State) (u1 : Addr) (u2 : Addr) (zc : Int32) (kc : ClassId) (c0 : Int32) (c1 : Int32) (c2 : Int32) (h0 : Heap) (n0 : Nat) (v : Option Value) (h : Heap) (L : List Loc) : Prop := v = none ∧ Fr n0 L ∧ Keep h0 h [u1] ∧ own_str Z h u1 [c0, c1, c2]
set_option maxRecDepth 65536 in
set_option maxHeartbeats 40000000 in
theorem rm_sv3 (l : Launch) (Z : State) (a0 : Array Value) (hw : ∀ d ∈ tables_1, d.before a0 Z = true) (ws : List Jvm.Cond) (u1 : Addr) (u2 : Addr) (zc : Int32) (kc : ClassId) (c0 : Int32) (c1 : Int32) (c2 : Int32) (h0 : Heap) (n0 : Nat) (Z0 : n0 ≤ h0.size) (X00 : Old Z Z.heap.size h0) (O5 : Sta Z Z.heap "java/lang/StringUTF16" "$assertionsDisabled" "Z" (.int (1 : Int32))) (O6 : Sta Z Z.heap "java/lang/StringUTF16" "HI_BYTE_SHIFT" "I" (.int (0 : Int32))) (O7 : Sta Z Z.heap "java/lang/StringUTF16" "LO_BYTE_SHIFT" "I" (.int (8 : Int32))) (q0 : ¬ c0 < 0 ∧ ¬ (65535 : Int32) < c0) (q1 : ¬ c1 < 0 ∧ ¬ (65535 : Int32) < c1) (q2 : ¬ c2 < 0 ∧ ¬ (65535 : Int32) < c2) (O2 : Sta Z Z.heap "java/lang/String" "COMPACT_STRINGS" "Z" (.int zc)) (hz : ¬ zc = 0) (F1 : Fld Z h0 u1 "java/lang/String" "value" "[B" .null) (F2 : Fld Z h0 u1 "java/lang/String" "coder" "B" (.int (0 : Int32))) (E1 : Exa Z h0 u1 "java/lang/String") (g1 : n0 ≤ u1) (V1 : Arv Z h0 u2 kc .char (3 : Int32) [(.int c0), (.int c1), (.int c2)] (.int (0 : Int32))) (hne : u1 ≠ u2) :
    MetFree l (⟨"java/lang/String", "<init>", "([CIILjava/lang/Void;)V"⟩ : MethodName) (head1 (Jvm.Cond.code (⟨"java/lang/String", "<init>", "([CIILjava/lang/Void;)V"⟩ : MethodName) jdk_42_method_149_code 6 none :: ws) ({ frames := 4, cells := 2, slots := 9, locals := 57 } : Room)) (fun a U => a = #[(.ref u1), (.ref u2), (.int (0 : Int32)), (.int (3 : Int32)), .null] ∧ Z.Warmed39 U.vm ∧ U.heap = h0) (fun _ _ _ _ _ => True) (fun _ U o U' => ∃ v L, o = .returned v ∧ Q_rm_sv3 Z u1 u2 zc kc c0 c1 c2 h0 n0 v U'.heap L ∧ FrameEnd U o U' L ({ frames := 4, cells := 2, slots := 9, locals := 57 } : Room).cells ({ frames := 4, cells := 2, slots := 9, locals := 57 } : Room).slots) := by
  refine MetFree.of_bodySF (plainFor_of_name pn_453642) hisR ?_
  intro p e s m args below meth c s₁ Bd hml0 hP hK
  obtain ⟨rfl, hZ, hh⟩ := hP
  have hx := Bd.exec
  have hby := Bd.bytes
  have hml : c.maxLocals = 6 := hml0
  have hown : s.vm.findClass "java/lang/String" = some m.cls := findClass_of_methodNamed Bd.named
  have hnm := (name_of_methodNamed Bd.named Bd.method).1
  have X0 : Stand p l e ({ frames := 4, cells := 2, slots := 9, locals := 57 } : Room) s m #[(.ref u1), (.ref u2), (.int (0 : Int32)), (.int (3 : Int32)), .null] below meth c s₁ [] 0 0 := Stand.of_body Bd
  have e0 : s₁.heap = h0 := by rw [← hh, Bd.state]; rfl
  have N0 := Fr.nil n0
  have K0 : Keep h0 h0 [u1] := Keep.refl _ _
  have pre0 : ∀ t, Steps p.tables e below (s₁.setTop (mkF m 0 #[.val (.ref u1), .val (.ref u2), .val (.int (0 : Int32)), .val (.int (3 : Int32)), .val .null, .unset] [])) t → Steps p.tables e below (s₁.setTop (entryFrame m #[(.ref u1), (.ref u2), (.int (0 : Int32)), (.int (3 : Int32)), .null] 6)) t := fun t k => castTop (ef_rm_sv3 m u1 u2 (0 : Int32) (3 : Int32)) k
  obtain ⟨T31, X31, e31, st31⟩ := initO X0 hx hZ hown (own_w hw 15 rfl) (own_w hw 16 rfl) (own_w hw 17 rfl) e0 (g := (mkF m 1 #[.val (.ref u1), .val (.ref u2), .val (.int (0 : Int32)), .val (.int (3 : Int32)), .val .null, .unset] [(.ref u1)])) rfl (by rw [hml]; rfl) rfl (hb hby d3_1) (by decide) (W := 0) (by show 2 * 0 + _ ≤ _; exact Nat.le_of_eq rfl) (by decide)
  obtain ⟨T32, X32, e32, st32⟩ := getS2 X31 hx hZ hown (host := "") (Or.inl (own_w hw 18 rfl)) Via.refl e31 (O2.ext X00.2) (g := (mkF m 27 #[.val (.ref u1), .val (.ref u2), .val (.int (0 : Int32)), .val (.int (3 : Int32)), .val .null, .unset] [])) rfl (hb hby d3_27)
  have pre33 : ∀ t, Steps p.tables e below (T32.setTop (mkF m 36 #[.val (.ref u1), .val (.ref u2), .val (.int (0 : Int32)), .val (.int (3 : Int32)), .val .null, .unset] [(.int (3 : Int32)), (.int (0 : Int32)), (.ref u2)])) t → Steps p.tables e below (s₁.setTop (entryFrame m #[(.ref u1), (.ref u2), (.int (0 : Int32)), (.int (3 : Int32)), .null] 6)) t := by
    intro t k
    refine pre0 t ?_
    show Steps p.tables e below (s₁.setTop (mkF m 0 #[.val (.ref u1), .val (.ref u2), .val (.int (0 : Int32)), .val (.int (3 : Int32)), .val .null, .unset] [])) _
    refine XS.aloadN X0.here hx rfl (hb hby d3_0) rfl rfl ?_
    refine st31 _ ?_
    refine XS.iloadN X31.here hx rfl (hb hby d3_4) rfl ?_
    refine XS.ifYes X31.here hx rfl (pc0 := 5) (pc' := 27) rfl (hb hby d3_5) rfl (by decide) (by decide) (by decide) ?_
    refine st32 _ ?_
    refine XS.ifNo X32.here hx rfl (hb hby d3_30) rfl (own_nz hz) ?_
    refine XS.aloadN X32.here hx rfl (hb hby d3_33) rfl rfl ?_
    refine XS.iloadN X32.here hx rfl (hb hby d3_34) rfl ?_
    show Steps p.tables e below (T32.setTop (mkF m 35 #[.val (.ref u1), .val (.ref u2), .val (.int (0 : Int32)), .val (.int (3 : Int32)), .val .null, .unset] [(.int (0 : Int32)), (.ref u2)])) _
    refine XS.iloadN X32.here hx rfl (hb hby d3_35) rfl ?_
    exact k
  rcases own_cls3 c0 c1 c2 with ⟨k0, k1, k2⟩ | k0 | ⟨k0, k1⟩ | ⟨k0, k1, k2⟩
  · obtain ⟨_, _, ⟨T34, L34, k34, n34⟩, -, X34, ⟨Lc34, hQ34, l34, y34, z34⟩, st34⟩ := Jvm.LawKit.callS X32 hx (y := (⟨"java/lang/StringUTF16", "compress", "([CII)[B"⟩ : MethodName)) hown (mvT hZ (own_w hw 19 rfl)) (mvT hZ (own_w hw 20 rfl)) (mvT hZ (own_w hw 21 rfl)) (mvT hZ (own_w hw 22 rfl)) (by decide) (backOf (W := 0) (rm_cc3 l Z a0 hw [] u2 kc c0 c1 c2 h0 n0 Z0  V1 k0 k1 k2) hZ (own_w hw 22 rfl) (own_w hw 21 rfl) (by decide) (by decide)) (g := (mkF m 36 #[.val (.ref u1), .val (.ref u2), .val (.int (0 : Int32)), .val (.int (3 : Int32)), .val .null, .unset] [(.int (3 : Int32)), (.int (0 : Int32)), (.ref u2)])) rfl (by rw [hml]; rfl) (argsL := [(.ref u2), (.int (0 : Int32)), (.int (3 : Int32))]) (rest := []) (lenOf pd_479214 rfl) rfl (by show 2 * 0 + _ ≤ _; exact Nat.le_of_eq rfl) (hb hby d3_36) (fun _ _ => ⟨rfl, e32, (by decide : 0 + 1 ≤ _), (by decide : 0 + 3 ≤ _)⟩)
    dsimp only [Pt.U, Pt.locs, Pt.cells, Pt.slots] at X34 l34 y34 z34 st34 hQ34
    replace y34 : k34 = 1 := y34
    replace z34 : n34 = 3 := z34
    subst y34 z34
    obtain ⟨t1, kt1, rfl, Nq34, Kq34, gt1, Vt34⟩ := hQ34
    have N34 : Fr n0 L34 := by rw [l34]; exact Fr.app N0 Nq34
    have Z34 : n0 ≤ T34.heap.size := Nat.le_trans Z0 Kq34.1
    have K34 : Keep h0 T34.heap [u1] := K0.trans Kq34 all0
    have ne_t1 : u1 ≠ t1 := Nat.ne_of_lt (Nat.lt_of_lt_of_le E1.lt gt1)
    obtain ⟨_, _, ⟨T35, L35, k35, n35⟩, -, X35, ⟨Lc35, hQ35, l35, y35, z35⟩, st35⟩ := Jvm.LawKit.callS X34 hx (y := (⟨"java/lang/StringUTF16", "coderFromArrayLen", "([BI)B"⟩ : MethodName)) hown (mvT hZ (own_w hw 27 rfl)) (mvT hZ (own_w hw 28 rfl)) (mvT hZ (own_w hw 21 rfl)) (mvT hZ (own_w hw 29 rfl)) (by decide) (backOf (W := 1) (rm_cfl l Z a0 hw [] t1 (3 : Int32) kt1 (3 : Int32) [(.int (c0.toInt8.toInt32)), (.int (c1.toInt8.toInt32)), (.int (c2.toInt8.toInt32))] T34.heap n0 Z34 Vt34) hZ (own_w hw 29 rfl) (own_w hw 21 rfl) (by decide) (by decide)) (g := (mkF m 45 #[.val (.ref u1), .val (.ref u2), .val (.int (0 : Int32)), .val (.int (3 : Int32)), .val .null, .val (.ref t1)] [(.int (3 : Int32)), (.ref t1), (.ref u1)])) rfl (by rw [hml]; rfl) (argsL := [(.ref t1), (.int (3 : Int32))]) (rest := [(.ref u1)]) (lenOf pd_675 rfl) rfl (by show 2 * 0 + _ ≤ _; exact Nat.le_of_eq rfl) (hb hby d3_45) (fun _ _ => ⟨rfl, rfl, (by decide : 1 + 0 ≤ _), (by decide : 3 + 0 ≤ _)⟩)
    dsimp only [Pt.U, Pt.locs, Pt.cells, Pt.slots] at X35 l35 y35 z35 st35 hQ35
    replace y35 : k35 = 1 := y35
    replace z35 : n35 = 3 := z35
    subst y35 z35
    obtain ⟨rfl, Nq35, eq35⟩ := hQ35
    have N35 : Fr n0 L35 := by rw [l35]; exact Fr.app N34 Nq35
    obtain ⟨T36, h36, X36, e36, W36, st36⟩ := putFN X35 hx hZ hown (own_w hw 30 rfl) Via.refl eq35 (F2.keep Kq34 nin0) (E1.keep Kq34) (Or.inr ⟨(own_w hw 31 rfl), rfl, hnm⟩) (own_w hw 6 rfl) (ty := .byte) (v' := (.int (0 : Int32))) (by decide) rfl (by decide) (g := (mkF m 48 #[.val (.ref u1), .val (.ref u2), .val (.int (0 : Int32)), .val (.int (3 : Int32)), .val .null, .val (.ref t1)] [(.int (0 : Int32)), (.ref u1)])) rfl rfl (hb hby d3_48)
    have Fw36 := Fld.same W36 (F2.keep Kq34 nin0)
    have N36 := Fr.snoc X36 N35 g1
    have Z36 : n0 ≤ h36.size := Nat.le_trans Z34 (Keep.of_wr W36).1
    have K36 : Keep h0 h36 [u1] := Keep.wr K34 W36 (Or.inl (List.mem_of_getElem? (i := 0) rfl))
    obtain ⟨T37, h37, X37, e37, W37, st37⟩ := putF X36 hx hZ hown (host := "") (Or.inl (own_w hw 32 rfl)) Via.refl e36 (Fld.other W36 (F1.keep Kq34 nin0) (Or.inr (slot_ne (Or.inr (own_w hw 33 rfl)) (Or.inr (own_w hw 31 rfl)) (by decide) (t := (.array .byte)) (t' := .byte) (by decide) (by decide)))) ((E1.keep Kq34).wr W36) (Or.inr ⟨(own_w hw 33 rfl), rfl, hnm⟩) (own_w hw 6 rfl) (ty := (.array .byte)) (by decide) rfl rfl (g := (mkF m 54 #[.val (.ref u1), .val (.ref u2), .val (.int (0 : Int32)), .val (.int (3 : Int32)), .val .null, .val (.ref t1)] [(.ref t1), (.ref u1)])) rfl rfl (hb hby d3_54)
    have Fw37 := Fld.same W37 (Fld.other W36 (F1.keep Kq34 nin0) (Or.inr (slot_ne (Or.inr (own_w hw 33 rfl)) (Or.inr (own_w hw 31 rfl)) (by decide) (t := (.array .byte)) (t' := .byte) (by decide) (by decide))))
    have N37 := Fr.snoc X37 N36 g1
    have Z37 : n0 ≤ h37.size := Nat.le_trans Z36 (Keep.of_wr W37).1
    have K37 : Keep h0 h37 [u1] := Keep.wr K36 W37 (Or.inl (List.mem_of_getElem? (i := 0) rfl))
    obtain ⟨fs, hr, hrun, hended, hW, hsame⟩ := X37.leave (v := none) (fun _ => rfl)
    refine ⟨_, _, pre33 _ ?_, hrun, hended, _, _, rfl, ?_, ⟨_, rfl⟩, hW, hsame.mono (by decide) (by decide)⟩
    · show Steps p.tables e below (T32.setTop (mkF m 36 #[.val (.ref u1), .val (.ref u2), .val (.int (0 : Int32)), .val (.int (3 : Int32)), .val .null, .unset] [(.int (3 : Int32)), (.int (0 : Int32)), (.ref u2)])) _
      refine st34 _ ?_
      refine XS.astore X34.here hx rfl (hb hby d3_39) rfl rfl (l' := #[.val (.ref u1), .val (.ref u2), .val (.int (0 : Int32)), .val (.int (3 : Int32)), .val .null, .val (.ref t1)]) rfl ?_
      refine XS.aloadN X34.here hx rfl (hb hby d3_41) rfl rfl ?_
      refine XS.aload X34.here hx rfl (hb hby d3_42) rfl rfl ?_
      refine XS.iloadN X34.here hx rfl (hb hby d3_44) rfl ?_
      refine st35 _ ?_
      refine st36 _ ?_
      show Steps p.tables e below (T36.setTop (mkF m 51 #[.val (.ref u1), .val (.ref u2), .val (.int (0 : Int32)), .val (.int (3 : Int32)), .val .null, .val (.ref t1)] [])) _
      refine XS.aloadN X36.here hx rfl (hb hby d3_51) rfl rfl ?_
      refine XS.aload X36.here hx rfl (hb hby d3_52) rfl rfl ?_
      refine st37 _ ?_
      show Steps p.tables e below (T37.setTop (mkF m 57 #[.val (.ref u1), .val (.ref u2), .val (.int (0 : Int32)), .val (.int (3 : Int32)), .val .null, .val (.ref t1)] [])) _
      exact X37.returnOut hx Bd.returns (hb hby d3_57) hr
    · show Q_rm_sv3 Z _ _ _ _ _ _ _ h0 n0 _ T37.heap _
      rw [e37]
      exact ⟨rfl, N37, K37, (((E1.keep Kq34).wr W36).wr W37), (0 : Int32), t1, kt1, (3 : Int32), [(c0.toInt8.toInt32), (c1.toInt8.toInt32), (c2.toInt8.toInt32)], (Fld.other W37 Fw36 (Or.inr (slot_ne (Or.inr (own_w hw 31 rfl)) (Or.inr (own_w hw 33 rfl)) (by decide) (t := .byte) (t' := (.array .byte)) (by decide) (by decide)))), Fw37, ((Vt34.other W36 (Ne.symm ne_t1)).other W37 (Ne.symm ne_t1)), Or.inl ⟨rfl, rfl, rfl, by simp [k0, k1, k2]⟩⟩
  · obtain ⟨_, _, ⟨T38, L38, k38, n38⟩, -, X38, ⟨Lc38, hQ38, l38, y38, z38⟩, st38⟩ := Jvm.LawKit.callS X32 hx (y := (⟨"java/lang/StringUTF16", "compress", "([CII)[B"⟩ : MethodName)) hown (mvT hZ (own_w hw 19 rfl)) (mvT hZ (own_w hw 20 rfl)) (mvT hZ (own_w hw 21 rfl)) (mvT hZ (own_w hw 22 rfl)) (by decide) (backOf (W := 0) (rm_cc3_0 l Z a0 hw [] u2 kc c0 c1 c2 h0 n0 Z0 X00 O5 O6 O7 q0 q1 q2 V1 k0) hZ (own_w hw 22 rfl) (own_w hw 21 rfl) (by decide) (by decide)) (g := (mkF m 36 #[.val (.ref u1), .val (.ref u2), .val (.int (0 : Int32)), .val (.int (3 : Int32)), .val .null, .unset] [(.int (3 : Int32)), (.int (0 : Int32)), (.ref u2)])) rfl (by rw [hml]; rfl) (argsL := [(.ref u2), (.int (0 : Int32)), (.int (3 : Int32))]) (rest := []) (lenOf pd_479214 rfl) rfl (by show 2 * 0 + _ ≤ _; exact Nat.le_of_eq rfl) (hb hby d3_36) (fun _ _ => ⟨rfl, e32, (by decide : 0 + 2 ≤ _), (by decide : 0 + 9 ≤ _)⟩)
    dsimp only [Pt.U, Pt.locs, Pt.cells, Pt.slots] at X38 l38 y38 z38 st38 hQ38
    replace y38 : k38 = 2 := y38
    replace z38 : n38 = 9 := z38
    subst y38 z38
    obtain ⟨t1, kt1, rfl, Nq38, Kq38, gt1, Vt38⟩ := hQ38
    have N38 : Fr n0 L38 := by rw [l38]; exact Fr.app N0 Nq38
    have Z38 : n0 ≤ T38.heap.size := Nat.le_trans Z0 Kq38.1
    have K38 : Keep h0 T38.heap [u1] := K0.trans Kq38 all0
    have ne_t1 : u1 ≠ t1 := Nat.ne_of_lt (Nat.lt_of_lt_of_le E1.lt gt1)
    obtain ⟨_, _, ⟨T39, L39, k39, n39⟩, -, X39, ⟨Lc39, hQ39, l39, y39, z39⟩, st39⟩ := Jvm.LawKit.callS X38 hx (y := (⟨"java/lang/StringUTF16", "coderFromArrayLen", "([BI)B"⟩ : MethodName)) hown (mvT hZ (own_w hw 27 rfl)) (mvT hZ (own_w hw 28 rfl)) (mvT hZ (own_w hw 21 rfl)) (mvT hZ (own_w hw 29 rfl)) (by decide) (backOf (W := 1) (rm_cfl l Z a0 hw [] t1 (3 : Int32) kt1 (6 : Int32) [(.int ((c0 >>> ((0 : Int32) &&& 31)).toInt8.toInt32)), (.int ((c0 >>> ((8 : Int32) &&& 31)).toInt8.toInt32)), (.int ((c1 >>> ((0 : Int32) &&& 31)).toInt8.toInt32)), (.int ((c1 >>> ((8 : Int32) &&& 31)).toInt8.toInt32)), (.int ((c2 >>> ((0 : Int32) &&& 31)).toInt8.toInt32)), (.int ((c2 >>> ((8 : Int32) &&& 31)).toInt8.toInt32))] T38.heap n0 Z38 Vt38) hZ (own_w hw 29 rfl) (own_w hw 21 rfl) (by decide) (by decide)) (g := (mkF m 45 #[.val (.ref u1), .val (.ref u2), .val (.int (0 : Int32)), .val (.int (3 : Int32)), .val .null, .val (.ref t1)] [(.int (3 : Int32)), (.ref t1), (.ref u1)])) rfl (by rw [hml]; rfl) (argsL := [(.ref t1), (.int (3 : Int32))]) (rest := [(.ref u1)]) (lenOf pd_675 rfl) rfl (by show 2 * 0 + _ ≤ _; exact Nat.le_of_eq rfl) (hb hby d3_45) (fun _ _ => ⟨rfl, rfl, (by decide : 2 + 0 ≤ _), (by decide : 9 + 0 ≤ _)⟩)
    dsimp only [Pt.U, Pt.locs, Pt.cells, Pt.slots] at X39 l39 y39 z39 st39 hQ39
    replace y39 : k39 = 2 := y39
    replace z39 : n39 = 9 := z39
    subst y39 z39
    obtain ⟨rfl, Nq39, eq39⟩ := hQ39
    have N39 : Fr n0 L39 := by rw [l39]; exact Fr.app N38 Nq39
    obtain ⟨T40, h40, X40, e40, W40, st40⟩ := putFN X39 hx hZ hown (own_w hw 30 rfl) Via.refl eq39 (F2.keep Kq38 nin0) (E1.keep Kq38) (Or.inr ⟨(own_w hw 31 rfl), rfl, hnm⟩) (own_w hw 6 rfl) (ty := .byte) (v' := (.int (1 : Int32))) (by decide) rfl (by decide) (g := (mkF m 48 #[.val (.ref u1), .val (.ref u2), .val (.int (0 : Int32)), .val (.int (3 : Int32)), .val .null, .val (.ref t1)] [(.int (1 : Int32)), (.ref u1)])) rfl rfl (hb hby d3_48)
    have Fw40 := Fld.same W40 (F2.keep Kq38 nin0)
    have N40 := Fr.snoc X40 N39 g1
    have Z40 : n0 ≤ h40.size := Nat.le_trans Z38 (Keep.of_wr W40).1
    have K40 : Keep h0 h40 [u1] := Keep.wr K38 W40 (Or.inl (List.mem_of_getElem? (i := 0) rfl))
    obtain ⟨T41, h41, X41, e41, W41, st41⟩ := putF X40 hx hZ hown (host := "") (Or.inl (own_w hw 32 rfl)) Via.refl e40 (Fld.other W40 (F1.keep Kq38 nin0) (Or.inr (slot_ne (Or.inr (own_w hw 33 rfl)) (Or.inr (own_w hw 31 rfl)) (by decide) (t := (.array .byte)) (t' := .byte) (by decide) (by decide)))) ((E1.keep Kq38).wr W40) (Or.inr ⟨(own_w hw 33 rfl), rfl, hnm⟩) (own_w hw 6 rfl) (ty := (.array .byte)) (by decide) rfl rfl (g := (mkF m 54 #[.val (.ref u1), .val (.ref u2), .val (.int (0 : Int32)), .val (.int (3 : Int32)), .val .null, .val (.ref t1)] [(.ref t1), (.ref u1)])) rfl rfl (hb hby d3_54)
    have Fw41 := Fld.same W41 (Fld.other W40 (F1.keep Kq38 nin0) (Or.inr (slot_ne (Or.inr (own_w hw 33 rfl)) (Or.inr (own_w hw 31 rfl)) (by decide) (t := (.array .byte)) (t' := .byte) (by decide) (by decide))))
    have N41 := Fr.snoc X41 N40 g1
    have Z41 : n0 ≤ h41.size := Nat.le_trans Z40 (Keep.of_wr W41).1
    have K41 : Keep h0 h41 [u1] := Keep.wr K40 W41 (Or.inl (List.mem_of_getElem? (i := 0) rfl))
    obtain ⟨fs, hr, hrun, hended, hW, hsame⟩ := X41.leave (v := none) (fun _ => rfl)
    refine ⟨_, _, pre33 _ ?_, hrun, hended, _, _, rfl, ?_, ⟨_, rfl⟩, hW, hsame.mono (by decide) (by decide)⟩
    · show Steps p.tables e below (T32.setTop (mkF m 36 #[.val (.ref u1), .val (.ref u2), .val (.int (0 : Int32)), .val (.int (3 : Int32)), .val .null, .unset] [(.int (3 : Int32)), (.int (0 : Int32)), (.ref u2)])) _
      refine st38 _ ?_
      refine XS.astore X38.here hx rfl (hb hby d3_39) rfl rfl (l' := #[.val (.ref u1), .val (.ref u2), .val (.int (0 : Int32)), .val (.int (3 : Int32)), .val .null, .val (.ref t1)]) rfl ?_
      refine XS.aloadN X38.here hx rfl (hb hby d3_41) rfl rfl ?_
      refine XS.aload X38.here hx rfl (hb hby d3_42) rfl rfl ?_
      refine XS.iloadN X38.here hx rfl (hb hby d3_44) rfl ?_
      refine st39 _ ?_
      refine st40 _ ?_
      show Steps p.tables e below (T40.setTop (mkF m 51 #[.val (.ref u1), .val (.ref u2), .val (.int (0 : Int32)), .val (.int (3 : Int32)), .val .null, .val (.ref t1)] [])) _
      refine XS.aloadN X40.here hx rfl (hb hby d3_51) rfl rfl ?_
      refine XS.aload X40.here hx rfl (hb hby d3_52) rfl rfl ?_
      refine st41 _ ?_
      show Steps p.tables e below (T41.setTop (mkF m 57 #[.val (.ref u1), .val (.ref u2), .val (.int (0 : Int32)), .val (.int (3 : Int32)), .val .null, .val (.ref t1)] [])) _
      exact X41.returnOut hx Bd.returns (hb hby d3_57) hr
    · show Q_rm_sv3 Z _ _ _ _ _ _ _ h0 n0 _ T41.heap _
      rw [e41]
      exact ⟨rfl, N41, K41, (((E1.keep Kq38).wr W40).wr W41), (1 : Int32), t1, kt1, (6 : Int32), [((c0 >>> ((0 : Int32) &&& 31)).toInt8.toInt32), ((c0 >>> ((8 : Int32) &&& 31)).toInt8.toInt32), ((c1 >>> ((0 : Int32) &&& 31)).toInt8.toInt32), ((c1 >>> ((8 : Int32) &&& 31)).toInt8.toInt32), ((c2 >>> ((0 : Int32) &&& 31)).toInt8.toInt32), ((c2 >>> ((8 : Int32) &&& 31)).toInt8.toInt32)], (Fld.other W41 Fw40 (Or.inr (slot_ne (Or.inr (own_w hw 31 rfl)) (Or.inr (own_w hw 33 rfl)) (by decide) (t := .byte) (t' := (.array .byte)) (by decide) (by decide)))), Fw41, ((Vt38.other W40 (Ne.symm ne_t1)).other W41 (Ne.symm ne_t1)), Or.inr ⟨rfl, rfl, rfl⟩⟩
  · obtain ⟨_, _, ⟨T42, L42, k42, n42⟩, -, X42, ⟨Lc42, hQ42, l42, y42, z42⟩, st42⟩ := Jvm.LawKit.callS X32 hx (y := (⟨"java/lang/StringUTF16", "compress", "([CII)[B"⟩ : MethodName)) hown (mvT hZ (own_w hw 19 rfl)) (mvT hZ (own_w hw 20 rfl)) (mvT hZ (own_w hw 21 rfl)) (mvT hZ (own_w hw 22 rfl)) (by decide) (backOf (W := 0) (rm_cc3_1 l Z a0 hw [] u2 kc c0 c1 c2 h0 n0 Z0 X00 O5 O6 O7 q0 q1 q2 V1 k0 k1) hZ (own_w hw 22 rfl) (own_w hw 21 rfl) (by decide) (by decide)) (g := (mkF m 36 #[.val (.ref u1), .val (.ref u2), .val (.int (0 : Int32)), .val (.int (3 : Int32)), .val .null, .unset] [(.int (3 : Int32)), (.int (0 : Int32)), (.ref u2)])) rfl (by rw [hml]; rfl) (argsL := [(.ref u2), (.int (0 : Int32)), (.int (3 : Int32))]) (rest := []) (lenOf pd_479214 rfl) rfl (by show 2 * 0 + _ ≤ _; exact Nat.le_of_eq rfl) (hb hby d3_36) (fun _ _ => ⟨rfl, e32, (by decide : 0 + 2 ≤ _), (by decide : 0 + 9 ≤ _)⟩)
    dsimp only [Pt.U, Pt.locs, Pt.cells, Pt.slots] at X42 l42 y42 z42 st42 hQ42
    replace y42 : k42 = 2 := y42
    replace z42 : n42 = 9 := z42
    subst y42 z42
    obtain ⟨t1, kt1, rfl, Nq42, Kq42, gt1, Vt42⟩ := hQ42
    have N42 : Fr n0 L42 := by rw [l42]; exact Fr.app N0 Nq42
    have Z42 : n0 ≤ T42.heap.size := Nat.le_trans Z0 Kq42.1
    have K42 : Keep h0 T42.heap [u1] := K0.trans Kq42 all0
    have ne_t1 : u1 ≠ t1 := Nat.ne_of_lt (Nat.lt_of_lt_of_le E1.lt gt1)
    obtain ⟨_, _, ⟨T43, L43, k43, n43⟩, -, X43, ⟨Lc43, hQ43, l43, y43, z43⟩, st43⟩ := Jvm.LawKit.callS X42 hx (y := (⟨"java/lang/StringUTF16", "coderFromArrayLen", "([BI)B"⟩ : MethodName)) hown (mvT hZ (own_w hw 27 rfl)) (mvT hZ (own_w hw 28 rfl)) (mvT hZ (own_w hw 21 rfl)) (mvT hZ (own_w hw 29 rfl)) (by decide) (backOf (W := 1) (rm_cfl l Z a0 hw [] t1 (3 : Int32) kt1 (6 : Int32) [(.int ((c0 >>> ((0 : Int32) &&& 31)).toInt8.toInt32)), (.int ((c0 >>> ((8 : Int32) &&& 31)).toInt8.toInt32)), (.int ((c1 >>> ((0 : Int32) &&& 31)).toInt8.toInt32)), (.int ((c1 >>> ((8 : Int32) &&& 31)).toInt8.toInt32)), (.int ((c2 >>> ((0 : Int32) &&& 31)).toInt8.toInt32)), (.int ((c2 >>> ((8 : Int32) &&& 31)).toInt8.toInt32))] T42.heap n0 Z42 Vt42) hZ (own_w hw 29 rfl) (own_w hw 21 rfl) (by decide) (by decide)) (g := (mkF m 45 #[.val (.ref u1), .val (.ref u2), .val (.int (0 : Int32)), .val (.int (3 : Int32)), .val .null, .val (.ref t1)] [(.int (3 : Int32)), (.ref t1), (.ref u1)])) rfl (by rw [hml]; rfl) (argsL := [(.ref t1), (.int (3 : Int32))]) (rest := [(.ref u1)]) (lenOf pd_675 rfl) rfl (by show 2 * 0 + _ ≤ _; exact Nat.le_of_eq rfl) (hb hby d3_45) (fun _ _ => ⟨rfl, rfl, (by decide : 2 + 0 ≤ _), (by decide : 9 + 0 ≤ _)⟩)
    dsimp only [Pt.U, Pt.locs, Pt.cells, Pt.slots] at X43 l43 y43 z43 st43 hQ43
    replace y43 : k43 = 2 := y43
    replace z43 : n43 = 9 := z43
    subst y43 z43
    obtain ⟨rfl, Nq43, eq43⟩ := hQ43
    have N43 : Fr n0 L43 := by rw [l43]; exact Fr.app N42 Nq43
    obtain ⟨T44, h44, X44, e44, W44, st44⟩ := putFN X43 hx hZ hown (own_w hw 30 rfl) Via.refl eq43 (F2.keep Kq42 nin0) (E1.keep Kq42) (Or.inr ⟨(own_w hw 31 rfl), rfl, hnm⟩) (own_w hw 6 rfl) (ty := .byte) (v' := (.int (1 : Int32))) (by decide) rfl (by decide) (g := (mkF m 48 #[.val (.ref u1), .val (.ref u2), .val (.int (0 : Int32)), .val (.int (3 : Int32)), .val .null, .val (.ref t1)] [(.int (1 : Int32)), (.ref u1)])) rfl rfl (hb hby d3_48)
    have Fw44 := Fld.same W44 (F2.keep Kq42 nin0)
    have N44 := Fr.snoc X44 N43 g1
    have Z44 : n0 ≤ h44.size := Nat.le_trans Z42 (Keep.of_wr W44).1
    have K44 : Keep h0 h44 [u1] := Keep.wr K42 W44 (Or.inl (List.mem_of_getElem? (i := 0) rfl))
    obtain ⟨T45, h45, X45, e45, W45, st45⟩ := putF X44 hx hZ hown (host := "") (Or.inl (own_w hw 32 rfl)) Via.refl e44 (Fld.other W44 (F1.keep Kq42 nin0) (Or.inr (slot_ne (Or.inr (own_w hw 33 rfl)) (Or.inr (own_w hw 31 rfl)) (by decide) (t := (.array .byte)) (t' := .byte) (by decide) (by decide)))) ((E1.keep Kq42).wr W44) (Or.inr ⟨(own_w hw 33 rfl), rfl, hnm⟩) (own_w hw 6 rfl) (ty := (.array .byte)) (by decide) rfl rfl (g := (mkF m 54 #[.val (.ref u1), .val (.ref u2), .val (.int (0 : Int32)), .val (.int (3 : Int32)), .val .null, .val (.ref t1)] [(.ref t1), (.ref u1)])) rfl rfl (hb hby d3_54)
    have Fw45 := Fld.same W45 (Fld.other W44 (F1.keep Kq42 nin0) (Or.inr (slot_ne (Or.inr (own_w hw 33 rfl)) (Or.inr (own_w hw 31 rfl)) (by decide) (t := (.array .byte)) (t' := .byte) (by decide) (by decide))))
    have N45 := Fr.snoc X45 N44 g1
    have Z45 : n0 ≤ h45.size := Nat.le_trans Z44 (Keep.of_wr W45).1
    have K45 : Keep h0 h45 [u1] := Keep.wr K44 W45 (Or.inl (List.mem_of_getElem? (i := 0) rfl))
    obtain ⟨fs, hr, hrun, hended, hW, hsame⟩ := X45.leave (v := none) (fun _ => rfl)
    refine ⟨_, _, pre33 _ ?_, hrun, hended, _, _, rfl, ?_, ⟨_, rfl⟩, hW, hsame.mono (by decide) (by decide)⟩
    · show Steps p.tables e below (T32.setTop (mkF m 36 #[.val (.ref u1), .val (.ref u2), .val (.int (0 : Int32)), .val (.int (3 : Int32)), .val .null, .unset] [(.int (3 : Int32)), (.int (0 : Int32)), (.ref u2)])) _
      refine st42 _ ?_
      refine XS.astore X42.here hx rfl (hb hby d3_39) rfl rfl (l' := #[.val (.ref u1), .val (.ref u2), .val (.int (0 : Int32)), .val (.int (3 : Int32)), .val .null, .val (.ref t1)]) rfl ?_
      refine XS.aloadN X42.here hx rfl (hb hby d3_41) rfl rfl ?_
      refine XS.aload X42.here hx rfl (hb hby d3_42) rfl rfl ?_
      refine XS.iloadN X42.here hx rfl (hb hby d3_44) rfl ?_
      refine st43 _ ?_
      refine st44 _ ?_
      show Steps p.tables e below (T44.setTop (mkF m 51 #[.val (.ref u1), .val (.ref u2), .val (.int (0 : Int32)), .val (.int (3 : Int32)), .val .null, .val (.ref t1)] [])) _
      refine XS.aloadN X44.here hx rfl (hb hby d3_51) rfl rfl ?_
      refine XS.aload X44.here hx rfl (hb hby d3_52) rfl rfl ?_
      refine st45 _ ?_
      show Steps p.tables e below (T45.setTop (mkF m 57 #[.val (.ref u1), .val (.ref u2), .val (.int (0 : Int32)), .val (.int (3 : Int32)), .val .null, .val (.ref t1)] [])) _
      exact X45.returnOut hx Bd.returns (hb hby d3_57) hr
    · show Q_rm_sv3 Z _ _ _ _ _ _ _ h0 n0 _ T45.heap _
      rw [e45]
      exact ⟨rfl, N45, K45, (((E1.keep Kq42).wr W44).wr W45), (1 : Int32), t1, kt1, (6 : Int32), [((c0 >>> ((0 : Int32) &&& 31)).toInt8.toInt32), ((c0 >>> ((8 : Int32) &&& 31)).toInt8.toInt32), ((c1 >>> ((0 : Int32) &&& 31)).toInt8.toInt32), ((c1 >>> ((8 : Int32) &&& 31)).toInt8.toInt32), ((c2 >>> ((0 : Int32) &&& 31)).toInt8.toInt32), ((c2 >>> ((8 : Int32) &&& 31)).toInt8.toInt32)], (Fld.other W45 Fw44 (Or.inr (slot_ne (Or.inr (own_w hw 31 rfl)) (Or.inr (own_w hw 33 rfl)) (by decide) (t := .byte) (t' := (.array .byte)) (by decide) (by decide)))), Fw45, ((Vt42.other W44 (Ne.symm ne_t1)).other W45 (Ne.symm ne_t1)), Or.inr ⟨rfl, rfl, rfl⟩⟩
  · obtain ⟨_, _, ⟨T46, L46, k46, n46⟩, -, X46, ⟨Lc46, hQ46, l46, y46, z46⟩, st46⟩ := Jvm.LawKit.callS X32 hx (y := (⟨"java/lang/StringUTF16", "compress", "([CII)[B"⟩ : MethodName)) hown (mvT hZ (own_w hw 19 rfl)) (mvT hZ (own_w hw 20 rfl)) (mvT hZ (own_w hw 21 rfl)) (mvT hZ (own_w hw 22 rfl)) (by decide) (backOf (W := 0) (rm_cc3_2 l Z a0 hw [] u2 kc c0 c1 c2 h0 n0 Z0 X00 O5 O6 O7 q0 q1 q2 V1 k0 k1 k2) hZ (own_w hw 22 rfl) (own_w hw 21 rfl) (by decide) (by decide)) (g := (mkF m 36 #[.val (.ref u1), .val (.ref u2), .val (.int (0 : Int32)), .val (.int (3 : Int32)), .val .null, .unset] [(.int (3 : Int32)), (.int (0 : Int32)), (.ref u2)])) rfl (by rw [hml]; rfl) (argsL := [(.ref u2), (.int (0 : Int32)), (.int (3 : Int32))]) (rest := []) (lenOf pd_479214 rfl) rfl (by show 2 * 0 + _ ≤ _; exact Nat.le_of_eq rfl) (hb hby d3_36) (fun _ _ => ⟨rfl, e32, (by decide : 0 + 2 ≤ _), (by decide : 0 + 9 ≤ _)⟩)
    dsimp only [Pt.U, Pt.locs, Pt.cells, Pt.slots] at X46 l46 y46 z46 st46 hQ46
    replace y46 : k46 = 2 := y46
    replace z46 : n46 = 9 := z46
    subst y46 z46
    obtain ⟨t1, kt1, rfl, Nq46, Kq46, gt1, Vt46⟩ := hQ46
    have N46 : Fr n0 L46 := by rw [l46]; exact Fr.app N0 Nq46
    have Z46 : n0 ≤ T46.heap.size := Nat.le_trans Z0 Kq46.1
    have K46 : Keep h0 T46.heap [u1] := K0.trans Kq46 all0
    have ne_t1 : u1 ≠ t1 := Nat.ne_of_lt (Nat.lt_of_lt_of_le E1.lt gt1)
    obtain ⟨_, _, ⟨T47, L47, k47, n47⟩, -, X47, ⟨Lc47, hQ47, l47, y47, z47⟩, st47⟩ := Jvm.LawKit.callS X46 hx (y := (⟨"java/lang/StringUTF16", "coderFromArrayLen", "([BI)B"⟩ : MethodName)) hown (mvT hZ (own_w hw 27 rfl)) (mvT hZ (own_w hw 28 rfl)) (mvT hZ (own_w hw 21 rfl)) (mvT hZ (own_w hw 29 rfl)) (by decide) (backOf (W := 1) (rm_cfl l Z a0 hw [] t1 (3 : Int32) kt1 (6 : Int32) [(.int ((c0 >>> ((0 : Int32) &&& 31)).toInt8.toInt32)), (.int ((c0 >>> ((8 : Int32) &&& 31)).toInt8.toInt32)), (.int ((c1 >>> ((0 : Int32) &&& 31)).toInt8.toInt32)), (.int ((c1 >>> ((8 : Int32) &&& 31)).toInt8.toInt32)), (.int ((c2 >>> ((0 : Int32) &&& 31)).toInt8.toInt32)), (.int ((c2 >>> ((8 : Int32) &&& 31)).toInt8.toInt32))] T46.heap n0 Z46 Vt46) hZ (own_w hw 29 rfl) (own_w hw 21 rfl) (by decide) (by decide)) (g := (mkF m 45 #[.val (.ref u1), .val (.ref u2), .val (.int (0 : Int32)), .val (.int (3 : Int32)), .val .null, .val (.ref t1)] [(.int (3 : Int32)), (.ref t1), (.ref u1)])) rfl (by rw [hml]; rfl) (argsL := [(.ref t1), (.int (3 : Int32))]) (rest := [(.ref u1)]) (lenOf pd_675 rfl) rfl (by show 2 * 0 + _ ≤ _; exact Nat.le_of_eq rfl) (hb hby d3_45) (fun _ _ => ⟨rfl, rfl, (by decide : 2 + 0 ≤ _), (by decide : 9 + 0 ≤ _)⟩)
    dsimp only [Pt.U, Pt.locs, Pt.cells, Pt.slots] at X47 l47 y47 z47 st47 hQ47
    replace y47 : k47 = 2 := y47
    replace z47 : n47 = 9 := z47
    subst y47 z47
    obtain ⟨rfl, Nq47, eq47⟩ := hQ47
    have N47 : Fr n0 L47 := by rw [l47]; exact Fr.app N46 Nq47
    obtain ⟨T48, h48, X48, e48, W48, st48⟩ := putFN X47 hx hZ hown (own_w hw 30 rfl) Via.refl eq47 (F2.keep Kq46 nin0) (E1.keep Kq46) (Or.inr ⟨(own_w hw 31 rfl), rfl, hnm⟩) (own_w hw 6 rfl) (ty := .byte) (v' := (.int (1 : Int32))) (by decide) rfl (by decide) (g := (mkF m 48 #[.val (.ref u1), .val (.ref u2), .val (.int (0 : Int32)), .val (.int (3 : Int32)), .val .null, .val (.ref t1)] [(.int (1 : Int32)), (.ref u1)])) rfl rfl (hb hby d3_48)
    have Fw48 := Fld.same W48 (F2.keep Kq46 nin0)
    have N48 := Fr.snoc X48 N47 g1
    have Z48 : n0 ≤ h48.size := Nat.le_trans Z46 (Keep.of_wr W48).1
    have K48 : Keep h0 h48 [u1] := Keep.wr K46 W48 (Or.inl (List.mem_of_getElem? (i := 0) rfl))
    obtain ⟨T49, h49, X49, e49, W49, st49⟩ := putF X48 hx hZ hown (host := "") (Or.inl (own_w hw 32 rfl)) Via.refl e48 (Fld.other W48 (F1.keep Kq46 nin0) (Or.inr (slot_ne (Or.inr (own_w hw 33 rfl)) (Or.inr (own_w hw 31 rfl)) (by decide) (t := (.array .byte)) (t' := .byte) (by decide) (by decide)))) ((E1.keep Kq46).wr W48) (Or.inr ⟨(own_w hw 33 rfl), rfl, hnm⟩) (own_w hw 6 rfl) (ty := (.array .byte)) (by decide) rfl rfl (g := (mkF m 54 #[.val (.ref u1), .val (.ref u2), .val (.int (0 : Int32)), .val (.int (3 : Int32)), .val .null, .val (.ref t1)] [(.ref t1), (.ref u1)])) rfl rfl (hb hby d3_54)
    have Fw49 := Fld.same W49 (Fld.other W48 (F1.keep Kq46 nin0) (Or.inr (slot_ne (Or.inr (own_w hw 33 rfl)) (Or.inr (own_w hw 31 rfl)) (by decide) (t := (.array .byte)) (t' := .byte) (by decide) (by decide))))
    have N49 := Fr.snoc X49 N48 g1
    have Z49 : n0 ≤ h49.size := Nat.le_trans Z48 (Keep.of_wr W49).1
    have K49 : Keep h0 h49 [u1] := Keep.wr K48 W49 (Or.inl (List.mem_of_getElem? (i := 0) rfl))
    obtain ⟨fs, hr, hrun, hended, hW, hsame⟩ := X49.leave (v := none) (fun _ => rfl)
    refine ⟨_, _, pre33 _ ?_, hrun, hended, _, _, rfl, ?_, ⟨_, rfl⟩, hW, hsame.mono (by decide) (by decide)⟩
    · show Steps p.tables e below (T32.setTop (mkF m 36 #[.val (.ref u1), .val (.ref u2), .val (.int (0 : Int32)), .val (.int (3 : Int32)), .val .null, .unset] [(.int (3 : Int32)), (.int (0 : Int32)), (.ref u2)])) _
      refine st46 _ ?_
      refine XS.astore X46.here hx rfl (hb hby d3_39) rfl rfl (l' := #[.val (.ref u1), .val (.ref u2), .val (.int (0 : Int32)), .val (.int (3 : Int32)), .val .null, .val (.ref t1)]) rfl ?_
      refine XS.aloadN X46.here hx rfl (hb hby d3_41) rfl rfl ?_
      refine XS.aload X46.here hx rfl (hb hby d3_42) rfl rfl ?_
      refine XS.iloadN X46.here hx rfl (hb hby d3_44) rfl ?_
      refine st47 _ ?_
      refine st48 _ ?_
      show Steps p.tables e below (T48.setTop (mkF m 51 #[.val (.ref u1), .val (.ref u2), .val (.int (0 : Int32)), .val (.int (3 : Int32)), .val .null, .val (.ref t1)] [])) _
      refine XS.aloadN X48.here hx rfl (hb hby d3_51) rfl rfl ?_
      refine XS.aload X48.here hx rfl (hb hby d3_52) rfl rfl ?_
      refine st49 _ ?_
      show Steps p.tables e below (T49.setTop (mkF m 57 #[.val (.ref u1), .val (.ref u2), .val (.int (0 : Int32)), .val (.int (3 : Int32)), .val .null, .val (.ref t1)] [])) _
      exact X49.returnOut hx Bd.returns (hb hby d3_57) hr
    · show Q_rm_sv3 Z _ _ _ _ _ _ _ h0 n0 _ T49.heap _
      rw [e49]
      exact ⟨rfl, N49, K49, (((E1.keep Kq46).wr W48).wr W49), (1 : Int32), t1, kt1, (6 : Int32), [((c0 >>> ((0 : Int32) &&& 31)).toInt8.toInt32), ((c0 >>> ((8 : Int32) &&& 31)).toInt8.toInt32), ((c1 >>> ((0 : Int32) &&& 31)).toInt8.toInt32), ((c1 >>> ((8 : Int32) &&& 31)).toInt8.toInt32), ((c2 >>> ((0 : Int32) &&& 31)).toInt8.toInt32), ((c2 >>> ((8 : Int32) &&& 31)).toInt8.toInt32)], (Fld.other W49 Fw48 (Or.inr (slot_ne (Or.inr (own_w hw 31 rfl)) (Or.inr (own_w hw 33 rfl)) (by decide) (t := .byte) (t' := (.array .byte)) (by decide) (by decide)))), Fw49, ((Vt46.other W48 (Ne.symm ne_t1)).other W49 (Ne.symm ne_t1)), Or.inr ⟨rfl, rfl, rfl⟩⟩
theorem ef_rm_s3 (m : MethodId) (x0 : Addr) (x1 : Addr) : entryFrame m #[(.ref x0), (.ref x1)] 2 = mkF m 0 #[.val (.ref x0), .val (.ref x1)] [] := by first | (simp [entryFrame, mkF, argsToLocals, Value.category]; done) | rfl
def Q_rm_s3 (Z : State) (u1 : Addr) (u2 : Addr) (zc : Int32) (kc : ClassId) (c0 : Int32) (c1 : Int32) (c2 : Int32) (h0 : Heap) (n0 : Nat) (v : Option Value) (h : Heap) (L : List Loc) : Prop := v = none ∧ Fr n0 L ∧ Keep h0 h [u1] ∧ own_str Z h u1 [c0, c1, c2]
set_option maxRecDepth 65536 in
set_option maxHeartbeats 40000000 in
theorem rm_s3 (l : Launch) (Z : State) (a0 : Array Value) (hw : ∀ d ∈ tables_1, d.before a0 Z = true) (ws : List Jvm.Cond) (u1 : Addr) (u2 : Addr) (zc : Int32) (kc : ClassId) (c0 : Int32) (c1 : Int32) (c2 : Int32) (h0 : Heap) (n0 : Nat) (Z0 : n0 ≤ h0.size) (X00 : Old Z Z.heap.size h0) (O5 : Sta Z Z.heap "java/lang/StringUTF16" "$assertionsDisabled" "Z" (.int (1 : Int32))) (O6 : Sta Z Z.heap "java/lang/StringUTF16" "HI_BYTE_SHIFT" "I" (.int (0 : Int32))) (O7 : Sta Z Z.heap "java/lang/StringUTF16" "LO_BYTE_SHIFT" "I" (.int (8 : Int32))) (q0 : ¬ c0 < 0 ∧ ¬ (65535 : Int32) < c0) (q1 : ¬ c1 < 0 ∧ ¬ (65535 : Int32) < c1) (q2 : ¬ c2 < 0 ∧ ¬ (65535 : Int32) < c2) (O2 : Sta Z Z.heap "java/lang/String" "COMPACT_STRINGS" "Z" (.int zc)) (hz : ¬ zc = 0) (F1 : Fld Z h0 u1 "java/lang/String" "value" "[B" .null) (F2 : Fld Z h0 u1 "java/lang/String" "coder" "B" (.int (0 : Int32))) (E1 : Exa Z h0 u1 "java/lang/String") (g1 : n0 ≤ u1) (V1 : Arv Z h0 u2 kc .char (3 : Int32) [(.int c0), (.int c1), (.int c2)] (.int (0 : Int32))) (hne : u1 ≠ u2) :
    MetFree l (⟨"java/lang/String", "<init>", "([C)V"⟩ : MethodName) (head1 (Jvm.Cond.code (⟨"java/lang/String", "<init>", "([C)V"⟩ : MethodName) jdk_42_method_3_code 2 none :: ws) ({ frames := 5, cells := 2, slots := 9, locals := 74 } : Room)) (fun a U => a = #[(.ref u1), (.ref u2)] ∧ Z.Warmed39 U.vm ∧ U.heap = h0) (fun _ _ _ _ _ => True) (fun _ U o U' => ∃ v L, o = .returned v ∧ Q_rm_s3 Z u1 u2 zc kc c0 c1 c2 h0 n0 v U'.heap L ∧ FrameEnd U o U' L ({ frames := 5, cells := 2, slots := 9, locals := 74 } : Room).cells ({ frames := 5, cells := 2, slots := 9, locals := 74 } : Room).slots) := by
  refine MetFree.of_bodySF (plainFor_of_name pn_453642) hisR ?_
  intro p e s m args below meth c s₁ Bd hml0 hP hK
  obtain ⟨rfl, hZ, hh⟩ := hP
  have hx := Bd.exec
  have hby := Bd.bytes
  have hml : c.maxLocals = 2 := hml0
  have hown : s.vm.findClass "java/lang/String" = some m.cls := findClass_of_methodNamed Bd.named
  have hnm := (name_of_methodNamed Bd.named Bd.method).1
  have X0 : Stand p l e ({ frames := 5, cells := 2, slots := 9, locals := 74 } : Room) s m #[(.ref u1), (.ref u2)] below meth c s₁ [] 0 0 := Stand.of_body Bd
  have e0 : s₁.heap = h0 := by rw [← hh, Bd.state]; rfl
  have N0 := Fr.nil n0
  have K0 : Keep h0 h0 [u1] := Keep.refl _ _
  have pre0 : ∀ t, Steps p.tables e below (s₁.setTop (mkF m 0 #[.val (.ref u1), .val (.ref u2)] [])) t → Steps p.tables e below (s₁.setTop (entryFrame m #[(.ref u1), (.ref u2)] 2)) t := fun t k => castTop (ef_rm_s3 m u1 u2) k
  obtain ⟨cl, Ar, -, Sz, Mz, -, -⟩ := id V1
  obtain ⟨_, _, ⟨T31, L31, k31, n31⟩, -, X31, ⟨Lc31, hQ31, l31, y31, z31⟩, st31⟩ := X0.specialBack hx (y := (⟨"java/lang/String", "<init>", "([CIILjava/lang/Void;)V"⟩ : MethodName)) rfl hown (mvT hZ (own_w hw 11 rfl)) (mvT hZ (own_w hw 12 rfl)) (mvT hZ (own_w hw 14 rfl)) (by decide) (backOf (W := 0) (rm_sv3 l Z a0 hw [] u1 u2 zc kc c0 c1 c2 h0 n0 Z0 X00 O5 O6 O7 q0 q1 q2 O2 hz F1 F2 E1 g1 V1 hne) hZ (own_w hw 14 rfl) (own_w hw 7 rfl) (by decide) (by decide)) (g := (mkF m 6 #[.val (.ref u1), .val (.ref u2)] [.null, (.int (3 : Int32)), (.int (0 : Int32)), (.ref u2), (.ref u1)])) rfl (by rw [hml]; rfl) (Steps.refl _) (a := u1) (argsL := [(.ref u2), (.int (0 : Int32)), (.int (3 : Int32)), .null]) (rest := []) (lenOf pd_335774 rfl) rfl (by show 2 * 0 + _ ≤ _; exact Nat.le_of_eq rfl) (hb hby d2_6) (fun _ _ => ⟨rfl, e0, (by decide : 0 + 2 ≤ _), (by decide : 0 + 9 ≤ _)⟩)
  dsimp only [Pt.U, Pt.locs, Pt.cells, Pt.slots] at X31 l31 y31 z31 st31 hQ31
  replace y31 : k31 = 2 := y31
  replace z31 : n31 = 9 := z31
  subst y31 z31
  obtain ⟨rfl, Nq31, Kq31, hs31⟩ := hQ31
  have N31 : Fr n0 L31 := by rw [l31]; exact Fr.app N0 Nq31
  have Z31 : n0 ≤ T31.heap.size := Nat.le_trans Z0 Kq31.1
  have K31 : Keep h0 T31.heap [u1] := K0.trans Kq31 (allS (Or.inl (List.mem_of_getElem? (i := 0) rfl)) all0)
  obtain ⟨fs, hr, hrun, hended, hW, hsame⟩ := X31.leave (v := none) (fun _ => rfl)
  refine ⟨_, _, pre0 _ ?_, hrun, hended, _, _, rfl, ?_, ⟨_, rfl⟩, hW, hsame.mono (by decide) (by decide)⟩
  · show Steps p.tables e below (s₁.setTop (mkF m 0 #[.val (.ref u1), .val (.ref u2)] [])) _
    refine XS.aloadN X0.here hx rfl (hb hby d2_0) rfl rfl ?_
    refine XS.aloadN X0.here hx rfl (hb hby d2_1) rfl rfl ?_
    refine XS.iconst X0.here hx rfl (hb hby d2_2) ?_
    refine XS.aloadN X0.here hx rfl (hb hby d2_3) rfl rfl ?_
    refine X0.arraylength hx (by rw [e0]; exact Ar.1) (State.isArrayOf_alike hZ.alike Ar.2.1) (g := (mkF m 4 #[.val (.ref u1), .val (.ref u2)] [(.ref u2), (.int (0 : Int32)), (.ref u2), (.ref u1)])) rfl rfl (hb hby d2_4) _ ?_
    rw [len_of Sz Mz]
    refine XS.aconstNull X0.here hx rfl (hb hby d2_5) ?_
    refine st31.trans ?_
    show Steps p.tables e below (T31.setTop (mkF m 9 #[.val (.ref u1), .val (.ref u2)] [])) _
    exact X31.returnOut hx Bd.returns (hb hby d2_9) hr
  · show Q_rm_s3 Z _ _ _ _ _ _ _ h0 n0 _ T31.heap _
    exact ⟨rfl, N31, K31, hs31⟩
theorem d10_0 : decode jdk_42_method_152_code 0 = .ok (.getstatic 38, 3) := by decide +kernel
theorem d10_3 : decode jdk_42_method_152_code 3 = .ok (.ifCond .eq 10, 3) := by decide +kernel
theorem d10_6 : decode jdk_42_method_152_code 6 = .ok (.aload_n 0, 1) := by decide +kernel
theorem d10_7 : decode jdk_42_method_152_code 7 = .ok (.getfield 15, 3) := by decide +kernel
theorem d10_10 : decode jdk_42_method_152_code 10 = .ok (.goto 4, 3) := by decide +kernel
theorem d10_14 : decode jdk_42_method_152_code 14 = .ok (.ireturn, 1) := by decide +kernel
theorem ef_rm_coder (m : MethodId) (x0 : Addr) : entryFrame m #[(.ref x0)] 1 = mkF m 0 #[.val (.ref x0)] [] := by first | (simp [entryFrame, mkF, argsToLocals, Value.category]; done) | rfl
def Q_rm_coder (Z : State) (u1 : Addr) (zc : Int32) (cd : Int32) (h0 : Heap) (n0 : Nat) (v : Option Value) (h : Heap) (L : List Loc) : Prop := v = some (.int (nar .byte cd)) ∧ Fr n0 L ∧ h = h0
set_option maxRecDepth 65536 in
set_option maxHeartbeats 40000000 in
theorem rm_coder (l : Launch) (Z : State) (a0 : Array Value) (hw : ∀ d ∈ tables_1, d.before a0 Z = true) (ws : List Jvm.Cond) (u1 : Addr) (zc : Int32) (cd : Int32) (h0 : Heap) (n0 : Nat) (Z0 : n0 ≤ h0.size) (S1 : Sta Z h0 "java/lang/String" "COMPACT_STRINGS" "Z" (.int zc)) (hz : ¬ zc = 0) (F1 : Fld Z h0 u1 "java/lang/String" "coder" "B" (.int cd)) :
    MetFree l (⟨"java/lang/String", "coder", "()B"⟩ : MethodName) (head1 (Jvm.Cond.code (⟨"java/lang/String", "coder", "()B"⟩ : MethodName) jdk_42_method_152_code 1 (some .byte) :: ws) ({ frames := 0, cells := 0, slots := 0, locals := 0 } : Room)) (fun a U => a = #[(.ref u1)] ∧ Z.Warmed39 U.vm ∧ U.heap = h0) (fun _ _ _ _ _ => True) (fun _ U o U' => ∃ v L, o = .returned v ∧ Q_rm_coder Z u1 zc cd h0 n0 v U'.heap L ∧ FrameEnd U o U' L ({ frames := 0, cells := 0, slots := 0, locals := 0 } : Room).cells ({ frames := 0, cells := 0, slots := 0, locals := 0 } : Room).slots) := by
  refine MetFree.of_bodySF (plainFor_of_name pn_453642) hisR ?_
  intro p e s m args below meth c s₁ Bd hml0 hP hK
  obtain ⟨rfl, hZ, hh⟩ := hP
  have hx := Bd.exec
  have hby := Bd.bytes
  have hml : c.maxLocals = 1 := hml0
  have hown : s.vm.findClass "java/lang/String" = some m.cls := findClass_of_methodNamed Bd.named
  have hnm := (name_of_methodNamed Bd.named Bd.method).1
  have X0 : Stand p l e ({ frames := 0, cells := 0, slots := 0, locals := 0 } : Room) s m #[(.ref u1)] below meth c s₁ [] 0 0 := Stand.of_body Bd
  have e0 : s₁.heap = h0 := by rw [← hh, Bd.state]; rfl
  have N0 := Fr.nil n0
  have pre0 : ∀ t, Steps p.tables e below (s₁.setTop (mkF m 0 #[.val (.ref u1)] [])) t → Steps p.tables e below (s₁.setTop (entryFrame m #[(.ref u1)] 1)) t := fun t k => castTop (ef_rm_coder m u1) k
  obtain ⟨T31, X31, e31, st31⟩ := getS2 X0 hx hZ hown (host := "") (Or.inl (own_w hw 18 rfl)) Via.refl e0 S1 (g := (mkF m 0 #[.val (.ref u1)] [])) rfl (hb hby d10_0)
  obtain ⟨T32, X32, e32, st32⟩ := getF X31 hx hZ hown (host := "") (Or.inl (own_w hw 30 rfl)) Via.refl e31 F1 (g := (mkF m 7 #[.val (.ref u1)] [(.ref u1)])) rfl rfl (hb hby d10_7)
  obtain ⟨fs, hr, hrun, hended, hW, hsame⟩ := X32.leave (v := some (.int (nar .byte cd))) (fun h => by rw [Bd.returns] at h; cases h)
  refine ⟨_, _, pre0 _ ?_, hrun, hended, _, _, rfl, ?_, ⟨_, rfl⟩, hW, hsame.mono (by decide) (by decide)⟩
  · show Steps p.tables e below (s₁.setTop (mkF m 0 #[.val (.ref u1)] [])) _
    refine st31 _ ?_
    refine XS.ifNo X31.here hx rfl (hb hby d10_3) rfl (own_nz hz) ?_
    refine XS.aloadN X31.here hx rfl (hb hby d10_6) rfl rfl ?_
    refine st32 _ ?_
    refine XS.goto X32.here hx rfl (pc0 := 10) (pc' := 14) rfl (hb hby d10_10) (by decide) (by decide) ?_
    show Steps p.tables e below (T32.setTop (mkF m 14 #[.val (.ref u1)] [(.int cd)])) _
    exact retN X32 hx (t := .byte) Bd.returns (by simp) (hb hby d10_14) hr
  · show Q_rm_coder Z _ _ _ h0 n0 _ T32.heap _
    rw [e32]
    exact ⟨rfl, N0, rfl⟩
theorem d9_0 : decode jdk_42_method_54_code 0 = .ok (.aload_n 0, 1) := by decide +kernel
theorem d9_1 : decode jdk_42_method_54_code 1 = .ok (.getfield 9, 3) := by decide +kernel
theorem d9_4 : decode jdk_42_method_54_code 4 = .ok (.arraylength, 1) := by decide +kernel
theorem d9_5 : decode jdk_42_method_54_code 5 = .ok (.aload_n 0, 1) := by decide +kernel
theorem d9_6 : decode jdk_42_method_54_code 6 = .ok (.invokevirtual 335, 3) := by decide +kernel
theorem pd_691877 : parseMethodDescriptor "()B" = some ⟨[], some .byte⟩ := by decide +kernel
theorem d9_9 : decode jdk_42_method_54_code 9 = .ok (.ishr, 1) := by decide +kernel
theorem d9_10 : decode jdk_42_method_54_code 10 = .ok (.ireturn, 1) := by decide +kernel
theorem ef_rm_len (m : MethodId) (x0 : Addr) : entryFrame m #[(.ref x0)] 1 = mkF m 0 #[.val (.ref x0)] [] := by first | (simp [entryFrame, mkF, argsToLocals, Value.category]; done) | rfl
def Q_rm_len (Z : State) (u1 : Addr) (zc : Int32) (cd : Int32) (t : Addr) (kb : ClassId) (z : Int32) (vs : List Value) (rr : Int32) (h0 : Heap) (n0 : Nat) (v : Option Value) (h : Heap) (L : List Loc) : Prop := v = some (.int rr) ∧ Fr n0 L ∧ h = h0
set_option maxRecDepth 65536 in
set_option maxHeartbeats 40000000 in
theorem rm_len (l : Launch) (Z : State) (a0 : Array Value) (hw : ∀ d ∈ tables_1, d.before a0 Z = true) (ws : List Jvm.Cond) (u1 : Addr) (zc : Int32) (cd : Int32) (t : Addr) (kb : ClassId) (z : Int32) (vs : List Value) (rr : Int32) (h0 : Heap) (n0 : Nat) (Z0 : n0 ≤ h0.size) (hrr : (z >>> ((nar .byte cd) &&& 31)) = rr) (S1 : Sta Z h0 "java/lang/String" "COMPACT_STRINGS" "Z" (.int zc)) (hz : ¬ zc = 0) (E1 : Exa Z h0 u1 "java/lang/String") (F1 : Fld Z h0 u1 "java/lang/String" "coder" "B" (.int cd)) (F2 : Fld Z h0 u1 "java/lang/String" "value" "[B" (.ref t)) (V1 : Arv Z h0 t kb .byte z vs (.int (0 : Int32))) :
    MetFree l (⟨"java/lang/String", "length", "()I"⟩ : MethodName) (head1 (Jvm.Cond.code (⟨"java/lang/String", "length", "()I"⟩ : MethodName) jdk_42_method_54_code 1 (some .int) :: ws) ({ frames := 1, cells := 0, slots := 0, locals := 13 } : Room)) (fun a U => a = #[(.ref u1)] ∧ Z.Warmed39 U.vm ∧ U.heap = h0) (fun _ _ _ _ _ => True) (fun _ U o U' => ∃ v L, o = .returned v ∧ Q_rm_len Z u1 zc cd t kb z vs rr h0 n0 v U'.heap L ∧ FrameEnd U o U' L ({ frames := 1, cells := 0, slots := 0, locals := 13 } : Room).cells ({ frames := 1, cells := 0, slots := 0, locals := 13 } : Room).slots) := by
  refine MetFree.of_bodySF (plainFor_of_name pn_453642) hisR ?_
  intro p e s m args below meth c s₁ Bd hml0 hP hK
  obtain ⟨rfl, hZ, hh⟩ := hP
  have hx := Bd.exec
  have hby := Bd.bytes
  have hml : c.maxLocals = 1 := hml0
  have hown : s.vm.findClass "java/lang/String" = some m.cls := findClass_of_methodNamed Bd.named
  have hnm := (name_of_methodNamed Bd.named Bd.method).1
  have X0 : Stand p l e ({ frames := 1, cells := 0, slots := 0, locals := 13 } : Room) s m #[(.ref u1)] below meth c s₁ [] 0 0 := Stand.of_body Bd
  have e0 : s₁.heap = h0 := by rw [← hh, Bd.state]; rfl
  have N0 := Fr.nil n0
  have pre0 : ∀ t, Steps p.tables e below (s₁.setTop (mkF m 0 #[.val (.ref u1)] [])) t → Steps p.tables e below (s₁.setTop (entryFrame m #[(.ref u1)] 1)) t := fun t k => castTop (ef_rm_len m u1) k
  obtain ⟨cl, Ar, -, Sz, Mz, -, -⟩ := id V1
  obtain ⟨T31, X31, e31, st31⟩ := getF X0 hx hZ hown (host := "") (Or.inl (own_w hw 32 rfl)) Via.refl e0 F2 (g := (mkF m 1 #[.val (.ref u1)] [(.ref u1)])) rfl rfl (hb hby d9_1)
  obtain ⟨cq32, kq32, q32a, q32b, q32c⟩ := isOf hZ e31 E1
  obtain ⟨_, _, ⟨T32, L32, k32, n32⟩, -, X32, ⟨Lc32, hQ32, l32, y32, z32⟩, st32⟩ := X31.virtualBack hx (y := (⟨"java/lang/String", "coder", "()B"⟩ : MethodName)) (z := (⟨"java/lang/String", "coder", "()B"⟩ : MethodName)) hown (mvT hZ (own_w hw 43 rfl)) (mvT hZ (own_w hw 44 rfl)) (notFace_of_selects (args := #[]) (mvT hZ (own_w hw 46 rfl))) (mvT hZ (own_w hw 46 rfl)) (mvT hZ (own_w hw 45 rfl)) (by decide) (backOf (W := 1) (rm_coder l Z a0 hw [] u1 zc cd h0 n0 Z0 S1 hz F1) hZ (own_w hw 47 rfl) (own_w hw 7 rfl) (by decide) (by decide)) q32a q32c (g := (mkF m 6 #[.val (.ref u1)] [(.ref u1), (.int z)])) rfl (by rw [hml]; rfl) (Steps.refl _) (argsL := []) (rest := [(.int z)]) (lenOf pd_691877 rfl) rfl (by show 2 * 0 + _ ≤ _; exact Nat.le_of_eq rfl) (hb hby d9_6) (fun _ _ => ⟨rfl, e31, (by decide : 0 + 0 ≤ _), (by decide : 0 + 0 ≤ _)⟩)
  dsimp only [Pt.U, Pt.locs, Pt.cells, Pt.slots] at X32 l32 y32 z32 st32 hQ32
  replace y32 : k32 = 0 := y32
  replace z32 : n32 = 0 := z32
  subst y32 z32
  obtain ⟨rfl, Nq32, eq32⟩ := hQ32
  have N32 : Fr n0 L32 := by rw [l32]; exact Fr.app N0 Nq32
  obtain ⟨fs, hr, hrun, hended, hW, hsame⟩ := X32.leave (v := some (.int rr)) (fun h => by rw [Bd.returns] at h; cases h)
  refine ⟨_, _, pre0 _ ?_, hrun, hended, _, _, rfl, ?_, ⟨_, rfl⟩, hW, hsame.mono (by decide) (by decide)⟩
  · show Steps p.tables e below (s₁.setTop (mkF m 0 #[.val (.ref u1)] [])) _
    refine XS.aloadN X0.here hx rfl (hb hby d9_0) rfl rfl ?_
    refine st31 _ ?_
    refine X31.arraylength hx (by rw [e31]; exact Ar.1) (State.isArrayOf_alike hZ.alike Ar.2.1) (g := (mkF m 4 #[.val (.ref u1)] [(.ref t)])) rfl rfl (hb hby d9_4) _ ?_
    rw [len_of Sz Mz]
    refine XS.aloadN X31.here hx rfl (hb hby d9_5) rfl rfl ?_
    refine st32.trans ?_
    refine XS.ishr X32.here hx rfl (hb hby d9_9) rfl ?_
    show Steps p.tables e below (T32.setTop (mkF m 10 #[.val (.ref u1)] [(.int (z >>> ((nar .byte cd) &&& 31)))])) _
    rw [hrr]
    exact retI X32 hx Bd.returns (hb hby d9_10) hr
  · show Q_rm_len Z _ _ _ _ _ _ _ _ h0 n0 _ T32.heap _
    rw [eq32]
    exact ⟨rfl, N32, rfl⟩
theorem d12_0 : decode jdk_42_method_154_code 0 = .ok (.getstatic 38, 3) := by decide +kernel
theorem d12_3 : decode jdk_42_method_154_code 3 = .ok (.ifCond .eq 14, 3) := by decide +kernel
theorem d12_6 : decode jdk_42_method_154_code 6 = .ok (.aload_n 0, 1) := by decide +kernel
theorem d12_7 : decode jdk_42_method_154_code 7 = .ok (.getfield 15, 3) := by decide +kernel
theorem d12_10 : decode jdk_42_method_154_code 10 = .ok (.ifCond .ne 7, 3) := by decide +kernel
theorem d12_17 : decode jdk_42_method_154_code 17 = .ok (.iconst 0, 1) := by decide +kernel
theorem d12_13 : decode jdk_42_method_154_code 13 = .ok (.iconst 1, 1) := by decide +kernel
theorem d12_14 : decode jdk_42_method_154_code 14 = .ok (.goto 4, 3) := by decide +kernel
theorem d12_18 : decode jdk_42_method_154_code 18 = .ok (.ireturn, 1) := by decide +kernel
theorem ef_rm_lat (m : MethodId) (x0 : Addr) : entryFrame m #[(.ref x0)] 1 = mkF m 0 #[.val (.ref x0)] [] := by first | (simp [entryFrame, mkF, argsToLocals, Value.category]; done) | rfl
def Q_rm_lat (Z : State) (u1 : Addr) (zc : Int32) (cd : Int32) (h0 : Heap) (n0 : Nat) (v : Option Value) (h : Heap) (L : List Loc) : Prop := v = some (.int (nar .boolean (bif (ifCond.holds .ne cd) then (0 : Int32) else (1 : Int32)))) ∧ Fr n0 L ∧ h = h0
set_option maxRecDepth 65536 in
set_option maxHeartbeats 40000000 in
theorem rm_lat (l : Launch) (Z : State) (a0 : Array Value) (hw : ∀ d ∈ tables_1, d.before a0 Z = true) (ws : List Jvm.Cond) (u1 : Addr) (zc : Int32) (cd : Int32) (h0 : Heap) (n0 : Nat) (Z0 : n0 ≤ h0.size) (S1 : Sta Z h0 "java/lang/String" "COMPACT_STRINGS" "Z" (.int zc)) (hz : ¬ zc = 0) (F1 : Fld Z h0 u1 "java/lang/String" "coder" "B" (.int cd)) :
    MetFree l (⟨"java/lang/String", "isLatin1", "()Z"⟩ : MethodName) (head1 (Jvm.Cond.code (⟨"java/lang/String", "isLatin1", "()Z"⟩ : MethodName) jdk_42_method_154_code 1 (some .boolean) :: ws) ({ frames := 0, cells := 0, slots := 0, locals := 0 } : Room)) (fun a U => a = #[(.ref u1)] ∧ Z.Warmed39 U.vm ∧ U.heap = h0) (fun _ _ _ _ _ => True) (fun _ U o U' => ∃ v L, o = .returned v ∧ Q_rm_lat Z u1 zc cd h0 n0 v U'.heap L ∧ FrameEnd U o U' L ({ frames := 0, cells := 0, slots := 0, locals := 0 } : Room).cells ({ frames := 0, cells := 0, slots := 0, locals := 0 } : Room).slots) := by
  refine MetFree.of_bodySF (plainFor_of_name pn_453642) hisR ?_
  intro p e s m args below meth c s₁ Bd hml0 hP hK
  obtain ⟨rfl, hZ, hh⟩ := hP
  have hx := Bd.exec
  have hby := Bd.bytes
  have hml : c.maxLocals = 1 := hml0
  have hown : s.vm.findClass "java/lang/String" = some m.cls := findClass_of_methodNamed Bd.named
  have hnm := (name_of_methodNamed Bd.named Bd.method).1
  have X0 : Stand p l e ({ frames := 0, cells := 0, slots := 0, locals := 0 } : Room) s m #[(.ref u1)] below meth c s₁ [] 0 0 := Stand.of_body Bd
  have e0 : s₁.heap = h0 := by rw [← hh, Bd.state]; rfl
  have N0 := Fr.nil n0
  have pre0 : ∀ t, Steps p.tables e below (s₁.setTop (mkF m 0 #[.val (.ref u1)] [])) t → Steps p.tables e below (s₁.setTop (entryFrame m #[(.ref u1)] 1)) t := fun t k => castTop (ef_rm_lat m u1) k
  obtain ⟨T31, X31, e31, st31⟩ := getS2 X0 hx hZ hown (host := "") (Or.inl (own_w hw 18 rfl)) Via.refl e0 S1 (g := (mkF m 0 #[.val (.ref u1)] [])) rfl (hb hby d12_0)
  obtain ⟨T32, X32, e32, st32⟩ := getF X31 hx hZ hown (host := "") (Or.inl (own_w hw 30 rfl)) Via.refl e31 F1 (g := (mkF m 7 #[.val (.ref u1)] [(.ref u1)])) rfl rfl (hb hby d12_7)
  have pre33 : ∀ t, Steps p.tables e below (T32.setTop (mkF m 10 #[.val (.ref u1)] [(.int cd)])) t → Steps p.tables e below (s₁.setTop (entryFrame m #[(.ref u1)] 1)) t := by
    intro t k
    refine pre0 t ?_
    show Steps p.tables e below (s₁.setTop (mkF m 0 #[.val (.ref u1)] [])) _
    refine st31 _ ?_
    refine XS.ifNo X31.here hx rfl (hb hby d12_3) rfl (own_nz hz) ?_
    refine XS.aloadN X31.here hx rfl (hb hby d12_6) rfl rfl ?_
    refine st32 _ ?_
    exact k
  have pre35 : ∀ t, Steps p.tables e below (T32.setTop (mkF m 18 #[.val (.ref u1)] [(.int (bif (ifCond.holds .ne cd) then (0 : Int32) else (1 : Int32)))])) t → Steps p.tables e below (s₁.setTop (entryFrame m #[(.ref u1)] 1)) t := by
    intro t k
    refine pre33 t ?_
    show Steps p.tables e below (T32.setTop (mkF m 10 #[.val (.ref u1)] [(.int cd)])) _
    rcases Bool.eq_false_or_eq_true (ifCond.holds .ne cd) with hb10_34 | hb10_34
    · refine XS.ifYes X32.here hx rfl (pc0 := 10) (pc' := 17) rfl (hb hby d12_10) rfl hb10_34 (by decide) (by decide) ?_
      refine XS.iconst X32.here hx rfl (hb hby d12_17) ?_
      have k : Steps p.tables e below (T32.setTop (mkF m 18 #[.val (.ref u1)] [(.int (0 : Int32))])) t := by simpa only [hb10_34, cond_true, cond_false] using k
      exact k
    · refine XS.ifNo X32.here hx rfl (hb hby d12_10) rfl hb10_34 ?_
      refine XS.iconst X32.here hx rfl (hb hby d12_13) ?_
      refine XS.goto X32.here hx rfl (pc0 := 14) (pc' := 18) rfl (hb hby d12_14) (by decide) (by decide) ?_
      have k : Steps p.tables e below (T32.setTop (mkF m 18 #[.val (.ref u1)] [(.int (1 : Int32))])) t := by simpa only [hb10_34, cond_true, cond_false] using k
      exact k
  obtain ⟨fs, hr, hrun, hended, hW, hsame⟩ := X32.leave (v := some (.int (nar .boolean (bif (ifCond.holds .ne cd) then (0 : Int32) else (1 : Int32))))) (fun h => by rw [Bd.returns] at h; cases h)
  refine ⟨_, _, pre35 _ ?_, hrun, hended, _, _, rfl, ?_, ⟨_, rfl⟩, hW, hsame.mono (by decide) (by decide)⟩
  · show Steps p.tables e below (T32.setTop (mkF m 18 #[.val (.ref u1)] [(.int (bif (ifCond.holds .ne cd) then (0 : Int32) else (1 : Int32)))])) _
    exact retN X32 hx (t := .boolean) Bd.returns (by simp) (hb hby d12_18) hr
  · show Q_rm_lat Z _ _ _ h0 n0 _ T32.heap _
    rw [e32]
    exact ⟨rfl, N0, rfl⟩
theorem d15_0 : decode jdk_41_method_11_code 0 = .ok (.iload_n 0, 1) := by decide +kernel
theorem d15_1 : decode jdk_41_method_11_code 1 = .ok (.ifCond .lt 8, 3) := by decide +kernel
theorem d15_4 : decode jdk_41_method_11_code 4 = .ok (.iload_n 0, 1) := by decide +kernel
theorem d15_5 : decode jdk_41_method_11_code 5 = .ok (.iload_n 1, 1) := by decide +kernel
theorem d15_6 : decode jdk_41_method_11_code 6 = .ok (.if_icmp .lt 10, 3) := by decide +kernel
theorem d15_16 : decode jdk_41_method_11_code 16 = .ok (.iload_n 0, 1) := by decide +kernel
theorem d15_17 : decode jdk_41_method_11_code 17 = .ok (.ireturn, 1) := by decide +kernel
theorem ef_rm_preN (m : MethodId) (x0 : Int32) (x1 : Int32) : entryFrame m #[(.int x0), (.int x1), .null] 3 = mkF m 0 #[.val (.int x0), .val (.int x1), .val .null] [] := by first | (simp [entryFrame, mkF, argsToLocals, Value.category]; done) | rfl
def Q_rm_preN (Z : State) (u1 : Int32) (u2 : Int32) (h0 : Heap) (n0 : Nat) (v : Option Value) (h : Heap) (L : List Loc) : Prop := v = some (.int u1) ∧ Fr n0 L ∧ h = h0
theorem pn_280271 : plainName "jdk/internal/util/Preconditions" = true := by first | (simp [plainName, overriddenIn]; done) | decide +kernel
set_option maxRecDepth 65536 in
set_option maxHeartbeats 40000000 in
theorem rm_preN (l : Launch) (Z : State) (a0 : Array Value) (hw : ∀ d ∈ tables_1, d.before a0 Z = true) (ws : List Jvm.Cond) (u1 : Int32) (u2 : Int32) (h0 : Heap) (n0 : Nat) (Z0 : n0 ≤ h0.size) (hc1 : ifCond.holds .lt u1 = false) (hc2 : if_icmp.holds .lt u1 u2 = true) :
    MetFree l (⟨"jdk/internal/util/Preconditions", "checkIndex", "(IILjava/util/function/BiFunction;)I"⟩ : MethodName) (head1 (Jvm.Cond.code (⟨"jdk/internal/util/Preconditions", "checkIndex", "(IILjava/util/function/BiFunction;)I"⟩ : MethodName) jdk_41_method_11_code 3 (some .int) :: ws) ({ frames := 0, cells := 0, slots := 0, locals := 0 } : Room)) (fun a U => a = #[(.int u1), (.int u2), .null] ∧ Z.Warmed39 U.vm ∧ U.heap = h0) (fun _ _ _ _ _ => True) (fun _ U o U' => ∃ v L, o = .returned v ∧ Q_rm_preN Z u1 u2 h0 n0 v U'.heap L ∧ FrameEnd U o U' L ({ frames := 0, cells := 0, slots := 0, locals := 0 } : Room).cells ({ frames := 0, cells := 0, slots := 0, locals := 0 } : Room).slots) := by
  refine MetFree.of_bodySF (plainFor_of_name pn_280271) hisR ?_
  intro p e s m args below meth c s₁ Bd hml0 hP hK
  obtain ⟨rfl, hZ, hh⟩ := hP
  have hx := Bd.exec
  have hby := Bd.bytes
  have hml : c.maxLocals = 3 := hml0
  have hown : s.vm.findClass "jdk/internal/util/Preconditions" = some m.cls := findClass_of_methodNamed Bd.named
  have hnm := (name_of_methodNamed Bd.named Bd.method).1
  have X0 : Stand p l e ({ frames := 0, cells := 0, slots := 0, locals := 0 } : Room) s m #[(.int u1), (.int u2), .null] below meth c s₁ [] 0 0 := Stand.of_body Bd
  have e0 : s₁.heap = h0 := by rw [← hh, Bd.state]; rfl
  have N0 := Fr.nil n0
  have pre0 : ∀ t, Steps p.tables e below (s₁.setTop (mkF m 0 #[.val (.int u1), .val (.int u2), .val .null] [])) t → Steps p.tables e below (s₁.setTop (entryFrame m #[(.int u1), (.int u2), .null] 3)) t := fun t k => castTop (ef_rm_preN m u1 u2) k
  obtain ⟨fs, hr, hrun, hended, hW, hsame⟩ := X0.leave (v := some (.int u1)) (fun h => by rw [Bd.returns] at h; cases h)
  refine ⟨_, _, pre0 _ ?_, hrun, hended, _, _, rfl, ?_, ⟨_, rfl⟩, hW, hsame.mono (by decide) (by decide)⟩
  · show Steps p.tables e below (s₁.setTop (mkF m 0 #[.val (.int u1), .val (.int u2), .val .null] [])) _
    refine XS.iloadN X0.here hx rfl (hb hby d15_0) rfl ?_
    refine XS.ifNo X0.here hx rfl (hb hby d15_1) rfl hc1 ?_
    refine XS.iloadN X0.here hx rfl (hb hby d15_4) rfl ?_
    refine XS.iloadN X0.here hx rfl (hb hby d15_5) rfl ?_
    refine XS.icmpYes X0.here hx rfl (pc0 := 6) (pc' := 16) rfl (hb hby d15_6) rfl hc2 (by decide) (by decide) ?_
    refine XS.iloadN X0.here hx rfl (hb hby d15_16) rfl ?_
    show Steps p.tables e below (s₁.setTop (mkF m 17 #[.val (.int u1), .val (.int u2), .val .null] [(.int u1)])) _
    exact retI X0 hx Bd.returns (hb hby d15_17) hr
  · show Q_rm_preN Z _ _ h0 n0 _ s₁.heap _
    rw [e0]
    exact ⟨rfl, N0, rfl⟩
theorem ef_rm_preR (m : MethodId) (x0 : Int32) (x1 : Int32) (x2 : Addr) : entryFrame m #[(.int x0), (.int x1), (.ref x2)] 3 = mkF m 0 #[.val (.int x0), .val (.int x1), .val (.ref x2)] [] := by first | (simp [entryFrame, mkF, argsToLocals, Value.category]; done) | rfl
def Q_rm_preR (Z : State) (u1 : Int32) (u2 : Int32) (u3 : Addr) (h0 : Heap) (n0 : Nat) (v : Option Value) (h : Heap) (L : List Loc) : Prop := v = some (.int u1) ∧ Fr n0 L ∧ h = h0
set_option maxRecDepth 65536 in
set_option maxHeartbeats 40000000 in
theorem rm_preR (l : Launch) (Z : State) (a0 : Array Value) (hw : ∀ d ∈ tables_1, d.before a0 Z = true) (ws : List Jvm.Cond) (u1 : Int32) (u2 : Int32) (u3 : Addr) (h0 : Heap) (n0 : Nat) (Z0 : n0 ≤ h0.size) (hc1 : ifCond.holds .lt u1 = false) (hc2 : if_icmp.holds .lt u1 u2 = true) :
    MetFree l (⟨"jdk/internal/util/Preconditions", "checkIndex", "(IILjava/util/function/BiFunction;)I"⟩ : MethodName) (head1 (Jvm.Cond.code (⟨"jdk/internal/util/Preconditions", "checkIndex", "(IILjava/util/function/BiFunction;)I"⟩ : MethodName) jdk_41_method_11_code 3 (some .int) :: ws) ({ frames := 0, cells := 0, slots := 0, locals := 0 } : Room)) (fun a U => a = #[(.int u1), (.int u2), (.ref u3)] ∧ Z.Warmed39 U.vm ∧ U.heap = h0) (fun _ _ _ _ _ => True) (fun _ U o U' => ∃ v L, o = .returned v ∧ Q_rm_preR Z u1 u2 u3 h0 n0 v U'.heap L ∧ FrameEnd U o U' L ({ frames := 0, cells := 0, slots := 0, locals := 0 } : Room).cells ({ frames := 0, cells := 0, slots := 0, locals := 0 } : Room).slots) := by
  refine MetFree.of_bodySF (plainFor_of_name pn_280271) hisR ?_
  intro p e s m args below meth c s₁ Bd hml0 hP hK
  obtain ⟨rfl, hZ, hh⟩ := hP
  have hx := Bd.exec
  have hby := Bd.bytes
  have hml : c.maxLocals = 3 := hml0
  have hown : s.vm.findClass "jdk/internal/util/Preconditions" = some m.cls := findClass_of_methodNamed Bd.named
  have hnm := (name_of_methodNamed Bd.named Bd.method).1
  have X0 : Stand p l e ({ frames := 0, cells := 0, slots := 0, locals := 0 } : Room) s m #[(.int u1), (.int u2), (.ref u3)] below meth c s₁ [] 0 0 := Stand.of_body Bd
  have e0 : s₁.heap = h0 := by rw [← hh, Bd.state]; rfl
  have N0 := Fr.nil n0
  have pre0 : ∀ t, Steps p.tables e below (s₁.setTop (mkF m 0 #[.val (.int u1), .val (.int u2), .val (.ref u3)] [])) t → Steps p.tables e below (s₁.setTop (entryFrame m #[(.int u1), (.int u2), (.ref u3)] 3)) t := fun t k => castTop (ef_rm_preR m u1 u2 u3) k
  obtain ⟨fs, hr, hrun, hended, hW, hsame⟩ := X0.leave (v := some (.int u1)) (fun h => by rw [Bd.returns] at h; cases h)
  refine ⟨_, _, pre0 _ ?_, hrun, hended, _, _, rfl, ?_, ⟨_, rfl⟩, hW, hsame.mono (by decide) (by decide)⟩
  · show Steps p.tables e below (s₁.setTop (mkF m 0 #[.val (.int u1), .val (.int u2), .val (.ref u3)] [])) _
    refine XS.iloadN X0.here hx rfl (hb hby d15_0) rfl ?_
    refine XS.ifNo X0.here hx rfl (hb hby d15_1) rfl hc1 ?_
    refine XS.iloadN X0.here hx rfl (hb hby d15_4) rfl ?_
    refine XS.iloadN X0.here hx rfl (hb hby d15_5) rfl ?_
    refine XS.icmpYes X0.here hx rfl (pc0 := 6) (pc' := 16) rfl (hb hby d15_6) rfl hc2 (by decide) (by decide) ?_
    refine XS.iloadN X0.here hx rfl (hb hby d15_16) rfl ?_
    show Steps p.tables e below (s₁.setTop (mkF m 17 #[.val (.int u1), .val (.int u2), .val (.ref u3)] [(.int u1)])) _
    exact retI X0 hx Bd.returns (hb hby d15_17) hr
  · show Q_rm_preR Z _ _ _ h0 n0 _ s₁.heap _
    rw [e0]
    exact ⟨rfl, N0, rfl⟩
theorem d14_0 : decode jdk_42_method_155_code 0 = .ok (.iload_n 0, 1) := by decide +kernel
theorem d14_1 : decode jdk_42_method_155_code 1 = .ok (.iload_n 1, 1) := by decide +kernel
theorem d14_2 : decode jdk_42_method_155_code 2 = .ok (.getstatic 1053, 3) := by decide +kernel
theorem d14_5 : decode jdk_42_method_155_code 5 = .ok (.invokestatic 1059, 3) := by decide +kernel
theorem pd_408869 : parseMethodDescriptor "(IILjava/util/function/BiFunction;)I" = some ⟨[.int, .int, (.object "java/util/function/BiFunction")], some .int⟩ := by decide +kernel
theorem d14_8 : decode jdk_42_method_155_code 8 = .ok (.pop, 1) := by decide +kernel
theorem d14_9 : decode jdk_42_method_155_code 9 = .ok (.return_, 1) := by decide +kernel
theorem ef_rm_cix (m : MethodId) (x0 : Int32) (x1 : Int32) : entryFrame m #[(.int x0), (.int x1)] 2 = mkF m 0 #[.val (.int x0), .val (.int x1)] [] := by first | (simp [entryFrame, mkF, argsToLocals, Value.category]; done) | rfl
def Q_rm_cix (Z : State) (u1 : Int32) (u2 : Int32) (fm : Value) (h0 : Heap) (n0 : Nat) (v : Option Value) (h : Heap) (L : List Loc) : Prop := v = none ∧ Fr n0 L ∧ h = h0
set_option maxRecDepth 65536 in
set_option maxHeartbeats 40000000 in
theorem rm_cix (l : Launch) (Z : State) (a0 : Array Value) (hw : ∀ d ∈ tables_1, d.before a0 Z = true) (ws : List Jvm.Cond) (u1 : Int32) (u2 : Int32) (fm : Value) (h0 : Heap) (n0 : Nat) (Z0 : n0 ≤ h0.size) (hc1 : ifCond.holds .lt u1 = false) (hc2 : if_icmp.holds .lt u1 u2 = true) (S2 : Sta Z h0 "jdk/internal/util/Preconditions" "SIOOBE_FORMATTER" "Ljava/util/function/BiFunction;" fm) (rf : fm.isRef = true) :
    MetFree l (⟨"java/lang/String", "checkIndex", "(II)V"⟩ : MethodName) (head1 (Jvm.Cond.code (⟨"java/lang/String", "checkIndex", "(II)V"⟩ : MethodName) jdk_42_method_155_code 2 none :: ws) ({ frames := 1, cells := 0, slots := 0, locals := 14 } : Room)) (fun a U => a = #[(.int u1), (.int u2)] ∧ Z.Warmed39 U.vm ∧ U.heap = h0) (fun _ _ _ _ _ => True) (fun _ U o U' => ∃ v L, o = .returned v ∧ Q_rm_cix Z u1 u2 fm h0 n0 v U'.heap L ∧ FrameEnd U o U' L ({ frames := 1, cells := 0, slots := 0, locals := 14 } : Room).cells ({ frames := 1, cells := 0, slots := 0, locals := 14 } : Room).slots) := by
  refine MetFree.of_bodySF (plainFor_of_name pn_453642) hisR ?_
  intro p e s m args below meth c s₁ Bd hml0 hP hK
  obtain ⟨rfl, hZ, hh⟩ := hP
  have hx := Bd.exec
  have hby := Bd.bytes
  have hml : c.maxLocals = 2 := hml0
  have hown : s.vm.findClass "java/lang/String" = some m.cls := findClass_of_methodNamed Bd.named
  have hnm := (name_of_methodNamed Bd.named Bd.method).1
  have X0 : Stand p l e ({ frames := 1, cells := 0, slots := 0, locals := 14 } : Room) s m #[(.int u1), (.int u2)] below meth c s₁ [] 0 0 := Stand.of_body Bd
  have e0 : s₁.heap = h0 := by rw [← hh, Bd.state]; rfl
  have N0 := Fr.nil n0
  have pre0 : ∀ t, Steps p.tables e below (s₁.setTop (mkF m 0 #[.val (.int u1), .val (.int u2)] [])) t → Steps p.tables e below (s₁.setTop (entryFrame m #[(.int u1), (.int u2)] 2)) t := fun t k => castTop (ef_rm_cix m u1 u2) k
  rcases ref_cases rf with rfl | ⟨af, rfl⟩
  · obtain ⟨T31, X31, e31, st31⟩ := getS2 X0 hx hZ hown (host := "") (Or.inl (own_w hw 65 rfl)) Via.refl e0 S2 (g := (mkF m 2 #[.val (.int u1), .val (.int u2)] [(.int u2), (.int u1)])) rfl (hb hby d14_2)
    obtain ⟨_, _, ⟨T32, L32, k32, n32⟩, -, X32, ⟨Lc32, hQ32, l32, y32, z32⟩, st32⟩ := Jvm.LawKit.callS X31 hx (y := (⟨"jdk/internal/util/Preconditions", "checkIndex", "(IILjava/util/function/BiFunction;)I"⟩ : MethodName)) hown (mvT hZ (own_w hw 67 rfl)) (mvT hZ (own_w hw 68 rfl)) (mvT hZ (own_w hw 66 rfl)) (mvT hZ (own_w hw 69 rfl)) (by decide) (backOf (W := 0) (rm_preN l Z a0 hw [] u1 u2 h0 n0 Z0 hc1 hc2) hZ (own_w hw 69 rfl) (own_w hw 66 rfl) (by decide) (by decide)) (g := (mkF m 5 #[.val (.int u1), .val (.int u2)] [.null, (.int u2), (.int u1)])) rfl (by rw [hml]; rfl) (argsL := [(.int u1), (.int u2), .null]) (rest := []) (lenOf pd_408869 rfl) rfl (by show 2 * 0 + _ ≤ _; exact Nat.le_of_eq rfl) (hb hby d14_5) (fun _ _ => ⟨rfl, e31, (by decide : 0 + 0 ≤ _), (by decide : 0 + 0 ≤ _)⟩)
    dsimp only [Pt.U, Pt.locs, Pt.cells, Pt.slots] at X32 l32 y32 z32 st32 hQ32
    replace y32 : k32 = 0 := y32
    replace z32 : n32 = 0 := z32
    subst y32 z32
    obtain ⟨rfl, Nq32, eq32⟩ := hQ32
    have N32 : Fr n0 L32 := by rw [l32]; exact Fr.app N0 Nq32
    obtain ⟨fs, hr, hrun, hended, hW, hsame⟩ := X32.leave (v := none) (fun _ => rfl)
    refine ⟨_, _, pre0 _ ?_, hrun, hended, _, _, rfl, ?_, ⟨_, rfl⟩, hW, hsame.mono (by decide) (by decide)⟩
    · show Steps p.tables e below (s₁.setTop (mkF m 0 #[.val (.int u1), .val (.int u2)] [])) _
      refine XS.iloadN X0.here hx rfl (hb hby d14_0) rfl ?_
      refine XS.iloadN X0.here hx rfl (hb hby d14_1) rfl ?_
      refine st31 _ ?_
      refine st32 _ ?_
      refine XS.pop X32.here hx rfl (hb hby d14_8) rfl rfl ?_
      show Steps p.tables e below (T32.setTop (mkF m 9 #[.val (.int u1), .val (.int u2)] [])) _
      exact X32.returnOut hx Bd.returns (hb hby d14_9) hr
    · show Q_rm_cix Z _ _ _ h0 n0 _ T32.heap _
      rw [eq32]
      exact ⟨rfl, N32, rfl⟩
  · obtain ⟨T33, X33, e33, st33⟩ := getS2 X0 hx hZ hown (host := "") (Or.inl (own_w hw 65 rfl)) Via.refl e0 S2 (g := (mkF m 2 #[.val (.int u1), .val (.int u2)] [(.int u2), (.int u1)])) rfl (hb hby d14_2)
    obtain ⟨_, _, ⟨T34, L34, k34, n34⟩, -, X34, ⟨Lc34, hQ34, l34, y34, z34⟩, st34⟩ := Jvm.LawKit.callS X33 hx (y := (⟨"jdk/internal/util/Preconditions", "checkIndex", "(IILjava/util/function/BiFunction;)I"⟩ : MethodName)) hown (mvT hZ (own_w hw 67 rfl)) (mvT hZ (own_w hw 68 rfl)) (mvT hZ (own_w hw 66 rfl)) (mvT hZ (own_w hw 69 rfl)) (by decide) (backOf (W := 0) (rm_preR l Z a0 hw [] u1 u2 af h0 n0 Z0 hc1 hc2) hZ (own_w hw 69 rfl) (own_w hw 66 rfl) (by decide) (by decide)) (g := (mkF m 5 #[.val (.int u1), .val (.int u2)] [(.ref af), (.int u2), (.int u1)])) rfl (by rw [hml]; rfl) (argsL := [(.int u1), (.int u2), (.ref af)]) (rest := []) (lenOf pd_408869 rfl) rfl (by show 2 * 0 + _ ≤ _; exact Nat.le_of_eq rfl) (hb hby d14_5) (fun _ _ => ⟨rfl, e33, (by decide : 0 + 0 ≤ _), (by decide : 0 + 0 ≤ _)⟩)
    dsimp only [Pt.U, Pt.locs, Pt.cells, Pt.slots] at X34 l34 y34 z34 st34 hQ34
    replace y34 : k34 = 0 := y34
    replace z34 : n34 = 0 := z34
    subst y34 z34
    obtain ⟨rfl, Nq34, eq34⟩ := hQ34
    have N34 : Fr n0 L34 := by rw [l34]; exact Fr.app N0 Nq34
    obtain ⟨fs, hr, hrun, hended, hW, hsame⟩ := X34.leave (v := none) (fun _ => rfl)
    refine ⟨_, _, pre0 _ ?_, hrun, hended, _, _, rfl, ?_, ⟨_, rfl⟩, hW, hsame.mono (by decide) (by decide)⟩
    · show Steps p.tables e below (s₁.setTop (mkF m 0 #[.val (.int u1), .val (.int u2)] [])) _
      refine XS.iloadN X0.here hx rfl (hb hby d14_0) rfl ?_
      refine XS.iloadN X0.here hx rfl (hb hby d14_1) rfl ?_
      refine st33 _ ?_
      refine st34 _ ?_
      refine XS.pop X34.here hx rfl (hb hby d14_8) rfl rfl ?_
      show Steps p.tables e below (T34.setTop (mkF m 9 #[.val (.int u1), .val (.int u2)] [])) _
      exact X34.returnOut hx Bd.returns (hb hby d14_9) hr
    · show Q_rm_cix Z _ _ _ h0 n0 _ T34.heap _
      rw [eq34]
      exact ⟨rfl, N34, rfl⟩
theorem d13_0 : decode jdk_43_method_2_code 0 = .ok (.iload_n 1, 1) := by decide +kernel
theorem d13_1 : decode jdk_43_method_2_code 1 = .ok (.aload_n 0, 1) := by decide +kernel
theorem d13_2 : decode jdk_43_method_2_code 2 = .ok (.arraylength, 1) := by decide +kernel
theorem d13_3 : decode jdk_43_method_2_code 3 = .ok (.invokestatic 9, 3) := by decide +kernel
theorem pd_329858 : parseMethodDescriptor "(II)V" = some ⟨[.int, .int], none⟩ := by decide +kernel
theorem d13_6 : decode jdk_43_method_2_code 6 = .ok (.aload_n 0, 1) := by decide +kernel
theorem d13_7 : decode jdk_43_method_2_code 7 = .ok (.iload_n 1, 1) := by decide +kernel
theorem d13_8 : decode jdk_43_method_2_code 8 = .ok (.baload, 1) := by decide +kernel
theorem d13_9 : decode jdk_43_method_2_code 9 = .ok (.sipush 255, 3) := by decide +kernel
theorem d13_12 : decode jdk_43_method_2_code 12 = .ok (.iand, 1) := by decide +kernel
theorem d13_13 : decode jdk_43_method_2_code 13 = .ok (.i2c, 1) := by decide +kernel
theorem d13_14 : decode jdk_43_method_2_code 14 = .ok (.ireturn, 1) := by decide +kernel
theorem ef_rm_lch (m : MethodId) (x0 : Addr) (x1 : Int32) : entryFrame m #[(.ref x0), (.int x1)] 2 = mkF m 0 #[.val (.ref x0), .val (.int x1)] [] := by first | (simp [entryFrame, mkF, argsToLocals, Value.category]; done) | rfl
def Q_rm_lch (Z : State) (u1 : Addr) (u2 : Int32) (fm : Value) (kb : ClassId) (z : Int32) (vs : List Value) (r : Int32) (h0 : Heap) (n0 : Nat) (v : Option Value) (h : Heap) (L : List Loc) : Prop := v = some (.int (nar .char ((r &&& (255 : Int32)).toUInt32.toUInt16.toUInt32.toInt32))) ∧ Fr n0 L ∧ h = h0
theorem pn_173701 : plainName "java/lang/StringLatin1" = true := by first | (simp [plainName, overriddenIn]; done) | decide +kernel
set_option maxRecDepth 65536 in
set_option maxHeartbeats 40000000 in
theorem rm_lch (l : Launch) (Z : State) (a0 : Array Value) (hw : ∀ d ∈ tables_1, d.before a0 Z = true) (ws : List Jvm.Cond) (u1 : Addr) (u2 : Int32) (fm : Value) (kb : ClassId) (z : Int32) (vs : List Value) (r : Int32) (h0 : Heap) (n0 : Nat) (Z0 : n0 ≤ h0.size) (S2 : Sta Z h0 "jdk/internal/util/Preconditions" "SIOOBE_FORMATTER" "Ljava/util/function/BiFunction;" fm) (rf : fm.isRef = true) (V1 : Arv Z h0 u1 kb .byte z vs (.int (0 : Int32))) (hin : ¬ u2 < 0 ∧ u2 < z) (hv : vs.getD u2.toNatClampNeg (.int (0 : Int32)) = .int r) :
    MetFree l (⟨"java/lang/StringLatin1", "charAt", "([BI)C"⟩ : MethodName) (head1 (Jvm.Cond.code (⟨"java/lang/StringLatin1", "charAt", "([BI)C"⟩ : MethodName) jdk_43_method_2_code 2 (some .char) :: ws) ({ frames := 2, cells := 0, slots := 0, locals := 27 } : Room)) (fun a U => a = #[(.ref u1), (.int u2)] ∧ Z.Warmed39 U.vm ∧ U.heap = h0) (fun _ _ _ _ _ => True) (fun _ U o U' => ∃ v L, o = .returned v ∧ Q_rm_lch Z u1 u2 fm kb z vs r h0 n0 v U'.heap L ∧ FrameEnd U o U' L ({ frames := 2, cells := 0, slots := 0, locals := 27 } : Room).cells ({ frames := 2, cells := 0, slots := 0, locals := 27 } : Room).slots) := by
  refine MetFree.of_bodySF (plainFor_of_name pn_173701) hisR ?_
  intro p e s m args below meth c s₁ Bd hml0 hP hK
  obtain ⟨rfl, hZ, hh⟩ := hP
  have hx := Bd.exec
  have hby := Bd.bytes
  have hml : c.maxLocals = 2 := hml0
  have hown : s.vm.findClass "java/lang/StringLatin1" = some m.cls := findClass_of_methodNamed Bd.named
  have hnm := (name_of_methodNamed Bd.named Bd.method).1
  have X0 : Stand p l e ({ frames := 2, cells := 0, slots := 0, locals := 27 } : Room) s m #[(.ref u1), (.int u2)] below meth c s₁ [] 0 0 := Stand.of_body Bd
  have e0 : s₁.heap = h0 := by rw [← hh, Bd.state]; rfl
  have N0 := Fr.nil n0
  have pre0 : ∀ t, Steps p.tables e below (s₁.setTop (mkF m 0 #[.val (.ref u1), .val (.int u2)] [])) t → Steps p.tables e below (s₁.setTop (entryFrame m #[(.ref u1), (.int u2)] 2)) t := fun t k => castTop (ef_rm_lch m u1 u2) k
  obtain ⟨cl, Ar, -, Sz, Mz, Hz, -⟩ := id V1
  obtain ⟨_, _, ⟨T31, L31, k31, n31⟩, -, X31, ⟨Lc31, hQ31, l31, y31, z31⟩, st31⟩ := Jvm.LawKit.callS X0 hx (y := (⟨"java/lang/String", "checkIndex", "(II)V"⟩ : MethodName)) hown (mvT hZ (own_w hw 62 rfl)) (mvT hZ (own_w hw 63 rfl)) (mvT hZ (own_w hw 7 rfl)) (mvT hZ (own_w hw 64 rfl)) (by decide) (backOf (W := 0) (rm_cix l Z a0 hw [] u2 z fm h0 n0 Z0 (own_nn hin.1) (own_lt hin.2) S2 rf) hZ (own_w hw 64 rfl) (own_w hw 7 rfl) (by decide) (by decide)) (g := (mkF m 3 #[.val (.ref u1), .val (.int u2)] [(.int z), (.int u2)])) rfl (by rw [hml]; rfl) (argsL := [(.int u2), (.int z)]) (rest := []) (lenOf pd_329858 rfl) rfl (by show 2 * 0 + _ ≤ _; exact Nat.le_of_eq rfl) (hb hby d13_3) (fun _ _ => ⟨rfl, e0, (by decide : 0 + 0 ≤ _), (by decide : 0 + 0 ≤ _)⟩)
  dsimp only [Pt.U, Pt.locs, Pt.cells, Pt.slots] at X31 l31 y31 z31 st31 hQ31
  replace y31 : k31 = 0 := y31
  replace z31 : n31 = 0 := z31
  subst y31 z31
  obtain ⟨rfl, Nq31, eq31⟩ := hQ31
  have N31 : Fr n0 L31 := by rw [l31]; exact Fr.app N0 Nq31
  obtain ⟨fs, hr, hrun, hended, hW, hsame⟩ := X31.leave (v := some (.int (nar .char ((r &&& (255 : Int32)).toUInt32.toUInt16.toUInt32.toInt32)))) (fun h => by rw [Bd.returns] at h; cases h)
  refine ⟨_, _, pre0 _ ?_, hrun, hended, _, _, rfl, ?_, ⟨_, rfl⟩, hW, hsame.mono (by decide) (by decide)⟩
  · show Steps p.tables e below (s₁.setTop (mkF m 0 #[.val (.ref u1), .val (.int u2)] [])) _
    refine XS.iloadN X0.here hx rfl (hb hby d13_0) rfl ?_
    refine XS.aloadN X0.here hx rfl (hb hby d13_1) rfl rfl ?_
    refine X0.arraylength hx (by rw [e0]; exact Ar.1) (State.isArrayOf_alike hZ.alike Ar.2.1) (g := (mkF m 2 #[.val (.ref u1), .val (.int u2)] [(.ref u1), (.int u2)])) rfl rfl (hb hby d13_2) _ ?_
    rw [len_of Sz Mz]
    refine st31 _ ?_
    refine XS.aloadN X31.here hx rfl (hb hby d13_6) rfl rfl ?_
    refine XS.iloadN X31.here hx rfl (hb hby d13_7) rfl ?_
    refine X31.baloadBytes hx (j := u2) (v := (.int r)) (by rw [eq31]; exact Ar.1) (State.isArrayOf_alike hZ.alike Ar.2.1) Ar.2.2 (inb_of Sz hin) (Hz.at (inb_of Sz hin) hv) (g := (mkF m 8 #[.val (.ref u1), .val (.int u2)] [(.int u2), (.ref u1)])) rfl rfl (hb hby d13_8) _ ?_
    refine XS.sipush X31.here hx rfl (hb hby d13_9) ?_
    show Steps p.tables e below (T31.setTop (mkF m 12 #[.val (.ref u1), .val (.int u2)] [(.int (255 : Int32)), (.int r)])) _
    refine XS.iand X31.here hx rfl (hb hby d13_12) rfl ?_
    refine XS.i2c X31.here hx rfl (hb hby d13_13) rfl ?_
    show Steps p.tables e below (T31.setTop (mkF m 14 #[.val (.ref u1), .val (.int u2)] [(.int ((r &&& (255 : Int32)).toUInt32.toUInt16.toUInt32.toInt32))])) _
    exact retN X31 hx (t := .char) Bd.returns (by simp) (hb hby d13_14) hr
  · show Q_rm_lch Z _ _ _ _ _ _ _ h0 n0 _ T31.heap _
    rw [eq31]
    exact ⟨rfl, N31, rfl⟩
theorem d11_0 : decode jdk_42_method_56_code 0 = .ok (.aload_n 0, 1) := by decide +kernel
theorem d11_1 : decode jdk_42_method_56_code 1 = .ok (.invokevirtual 492, 3) := by decide +kernel
theorem pd_691901 : parseMethodDescriptor "()Z" = some ⟨[], some .boolean⟩ := by decide +kernel
theorem d11_4 : decode jdk_42_method_56_code 4 = .ok (.ifCond .eq 12, 3) := by decide +kernel
theorem d11_7 : decode jdk_42_method_56_code 7 = .ok (.aload_n 0, 1) := by decide +kernel
theorem d11_8 : decode jdk_42_method_56_code 8 = .ok (.getfield 9, 3) := by decide +kernel
theorem d11_11 : decode jdk_42_method_56_code 11 = .ok (.iload_n 1, 1) := by decide +kernel
theorem d11_12 : decode jdk_42_method_56_code 12 = .ok (.invokestatic 495, 3) := by decide +kernel
theorem d11_15 : decode jdk_42_method_56_code 15 = .ok (.ireturn, 1) := by decide +kernel
theorem ef_rm_ch (m : MethodId) (x0 : Addr) (x1 : Int32) : entryFrame m #[(.ref x0), (.int x1)] 2 = mkF m 0 #[.val (.ref x0), .val (.int x1)] [] := by first | (simp [entryFrame, mkF, argsToLocals, Value.category]; done) | rfl
def Q_rm_ch (Z : State) (u1 : Addr) (u2 : Int32) (zc : Int32) (fm : Value) (t : Addr) (kb : ClassId) (z : Int32) (vs : List Value) (r : Int32) (rr : Int32) (h0 : Heap) (n0 : Nat) (v : Option Value) (h : Heap) (L : List Loc) : Prop := v = some (.int rr) ∧ Fr n0 L ∧ h = h0
set_option maxRecDepth 65536 in
set_option maxHeartbeats 40000000 in
theorem rm_ch (l : Launch) (Z : State) (a0 : Array Value) (hw : ∀ d ∈ tables_1, d.before a0 Z = true) (ws : List Jvm.Cond) (u1 : Addr) (u2 : Int32) (zc : Int32) (fm : Value) (t : Addr) (kb : ClassId) (z : Int32) (vs : List Value) (r : Int32) (rr : Int32) (h0 : Heap) (n0 : Nat) (Z0 : n0 ≤ h0.size) (hrr : (nar .char (nar .char ((r &&& (255 : Int32)).toUInt32.toUInt16.toUInt32.toInt32))) = rr) (S1 : Sta Z h0 "java/lang/String" "COMPACT_STRINGS" "Z" (.int zc)) (hz : ¬ zc = 0) (S2 : Sta Z h0 "jdk/internal/util/Preconditions" "SIOOBE_FORMATTER" "Ljava/util/function/BiFunction;" fm) (rf : fm.isRef = true) (E1 : Exa Z h0 u1 "java/lang/String") (F1 : Fld Z h0 u1 "java/lang/String" "coder" "B" (.int (0 : Int32))) (F2 : Fld Z h0 u1 "java/lang/String" "value" "[B" (.ref t)) (V1 : Arv Z h0 t kb .byte z vs (.int (0 : Int32))) (hin : ¬ u2 < 0 ∧ u2 < z) (hv : vs.getD u2.toNatClampNeg (.int (0 : Int32)) = .int r) :
    MetFree l (⟨"java/lang/String", "charAt", "(I)C"⟩ : MethodName) (head1 (Jvm.Cond.code (⟨"java/lang/String", "charAt", "(I)C"⟩ : MethodName) jdk_42_method_56_code 2 (some .char) :: ws) ({ frames := 5, cells := 0, slots := 0, locals := 100 } : Room)) (fun a U => a = #[(.ref u1), (.int u2)] ∧ Z.Warmed39 U.vm ∧ U.heap = h0) (fun _ _ _ _ _ => True) (fun _ U o U' => ∃ v L, o = .returned v ∧ Q_rm_ch Z u1 u2 zc fm t kb z vs r rr h0 n0 v U'.heap L ∧ FrameEnd U o U' L ({ frames := 5, cells := 0, slots := 0, locals := 100 } : Room).cells ({ frames := 5, cells := 0, slots := 0, locals := 100 } : Room).slots) := by
  refine MetFree.of_bodySF (plainFor_of_name pn_453642) hisR ?_
  intro p e s m args below meth c s₁ Bd hml0 hP hK
  obtain ⟨rfl, hZ, hh⟩ := hP
  have hx := Bd.exec
  have hby := Bd.bytes
  have hml : c.maxLocals = 2 := hml0
  have hown : s.vm.findClass "java/lang/String" = some m.cls := findClass_of_methodNamed Bd.named
  have hnm := (name_of_methodNamed Bd.named Bd.method).1
  have X0 : Stand p l e ({ frames := 5, cells := 0, slots := 0, locals := 100 } : Room) s m #[(.ref u1), (.int u2)] below meth c s₁ [] 0 0 := Stand.of_body Bd
  have e0 : s₁.heap = h0 := by rw [← hh, Bd.state]; rfl
  have N0 := Fr.nil n0
  have pre0 : ∀ t, Steps p.tables e below (s₁.setTop (mkF m 0 #[.val (.ref u1), .val (.int u2)] [])) t → Steps p.tables e below (s₁.setTop (entryFrame m #[(.ref u1), (.int u2)] 2)) t := fun t k => castTop (ef_rm_ch m u1 u2) k
  obtain ⟨cq31, kq31, q31a, q31b, q31c⟩ := isOf hZ e0 E1
  obtain ⟨_, _, ⟨T31, L31, k31, n31⟩, -, X31, ⟨Lc31, hQ31, l31, y31, z31⟩, st31⟩ := X0.virtualBack hx (y := (⟨"java/lang/String", "isLatin1", "()Z"⟩ : MethodName)) (z := (⟨"java/lang/String", "isLatin1", "()Z"⟩ : MethodName)) hown (mvT hZ (own_w hw 53 rfl)) (mvT hZ (own_w hw 54 rfl)) (notFace_of_selects (args := #[]) (mvT hZ (own_w hw 56 rfl))) (mvT hZ (own_w hw 56 rfl)) (mvT hZ (own_w hw 55 rfl)) (by decide) (backOf (W := 0) (rm_lat l Z a0 hw [] u1 zc (0 : Int32) h0 n0 Z0 S1 hz F1) hZ (own_w hw 57 rfl) (own_w hw 7 rfl) (by decide) (by decide)) q31a q31c (g := (mkF m 1 #[.val (.ref u1), .val (.int u2)] [(.ref u1)])) rfl (by rw [hml]; rfl) (Steps.refl _) (argsL := []) (rest := []) (lenOf pd_691901 rfl) rfl (by show 2 * 0 + _ ≤ _; exact Nat.le_of_eq rfl) (hb hby d11_1) (fun _ _ => ⟨rfl, e0, (by decide : 0 + 0 ≤ _), (by decide : 0 + 0 ≤ _)⟩)
  dsimp only [Pt.U, Pt.locs, Pt.cells, Pt.slots] at X31 l31 y31 z31 st31 hQ31
  replace y31 : k31 = 0 := y31
  replace z31 : n31 = 0 := z31
  subst y31 z31
  obtain ⟨rfl, Nq31, eq31⟩ := hQ31
  have N31 : Fr n0 L31 := by rw [l31]; exact Fr.app N0 Nq31
  obtain ⟨T32, X32, e32, st32⟩ := getF X31 hx hZ hown (host := "") (Or.inl (own_w hw 32 rfl)) Via.refl eq31 F2 (g := (mkF m 8 #[.val (.ref u1), .val (.int u2)] [(.ref u1)])) rfl rfl (hb hby d11_8)
  obtain ⟨_, _, ⟨T33, L33, k33, n33⟩, -, X33, ⟨Lc33, hQ33, l33, y33, z33⟩, st33⟩ := Jvm.LawKit.callS X32 hx (y := (⟨"java/lang/StringLatin1", "charAt", "([BI)C"⟩ : MethodName)) hown (mvT hZ (own_w hw 58 rfl)) (mvT hZ (own_w hw 59 rfl)) (mvT hZ (own_w hw 60 rfl)) (mvT hZ (own_w hw 61 rfl)) (by decide) (backOf (W := 0) (rm_lch l Z a0 hw [] t u2 fm kb z vs r h0 n0 Z0 S2 rf V1 hin hv) hZ (own_w hw 61 rfl) (own_w hw 60 rfl) (by decide) (by decide)) (g := (mkF m 12 #[.val (.ref u1), .val (.int u2)] [(.int u2), (.ref t)])) rfl (by rw [hml]; rfl) (argsL := [(.ref t), (.int u2)]) (rest := []) (lenOf pd_676 rfl) rfl (by show 2 * 0 + _ ≤ _; exact Nat.le_of_eq rfl) (hb hby d11_12) (fun _ _ => ⟨rfl, e32, (by decide : 0 + 0 ≤ _), (by decide : 0 + 0 ≤ _)⟩)
  dsimp only [Pt.U, Pt.locs, Pt.cells, Pt.slots] at X33 l33 y33 z33 st33 hQ33
  replace y33 : k33 = 0 := y33
  replace z33 : n33 = 0 := z33
  subst y33 z33
  obtain ⟨rfl, Nq33, eq33⟩ := hQ33
  have N33 : Fr n0 L33 := by rw [l33]; exact Fr.app N31 Nq33
  obtain ⟨fs, hr, hrun, hended, hW, hsame⟩ := X33.leave (v := some (.int (nar .char (nar .char ((r &&& (255 : Int32)).toUInt32.toUInt16.toUInt32.toInt32))))) (fun h => by rw [Bd.returns] at h; cases h)
  refine ⟨_, _, pre0 _ ?_, hrun, hended, _, _, rfl, ?_, ⟨_, rfl⟩, hW, hsame.mono (by decide) (by decide)⟩
  · show Steps p.tables e below (s₁.setTop (mkF m 0 #[.val (.ref u1), .val (.int u2)] [])) _
    refine XS.aloadN X0.here hx rfl (hb hby d11_0) rfl rfl ?_
    refine st31.trans ?_
    refine XS.ifNo X31.here hx rfl (hb hby d11_4) rfl (by decide) ?_
    refine XS.aloadN X31.here hx rfl (hb hby d11_7) rfl rfl ?_
    refine st32 _ ?_
    refine XS.iloadN X32.here hx rfl (hb hby d11_11) rfl ?_
    refine st33 _ ?_
    show Steps p.tables e below (T33.setTop (mkF m 15 #[.val (.ref u1), .val (.int u2)] [(.int (nar .char ((r &&& (255 : Int32)).toUInt32.toUInt16.toUInt32.toInt32)))])) _
    exact retN X33 hx (t := .char) Bd.returns (by simp) (hb hby d11_15) hr
  · show Q_rm_ch Z _ _ _ _ _ _ _ _ _ _ h0 n0 _ T33.heap _
    rw [eq33]
    exact ⟨(by rw [hrr]), N33, rfl⟩
theorem d24_0 : decode jdk_52_method_6_code 0 = .ok (.aload_n 0, 1) := by decide +kernel
theorem d24_1 : decode jdk_52_method_6_code 1 = .ok (.arraylength, 1) := by decide +kernel
theorem d24_2 : decode jdk_52_method_6_code 2 = .ok (.iconst 1, 1) := by decide +kernel
theorem d24_3 : decode jdk_52_method_6_code 3 = .ok (.ishr, 1) := by decide +kernel
theorem d24_4 : decode jdk_52_method_6_code 4 = .ok (.ireturn, 1) := by decide +kernel
theorem ef_rm_ulen (m : MethodId) (x0 : Addr) : entryFrame m #[(.ref x0)] 1 = mkF m 0 #[.val (.ref x0)] [] := by first | (simp [entryFrame, mkF, argsToLocals, Value.category]; done) | rfl
def Q_rm_ulen (Z : State) (u1 : Addr) (kb : ClassId) (z : Int32) (vs : List Value) (h0 : Heap) (n0 : Nat) (v : Option Value) (h : Heap) (L : List Loc) : Prop := v = some (.int (z >>> ((1 : Int32) &&& 31))) ∧ Fr n0 L ∧ h = h0
set_option maxRecDepth 65536 in
set_option maxHeartbeats 40000000 in
theorem rm_ulen (l : Launch) (Z : State) (a0 : Array Value) (hw : ∀ d ∈ tables_1, d.before a0 Z = true) (ws : List Jvm.Cond) (u1 : Addr) (kb : ClassId) (z : Int32) (vs : List Value) (h0 : Heap) (n0 : Nat) (Z0 : n0 ≤ h0.size) (V1 : Arv Z h0 u1 kb .byte z vs (.int (0 : Int32))) :
    MetFree l (⟨"java/lang/StringUTF16", "length", "([B)I"⟩ : MethodName) (head1 (Jvm.Cond.code (⟨"java/lang/StringUTF16", "length", "([B)I"⟩ : MethodName) jdk_52_method_6_code 1 (some .int) :: ws) ({ frames := 0, cells := 0, slots := 0, locals := 0 } : Room)) (fun a U => a = #[(.ref u1)] ∧ Z.Warmed39 U.vm ∧ U.heap = h0) (fun _ _ _ _ _ => True) (fun _ U o U' => ∃ v L, o = .returned v ∧ Q_rm_ulen Z u1 kb z vs h0 n0 v U'.heap L ∧ FrameEnd U o U' L ({ frames := 0, cells := 0, slots := 0, locals := 0 } : Room).cells ({ frames := 0, cells := 0, slots := 0, locals := 0 } : Room).slots) := by
  refine MetFree.of_bodySF (plainFor_of_name pn_50925) hisR ?_
  intro p e s m args below meth c s₁ Bd hml0 hP hK
  obtain ⟨rfl, hZ, hh⟩ := hP
  have hx := Bd.exec
  have hby := Bd.bytes
  have hml : c.maxLocals = 1 := hml0
  have hown : s.vm.findClass "java/lang/StringUTF16" = some m.cls := findClass_of_methodNamed Bd.named
  have hnm := (name_of_methodNamed Bd.named Bd.method).1
  have X0 : Stand p l e ({ frames := 0, cells := 0, slots := 0, locals := 0 } : Room) s m #[(.ref u1)] below meth c s₁ [] 0 0 := Stand.of_body Bd
  have e0 : s₁.heap = h0 := by rw [← hh, Bd.state]; rfl
  have N0 := Fr.nil n0
  have pre0 : ∀ t, Steps p.tables e below (s₁.setTop (mkF m 0 #[.val (.ref u1)] [])) t → Steps p.tables e below (s₁.setTop (entryFrame m #[(.ref u1)] 1)) t := fun t k => castTop (ef_rm_ulen m u1) k
  obtain ⟨cl, Ar, -, Sz, Mz, -, -⟩ := id V1
  obtain ⟨fs, hr, hrun, hended, hW, hsame⟩ := X0.leave (v := some (.int (z >>> ((1 : Int32) &&& 31)))) (fun h => by rw [Bd.returns] at h; cases h)
  refine ⟨_, _, pre0 _ ?_, hrun, hended, _, _, rfl, ?_, ⟨_, rfl⟩, hW, hsame.mono (by decide) (by decide)⟩
  · show Steps p.tables e below (s₁.setTop (mkF m 0 #[.val (.ref u1)] [])) _
    refine XS.aloadN X0.here hx rfl (hb hby d24_0) rfl rfl ?_
    refine X0.arraylength hx (by rw [e0]; exact Ar.1) (State.isArrayOf_alike hZ.alike Ar.2.1) (g := (mkF m 1 #[.val (.ref u1)] [(.ref u1)])) rfl rfl (hb hby d24_1) _ ?_
    rw [len_of Sz Mz]
    refine XS.iconst X0.here hx rfl (hb hby d24_2) ?_
    refine XS.ishr X0.here hx rfl (hb hby d24_3) rfl ?_
    show Steps p.tables e below (s₁.setTop (mkF m 4 #[.val (.ref u1)] [(.int (z >>> ((1 : Int32) &&& 31)))])) _
    exact retI X0 hx Bd.returns (hb hby d24_4) hr
  · show Q_rm_ulen Z _ _ _ _ h0 n0 _ s₁.heap _
    rw [e0]
    exact ⟨rfl, N0, rfl⟩
theorem d23_0 : decode jdk_52_method_91_code 0 = .ok (.iload_n 0, 1) := by decide +kernel
theorem d23_1 : decode jdk_52_method_91_code 1 = .ok (.aload_n 1, 1) := by decide +kernel
theorem d23_2 : decode jdk_52_method_91_code 2 = .ok (.invokestatic 48, 3) := by decide +kernel
theorem pd_675236 : parseMethodDescriptor "([B)I" = some ⟨[(.array .byte)], some .int⟩ := by decide +kernel
theorem d23_5 : decode jdk_52_method_91_code 5 = .ok (.invokestatic 414, 3) := by decide +kernel
theorem d23_8 : decode jdk_52_method_91_code 8 = .ok (.return_, 1) := by decide +kernel
theorem ef_rm_uci0 (m : MethodId) (x0 : Int32) (x1 : Addr) : entryFrame m #[(.int x0), (.ref x1)] 2 = mkF m 0 #[.val (.int x0), .val (.ref x1)] [] := by first | (simp [entryFrame, mkF, argsToLocals, Value.category]; done) | rfl
def Q_rm_uci0 (Z : State) (u2 : Addr) (fm : Value) (kb : ClassId) (z : Int32) (vs : List Value) (h0 : Heap) (n0 : Nat) (v : Option Value) (h : Heap) (L : List Loc) : Prop := v = none ∧ Fr n0 L ∧ h = h0
set_option maxRecDepth 65536 in
set_option maxHeartbeats 40000000 in
theorem rm_uci0 (l : Launch) (Z : State) (a0 : Array Value) (hw : ∀ d ∈ tables_1, d.before a0 Z = true) (ws : List Jvm.Cond) (u2 : Addr) (fm : Value) (kb : ClassId) (z : Int32) (vs : List Value) (h0 : Heap) (n0 : Nat) (Z0 : n0 ≤ h0.size) (hc1 : ifCond.holds .lt (0 : Int32) = false) (hc2 : if_icmp.holds .lt (0 : Int32) (z >>> ((1 : Int32) &&& 31)) = true) (S2 : Sta Z h0 "jdk/internal/util/Preconditions" "SIOOBE_FORMATTER" "Ljava/util/function/BiFunction;" fm) (rf : fm.isRef = true) (V1 : Arv Z h0 u2 kb .byte z vs (.int (0 : Int32))) :
    MetFree l (⟨"java/lang/StringUTF16", "checkIndex", "(I[B)V"⟩ : MethodName) (head1 (Jvm.Cond.code (⟨"java/lang/StringUTF16", "checkIndex", "(I[B)V"⟩ : MethodName) jdk_52_method_91_code 2 none :: ws) ({ frames := 2, cells := 0, slots := 0, locals := 27 } : Room)) (fun a U => a = #[(.int (0 : Int32)), (.ref u2)] ∧ Z.Warmed39 U.vm ∧ U.heap = h0) (fun _ _ _ _ _ => True) (fun _ U o U' => ∃ v L, o = .returned v ∧ Q_rm_uci0 Z u2 fm kb z vs h0 n0 v U'.heap L ∧ FrameEnd U o U' L ({ frames := 2, cells := 0, slots := 0, locals := 27 } : Room).cells ({ frames := 2, cells := 0, slots := 0, locals := 27 } : Room).slots) := by
  refine MetFree.of_bodySF (plainFor_of_name pn_50925) hisR ?_
  intro p e s m args below meth c s₁ Bd hml0 hP hK
  obtain ⟨rfl, hZ, hh⟩ := hP
  have hx := Bd.exec
  have hby := Bd.bytes
  have hml : c.maxLocals = 2 := hml0
  have hown : s.vm.findClass "java/lang/StringUTF16" = some m.cls := findClass_of_methodNamed Bd.named
  have hnm := (name_of_methodNamed Bd.named Bd.method).1
  have X0 : Stand p l e ({ frames := 2, cells := 0, slots := 0, locals := 27 } : Room) s m #[(.int (0 : Int32)), (.ref u2)] below meth c s₁ [] 0 0 := Stand.of_body Bd
  have e0 : s₁.heap = h0 := by rw [← hh, Bd.state]; rfl
  have N0 := Fr.nil n0
  have pre0 : ∀ t, Steps p.tables e below (s₁.setTop (mkF m 0 #[.val (.int (0 : Int32)), .val (.ref u2)] [])) t → Steps p.tables e below (s₁.setTop (entryFrame m #[(.int (0 : Int32)), (.ref u2)] 2)) t := fun t k => castTop (ef_rm_uci0 m (0 : Int32) u2) k
  obtain ⟨_, _, ⟨T31, L31, k31, n31⟩, -, X31, ⟨Lc31, hQ31, l31, y31, z31⟩, st31⟩ := Jvm.LawKit.callS X0 hx (y := (⟨"java/lang/StringUTF16", "length", "([B)I"⟩ : MethodName)) hown (mvT hZ (own_w hw 102 rfl)) (mvT hZ (own_w hw 103 rfl)) (mvT hZ (own_w hw 21 rfl)) (mvT hZ (own_w hw 104 rfl)) (by decide) (backOf (W := 1) (rm_ulen l Z a0 hw [] u2 kb z vs h0 n0 Z0 V1) hZ (own_w hw 104 rfl) (own_w hw 21 rfl) (by decide) (by decide)) (g := (mkF m 2 #[.val (.int (0 : Int32)), .val (.ref u2)] [(.ref u2), (.int (0 : Int32))])) rfl (by rw [hml]; rfl) (argsL := [(.ref u2)]) (rest := [(.int (0 : Int32))]) (lenOf pd_675236 rfl) rfl (by show 2 * 0 + _ ≤ _; exact Nat.le_of_eq rfl) (hb hby d23_2) (fun _ _ => ⟨rfl, e0, (by decide : 0 + 0 ≤ _), (by decide : 0 + 0 ≤ _)⟩)
  dsimp only [Pt.U, Pt.locs, Pt.cells, Pt.slots] at X31 l31 y31 z31 st31 hQ31
  replace y31 : k31 = 0 := y31
  replace z31 : n31 = 0 := z31
  subst y31 z31
  obtain ⟨rfl, Nq31, eq31⟩ := hQ31
  have N31 : Fr n0 L31 := by rw [l31]; exact Fr.app N0 Nq31
  obtain ⟨_, _, ⟨T32, L32, k32, n32⟩, -, X32, ⟨Lc32, hQ32, l32, y32, z32⟩, st32⟩ := Jvm.LawKit.callS X31 hx (y := (⟨"java/lang/String", "checkIndex", "(II)V"⟩ : MethodName)) hown (mvT hZ (own_w hw 105 rfl)) (mvT hZ (own_w hw 63 rfl)) (mvT hZ (own_w hw 7 rfl)) (mvT hZ (own_w hw 64 rfl)) (by decide) (backOf (W := 0) (rm_cix l Z a0 hw [] (0 : Int32) (z >>> ((1 : Int32) &&& 31)) fm h0 n0 Z0 hc1 hc2 S2 rf) hZ (own_w hw 64 rfl) (own_w hw 7 rfl) (by decide) (by decide)) (g := (mkF m 5 #[.val (.int (0 : Int32)), .val (.ref u2)] [(.int (z >>> ((1 : Int32) &&& 31))), (.int (0 : Int32))])) rfl (by rw [hml]; rfl) (argsL := [(.int (0 : Int32)), (.int (z >>> ((1 : Int32) &&& 31)))]) (rest := []) (lenOf pd_329858 rfl) rfl (by show 2 * 0 + _ ≤ _; exact Nat.le_of_eq rfl) (hb hby d23_5) (fun _ _ => ⟨rfl, eq31, (by decide : 0 + 0 ≤ _), (by decide : 0 + 0 ≤ _)⟩)
  dsimp only [Pt.U, Pt.locs, Pt.cells, Pt.slots] at X32 l32 y32 z32 st32 hQ32
  replace y32 : k32 = 0 := y32
  replace z32 : n32 = 0 := z32
  subst y32 z32
  obtain ⟨rfl, Nq32, eq32⟩ := hQ32
  have N32 : Fr n0 L32 := by rw [l32]; exact Fr.app N31 Nq32
  obtain ⟨fs, hr, hrun, hended, hW, hsame⟩ := X32.leave (v := none) (fun _ => rfl)
  refine ⟨_, _, pre0 _ ?_, hrun, hended, _, _, rfl, ?_, ⟨_, rfl⟩, hW, hsame.mono (by decide) (by decide)⟩
  · show Steps p.tables e below (s₁.setTop (mkF m 0 #[.val (.int (0 : Int32)), .val (.ref u2)] [])) _
    refine XS.iloadN X0.here hx rfl (hb hby d23_0) rfl ?_
    refine XS.aloadN X0.here hx rfl (hb hby d23_1) rfl rfl ?_
    refine st31 _ ?_
    refine st32 _ ?_
    show Steps p.tables e below (T32.setTop (mkF m 8 #[.val (.int (0 : Int32)), .val (.ref u2)] [])) _
    exact X32.returnOut hx Bd.returns (hb hby d23_8) hr
  · show Q_rm_uci0 Z _ _ _ _ _ h0 n0 _ T32.heap _
    rw [eq32]
    exact ⟨rfl, N32, rfl⟩
theorem d22_0 : decode jdk_52_method_83_code 0 = .ok (.iload_n 1, 1) := by decide +kernel
theorem d22_1 : decode jdk_52_method_83_code 1 = .ok (.aload_n 0, 1) := by decide +kernel
theorem d22_2 : decode jdk_52_method_83_code 2 = .ok (.invokestatic 67, 3) := by decide +kernel
theorem pd_100000 : parseMethodDescriptor "(I[B)V" = some ⟨[.int, (.array .byte)], none⟩ := by decide +kernel
theorem d22_5 : decode jdk_52_method_83_code 5 = .ok (.aload_n 0, 1) := by decide +kernel
theorem d22_6 : decode jdk_52_method_83_code 6 = .ok (.iload_n 1, 1) := by decide +kernel
theorem d22_7 : decode jdk_52_method_83_code 7 = .ok (.invokestatic 71, 3) := by decide +kernel
theorem d22_10 : decode jdk_52_method_83_code 10 = .ok (.ireturn, 1) := by decide +kernel
theorem ef_rm_uch0 (m : MethodId) (x0 : Addr) (x1 : Int32) : entryFrame m #[(.ref x0), (.int x1)] 2 = mkF m 0 #[.val (.ref x0), .val (.int x1)] [] := by first | (simp [entryFrame, mkF, argsToLocals, Value.category]; done) | rfl
def Q_rm_uch0 (Z : State) (u1 : Addr) (fm : Value) (kb : ClassId) (z : Int32) (vs : List Value) (x0 : Int32) (x1 : Int32) (rr : Int32) (h0 : Heap) (n0 : Nat) (v : Option Value) (h : Heap) (L : List Loc) : Prop := v = some (.int rr) ∧ Fr n0 L ∧ h = h0
set_option maxRecDepth 65536 in
set_option maxHeartbeats 40000000 in
theorem rm_uch0 (l : Launch) (Z : State) (a0 : Array Value) (hw : ∀ d ∈ tables_1, d.before a0 Z = true) (ws : List Jvm.Cond) (u1 : Addr) (fm : Value) (kb : ClassId) (z : Int32) (vs : List Value) (x0 : Int32) (x1 : Int32) (rr : Int32) (h0 : Heap) (n0 : Nat) (Z0 : n0 ≤ h0.size) (SA : Sta Z h0 "java/lang/StringUTF16" "$assertionsDisabled" "Z" (.int (1 : Int32))) (SH : Sta Z h0 "java/lang/StringUTF16" "HI_BYTE_SHIFT" "I" (.int (0 : Int32))) (SLo : Sta Z h0 "java/lang/StringUTF16" "LO_BYTE_SHIFT" "I" (.int (8 : Int32))) (hc1 : ifCond.holds .lt (0 : Int32) = false) (hc2 : if_icmp.holds .lt (0 : Int32) (z >>> ((1 : Int32) &&& 31)) = true) (S2 : Sta Z h0 "jdk/internal/util/Preconditions" "SIOOBE_FORMATTER" "Ljava/util/function/BiFunction;" fm) (rf : fm.isRef = true) (hrr : (nar .char (nar .char ((((x0 &&& (255 : Int32)) <<< ((0 : Int32) &&& 31)) ||| ((x1 &&& (255 : Int32)) <<< ((8 : Int32) &&& 31))).toUInt32.toUInt16.toUInt32.toInt32))) = rr) (V1 : Arv Z h0 u1 kb .byte z vs (.int (0 : Int32))) (hN0 : (0 : Int32) < z) (hN1 : (1 : Int32) < z) (hv0 : vs.getD ((0 : Int32)).toNatClampNeg (.int (0 : Int32)) = .int x0) (hv1 : vs.getD ((1 : Int32)).toNatClampNeg (.int (0 : Int32)) = .int x1) :
    MetFree l (⟨"java/lang/StringUTF16", "charAt", "([BI)C"⟩ : MethodName) (head1 (Jvm.Cond.code (⟨"java/lang/StringUTF16", "charAt", "([BI)C"⟩ : MethodName) jdk_52_method_83_code 2 (some .char) :: ws) ({ frames := 3, cells := 0, slots := 0, locals := 40 } : Room)) (fun a U => a = #[(.ref u1), (.int (0 : Int32))] ∧ Z.Warmed39 U.vm ∧ U.heap = h0) (fun _ _ _ _ _ => True) (fun _ U o U' => ∃ v L, o = .returned v ∧ Q_rm_uch0 Z u1 fm kb z vs x0 x1 rr h0 n0 v U'.heap L ∧ FrameEnd U o U' L ({ frames := 3, cells := 0, slots := 0, locals := 40 } : Room).cells ({ frames := 3, cells := 0, slots := 0, locals := 40 } : Room).slots) := by
  refine MetFree.of_bodySF (plainFor_of_name pn_50925) hisR ?_
  intro p e s m args below meth c s₁ Bd hml0 hP hK
  obtain ⟨rfl, hZ, hh⟩ := hP
  have hx := Bd.exec
  have hby := Bd.bytes
  have hml : c.maxLocals = 2 := hml0
  have hown : s.vm.findClass "java/lang/StringUTF16" = some m.cls := findClass_of_methodNamed Bd.named
  have hnm := (name_of_methodNamed Bd.named Bd.method).1
  have X0 : Stand p l e ({ frames := 3, cells := 0, slots := 0, locals := 40 } : Room) s m #[(.ref u1), (.int (0 : Int32))] below meth c s₁ [] 0 0 := Stand.of_body Bd
  have e0 : s₁.heap = h0 := by rw [← hh, Bd.state]; rfl
  have N0 := Fr.nil n0
  have pre0 : ∀ t, Steps p.tables e below (s₁.setTop (mkF m 0 #[.val (.ref u1), .val (.int (0 : Int32))] [])) t → Steps p.tables e below (s₁.setTop (entryFrame m #[(.ref u1), (.int (0 : Int32))] 2)) t := fun t k => castTop (ef_rm_uch0 m u1 (0 : Int32)) k
  obtain ⟨_, _, ⟨T31, L31, k31, n31⟩, -, X31, ⟨Lc31, hQ31, l31, y31, z31⟩, st31⟩ := Jvm.LawKit.callS X0 hx (y := (⟨"java/lang/StringUTF16", "checkIndex", "(I[B)V"⟩ : MethodName)) hown (mvT hZ (own_w hw 99 rfl)) (mvT hZ (own_w hw 100 rfl)) (mvT hZ (own_w hw 21 rfl)) (mvT hZ (own_w hw 101 rfl)) (by decide) (backOf (W := 0) (rm_uci0 l Z a0 hw [] u1 fm kb z vs h0 n0 Z0 hc1 hc2 S2 rf V1) hZ (own_w hw 101 rfl) (own_w hw 21 rfl) (by decide) (by decide)) (g := (mkF m 2 #[.val (.ref u1), .val (.int (0 : Int32))] [(.ref u1), (.int (0 : Int32))])) rfl (by rw [hml]; rfl) (argsL := [(.int (0 : Int32)), (.ref u1)]) (rest := []) (lenOf pd_100000 rfl) rfl (by show 2 * 0 + _ ≤ _; exact Nat.le_of_eq rfl) (hb hby d22_2) (fun _ _ => ⟨rfl, e0, (by decide : 0 + 0 ≤ _), (by decide : 0 + 0 ≤ _)⟩)
  dsimp only [Pt.U, Pt.locs, Pt.cells, Pt.slots] at X31 l31 y31 z31 st31 hQ31
  replace y31 : k31 = 0 := y31
  replace z31 : n31 = 0 := z31
  subst y31 z31
  obtain ⟨rfl, Nq31, eq31⟩ := hQ31
  have N31 : Fr n0 L31 := by rw [l31]; exact Fr.app N0 Nq31
  obtain ⟨_, _, ⟨T32, L32, k32, n32⟩, -, X32, ⟨Lc32, hQ32, l32, y32, z32⟩, st32⟩ := Jvm.LawKit.callS X31 hx (y := (⟨"java/lang/StringUTF16", "getChar", "([BI)C"⟩ : MethodName)) hown (mvT hZ (own_w hw 93 rfl)) (mvT hZ (own_w hw 94 rfl)) (mvT hZ (own_w hw 21 rfl)) (mvT hZ (own_w hw 95 rfl)) (by decide) (backOf (W := 0) (rm_get0 l Z a0 hw [] u1 kb z vs x0 x1 (nar .char ((((x0 &&& (255 : Int32)) <<< ((0 : Int32) &&& 31)) ||| ((x1 &&& (255 : Int32)) <<< ((8 : Int32) &&& 31))).toUInt32.toUInt16.toUInt32.toInt32)) h0 n0 Z0 SA SH SLo rfl V1 hN0 hN1 hv0 hv1) hZ (own_w hw 95 rfl) (own_w hw 21 rfl) (by decide) (by decide)) (g := (mkF m 7 #[.val (.ref u1), .val (.int (0 : Int32))] [(.int (0 : Int32)), (.ref u1)])) rfl (by rw [hml]; rfl) (argsL := [(.ref u1), (.int (0 : Int32))]) (rest := []) (lenOf pd_676 rfl) rfl (by show 2 * 0 + _ ≤ _; exact Nat.le_of_eq rfl) (hb hby d22_7) (fun _ _ => ⟨rfl, eq31, (by decide : 0 + 0 ≤ _), (by decide : 0 + 0 ≤ _)⟩)
  dsimp only [Pt.U, Pt.locs, Pt.cells, Pt.slots] at X32 l32 y32 z32 st32 hQ32
  replace y32 : k32 = 0 := y32
  replace z32 : n32 = 0 := z32
  subst y32 z32
  obtain ⟨rfl, Nq32, eq32⟩ := hQ32
  have N32 : Fr n0 L32 := by rw [l32]; exact Fr.app N31 Nq32
  obtain ⟨fs, hr, hrun, hended, hW, hsame⟩ := X32.leave (v := some (.int (nar .char (nar .char ((((x0 &&& (255 : Int32)) <<< ((0 : Int32) &&& 31)) ||| ((x1 &&& (255 : Int32)) <<< ((8 : Int32) &&& 31))).toUInt32.toUInt16.toUInt32.toInt32))))) (fun h => by rw [Bd.returns] at h; cases h)
  refine ⟨_, _, pre0 _ ?_, hrun, hended, _, _, rfl, ?_, ⟨_, rfl⟩, hW, hsame.mono (by decide) (by decide)⟩
  · show Steps p.tables e below (s₁.setTop (mkF m 0 #[.val (.ref u1), .val (.int (0 : Int32))] [])) _
    refine XS.iloadN X0.here hx rfl (hb hby d22_0) rfl ?_
    refine XS.aloadN X0.here hx rfl (hb hby d22_1) rfl rfl ?_
    refine st31 _ ?_
    refine XS.aloadN X31.here hx rfl (hb hby d22_5) rfl rfl ?_
    refine XS.iloadN X31.here hx rfl (hb hby d22_6) rfl ?_
    refine st32 _ ?_
    show Steps p.tables e below (T32.setTop (mkF m 10 #[.val (.ref u1), .val (.int (0 : Int32))] [(.int (nar .char ((((x0 &&& (255 : Int32)) <<< ((0 : Int32) &&& 31)) ||| ((x1 &&& (255 : Int32)) <<< ((8 : Int32) &&& 31))).toUInt32.toUInt16.toUInt32.toInt32)))])) _
    exact retN X32 hx (t := .char) Bd.returns (by simp) (hb hby d22_10) hr
  · show Q_rm_uch0 Z _ _ _ _ _ _ _ _ h0 n0 _ T32.heap _
    rw [eq32]
    exact ⟨(by rw [hrr]), N32, rfl⟩
theorem d11_16 : decode jdk_42_method_56_code 16 = .ok (.aload_n 0, 1) := by decide +kernel
theorem d11_17 : decode jdk_42_method_56_code 17 = .ok (.getfield 9, 3) := by decide +kernel
theorem d11_20 : decode jdk_42_method_56_code 20 = .ok (.iload_n 1, 1) := by decide +kernel
theorem d11_21 : decode jdk_42_method_56_code 21 = .ok (.invokestatic 498, 3) := by decide +kernel
theorem d11_24 : decode jdk_42_method_56_code 24 = .ok (.ireturn, 1) := by decide +kernel
theorem ef_rm_chU0 (m : MethodId) (x0 : Addr) (x1 : Int32) : entryFrame m #[(.ref x0), (.int x1)] 2 = mkF m 0 #[.val (.ref x0), .val (.int x1)] [] := by first | (simp [entryFrame, mkF, argsToLocals, Value.category]; done) | rfl
def Q_rm_chU0 (Z : State) (u1 : Addr) (zc : Int32) (fm : Value) (t : Addr) (kb : ClassId) (z : Int32) (vs : List Value) (x0 : Int32) (x1 : Int32) (rr : Int32) (h0 : Heap) (n0 : Nat) (v : Option Value) (h : Heap) (L : List Loc) : Prop := v = some (.int rr) ∧ Fr n0 L ∧ h = h0
set_option maxRecDepth 65536 in
set_option maxHeartbeats 40000000 in
theorem rm_chU0 (l : Launch) (Z : State) (a0 : Array Value) (hw : ∀ d ∈ tables_1, d.before a0 Z = true) (ws : List Jvm.Cond) (u1 : Addr) (zc : Int32) (fm : Value) (t : Addr) (kb : ClassId) (z : Int32) (vs : List Value) (x0 : Int32) (x1 : Int32) (rr : Int32) (h0 : Heap) (n0 : Nat) (Z0 : n0 ≤ h0.size) (SA : Sta Z h0 "java/lang/StringUTF16" "$assertionsDisabled" "Z" (.int (1 : Int32))) (SH : Sta Z h0 "java/lang/StringUTF16" "HI_BYTE_SHIFT" "I" (.int (0 : Int32))) (SLo : Sta Z h0 "java/lang/StringUTF16" "LO_BYTE_SHIFT" "I" (.int (8 : Int32))) (hc1 : ifCond.holds .lt (0 : Int32) = false) (hc2 : if_icmp.holds .lt (0 : Int32) (z >>> ((1 : Int32) &&& 31)) = true) (S2 : Sta Z h0 "jdk/internal/util/Preconditions" "SIOOBE_FORMATTER" "Ljava/util/function/BiFunction;" fm) (rf : fm.isRef = true) (S1 : Sta Z h0 "java/lang/String" "COMPACT_STRINGS" "Z" (.int zc)) (hz : ¬ zc = 0) (E1 : Exa Z h0 u1 "java/lang/String") (F1 : Fld Z h0 u1 "java/lang/String" "coder" "B" (.int (1 : Int32))) (F2 : Fld Z h0 u1 "java/lang/String" "value" "[B" (.ref t)) (hrr : nar .char rr = rr) (hr2 : (nar .char (nar .char ((((x0 &&& (255 : Int32)) <<< ((0 : Int32) &&& 31)) ||| ((x1 &&& (255 : Int32)) <<< ((8 : Int32) &&& 31))).toUInt32.toUInt16.toUInt32.toInt32))) = rr) (V1 : Arv Z h0 t kb .byte z vs (.int (0 : Int32))) (hN0 : (0 : Int32) < z) (hN1 : (1 : Int32) < z) (hv0 : vs.getD ((0 : Int32)).toNatClampNeg (.int (0 : Int32)) = .int x0) (hv1 : vs.getD ((1 : Int32)).toNatClampNeg (.int (0 : Int32)) = .int x1) :
    MetFree l (⟨"java/lang/String", "charAt", "(I)C"⟩ : MethodName) (head1 (Jvm.Cond.code (⟨"java/lang/String", "charAt", "(I)C"⟩ : MethodName) jdk_42_method_56_code 2 (some .char) :: ws) ({ frames := 5, cells := 0, slots := 0, locals := 100 } : Room)) (fun a U => a = #[(.ref u1), (.int (0 : Int32))] ∧ Z.Warmed39 U.vm ∧ U.heap = h0) (fun _ _ _ _ _ => True) (fun _ U o U' => ∃ v L, o = .returned v ∧ Q_rm_chU0 Z u1 zc fm t kb z vs x0 x1 rr h0 n0 v U'.heap L ∧ FrameEnd U o U' L ({ frames := 5, cells := 0, slots := 0, locals := 100 } : Room).cells ({ frames := 5, cells := 0, slots := 0, locals := 100 } : Room).slots) := by
  refine MetFree.of_bodySF (plainFor_of_name pn_453642) hisR ?_
  intro p e s m args below meth c s₁ Bd hml0 hP hK
  obtain ⟨rfl, hZ, hh⟩ := hP
  have hx := Bd.exec
  have hby := Bd.bytes
  have hml : c.maxLocals = 2 := hml0
  have hown : s.vm.findClass "java/lang/String" = some m.cls := findClass_of_methodNamed Bd.named
  have hnm := (name_of_methodNamed Bd.named Bd.method).1
  have X0 : Stand p l e ({ frames := 5, cells := 0, slots := 0, locals := 100 } : Room) s m #[(.ref u1), (.int (0 : Int32))] below meth c s₁ [] 0 0 := Stand.of_body Bd
  have e0 : s₁.heap = h0 := by rw [← hh, Bd.state]; rfl
  have N0 := Fr.nil n0
  have pre0 : ∀ t, Steps p.tables e below (s₁.setTop (mkF m 0 #[.val (.ref u1), .val (.int (0 : Int32))] [])) t → Steps p.tables e below (s₁.setTop (entryFrame m #[(.ref u1), (.int (0 : Int32))] 2)) t := fun t k => castTop (ef_rm_chU0 m u1 (0 : Int32)) k
  obtain ⟨cq31, kq31, q31a, q31b, q31c⟩ := isOf hZ e0 E1
  obtain ⟨_, _, ⟨T31, L31, k31, n31⟩, -, X31, ⟨Lc31, hQ31, l31, y31, z31⟩, st31⟩ := X0.virtualBack hx (y := (⟨"java/lang/String", "isLatin1", "()Z"⟩ : MethodName)) (z := (⟨"java/lang/String", "isLatin1", "()Z"⟩ : MethodName)) hown (mvT hZ (own_w hw 53 rfl)) (mvT hZ (own_w hw 54 rfl)) (notFace_of_selects (args := #[]) (mvT hZ (own_w hw 56 rfl))) (mvT hZ (own_w hw 56 rfl)) (mvT hZ (own_w hw 55 rfl)) (by decide) (backOf (W := 0) (rm_lat l Z a0 hw [] u1 zc (1 : Int32) h0 n0 Z0 S1 hz F1) hZ (own_w hw 57 rfl) (own_w hw 7 rfl) (by decide) (by decide)) q31a q31c (g := (mkF m 1 #[.val (.ref u1), .val (.int (0 : Int32))] [(.ref u1)])) rfl (by rw [hml]; rfl) (Steps.refl _) (argsL := []) (rest := []) (lenOf pd_691901 rfl) rfl (by show 2 * 0 + _ ≤ _; exact Nat.le_of_eq rfl) (hb hby d11_1) (fun _ _ => ⟨rfl, e0, (by decide : 0 + 0 ≤ _), (by decide : 0 + 0 ≤ _)⟩)
  dsimp only [Pt.U, Pt.locs, Pt.cells, Pt.slots] at X31 l31 y31 z31 st31 hQ31
  replace y31 : k31 = 0 := y31
  replace z31 : n31 = 0 := z31
  subst y31 z31
  obtain ⟨rfl, Nq31, eq31⟩ := hQ31
  have N31 : Fr n0 L31 := by rw [l31]; exact Fr.app N0 Nq31
  obtain ⟨T32, X32, e32, st32⟩ := getF X31 hx hZ hown (host := "") (Or.inl (own_w hw 32 rfl)) Via.refl eq31 F2 (g := (mkF m 17 #[.val (.ref u1), .val (.int (0 : Int32))] [(.ref u1)])) rfl rfl (hb hby d11_17)
  obtain ⟨_, _, ⟨T33, L33, k33, n33⟩, -, X33, ⟨Lc33, hQ33, l33, y33, z33⟩, st33⟩ := Jvm.LawKit.callS X32 hx (y := (⟨"java/lang/StringUTF16", "charAt", "([BI)C"⟩ : MethodName)) hown (mvT hZ (own_w hw 96 rfl)) (mvT hZ (own_w hw 97 rfl)) (mvT hZ (own_w hw 21 rfl)) (mvT hZ (own_w hw 98 rfl)) (by decide) (backOf (W := 0) (rm_uch0 l Z a0 hw [] t fm kb z vs x0 x1 rr h0 n0 Z0 SA SH SLo hc1 hc2 S2 rf hr2 V1 hN0 hN1 hv0 hv1) hZ (own_w hw 98 rfl) (own_w hw 21 rfl) (by decide) (by decide)) (g := (mkF m 21 #[.val (.ref u1), .val (.int (0 : Int32))] [(.int (0 : Int32)), (.ref t)])) rfl (by rw [hml]; rfl) (argsL := [(.ref t), (.int (0 : Int32))]) (rest := []) (lenOf pd_676 rfl) rfl (by show 2 * 0 + _ ≤ _; exact Nat.le_of_eq rfl) (hb hby d11_21) (fun _ _ => ⟨rfl, e32, (by decide : 0 + 0 ≤ _), (by decide : 0 + 0 ≤ _)⟩)
  dsimp only [Pt.U, Pt.locs, Pt.cells, Pt.slots] at X33 l33 y33 z33 st33 hQ33
  replace y33 : k33 = 0 := y33
  replace z33 : n33 = 0 := z33
  subst y33 z33
  obtain ⟨rfl, Nq33, eq33⟩ := hQ33
  have N33 : Fr n0 L33 := by rw [l33]; exact Fr.app N31 Nq33
  obtain ⟨fs, hr, hrun, hended, hW, hsame⟩ := X33.leave (v := some (.int (nar .char rr))) (fun h => by rw [Bd.returns] at h; cases h)
  refine ⟨_, _, pre0 _ ?_, hrun, hended, _, _, rfl, ?_, ⟨_, rfl⟩, hW, hsame.mono (by decide) (by decide)⟩
  · show Steps p.tables e below (s₁.setTop (mkF m 0 #[.val (.ref u1), .val (.int (0 : Int32))] [])) _
    refine XS.aloadN X0.here hx rfl (hb hby d11_0) rfl rfl ?_
    refine st31.trans ?_
    refine XS.ifYes X31.here hx rfl (pc0 := 4) (pc' := 16) rfl (hb hby d11_4) rfl (by decide) (by decide) (by decide) ?_
    refine XS.aloadN X31.here hx rfl (hb hby d11_16) rfl rfl ?_
    refine st32 _ ?_
    refine XS.iloadN X32.here hx rfl (hb hby d11_20) rfl ?_
    refine st33 _ ?_
    show Steps p.tables e below (T33.setTop (mkF m 24 #[.val (.ref u1), .val (.int (0 : Int32))] [(.int rr)])) _
    exact retN X33 hx (t := .char) Bd.returns (by simp) (hb hby d11_24) hr
  · show Q_rm_chU0 Z _ _ _ _ _ _ _ _ _ _ h0 n0 _ T33.heap _
    rw [eq33]
    exact ⟨(by rw [hrr]), N33, rfl⟩
theorem ef_rm_uci1 (m : MethodId) (x0 : Int32) (x1 : Addr) : entryFrame m #[(.int x0), (.ref x1)] 2 = mkF m 0 #[.val (.int x0), .val (.ref x1)] [] := by first | (simp [entryFrame, mkF, argsToLocals, Value.category]; done) | rfl
def Q_rm_uci1 (Z : State) (u2 : Addr) (fm : Value) (kb : ClassId) (z : Int32) (vs : List Value) (h0 : Heap) (n0 : Nat) (v : Option Value) (h : Heap) (L : List Loc) : Prop := v = none ∧ Fr n0 L ∧ h = h0
set_option maxRecDepth 65536 in
set_option maxHeartbeats 40000000 in
theorem rm_uci1 (l : Launch) (Z : State) (a0 : Array Value) (hw : ∀ d ∈ tables_1, d.before a0 Z = true) (ws : List Jvm.Cond) (u2 : Addr) (fm : Value) (kb : ClassId) (z : Int32) (vs : List Value) (h0 : Heap) (n0 : Nat) (Z0 : n0 ≤ h0.size) (hc1 : ifCond.holds .lt (1 : Int32) = false) (hc2 : if_icmp.holds .lt (1 : Int32) (z >>> ((1 : Int32) &&& 31)) = true) (S2 : Sta Z h0 "jdk/internal/util/Preconditions" "SIOOBE_FORMATTER" "Ljava/util/function/BiFunction;" fm) (rf : fm.isRef = true) (V1 : Arv Z h0 u2 kb .byte z vs (.int (0 : Int32))) :
    MetFree l (⟨"java/lang/StringUTF16", "checkIndex", "(I[B)V"⟩ : MethodName) (head1 (Jvm.Cond.code (⟨"java/lang/StringUTF16", "checkIndex", "(I[B)V"⟩ : MethodName) jdk_52_method_91_code 2 none :: ws) ({ frames := 2, cells := 0, slots := 0, locals := 27 } : Room)) (fun a U => a = #[(.int (1 : Int32)), (.ref u2)] ∧ Z.Warmed39 U.vm ∧ U.heap = h0) (fun _ _ _ _ _ => True) (fun _ U o U' => ∃ v L, o = .returned v ∧ Q_rm_uci1 Z u2 fm kb z vs h0 n0 v U'.heap L ∧ FrameEnd U o U' L ({ frames := 2, cells := 0, slots := 0, locals := 27 } : Room).cells ({ frames := 2, cells := 0, slots := 0, locals := 27 } : Room).slots) := by
  refine MetFree.of_bodySF (plainFor_of_name pn_50925) hisR ?_
  intro p e s m args below meth c s₁ Bd hml0 hP hK
  obtain ⟨rfl, hZ, hh⟩ := hP
  have hx := Bd.exec
  have hby := Bd.bytes
  have hml : c.maxLocals = 2 := hml0
  have hown : s.vm.findClass "java/lang/StringUTF16" = some m.cls := findClass_of_methodNamed Bd.named
  have hnm := (name_of_methodNamed Bd.named Bd.method).1
  have X0 : Stand p l e ({ frames := 2, cells := 0, slots := 0, locals := 27 } : Room) s m #[(.int (1 : Int32)), (.ref u2)] below meth c s₁ [] 0 0 := Stand.of_body Bd
  have e0 : s₁.heap = h0 := by rw [← hh, Bd.state]; rfl
  have N0 := Fr.nil n0
  have pre0 : ∀ t, Steps p.tables e below (s₁.setTop (mkF m 0 #[.val (.int (1 : Int32)), .val (.ref u2)] [])) t → Steps p.tables e below (s₁.setTop (entryFrame m #[(.int (1 : Int32)), (.ref u2)] 2)) t := fun t k => castTop (ef_rm_uci1 m (1 : Int32) u2) k
  obtain ⟨_, _, ⟨T31, L31, k31, n31⟩, -, X31, ⟨Lc31, hQ31, l31, y31, z31⟩, st31⟩ := Jvm.LawKit.callS X0 hx (y := (⟨"java/lang/StringUTF16", "length", "([B)I"⟩ : MethodName)) hown (mvT hZ (own_w hw 102 rfl)) (mvT hZ (own_w hw 103 rfl)) (mvT hZ (own_w hw 21 rfl)) (mvT hZ (own_w hw 104 rfl)) (by decide) (backOf (W := 1) (rm_ulen l Z a0 hw [] u2 kb z vs h0 n0 Z0 V1) hZ (own_w hw 104 rfl) (own_w hw 21 rfl) (by decide) (by decide)) (g := (mkF m 2 #[.val (.int (1 : Int32)), .val (.ref u2)] [(.ref u2), (.int (1 : Int32))])) rfl (by rw [hml]; rfl) (argsL := [(.ref u2)]) (rest := [(.int (1 : Int32))]) (lenOf pd_675236 rfl) rfl (by show 2 * 0 + _ ≤ _; exact Nat.le_of_eq rfl) (hb hby d23_2) (fun _ _ => ⟨rfl, e0, (by decide : 0 + 0 ≤ _), (by decide : 0 + 0 ≤ _)⟩)
  dsimp only [Pt.U, Pt.locs, Pt.cells, Pt.slots] at X31 l31 y31 z31 st31 hQ31
  replace y31 : k31 = 0 := y31
  replace z31 : n31 = 0 := z31
  subst y31 z31
  obtain ⟨rfl, Nq31, eq31⟩ := hQ31
  have N31 : Fr n0 L31 := by rw [l31]; exact Fr.app N0 Nq31
  obtain ⟨_, _, ⟨T32, L32, k32, n32⟩, -, X32, ⟨Lc32, hQ32, l32, y32, z32⟩, st32⟩ := Jvm.LawKit.callS X31 hx (y := (⟨"java/lang/String", "checkIndex", "(II)V"⟩ : MethodName)) hown (mvT hZ (own_w hw 105 rfl)) (mvT hZ (own_w hw 63 rfl)) (mvT hZ (own_w hw 7 rfl)) (mvT hZ (own_w hw 64 rfl)) (by decide) (backOf (W := 0) (rm_cix l Z a0 hw [] (1 : Int32) (z >>> ((1 : Int32) &&& 31)) fm h0 n0 Z0 hc1 hc2 S2 rf) hZ (own_w hw 64 rfl) (own_w hw 7 rfl) (by decide) (by decide)) (g := (mkF m 5 #[.val (.int (1 : Int32)), .val (.ref u2)] [(.int (z >>> ((1 : Int32) &&& 31))), (.int (1 : Int32))])) rfl (by rw [hml]; rfl) (argsL := [(.int (1 : Int32)), (.int (z >>> ((1 : Int32) &&& 31)))]) (rest := []) (lenOf pd_329858 rfl) rfl (by show 2 * 0 + _ ≤ _; exact Nat.le_of_eq rfl) (hb hby d23_5) (fun _ _ => ⟨rfl, eq31, (by decide : 0 + 0 ≤ _), (by decide : 0 + 0 ≤ _)⟩)
  dsimp only [Pt.U, Pt.locs, Pt.cells, Pt.slots] at X32 l32 y32 z32 st32 hQ32
  replace y32 : k32 = 0 := y32
  replace z32 : n32 = 0 := z32
  subst y32 z32
  obtain ⟨rfl, Nq32, eq32⟩ := hQ32
  have N32 : Fr n0 L32 := by rw [l32]; exact Fr.app N31 Nq32
  obtain ⟨fs, hr, hrun, hended, hW, hsame⟩ := X32.leave (v := none) (fun _ => rfl)
  refine ⟨_, _, pre0 _ ?_, hrun, hended, _, _, rfl, ?_, ⟨_, rfl⟩, hW, hsame.mono (by decide) (by decide)⟩
  · show Steps p.tables e below (s₁.setTop (mkF m 0 #[.val (.int (1 : Int32)), .val (.ref u2)] [])) _
    refine XS.iloadN X0.here hx rfl (hb hby d23_0) rfl ?_
    refine XS.aloadN X0.here hx rfl (hb hby d23_1) rfl rfl ?_
    refine st31 _ ?_
    refine st32 _ ?_
    show Steps p.tables e below (T32.setTop (mkF m 8 #[.val (.int (1 : Int32)), .val (.ref u2)] [])) _
    exact X32.returnOut hx Bd.returns (hb hby d23_8) hr
  · show Q_rm_uci1 Z _ _ _ _ _ h0 n0 _ T32.heap _
    rw [eq32]
    exact ⟨rfl, N32, rfl⟩
theorem ef_rm_uch1 (m : MethodId) (x0 : Addr) (x1 : Int32) : entryFrame m #[(.ref x0), (.int x1)] 2 = mkF m 0 #[.val (.ref x0), .val (.int x1)] [] := by first | (simp [entryFrame, mkF, argsToLocals, Value.category]; done) | rfl
def Q_rm_uch1 (Z : State) (u1 : Addr) (fm : Value) (kb : ClassId) (z : Int32) (vs : List Value) (x0 : Int32) (x1 : Int32) (rr : Int32) (h0 : Heap) (n0 : Nat) (v : Option Value) (h : Heap) (L : List Loc) : Prop := v = some (.int rr) ∧ Fr n0 L ∧ h = h0
set_option maxRecDepth 65536 in
set_option maxHeartbeats 40000000 in
theorem rm_uch1 (l : Launch) (Z : State) (a0 : Array Value) (hw : ∀ d ∈ tables_1, d.before a0 Z = true) (ws : List Jvm.Cond) (u1 : Addr) (fm : Value) (kb : ClassId) (z : Int32) (vs : List Value) (x0 : Int32) (x1 : Int32) (rr : Int32) (h0 : Heap) (n0 : Nat) (Z0 : n0 ≤ h0.size) (SA : Sta Z h0 "java/lang/StringUTF16" "$assertionsDisabled" "Z" (.int (1 : Int32))) (SH : Sta Z h0 "java/lang/StringUTF16" "HI_BYTE_SHIFT" "I" (.int (0 : Int32))) (SLo : Sta Z h0 "java/lang/StringUTF16" "LO_BYTE_SHIFT" "I" (.int (8 : Int32))) (hc1 : ifCond.holds .lt (1 : Int32) = false) (hc2 : if_icmp.holds .lt (1 : Int32) (z >>> ((1 : Int32) &&& 31)) = true) (S2 : Sta Z h0 "jdk/internal/util/Preconditions" "SIOOBE_FORMATTER" "Ljava/util/function/BiFunction;" fm) (rf : fm.isRef = true) (hrr : (nar .char (nar .char ((((x0 &&& (255 : Int32)) <<< ((0 : Int32) &&& 31)) ||| ((x1 &&& (255 : Int32)) <<< ((8 : Int32) &&& 31))).toUInt32.toUInt16.toUInt32.toInt32))) = rr) (V1 : Arv Z h0 u1 kb .byte z vs (.int (0 : Int32))) (hN0 : (2 : Int32) < z) (hN1 : (3 : Int32) < z) (hv0 : vs.getD ((2 : Int32)).toNatClampNeg (.int (0 : Int32)) = .int x0) (hv1 : vs.getD ((3 : Int32)).toNatClampNeg (.int (0 : Int32)) = .int x1) :
    MetFree l (⟨"java/lang/StringUTF16", "charAt", "([BI)C"⟩ : MethodName) (head1 (Jvm.Cond.code (⟨"java/lang/StringUTF16", "charAt", "([BI)C"⟩ : MethodName) jdk_52_method_83_code 2 (some .char) :: ws) ({ frames := 3, cells := 0, slots := 0, locals := 40 } : Room)) (fun a U => a = #[(.ref u1), (.int (1 : Int32))] ∧ Z.Warmed39 U.vm ∧ U.heap = h0) (fun _ _ _ _ _ => True) (fun _ U o U' => ∃ v L, o = .returned v ∧ Q_rm_uch1 Z u1 fm kb z vs x0 x1 rr h0 n0 v U'.heap L ∧ FrameEnd U o U' L ({ frames := 3, cells := 0, slots := 0, locals := 40 } : Room).cells ({ frames := 3, cells := 0, slots := 0, locals := 40 } : Room).slots) := by
  refine MetFree.of_bodySF (plainFor_of_name pn_50925) hisR ?_
  intro p e s m args below meth c s₁ Bd hml0 hP hK
  obtain ⟨rfl, hZ, hh⟩ := hP
  have hx := Bd.exec
  have hby := Bd.bytes
  have hml : c.maxLocals = 2 := hml0
  have hown : s.vm.findClass "java/lang/StringUTF16" = some m.cls := findClass_of_methodNamed Bd.named
  have hnm := (name_of_methodNamed Bd.named Bd.method).1
  have X0 : Stand p l e ({ frames := 3, cells := 0, slots := 0, locals := 40 } : Room) s m #[(.ref u1), (.int (1 : Int32))] below meth c s₁ [] 0 0 := Stand.of_body Bd
  have e0 : s₁.heap = h0 := by rw [← hh, Bd.state]; rfl
  have N0 := Fr.nil n0
  have pre0 : ∀ t, Steps p.tables e below (s₁.setTop (mkF m 0 #[.val (.ref u1), .val (.int (1 : Int32))] [])) t → Steps p.tables e below (s₁.setTop (entryFrame m #[(.ref u1), (.int (1 : Int32))] 2)) t := fun t k => castTop (ef_rm_uch1 m u1 (1 : Int32)) k
  obtain ⟨_, _, ⟨T31, L31, k31, n31⟩, -, X31, ⟨Lc31, hQ31, l31, y31, z31⟩, st31⟩ := Jvm.LawKit.callS X0 hx (y := (⟨"java/lang/StringUTF16", "checkIndex", "(I[B)V"⟩ : MethodName)) hown (mvT hZ (own_w hw 99 rfl)) (mvT hZ (own_w hw 100 rfl)) (mvT hZ (own_w hw 21 rfl)) (mvT hZ (own_w hw 101 rfl)) (by decide) (backOf (W := 0) (rm_uci1 l Z a0 hw [] u1 fm kb z vs h0 n0 Z0 hc1 hc2 S2 rf V1) hZ (own_w hw 101 rfl) (own_w hw 21 rfl) (by decide) (by decide)) (g := (mkF m 2 #[.val (.ref u1), .val (.int (1 : Int32))] [(.ref u1), (.int (1 : Int32))])) rfl (by rw [hml]; rfl) (argsL := [(.int (1 : Int32)), (.ref u1)]) (rest := []) (lenOf pd_100000 rfl) rfl (by show 2 * 0 + _ ≤ _; exact Nat.le_of_eq rfl) (hb hby d22_2) (fun _ _ => ⟨rfl, e0, (by decide : 0 + 0 ≤ _), (by decide : 0 + 0 ≤ _)⟩)
  dsimp only [Pt.U, Pt.locs, Pt.cells, Pt.slots] at X31 l31 y31 z31 st31 hQ31
  replace y31 : k31 = 0 := y31
  replace z31 : n31 = 0 := z31
  subst y31 z31
  obtain ⟨rfl, Nq31, eq31⟩ := hQ31
  have N31 : Fr n0 L31 := by rw [l31]; exact Fr.app N0 Nq31
  obtain ⟨_, _, ⟨T32, L32, k32, n32⟩, -, X32, ⟨Lc32, hQ32, l32, y32, z32⟩, st32⟩ := Jvm.LawKit.callS X31 hx (y := (⟨"java/lang/StringUTF16", "getChar", "([BI)C"⟩ : MethodName)) hown (mvT hZ (own_w hw 93 rfl)) (mvT hZ (own_w hw 94 rfl)) (mvT hZ (own_w hw 21 rfl)) (mvT hZ (own_w hw 95 rfl)) (by decide) (backOf (W := 0) (rm_get1 l Z a0 hw [] u1 kb z vs x0 x1 (nar .char ((((x0 &&& (255 : Int32)) <<< ((0 : Int32) &&& 31)) ||| ((x1 &&& (255 : Int32)) <<< ((8 : Int32) &&& 31))).toUInt32.toUInt16.toUInt32.toInt32)) h0 n0 Z0 SA SH SLo rfl V1 hN0 hN1 hv0 hv1) hZ (own_w hw 95 rfl) (own_w hw 21 rfl) (by decide) (by decide)) (g := (mkF m 7 #[.val (.ref u1), .val (.int (1 : Int32))] [(.int (1 : Int32)), (.ref u1)])) rfl (by rw [hml]; rfl) (argsL := [(.ref u1), (.int (1 : Int32))]) (rest := []) (lenOf pd_676 rfl) rfl (by show 2 * 0 + _ ≤ _; exact Nat.le_of_eq rfl) (hb hby d22_7) (fun _ _ => ⟨rfl, eq31, (by decide : 0 + 0 ≤ _), (by decide : 0 + 0 ≤ _)⟩)
  dsimp only [Pt.U, Pt.locs, Pt.cells, Pt.slots] at X32 l32 y32 z32 st32 hQ32
  replace y32 : k32 = 0 := y32
  replace z32 : n32 = 0 := z32
  subst y32 z32
  obtain ⟨rfl, Nq32, eq32⟩ := hQ32
  have N32 : Fr n0 L32 := by rw [l32]; exact Fr.app N31 Nq32
  obtain ⟨fs, hr, hrun, hended, hW, hsame⟩ := X32.leave (v := some (.int (nar .char (nar .char ((((x0 &&& (255 : Int32)) <<< ((0 : Int32) &&& 31)) ||| ((x1 &&& (255 : Int32)) <<< ((8 : Int32) &&& 31))).toUInt32.toUInt16.toUInt32.toInt32))))) (fun h => by rw [Bd.returns] at h; cases h)
  refine ⟨_, _, pre0 _ ?_, hrun, hended, _, _, rfl, ?_, ⟨_, rfl⟩, hW, hsame.mono (by decide) (by decide)⟩
  · show Steps p.tables e below (s₁.setTop (mkF m 0 #[.val (.ref u1), .val (.int (1 : Int32))] [])) _
    refine XS.iloadN X0.here hx rfl (hb hby d22_0) rfl ?_
    refine XS.aloadN X0.here hx rfl (hb hby d22_1) rfl rfl ?_
    refine st31 _ ?_
    refine XS.aloadN X31.here hx rfl (hb hby d22_5) rfl rfl ?_
    refine XS.iloadN X31.here hx rfl (hb hby d22_6) rfl ?_
    refine st32 _ ?_
    show Steps p.tables e below (T32.setTop (mkF m 10 #[.val (.ref u1), .val (.int (1 : Int32))] [(.int (nar .char ((((x0 &&& (255 : Int32)) <<< ((0 : Int32) &&& 31)) ||| ((x1 &&& (255 : Int32)) <<< ((8 : Int32) &&& 31))).toUInt32.toUInt16.toUInt32.toInt32)))])) _
    exact retN X32 hx (t := .char) Bd.returns (by simp) (hb hby d22_10) hr
  · show Q_rm_uch1 Z _ _ _ _ _ _ _ _ h0 n0 _ T32.heap _
    rw [eq32]
    exact ⟨(by rw [hrr]), N32, rfl⟩
theorem ef_rm_chU1 (m : MethodId) (x0 : Addr) (x1 : Int32) : entryFrame m #[(.ref x0), (.int x1)] 2 = mkF m 0 #[.val (.ref x0), .val (.int x1)] [] := by first | (simp [entryFrame, mkF, argsToLocals, Value.category]; done) | rfl
def Q_rm_chU1 (Z : State) (u1 : Addr) (zc : Int32) (fm : Value) (t : Addr) (kb : ClassId) (z : Int32) (vs : List Value) (x0 : Int32) (x1 : Int32) (rr : Int32) (h0 : Heap) (n0 : Nat) (v : Option Value) (h : Heap) (L : List Loc) : Prop := v = some (.int rr) ∧ Fr n0 L ∧ h = h0
set_option maxRecDepth 65536 in
set_option maxHeartbeats 40000000 in
theorem rm_chU1 (l : Launch) (Z : State) (a0 : Array Value) (hw : ∀ d ∈ tables_1, d.before a0 Z = true) (ws : List Jvm.Cond) (u1 : Addr) (zc : Int32) (fm : Value) (t : Addr) (kb : ClassId) (z : Int32) (vs : List Value) (x0 : Int32) (x1 : Int32) (rr : Int32) (h0 : Heap) (n0 : Nat) (Z0 : n0 ≤ h0.size) (SA : Sta Z h0 "java/lang/StringUTF16" "$assertionsDisabled" "Z" (.int (1 : Int32))) (SH : Sta Z h0 "java/lang/StringUTF16" "HI_BYTE_SHIFT" "I" (.int (0 : Int32))) (SLo : Sta Z h0 "java/lang/StringUTF16" "LO_BYTE_SHIFT" "I" (.int (8 : Int32))) (hc1 : ifCond.holds .lt (1 : Int32) = false) (hc2 : if_icmp.holds .lt (1 : Int32) (z >>> ((1 : Int32) &&& 31)) = true) (S2 : Sta Z h0 "jdk/internal/util/Preconditions" "SIOOBE_FORMATTER" "Ljava/util/function/BiFunction;" fm) (rf : fm.isRef = true) (S1 : Sta Z h0 "java/lang/String" "COMPACT_STRINGS" "Z" (.int zc)) (hz : ¬ zc = 0) (E1 : Exa Z h0 u1 "java/lang/String") (F1 : Fld Z h0 u1 "java/lang/String" "coder" "B" (.int (1 : Int32))) (F2 : Fld Z h0 u1 "java/lang/String" "value" "[B" (.ref t)) (hrr : nar .char rr = rr) (hr2 : (nar .char (nar .char ((((x0 &&& (255 : Int32)) <<< ((0 : Int32) &&& 31)) ||| ((x1 &&& (255 : Int32)) <<< ((8 : Int32) &&& 31))).toUInt32.toUInt16.toUInt32.toInt32))) = rr) (V1 : Arv Z h0 t kb .byte z vs (.int (0 : Int32))) (hN0 : (2 : Int32) < z) (hN1 : (3 : Int32) < z) (hv0 : vs.getD ((2 : Int32)).toNatClampNeg (.int (0 : Int32)) = .int x0) (hv1 : vs.getD ((3 : Int32)).toNatClampNeg (.int (0 : Int32)) = .int x1) :
    MetFree l (⟨"java/lang/String", "charAt", "(I)C"⟩ : MethodName) (head1 (Jvm.Cond.code (⟨"java/lang/String", "charAt", "(I)C"⟩ : MethodName) jdk_42_method_56_code 2 (some .char) :: ws) ({ frames := 5, cells := 0, slots := 0, locals := 100 } : Room)) (fun a U => a = #[(.ref u1), (.int (1 : Int32))] ∧ Z.Warmed39 U.vm ∧ U.heap = h0) (fun _ _ _ _ _ => True) (fun _ U o U' => ∃ v L, o = .returned v ∧ Q_rm_chU1 Z u1 zc fm t kb z vs x0 x1 rr h0 n0 v U'.heap L ∧ FrameEnd U o U' L ({ frames := 5, cells := 0, slots := 0, locals := 100 } : Room).cells ({ frames := 5, cells := 0, slots := 0, locals := 100 } : Room).slots) := by
  refine MetFree.of_bodySF (plainFor_of_name pn_453642) hisR ?_
  intro p e s m args below meth c s₁ Bd hml0 hP hK
  obtain ⟨rfl, hZ, hh⟩ := hP
  have hx := Bd.exec
  have hby := Bd.bytes
  have hml : c.maxLocals = 2 := hml0
  have hown : s.vm.findClass "java/lang/String" = some m.cls := findClass_of_methodNamed Bd.named
  have hnm := (name_of_methodNamed Bd.named Bd.method).1
  have X0 : Stand p l e ({ frames := 5, cells := 0, slots := 0, locals := 100 } : Room) s m #[(.ref u1), (.int (1 : Int32))] below meth c s₁ [] 0 0 := Stand.of_body Bd
  have e0 : s₁.heap = h0 := by rw [← hh, Bd.state]; rfl
  have N0 := Fr.nil n0
  have pre0 : ∀ t, Steps p.tables e below (s₁.setTop (mkF m 0 #[.val (.ref u1), .val (.int (1 : Int32))] [])) t → Steps p.tables e below (s₁.setTop (entryFrame m #[(.ref u1), (.int (1 : Int32))] 2)) t := fun t k => castTop (ef_rm_chU1 m u1 (1 : Int32)) k
  obtain ⟨cq31, kq31, q31a, q31b, q31c⟩ := isOf hZ e0 E1
  obtain ⟨_, _, ⟨T31, L31, k31, n31⟩, -, X31, ⟨Lc31, hQ31, l31, y31, z31⟩, st31⟩ := X0.virtualBack hx (y := (⟨"java/lang/String", "isLatin1", "()Z"⟩ : MethodName)) (z := (⟨"java/lang/String", "isLatin1", "()Z"⟩ : MethodName)) hown (mvT hZ (own_w hw 53 rfl)) (mvT hZ (own_w hw 54 rfl)) (notFace_of_selects (args := #[]) (mvT hZ (own_w hw 56 rfl))) (mvT hZ (own_w hw 56 rfl)) (mvT hZ (own_w hw 55 rfl)) (by decide) (backOf (W := 0) (rm_lat l Z a0 hw [] u1 zc (1 : Int32) h0 n0 Z0 S1 hz F1) hZ (own_w hw 57 rfl) (own_w hw 7 rfl) (by decide) (by decide)) q31a q31c (g := (mkF m 1 #[.val (.ref u1), .val (.int (1 : Int32))] [(.ref u1)])) rfl (by rw [hml]; rfl) (Steps.refl _) (argsL := []) (rest := []) (lenOf pd_691901 rfl) rfl (by show 2 * 0 + _ ≤ _; exact Nat.le_of_eq rfl) (hb hby d11_1) (fun _ _ => ⟨rfl, e0, (by decide : 0 + 0 ≤ _), (by decide : 0 + 0 ≤ _)⟩)
  dsimp only [Pt.U, Pt.locs, Pt.cells, Pt.slots] at X31 l31 y31 z31 st31 hQ31
  replace y31 : k31 = 0 := y31
  replace z31 : n31 = 0 := z31
  subst y31 z31
  obtain ⟨rfl, Nq31, eq31⟩ := hQ31
  have N31 : Fr n0 L31 := by rw [l31]; exact Fr.app N0 Nq31
  obtain ⟨T32, X32, e32, st32⟩ := getF X31 hx hZ hown (host := "") (Or.inl (own_w hw 32 rfl)) Via.refl eq31 F2 (g := (mkF m 17 #[.val (.ref u1), .val (.int (1 : Int32))] [(.ref u1)])) rfl rfl (hb hby d11_17)
  obtain ⟨_, _, ⟨T33, L33, k33, n33⟩, -, X33, ⟨Lc33, hQ33, l33, y33, z33⟩, st33⟩ := Jvm.LawKit.callS X32 hx (y := (⟨"java/lang/StringUTF16", "charAt", "([BI)C"⟩ : MethodName)) hown (mvT hZ (own_w hw 96 rfl)) (mvT hZ (own_w hw 97 rfl)) (mvT hZ (own_w hw 21 rfl)) (mvT hZ (own_w hw 98 rfl)) (by decide) (backOf (W := 0) (rm_uch1 l Z a0 hw [] t fm kb z vs x0 x1 rr h0 n0 Z0 SA SH SLo hc1 hc2 S2 rf hr2 V1 hN0 hN1 hv0 hv1) hZ (own_w hw 98 rfl) (own_w hw 21 rfl) (by decide) (by decide)) (g := (mkF m 21 #[.val (.ref u1), .val (.int (1 : Int32))] [(.int (1 : Int32)), (.ref t)])) rfl (by rw [hml]; rfl) (argsL := [(.ref t), (.int (1 : Int32))]) (rest := []) (lenOf pd_676 rfl) rfl (by show 2 * 0 + _ ≤ _; exact Nat.le_of_eq rfl) (hb hby d11_21) (fun _ _ => ⟨rfl, e32, (by decide : 0 + 0 ≤ _), (by decide : 0 + 0 ≤ _)⟩)
  dsimp only [Pt.U, Pt.locs, Pt.cells, Pt.slots] at X33 l33 y33 z33 st33 hQ33
  replace y33 : k33 = 0 := y33
  replace z33 : n33 = 0 := z33
  subst y33 z33
  obtain ⟨rfl, Nq33, eq33⟩ := hQ33
  have N33 : Fr n0 L33 := by rw [l33]; exact Fr.app N31 Nq33
  obtain ⟨fs, hr, hrun, hended, hW, hsame⟩ := X33.leave (v := some (.int (nar .char rr))) (fun h => by rw [Bd.returns] at h; cases h)
  refine ⟨_, _, pre0 _ ?_, hrun, hended, _, _, rfl, ?_, ⟨_, rfl⟩, hW, hsame.mono (by decide) (by decide)⟩
  · show Steps p.tables e below (s₁.setTop (mkF m 0 #[.val (.ref u1), .val (.int (1 : Int32))] [])) _
    refine XS.aloadN X0.here hx rfl (hb hby d11_0) rfl rfl ?_
    refine st31.trans ?_
    refine XS.ifYes X31.here hx rfl (pc0 := 4) (pc' := 16) rfl (hb hby d11_4) rfl (by decide) (by decide) (by decide) ?_
    refine XS.aloadN X31.here hx rfl (hb hby d11_16) rfl rfl ?_
    refine st32 _ ?_
    refine XS.iloadN X32.here hx rfl (hb hby d11_20) rfl ?_
    refine st33 _ ?_
    show Steps p.tables e below (T33.setTop (mkF m 24 #[.val (.ref u1), .val (.int (1 : Int32))] [(.int rr)])) _
    exact retN X33 hx (t := .char) Bd.returns (by simp) (hb hby d11_24) hr
  · show Q_rm_chU1 Z _ _ _ _ _ _ _ _ _ _ h0 n0 _ T33.heap _
    rw [eq33]
    exact ⟨(by rw [hrr]), N33, rfl⟩
theorem ef_rm_uci2 (m : MethodId) (x0 : Int32) (x1 : Addr) : entryFrame m #[(.int x0), (.ref x1)] 2 = mkF m 0 #[.val (.int x0), .val (.ref x1)] [] := by first | (simp [entryFrame, mkF, argsToLocals, Value.category]; done) | rfl
def Q_rm_uci2 (Z : State) (u2 : Addr) (fm : Value) (kb : ClassId) (z : Int32) (vs : List Value) (h0 : Heap) (n0 : Nat) (v : Option Value) (h : Heap) (L : List Loc) : Prop := v = none ∧ Fr n0 L ∧ h = h0
set_option maxRecDepth 65536 in
set_option maxHeartbeats 40000000 in
theorem rm_uci2 (l : Launch) (Z : State) (a0 : Array Value) (hw : ∀ d ∈ tables_1, d.before a0 Z = true) (ws : List Jvm.Cond) (u2 : Addr) (fm : Value) (kb : ClassId) (z : Int32) (vs : List Value) (h0 : Heap) (n0 : Nat) (Z0 : n0 ≤ h0.size) (hc1 : ifCond.holds .lt (2 : Int32) = false) (hc2 : if_icmp.holds .lt (2 : Int32) (z >>> ((1 : Int32) &&& 31)) = true) (S2 : Sta Z h0 "jdk/internal/util/Preconditions" "SIOOBE_FORMATTER" "Ljava/util/function/BiFunction;" fm) (rf : fm.isRef = true) (V1 : Arv Z h0 u2 kb .byte z vs (.int (0 : Int32))) :
    MetFree l (⟨"java/lang/StringUTF16", "checkIndex", "(I[B)V"⟩ : MethodName) (head1 (Jvm.Cond.code (⟨"java/lang/StringUTF16", "checkIndex", "(I[B)V"⟩ : MethodName) jdk_52_method_91_code 2 none :: ws) ({ frames := 2, cells := 0, slots := 0, locals := 27 } : Room)) (fun a U => a = #[(.int (2 : Int32)), (.ref u2)] ∧ Z.Warmed39 U.vm ∧ U.heap = h0) (fun _ _ _ _ _ => True) (fun _ U o U' => ∃ v L, o = .returned v ∧ Q_rm_uci2 Z u2 fm kb z vs h0 n0 v U'.heap L ∧ FrameEnd U o U' L ({ frames := 2, cells := 0, slots := 0, locals := 27 } : Room).cells ({ frames := 2, cells := 0, slots := 0, locals := 27 } : Room).slots) := by
  refine MetFree.of_bodySF (plainFor_of_name pn_50925) hisR ?_
  intro p e s m args below meth c s₁ Bd hml0 hP hK
  obtain ⟨rfl, hZ, hh⟩ := hP
  have hx := Bd.exec
  have hby := Bd.bytes
  have hml : c.maxLocals = 2 := hml0
  have hown : s.vm.findClass "java/lang/StringUTF16" = some m.cls := findClass_of_methodNamed Bd.named
  have hnm := (name_of_methodNamed Bd.named Bd.method).1
  have X0 : Stand p l e ({ frames := 2, cells := 0, slots := 0, locals := 27 } : Room) s m #[(.int (2 : Int32)), (.ref u2)] below meth c s₁ [] 0 0 := Stand.of_body Bd
  have e0 : s₁.heap = h0 := by rw [← hh, Bd.state]; rfl
  have N0 := Fr.nil n0
  have pre0 : ∀ t, Steps p.tables e below (s₁.setTop (mkF m 0 #[.val (.int (2 : Int32)), .val (.ref u2)] [])) t → Steps p.tables e below (s₁.setTop (entryFrame m #[(.int (2 : Int32)), (.ref u2)] 2)) t := fun t k => castTop (ef_rm_uci2 m (2 : Int32) u2) k
  obtain ⟨_, _, ⟨T31, L31, k31, n31⟩, -, X31, ⟨Lc31, hQ31, l31, y31, z31⟩, st31⟩ := Jvm.LawKit.callS X0 hx (y := (⟨"java/lang/StringUTF16", "length", "([B)I"⟩ : MethodName)) hown (mvT hZ (own_w hw 102 rfl)) (mvT hZ (own_w hw 103 rfl)) (mvT hZ (own_w hw 21 rfl)) (mvT hZ (own_w hw 104 rfl)) (by decide) (backOf (W := 1) (rm_ulen l Z a0 hw [] u2 kb z vs h0 n0 Z0 V1) hZ (own_w hw 104 rfl) (own_w hw 21 rfl) (by decide) (by decide)) (g := (mkF m 2 #[.val (.int (2 : Int32)), .val (.ref u2)] [(.ref u2), (.int (2 : Int32))])) rfl (by rw [hml]; rfl) (argsL := [(.ref u2)]) (rest := [(.int (2 : Int32))]) (lenOf pd_675236 rfl) rfl (by show 2 * 0 + _ ≤ _; exact Nat.le_of_eq rfl) (hb hby d23_2) (fun _ _ => ⟨rfl, e0, (by decide : 0 + 0 ≤ _), (by decide : 0 + 0 ≤ _)⟩)
  dsimp only [Pt.U, Pt.locs, Pt.cells, Pt.slots] at X31 l31 y31 z31 st31 hQ31
  replace y31 : k31 = 0 := y31
  replace z31 : n31 = 0 := z31
  subst y31 z31
  obtain ⟨rfl, Nq31, eq31⟩ := hQ31
  have N31 : Fr n0 L31 := by rw [l31]; exact Fr.app N0 Nq31
  obtain ⟨_, _, ⟨T32, L32, k32, n32⟩, -, X32, ⟨Lc32, hQ32, l32, y32, z32⟩, st32⟩ := Jvm.LawKit.callS X31 hx (y := (⟨"java/lang/String", "checkIndex", "(II)V"⟩ : MethodName)) hown (mvT hZ (own_w hw 105 rfl)) (mvT hZ (own_w hw 63 rfl)) (mvT hZ (own_w hw 7 rfl)) (mvT hZ (own_w hw 64 rfl)) (by decide) (backOf (W := 0) (rm_cix l Z a0 hw [] (2 : Int32) (z >>> ((1 : Int32) &&& 31)) fm h0 n0 Z0 hc1 hc2 S2 rf) hZ (own_w hw 64 rfl) (own_w hw 7 rfl) (by decide) (by decide)) (g := (mkF m 5 #[.val (.int (2 : Int32)), .val (.ref u2)] [(.int (z >>> ((1 : Int32) &&& 31))), (.int (2 : Int32))])) rfl (by rw [hml]; rfl) (argsL := [(.int (2 : Int32)), (.int (z >>> ((1 : Int32) &&& 31)))]) (rest := []) (lenOf pd_329858 rfl) rfl (by show 2 * 0 + _ ≤ _; exact Nat.le_of_eq rfl) (hb hby d23_5) (fun _ _ => ⟨rfl, eq31, (by decide : 0 + 0 ≤ _), (by decide : 0 + 0 ≤ _)⟩)
  dsimp only [Pt.U, Pt.locs, Pt.cells, Pt.slots] at X32 l32 y32 z32 st32 hQ32
  replace y32 : k32 = 0 := y32
  replace z32 : n32 = 0 := z32
  subst y32 z32
  obtain ⟨rfl, Nq32, eq32⟩ := hQ32
  have N32 : Fr n0 L32 := by rw [l32]; exact Fr.app N31 Nq32
  obtain ⟨fs, hr, hrun, hended, hW, hsame⟩ := X32.leave (v := none) (fun _ => rfl)
  refine ⟨_, _, pre0 _ ?_, hrun, hended, _, _, rfl, ?_, ⟨_, rfl⟩, hW, hsame.mono (by decide) (by decide)⟩
  · show Steps p.tables e below (s₁.setTop (mkF m 0 #[.val (.int (2 : Int32)), .val (.ref u2)] [])) _
    refine XS.iloadN X0.here hx rfl (hb hby d23_0) rfl ?_
    refine XS.aloadN X0.here hx rfl (hb hby d23_1) rfl rfl ?_
    refine st31 _ ?_
    refine st32 _ ?_
    show Steps p.tables e below (T32.setTop (mkF m 8 #[.val (.int (2 : Int32)), .val (.ref u2)] [])) _
    exact X32.returnOut hx Bd.returns (hb hby d23_8) hr
  · show Q_rm_uci2 Z _ _ _ _ _ h0 n0 _ T32.heap _
    rw [eq32]
    exact ⟨rfl, N32, rfl⟩
theorem ef_rm_uch2 (m : MethodId) (x0 : Addr) (x1 : Int32) : entryFrame m #[(.ref x0), (.int x1)] 2 = mkF m 0 #[.val (.ref x0), .val (.int x1)] [] := by first | (simp [entryFrame, mkF, argsToLocals, Value.category]; done) | rfl
def Q_rm_uch2 (Z : State) (u1 : Addr) (fm : Value) (kb : ClassId) (z : Int32) (vs : List Value) (x0 : Int32) (x1 : Int32) (rr : Int32) (h0 : Heap) (n0 : Nat) (v : Option Value) (h : Heap) (L : List Loc) : Prop := v = some (.int rr) ∧ Fr n0 L ∧ h = h0
set_option maxRecDepth 65536 in
set_option maxHeartbeats 40000000 in
theorem rm_uch2 (l : Launch) (Z : State) (a0 : Array Value) (hw : ∀ d ∈ tables_1, d.before a0 Z = true) (ws : List Jvm.Cond) (u1 : Addr) (fm : Value) (kb : ClassId) (z : Int32) (vs : List Value) (x0 : Int32) (x1 : Int32) (rr : Int32) (h0 : Heap) (n0 : Nat) (Z0 : n0 ≤ h0.size) (SA : Sta Z h0 "java/lang/StringUTF16" "$assertionsDisabled" "Z" (.int (1 : Int32))) (SH : Sta Z h0 "java/lang/StringUTF16" "HI_BYTE_SHIFT" "I" (.int (0 : Int32))) (SLo : Sta Z h0 "java/lang/StringUTF16" "LO_BYTE_SHIFT" "I" (.int (8 : Int32))) (hc1 : ifCond.holds .lt (2 : Int32) = false) (hc2 : if_icmp.holds .lt (2 : Int32) (z >>> ((1 : Int32) &&& 31)) = true) (S2 : Sta Z h0 "jdk/internal/util/Preconditions" "SIOOBE_FORMATTER" "Ljava/util/function/BiFunction;" fm) (rf : fm.isRef = true) (hrr : (nar .char (nar .char ((((x0 &&& (255 : Int32)) <<< ((0 : Int32) &&& 31)) ||| ((x1 &&& (255 : Int32)) <<< ((8 : Int32) &&& 31))).toUInt32.toUInt16.toUInt32.toInt32))) = rr) (V1 : Arv Z h0 u1 kb .byte z vs (.int (0 : Int32))) (hN0 : (4 : Int32) < z) (hN1 : (5 : Int32) < z) (hv0 : vs.getD ((4 : Int32)).toNatClampNeg (.int (0 : Int32)) = .int x0) (hv1 : vs.getD ((5 : Int32)).toNatClampNeg (.int (0 : Int32)) = .int x1) :
    MetFree l (⟨"java/lang/StringUTF16", "charAt", "([BI)C"⟩ : MethodName) (head1 (Jvm.Cond.code (⟨"java/lang/StringUTF16", "charAt", "([BI)C"⟩ : MethodName) jdk_52_method_83_code 2 (some .char) :: ws) ({ frames := 3, cells := 0, slots := 0, locals := 40 } : Room)) (fun a U => a = #[(.ref u1), (.int (2 : Int32))] ∧ Z.Warmed39 U.vm ∧ U.heap = h0) (fun _ _ _ _ _ => True) (fun _ U o U' => ∃ v L, o = .returned v ∧ Q_rm_uch2 Z u1 fm kb z vs x0 x1 rr h0 n0 v U'.heap L ∧ FrameEnd U o U' L ({ frames := 3, cells := 0, slots := 0, locals := 40 } : Room).cells ({ frames := 3, cells := 0, slots := 0, locals := 40 } : Room).slots) := by
  refine MetFree.of_bodySF (plainFor_of_name pn_50925) hisR ?_
  intro p e s m args below meth c s₁ Bd hml0 hP hK
  obtain ⟨rfl, hZ, hh⟩ := hP
  have hx := Bd.exec
  have hby := Bd.bytes
  have hml : c.maxLocals = 2 := hml0
  have hown : s.vm.findClass "java/lang/StringUTF16" = some m.cls := findClass_of_methodNamed Bd.named
  have hnm := (name_of_methodNamed Bd.named Bd.method).1
  have X0 : Stand p l e ({ frames := 3, cells := 0, slots := 0, locals := 40 } : Room) s m #[(.ref u1), (.int (2 : Int32))] below meth c s₁ [] 0 0 := Stand.of_body Bd
  have e0 : s₁.heap = h0 := by rw [← hh, Bd.state]; rfl
  have N0 := Fr.nil n0
  have pre0 : ∀ t, Steps p.tables e below (s₁.setTop (mkF m 0 #[.val (.ref u1), .val (.int (2 : Int32))] [])) t → Steps p.tables e below (s₁.setTop (entryFrame m #[(.ref u1), (.int (2 : Int32))] 2)) t := fun t k => castTop (ef_rm_uch2 m u1 (2 : Int32)) k
  obtain ⟨_, _, ⟨T31, L31, k31, n31⟩, -, X31, ⟨Lc31, hQ31, l31, y31, z31⟩, st31⟩ := Jvm.LawKit.callS X0 hx (y := (⟨"java/lang/StringUTF16", "checkIndex", "(I[B)V"⟩ : MethodName)) hown (mvT hZ (own_w hw 99 rfl)) (mvT hZ (own_w hw 100 rfl)) (mvT hZ (own_w hw 21 rfl)) (mvT hZ (own_w hw 101 rfl)) (by decide) (backOf (W := 0) (rm_uci2 l Z a0 hw [] u1 fm kb z vs h0 n0 Z0 hc1 hc2 S2 rf V1) hZ (own_w hw 101 rfl) (own_w hw 21 rfl) (by decide) (by decide)) (g := (mkF m 2 #[.val (.ref u1), .val (.int (2 : Int32))] [(.ref u1), (.int (2 : Int32))])) rfl (by rw [hml]; rfl) (argsL := [(.int (2 : Int32)), (.ref u1)]) (rest := []) (lenOf pd_100000 rfl) rfl (by show 2 * 0 + _ ≤ _; exact Nat.le_of_eq rfl) (hb hby d22_2) (fun _ _ => ⟨rfl, e0, (by decide : 0 + 0 ≤ _), (by decide : 0 + 0 ≤ _)⟩)
  dsimp only [Pt.U, Pt.locs, Pt.cells, Pt.slots] at X31 l31 y31 z31 st31 hQ31
  replace y31 : k31 = 0 := y31
  replace z31 : n31 = 0 := z31
  subst y31 z31
  obtain ⟨rfl, Nq31, eq31⟩ := hQ31
  have N31 : Fr n0 L31 := by rw [l31]; exact Fr.app N0 Nq31
  obtain ⟨_, _, ⟨T32, L32, k32, n32⟩, -, X32, ⟨Lc32, hQ32, l32, y32, z32⟩, st32⟩ := Jvm.LawKit.callS X31 hx (y := (⟨"java/lang/StringUTF16", "getChar", "([BI)C"⟩ : MethodName)) hown (mvT hZ (own_w hw 93 rfl)) (mvT hZ (own_w hw 94 rfl)) (mvT hZ (own_w hw 21 rfl)) (mvT hZ (own_w hw 95 rfl)) (by decide) (backOf (W := 0) (rm_get2 l Z a0 hw [] u1 kb z vs x0 x1 (nar .char ((((x0 &&& (255 : Int32)) <<< ((0 : Int32) &&& 31)) ||| ((x1 &&& (255 : Int32)) <<< ((8 : Int32) &&& 31))).toUInt32.toUInt16.toUInt32.toInt32)) h0 n0 Z0 SA SH SLo rfl V1 hN0 hN1 hv0 hv1) hZ (own_w hw 95 rfl) (own_w hw 21 rfl) (by decide) (by decide)) (g := (mkF m 7 #[.val (.ref u1), .val (.int (2 : Int32))] [(.int (2 : Int32)), (.ref u1)])) rfl (by rw [hml]; rfl) (argsL := [(.ref u1), (.int (2 : Int32))]) (rest := []) (lenOf pd_676 rfl) rfl (by show 2 * 0 + _ ≤ _; exact Nat.le_of_eq rfl) (hb hby d22_7) (fun _ _ => ⟨rfl, eq31, (by decide : 0 + 0 ≤ _), (by decide : 0 + 0 ≤ _)⟩)
  dsimp only [Pt.U, Pt.locs, Pt.cells, Pt.slots] at X32 l32 y32 z32 st32 hQ32
  replace y32 : k32 = 0 := y32
  replace z32 : n32 = 0 := z32
  subst y32 z32
  obtain ⟨rfl, Nq32, eq32⟩ := hQ32
  have N32 : Fr n0 L32 := by rw [l32]; exact Fr.app N31 Nq32
  obtain ⟨fs, hr, hrun, hended, hW, hsame⟩ := X32.leave (v := some (.int (nar .char (nar .char ((((x0 &&& (255 : Int32)) <<< ((0 : Int32) &&& 31)) ||| ((x1 &&& (255 : Int32)) <<< ((8 : Int32) &&& 31))).toUInt32.toUInt16.toUInt32.toInt32))))) (fun h => by rw [Bd.returns] at h; cases h)
  refine ⟨_, _, pre0 _ ?_, hrun, hended, _, _, rfl, ?_, ⟨_, rfl⟩, hW, hsame.mono (by decide) (by decide)⟩
  · show Steps p.tables e below (s₁.setTop (mkF m 0 #[.val (.ref u1), .val (.int (2 : Int32))] [])) _
    refine XS.iloadN X0.here hx rfl (hb hby d22_0) rfl ?_
    refine XS.aloadN X0.here hx rfl (hb hby d22_1) rfl rfl ?_
    refine st31 _ ?_
    refine XS.aloadN X31.here hx rfl (hb hby d22_5) rfl rfl ?_
    refine XS.iloadN X31.here hx rfl (hb hby d22_6) rfl ?_
    refine st32 _ ?_
    show Steps p.tables e below (T32.setTop (mkF m 10 #[.val (.ref u1), .val (.int (2 : Int32))] [(.int (nar .char ((((x0 &&& (255 : Int32)) <<< ((0 : Int32) &&& 31)) ||| ((x1 &&& (255 : Int32)) <<< ((8 : Int32) &&& 31))).toUInt32.toUInt16.toUInt32.toInt32)))])) _
    exact retN X32 hx (t := .char) Bd.returns (by simp) (hb hby d22_10) hr
  · show Q_rm_uch2 Z _ _ _ _ _ _ _ _ h0 n0 _ T32.heap _
    rw [eq32]
    exact ⟨(by rw [hrr]), N32, rfl⟩
theorem ef_rm_chU2 (m : MethodId) (x0 : Addr) (x1 : Int32) : entryFrame m #[(.ref x0), (.int x1)] 2 = mkF m 0 #[.val (.ref x0), .val (.int x1)] [] := by first | (simp [entryFrame, mkF, argsToLocals, Value.category]; done) | rfl
def Q_rm_chU2 (Z : State) (u1 : Addr) (zc : Int32) (fm : Value) (t : Addr) (kb : ClassId) (z : Int32) (vs : List Value) (x0 : Int32) (x1 : Int32) (rr : Int32) (h0 : Heap) (n0 : Nat) (v : Option Value) (h : Heap) (L : List Loc) : Prop := v = some (.int rr) ∧ Fr n0 L ∧ h = h0
set_option maxRecDepth 65536 in
set_option maxHeartbeats 40000000 in
theorem rm_chU2 (l : Launch) (Z : State) (a0 : Array Value) (hw : ∀ d ∈ tables_1, d.before a0 Z = true) (ws : List Jvm.Cond) (u1 : Addr) (zc : Int32) (fm : Value) (t : Addr) (kb : ClassId) (z : Int32) (vs : List Value) (x0 : Int32) (x1 : Int32) (rr : Int32) (h0 : Heap) (n0 : Nat) (Z0 : n0 ≤ h0.size) (SA : Sta Z h0 "java/lang/StringUTF16" "$assertionsDisabled" "Z" (.int (1 : Int32))) (SH : Sta Z h0 "java/lang/StringUTF16" "HI_BYTE_SHIFT" "I" (.int (0 : Int32))) (SLo : Sta Z h0 "java/lang/StringUTF16" "LO_BYTE_SHIFT" "I" (.int (8 : Int32))) (hc1 : ifCond.holds .lt (2 : Int32) = false) (hc2 : if_icmp.holds .lt (2 : Int32) (z >>> ((1 : Int32) &&& 31)) = true) (S2 : Sta Z h0 "jdk/internal/util/Preconditions" "SIOOBE_FORMATTER" "Ljava/util/function/BiFunction;" fm) (rf : fm.isRef = true) (S1 : Sta Z h0 "java/lang/String" "COMPACT_STRINGS" "Z" (.int zc)) (hz : ¬ zc = 0) (E1 : Exa Z h0 u1 "java/lang/String") (F1 : Fld Z h0 u1 "java/lang/String" "coder" "B" (.int (1 : Int32))) (F2 : Fld Z h0 u1 "java/lang/String" "value" "[B" (.ref t)) (hrr : nar .char rr = rr) (hr2 : (nar .char (nar .char ((((x0 &&& (255 : Int32)) <<< ((0 : Int32) &&& 31)) ||| ((x1 &&& (255 : Int32)) <<< ((8 : Int32) &&& 31))).toUInt32.toUInt16.toUInt32.toInt32))) = rr) (V1 : Arv Z h0 t kb .byte z vs (.int (0 : Int32))) (hN0 : (4 : Int32) < z) (hN1 : (5 : Int32) < z) (hv0 : vs.getD ((4 : Int32)).toNatClampNeg (.int (0 : Int32)) = .int x0) (hv1 : vs.getD ((5 : Int32)).toNatClampNeg (.int (0 : Int32)) = .int x1) :
    MetFree l (⟨"java/lang/String", "charAt", "(I)C"⟩ : MethodName) (head1 (Jvm.Cond.code (⟨"java/lang/String", "charAt", "(I)C"⟩ : MethodName) jdk_42_method_56_code 2 (some .char) :: ws) ({ frames := 5, cells := 0, slots := 0, locals := 100 } : Room)) (fun a U => a = #[(.ref u1), (.int (2 : Int32))] ∧ Z.Warmed39 U.vm ∧ U.heap = h0) (fun _ _ _ _ _ => True) (fun _ U o U' => ∃ v L, o = .returned v ∧ Q_rm_chU2 Z u1 zc fm t kb z vs x0 x1 rr h0 n0 v U'.heap L ∧ FrameEnd U o U' L ({ frames := 5, cells := 0, slots := 0, locals := 100 } : Room).cells ({ frames := 5, cells := 0, slots := 0, locals := 100 } : Room).slots) := by
  refine MetFree.of_bodySF (plainFor_of_name pn_453642) hisR ?_
  intro p e s m args below meth c s₁ Bd hml0 hP hK
  obtain ⟨rfl, hZ, hh⟩ := hP
  have hx := Bd.exec
  have hby := Bd.bytes
  have hml : c.maxLocals = 2 := hml0
  have hown : s.vm.findClass "java/lang/String" = some m.cls := findClass_of_methodNamed Bd.named
  have hnm := (name_of_methodNamed Bd.named Bd.method).1
  have X0 : Stand p l e ({ frames := 5, cells := 0, slots := 0, locals := 100 } : Room) s m #[(.ref u1), (.int (2 : Int32))] below meth c s₁ [] 0 0 := Stand.of_body Bd
  have e0 : s₁.heap = h0 := by rw [← hh, Bd.state]; rfl
  have N0 := Fr.nil n0
  have pre0 : ∀ t, Steps p.tables e below (s₁.setTop (mkF m 0 #[.val (.ref u1), .val (.int (2 : Int32))] [])) t → Steps p.tables e below (s₁.setTop (entryFrame m #[(.ref u1), (.int (2 : Int32))] 2)) t := fun t k => castTop (ef_rm_chU2 m u1 (2 : Int32)) k
  obtain ⟨cq31, kq31, q31a, q31b, q31c⟩ := isOf hZ e0 E1
  obtain ⟨_, _, ⟨T31, L31, k31, n31⟩, -, X31, ⟨Lc31, hQ31, l31, y31, z31⟩, st31⟩ := X0.virtualBack hx (y := (⟨"java/lang/String", "isLatin1", "()Z"⟩ : MethodName)) (z := (⟨"java/lang/String", "isLatin1", "()Z"⟩ : MethodName)) hown (mvT hZ (own_w hw 53 rfl)) (mvT hZ (own_w hw 54 rfl)) (notFace_of_selects (args := #[]) (mvT hZ (own_w hw 56 rfl))) (mvT hZ (own_w hw 56 rfl)) (mvT hZ (own_w hw 55 rfl)) (by decide) (backOf (W := 0) (rm_lat l Z a0 hw [] u1 zc (1 : Int32) h0 n0 Z0 S1 hz F1) hZ (own_w hw 57 rfl) (own_w hw 7 rfl) (by decide) (by decide)) q31a q31c (g := (mkF m 1 #[.val (.ref u1), .val (.int (2 : Int32))] [(.ref u1)])) rfl (by rw [hml]; rfl) (Steps.refl _) (argsL := []) (rest := []) (lenOf pd_691901 rfl) rfl (by show 2 * 0 + _ ≤ _; exact Nat.le_of_eq rfl) (hb hby d11_1) (fun _ _ => ⟨rfl, e0, (by decide : 0 + 0 ≤ _), (by decide : 0 + 0 ≤ _)⟩)
  dsimp only [Pt.U, Pt.locs, Pt.cells, Pt.slots] at X31 l31 y31 z31 st31 hQ31
  replace y31 : k31 = 0 := y31
  replace z31 : n31 = 0 := z31
  subst y31 z31
  obtain ⟨rfl, Nq31, eq31⟩ := hQ31
  have N31 : Fr n0 L31 := by rw [l31]; exact Fr.app N0 Nq31
  obtain ⟨T32, X32, e32, st32⟩ := getF X31 hx hZ hown (host := "") (Or.inl (own_w hw 32 rfl)) Via.refl eq31 F2 (g := (mkF m 17 #[.val (.ref u1), .val (.int (2 : Int32))] [(.ref u1)])) rfl rfl (hb hby d11_17)
  obtain ⟨_, _, ⟨T33, L33, k33, n33⟩, -, X33, ⟨Lc33, hQ33, l33, y33, z33⟩, st33⟩ := Jvm.LawKit.callS X32 hx (y := (⟨"java/lang/StringUTF16", "charAt", "([BI)C"⟩ : MethodName)) hown (mvT hZ (own_w hw 96 rfl)) (mvT hZ (own_w hw 97 rfl)) (mvT hZ (own_w hw 21 rfl)) (mvT hZ (own_w hw 98 rfl)) (by decide) (backOf (W := 0) (rm_uch2 l Z a0 hw [] t fm kb z vs x0 x1 rr h0 n0 Z0 SA SH SLo hc1 hc2 S2 rf hr2 V1 hN0 hN1 hv0 hv1) hZ (own_w hw 98 rfl) (own_w hw 21 rfl) (by decide) (by decide)) (g := (mkF m 21 #[.val (.ref u1), .val (.int (2 : Int32))] [(.int (2 : Int32)), (.ref t)])) rfl (by rw [hml]; rfl) (argsL := [(.ref t), (.int (2 : Int32))]) (rest := []) (lenOf pd_676 rfl) rfl (by show 2 * 0 + _ ≤ _; exact Nat.le_of_eq rfl) (hb hby d11_21) (fun _ _ => ⟨rfl, e32, (by decide : 0 + 0 ≤ _), (by decide : 0 + 0 ≤ _)⟩)
  dsimp only [Pt.U, Pt.locs, Pt.cells, Pt.slots] at X33 l33 y33 z33 st33 hQ33
  replace y33 : k33 = 0 := y33
  replace z33 : n33 = 0 := z33
  subst y33 z33
  obtain ⟨rfl, Nq33, eq33⟩ := hQ33
  have N33 : Fr n0 L33 := by rw [l33]; exact Fr.app N31 Nq33
  obtain ⟨fs, hr, hrun, hended, hW, hsame⟩ := X33.leave (v := some (.int (nar .char rr))) (fun h => by rw [Bd.returns] at h; cases h)
  refine ⟨_, _, pre0 _ ?_, hrun, hended, _, _, rfl, ?_, ⟨_, rfl⟩, hW, hsame.mono (by decide) (by decide)⟩
  · show Steps p.tables e below (s₁.setTop (mkF m 0 #[.val (.ref u1), .val (.int (2 : Int32))] [])) _
    refine XS.aloadN X0.here hx rfl (hb hby d11_0) rfl rfl ?_
    refine st31.trans ?_
    refine XS.ifYes X31.here hx rfl (pc0 := 4) (pc' := 16) rfl (hb hby d11_4) rfl (by decide) (by decide) (by decide) ?_
    refine XS.aloadN X31.here hx rfl (hb hby d11_16) rfl rfl ?_
    refine st32 _ ?_
    refine XS.iloadN X32.here hx rfl (hb hby d11_20) rfl ?_
    refine st33 _ ?_
    show Steps p.tables e below (T33.setTop (mkF m 24 #[.val (.ref u1), .val (.int (2 : Int32))] [(.int rr)])) _
    exact retN X33 hx (t := .char) Bd.returns (by simp) (hb hby d11_24) hr
  · show Q_rm_chU2 Z _ _ _ _ _ _ _ _ _ _ h0 n0 _ T33.heap _
    rw [eq33]
    exact ⟨(by rw [hrr]), N33, rfl⟩
theorem own_cc (c : Int32) (h : ¬ c < 0 ∧ ¬ (65535 : Int32) < c) : nar .char c = c := by
  show c.toUInt32.toUInt16.toUInt32.toInt32 = c
  have q := c_i2c c
  have e0 : (0 : Int32).toInt = 0 := by decide
  have e1 : (65535 : Int32).toInt = 65535 := by decide
  rw [Int32.lt_iff_toInt_lt, Int32.lt_iff_toInt_lt, e0, e1] at h
  rw [← Int32.toInt_inj]; omega
theorem own_l8 (c : Int32) (h : ¬ c < 0 ∧ ¬ (65535 : Int32) < c) (h2 : if_icmp.holds .le c (255 : Int32) = true) : (nar .char (((c.toInt8.toInt32) &&& (255 : Int32)).toUInt32.toUInt16.toUInt32.toInt32)) = c := by
  rw [own_ile] at h2
  show ((((c.toInt8.toInt32) &&& (255 : Int32)).toUInt32.toUInt16.toUInt32.toInt32).toUInt32.toUInt16.toUInt32.toInt32) = c
  have h2 := of_decide_eq_true h2
  have e0 : (0 : Int32).toInt = 0 := by decide
  have e1 : (65535 : Int32).toInt = 65535 := by decide
  have e2 : (255 : Int32).toInt = 255 := by decide
  rw [Int32.lt_iff_toInt_lt, Int32.lt_iff_toInt_lt, e0, e1] at h
  rw [Int32.le_iff_toInt_le, e2] at h2
  have q1 := c_i2b c
  have q2 := c_mask (c.toInt8.toInt32) (255 : Int32) 8 (by decide) (by decide)
  have q3 := c_i2c ((c.toInt8.toInt32) &&& (255 : Int32))
  have q4 := c_i2c (((c.toInt8.toInt32) &&& (255 : Int32)).toUInt32.toUInt16.toUInt32.toInt32)
  rw [← Int32.toInt_inj]; omega
def Q_cv (x : Int32) (h0 : Heap) (n0 : Nat) (v : Option Value) (h : Heap) (L : List Loc) : Prop := v = some (.int x) ∧ Fr n0 L ∧ h = h0
theorem own_l8' (c : Int32) (h : ¬ c < 0 ∧ ¬ (65535 : Int32) < c) (h2 : if_icmp.holds .le c (255 : Int32) = true) : (nar .char ((nar .char (((c.toInt8.toInt32) &&& (255 : Int32)).toUInt32.toUInt16.toUInt32.toInt32)))) = c := by rw [own_l8 c h h2]; exact own_cc c h
theorem own_gc' (c : Int32) (h : ¬ c < 0 ∧ ¬ (65535 : Int32) < c) : (nar .char (nar .char ((((((c >>> ((0 : Int32) &&& 31)).toInt8.toInt32) &&& (255 : Int32)) <<< ((0 : Int32) &&& 31)) ||| ((((c >>> ((8 : Int32) &&& 31)).toInt8.toInt32) &&& (255 : Int32)) <<< ((8 : Int32) &&& 31))).toUInt32.toUInt16.toUInt32.toInt32))) = c := by rw [own_gc c h]; exact own_cc c h
theorem own_lenrr1 {c0 : Int32} {cd N : Int32} {ys : List Int32} (cod : own_cod [c0] cd N ys) : (N >>> ((nar .byte cd) &&& 31)) = (1 : Int32) := by
  rcases cod with ⟨rfl, rfl, -⟩ | ⟨rfl, rfl, -⟩
  · exact (by decide : (Int32.ofNat 1 >>> ((nar .byte (0 : Int32)) &&& 31)) = (1 : Int32))
  · exact (by decide : (Int32.ofNat 2 >>> ((nar .byte (1 : Int32)) &&& 31)) = (1 : Int32))
theorem rm_chC1_0 (l : Launch) (Z : State) (a0 : Array Value) (hw : ∀ d ∈ tables_1, d.before a0 Z = true) (ws : List Jvm.Cond) (u1 : Addr) (zc : Int32) (fm : Value) (cd : Int32) (t : Addr) (kb : ClassId) (N : Int32) (ys : List Int32) (c0 : Int32) (h0 : Heap) (n0 : Nat) (Z0 : n0 ≤ h0.size) (S1 : Sta Z h0 "java/lang/String" "COMPACT_STRINGS" "Z" (.int zc)) (hz : ¬ zc = 0) (S2 : Sta Z h0 "jdk/internal/util/Preconditions" "SIOOBE_FORMATTER" "Ljava/util/function/BiFunction;" fm) (rf : fm.isRef = true) (SA : Sta Z h0 "java/lang/StringUTF16" "$assertionsDisabled" "Z" (.int (1 : Int32))) (SH : Sta Z h0 "java/lang/StringUTF16" "HI_BYTE_SHIFT" "I" (.int (0 : Int32))) (SLo : Sta Z h0 "java/lang/StringUTF16" "LO_BYTE_SHIFT" "I" (.int (8 : Int32))) (E1 : Exa Z h0 u1 "java/lang/String") (F1 : Fld Z h0 u1 "java/lang/String" "coder" "B" (.int cd)) (F2 : Fld Z h0 u1 "java/lang/String" "value" "[B" (.ref t)) (V1 : Arv Z h0 t kb .byte N (ys.map Value.int) (.int (0 : Int32))) (cod : own_cod [c0] cd N ys) (qi : ¬ c0 < 0 ∧ ¬ (65535 : Int32) < c0) :
    MetFree l (⟨"java/lang/String", "charAt", "(I)C"⟩ : MethodName) (head1 (Jvm.Cond.code (⟨"java/lang/String", "charAt", "(I)C"⟩ : MethodName) jdk_42_method_56_code 2 (some .char) :: ws) ({ frames := 5, cells := 0, slots := 0, locals := 100 } : Room)) (fun a U => a = #[(.ref u1), (.int (0 : Int32))] ∧ Z.Warmed39 U.vm ∧ U.heap = h0) (fun _ _ _ _ _ => True) (fun _ U o U' => ∃ v L, o = .returned v ∧ Q_cv c0 h0 n0 v U'.heap L ∧ FrameEnd U o U' L ({ frames := 5, cells := 0, slots := 0, locals := 100 } : Room).cells ({ frames := 5, cells := 0, slots := 0, locals := 100 } : Room).slots) := by
  rcases cod with ⟨rfl, rfl, rfl, hall⟩ | ⟨rfl, rfl, rfl⟩
  · exact rm_ch l Z a0 hw ws u1 (0 : Int32) zc fm t kb _ _ (c0.toInt8.toInt32) c0 h0 n0 Z0 (own_l8' c0 qi (hall _ (by simp))) S1 hz S2 rf E1 F1 F2 V1 ⟨by decide, by show (0 : Int32) < Int32.ofNat 1; decide⟩ rfl
  · exact rm_chU0 l Z a0 hw ws u1 zc fm t kb _ _ ((c0 >>> ((0 : Int32) &&& 31)).toInt8.toInt32) ((c0 >>> ((8 : Int32) &&& 31)).toInt8.toInt32) c0 h0 n0 Z0 SA SH SLo (by decide) (by show if_icmp.holds .lt (0 : Int32) (Int32.ofNat 2 >>> ((1 : Int32) &&& 31)) = true; decide) S2 rf S1 hz E1 F1 F2 (own_cc _ qi) (own_gc' _ qi) V1 (by show (0 : Int32) < Int32.ofNat 2; decide) (by show (1 : Int32) < Int32.ofNat 2; decide) rfl rfl
theorem own_lenrr2 {c0 c1 : Int32} {cd N : Int32} {ys : List Int32} (cod : own_cod [c0, c1] cd N ys) : (N >>> ((nar .byte cd) &&& 31)) = (2 : Int32) := by
  rcases cod with ⟨rfl, rfl, -⟩ | ⟨rfl, rfl, -⟩
  · exact (by decide : (Int32.ofNat 2 >>> ((nar .byte (0 : Int32)) &&& 31)) = (2 : Int32))
  · exact (by decide : (Int32.ofNat 4 >>> ((nar .byte (1 : Int32)) &&& 31)) = (2 : Int32))
theorem rm_chC2_0 (l : Launch) (Z : State) (a0 : Array Value) (hw : ∀ d ∈ tables_1, d.before a0 Z = true) (ws : List Jvm.Cond) (u1 : Addr) (zc : Int32) (fm : Value) (cd : Int32) (t : Addr) (kb : ClassId) (N : Int32) (ys : List Int32) (c0 c1 : Int32) (h0 : Heap) (n0 : Nat) (Z0 : n0 ≤ h0.size) (S1 : Sta Z h0 "java/lang/String" "COMPACT_STRINGS" "Z" (.int zc)) (hz : ¬ zc = 0) (S2 : Sta Z h0 "jdk/internal/util/Preconditions" "SIOOBE_FORMATTER" "Ljava/util/function/BiFunction;" fm) (rf : fm.isRef = true) (SA : Sta Z h0 "java/lang/StringUTF16" "$assertionsDisabled" "Z" (.int (1 : Int32))) (SH : Sta Z h0 "java/lang/StringUTF16" "HI_BYTE_SHIFT" "I" (.int (0 : Int32))) (SLo : Sta Z h0 "java/lang/StringUTF16" "LO_BYTE_SHIFT" "I" (.int (8 : Int32))) (E1 : Exa Z h0 u1 "java/lang/String") (F1 : Fld Z h0 u1 "java/lang/String" "coder" "B" (.int cd)) (F2 : Fld Z h0 u1 "java/lang/String" "value" "[B" (.ref t)) (V1 : Arv Z h0 t kb .byte N (ys.map Value.int) (.int (0 : Int32))) (cod : own_cod [c0, c1] cd N ys) (qi : ¬ c0 < 0 ∧ ¬ (65535 : Int32) < c0) :
    MetFree l (⟨"java/lang/String", "charAt", "(I)C"⟩ : MethodName) (head1 (Jvm.Cond.code (⟨"java/lang/String", "charAt", "(I)C"⟩ : MethodName) jdk_42_method_56_code 2 (some .char) :: ws) ({ frames := 5, cells := 0, slots := 0, locals := 100 } : Room)) (fun a U => a = #[(.ref u1), (.int (0 : Int32))] ∧ Z.Warmed39 U.vm ∧ U.heap = h0) (fun _ _ _ _ _ => True) (fun _ U o U' => ∃ v L, o = .returned v ∧ Q_cv c0 h0 n0 v U'.heap L ∧ FrameEnd U o U' L ({ frames := 5, cells := 0, slots := 0, locals := 100 } : Room).cells ({ frames := 5, cells := 0, slots := 0, locals := 100 } : Room).slots) := by
  rcases cod with ⟨rfl, rfl, rfl, hall⟩ | ⟨rfl, rfl, rfl⟩
  · exact rm_ch l Z a0 hw ws u1 (0 : Int32) zc fm t kb _ _ (c0.toInt8.toInt32) c0 h0 n0 Z0 (own_l8' c0 qi (hall _ (by simp))) S1 hz S2 rf E1 F1 F2 V1 ⟨by decide, by show (0 : Int32) < Int32.ofNat 2; decide⟩ rfl
  · exact rm_chU0 l Z a0 hw ws u1 zc fm t kb _ _ ((c0 >>> ((0 : Int32) &&& 31)).toInt8.toInt32) ((c0 >>> ((8 : Int32) &&& 31)).toInt8.toInt32) c0 h0 n0 Z0 SA SH SLo (by decide) (by show if_icmp.holds .lt (0 : Int32) (Int32.ofNat 4 >>> ((1 : Int32) &&& 31)) = true; decide) S2 rf S1 hz E1 F1 F2 (own_cc _ qi) (own_gc' _ qi) V1 (by show (0 : Int32) < Int32.ofNat 4; decide) (by show (1 : Int32) < Int32.ofNat 4; decide) rfl rfl
theorem rm_chC2_1 (l : Launch) (Z : State) (a0 : Array Value) (hw : ∀ d ∈ tables_1, d.before a0 Z = true) (ws : List Jvm.Cond) (u1 : Addr) (zc : Int32) (fm : Value) (cd : Int32) (t : Addr) (kb : ClassId) (N : Int32) (ys : List Int32) (c0 c1 : Int32) (h0 : Heap) (n0 : Nat) (Z0 : n0 ≤ h0.size) (S1 : Sta Z h0 "java/lang/String" "COMPACT_STRINGS" "Z" (.int zc)) (hz : ¬ zc = 0) (S2 : Sta Z h0 "jdk/internal/util/Preconditions" "SIOOBE_FORMATTER" "Ljava/util/function/BiFunction;" fm) (rf : fm.isRef = true) (SA : Sta Z h0 "java/lang/StringUTF16" "$assertionsDisabled" "Z" (.int (1 : Int32))) (SH : Sta Z h0 "java/lang/StringUTF16" "HI_BYTE_SHIFT" "I" (.int (0 : Int32))) (SLo : Sta Z h0 "java/lang/StringUTF16" "LO_BYTE_SHIFT" "I" (.int (8 : Int32))) (E1 : Exa Z h0 u1 "java/lang/String") (F1 : Fld Z h0 u1 "java/lang/String" "coder" "B" (.int cd)) (F2 : Fld Z h0 u1 "java/lang/String" "value" "[B" (.ref t)) (V1 : Arv Z h0 t kb .byte N (ys.map Value.int) (.int (0 : Int32))) (cod : own_cod [c0, c1] cd N ys) (qi : ¬ c1 < 0 ∧ ¬ (65535 : Int32) < c1) :
    MetFree l (⟨"java/lang/String", "charAt", "(I)C"⟩ : MethodName) (head1 (Jvm.Cond.code (⟨"java/lang/String", "charAt", "(I)C"⟩ : MethodName) jdk_42_method_56_code 2 (some .char) :: ws) ({ frames := 5, cells := 0, slots := 0, locals := 100 } : Room)) (fun a U => a = #[(.ref u1), (.int (1 : Int32))] ∧ Z.Warmed39 U.vm ∧ U.heap = h0) (fun _ _ _ _ _ => True) (fun _ U o U' => ∃ v L, o = .returned v ∧ Q_cv c1 h0 n0 v U'.heap L ∧ FrameEnd U o U' L ({ frames := 5, cells := 0, slots := 0, locals := 100 } : Room).cells ({ frames := 5, cells := 0, slots := 0, locals := 100 } : Room).slots) := by
  rcases cod with ⟨rfl, rfl, rfl, hall⟩ | ⟨rfl, rfl, rfl⟩
  · exact rm_ch l Z a0 hw ws u1 (1 : Int32) zc fm t kb _ _ (c1.toInt8.toInt32) c1 h0 n0 Z0 (own_l8' c1 qi (hall _ (by simp))) S1 hz S2 rf E1 F1 F2 V1 ⟨by decide, by show (1 : Int32) < Int32.ofNat 2; decide⟩ rfl
  · exact rm_chU1 l Z a0 hw ws u1 zc fm t kb _ _ ((c1 >>> ((0 : Int32) &&& 31)).toInt8.toInt32) ((c1 >>> ((8 : Int32) &&& 31)).toInt8.toInt32) c1 h0 n0 Z0 SA SH SLo (by decide) (by show if_icmp.holds .lt (1 : Int32) (Int32.ofNat 4 >>> ((1 : Int32) &&& 31)) = true; decide) S2 rf S1 hz E1 F1 F2 (own_cc _ qi) (own_gc' _ qi) V1 (by show (2 : Int32) < Int32.ofNat 4; decide) (by show (3 : Int32) < Int32.ofNat 4; decide) rfl rfl
theorem own_lenrr3 {c0 c1 c2 : Int32} {cd N : Int32} {ys : List Int32} (cod : own_cod [c0, c1, c2] cd N ys) : (N >>> ((nar .byte cd) &&& 31)) = (3 : Int32) := by
  rcases cod with ⟨rfl, rfl, -⟩ | ⟨rfl, rfl, -⟩
  · exact (by decide : (Int32.ofNat 3 >>> ((nar .byte (0 : Int32)) &&& 31)) = (3 : Int32))
  · exact (by decide : (Int32.ofNat 6 >>> ((nar .byte (1 : Int32)) &&& 31)) = (3 : Int32))
theorem rm_chC3_0 (l : Launch) (Z : State) (a0 : Array Value) (hw : ∀ d ∈ tables_1, d.before a0 Z = true) (ws : List Jvm.Cond) (u1 : Addr) (zc : Int32) (fm : Value) (cd : Int32) (t : Addr) (kb : ClassId) (N : Int32) (ys : List Int32) (c0 c1 c2 : Int32) (h0 : Heap) (n0 : Nat) (Z0 : n0 ≤ h0.size) (S1 : Sta Z h0 "java/lang/String" "COMPACT_STRINGS" "Z" (.int zc)) (hz : ¬ zc = 0) (S2 : Sta Z h0 "jdk/internal/util/Preconditions" "SIOOBE_FORMATTER" "Ljava/util/function/BiFunction;" fm) (rf : fm.isRef = true) (SA : Sta Z h0 "java/lang/StringUTF16" "$assertionsDisabled" "Z" (.int (1 : Int32))) (SH : Sta Z h0 "java/lang/StringUTF16" "HI_BYTE_SHIFT" "I" (.int (0 : Int32))) (SLo : Sta Z h0 "java/lang/StringUTF16" "LO_BYTE_SHIFT" "I" (.int (8 : Int32))) (E1 : Exa Z h0 u1 "java/lang/String") (F1 : Fld Z h0 u1 "java/lang/String" "coder" "B" (.int cd)) (F2 : Fld Z h0 u1 "java/lang/String" "value" "[B" (.ref t)) (V1 : Arv Z h0 t kb .byte N (ys.map Value.int) (.int (0 : Int32))) (cod : own_cod [c0, c1, c2] cd N ys) (qi : ¬ c0 < 0 ∧ ¬ (65535 : Int32) < c0) :
    MetFree l (⟨"java/lang/String", "charAt", "(I)C"⟩ : MethodName) (head1 (Jvm.Cond.code (⟨"java/lang/String", "charAt", "(I)C"⟩ : MethodName) jdk_42_method_56_code 2 (some .char) :: ws) ({ frames := 5, cells := 0, slots := 0, locals := 100 } : Room)) (fun a U => a = #[(.ref u1), (.int (0 : Int32))] ∧ Z.Warmed39 U.vm ∧ U.heap = h0) (fun _ _ _ _ _ => True) (fun _ U o U' => ∃ v L, o = .returned v ∧ Q_cv c0 h0 n0 v U'.heap L ∧ FrameEnd U o U' L ({ frames := 5, cells := 0, slots := 0, locals := 100 } : Room).cells ({ frames := 5, cells := 0, slots := 0, locals := 100 } : Room).slots) := by
  rcases cod with ⟨rfl, rfl, rfl, hall⟩ | ⟨rfl, rfl, rfl⟩
  · exact rm_ch l Z a0 hw ws u1 (0 : Int32) zc fm t kb _ _ (c0.toInt8.toInt32) c0 h0 n0 Z0 (own_l8' c0 qi (hall _ (by simp))) S1 hz S2 rf E1 F1 F2 V1 ⟨by decide, by show (0 : Int32) < Int32.ofNat 3; decide⟩ rfl
  · exact rm_chU0 l Z a0 hw ws u1 zc fm t kb _ _ ((c0 >>> ((0 : Int32) &&& 31)).toInt8.toInt32) ((c0 >>> ((8 : Int32) &&& 31)).toInt8.toInt32) c0 h0 n0 Z0 SA SH SLo (by decide) (by show if_icmp.holds .lt (0 : Int32) (Int32.ofNat 6 >>> ((1 : Int32) &&& 31)) = true; decide) S2 rf S1 hz E1 F1 F2 (own_cc _ qi) (own_gc' _ qi) V1 (by show (0 : Int32) < Int32.ofNat 6; decide) (by show (1 : Int32) < Int32.ofNat 6; decide) rfl rfl
theorem rm_chC3_1 (l : Launch) (Z : State) (a0 : Array Value) (hw : ∀ d ∈ tables_1, d.before a0 Z = true) (ws : List Jvm.Cond) (u1 : Addr) (zc : Int32) (fm : Value) (cd : Int32) (t : Addr) (kb : ClassId) (N : Int32) (ys : List Int32) (c0 c1 c2 : Int32) (h0 : Heap) (n0 : Nat) (Z0 : n0 ≤ h0.size) (S1 : Sta Z h0 "java/lang/String" "COMPACT_STRINGS" "Z" (.int zc)) (hz : ¬ zc = 0) (S2 : Sta Z h0 "jdk/internal/util/Preconditions" "SIOOBE_FORMATTER" "Ljava/util/function/BiFunction;" fm) (rf : fm.isRef = true) (SA : Sta Z h0 "java/lang/StringUTF16" "$assertionsDisabled" "Z" (.int (1 : Int32))) (SH : Sta Z h0 "java/lang/StringUTF16" "HI_BYTE_SHIFT" "I" (.int (0 : Int32))) (SLo : Sta Z h0 "java/lang/StringUTF16" "LO_BYTE_SHIFT" "I" (.int (8 : Int32))) (E1 : Exa Z h0 u1 "java/lang/String") (F1 : Fld Z h0 u1 "java/lang/String" "coder" "B" (.int cd)) (F2 : Fld Z h0 u1 "java/lang/String" "value" "[B" (.ref t)) (V1 : Arv Z h0 t kb .byte N (ys.map Value.int) (.int (0 : Int32))) (cod : own_cod [c0, c1, c2] cd N ys) (qi : ¬ c1 < 0 ∧ ¬ (65535 : Int32) < c1) :
    MetFree l (⟨"java/lang/String", "charAt", "(I)C"⟩ : MethodName) (head1 (Jvm.Cond.code (⟨"java/lang/String", "charAt", "(I)C"⟩ : MethodName) jdk_42_method_56_code 2 (some .char) :: ws) ({ frames := 5, cells := 0, slots := 0, locals := 100 } : Room)) (fun a U => a = #[(.ref u1), (.int (1 : Int32))] ∧ Z.Warmed39 U.vm ∧ U.heap = h0) (fun _ _ _ _ _ => True) (fun _ U o U' => ∃ v L, o = .returned v ∧ Q_cv c1 h0 n0 v U'.heap L ∧ FrameEnd U o U' L ({ frames := 5, cells := 0, slots := 0, locals := 100 } : Room).cells ({ frames := 5, cells := 0, slots := 0, locals := 100 } : Room).slots) := by
  rcases cod with ⟨rfl, rfl, rfl, hall⟩ | ⟨rfl, rfl, rfl⟩
  · exact rm_ch l Z a0 hw ws u1 (1 : Int32) zc fm t kb _ _ (c1.toInt8.toInt32) c1 h0 n0 Z0 (own_l8' c1 qi (hall _ (by simp))) S1 hz S2 rf E1 F1 F2 V1 ⟨by decide, by show (1 : Int32) < Int32.ofNat 3; decide⟩ rfl
  · exact rm_chU1 l Z a0 hw ws u1 zc fm t kb _ _ ((c1 >>> ((0 : Int32) &&& 31)).toInt8.toInt32) ((c1 >>> ((8 : Int32) &&& 31)).toInt8.toInt32) c1 h0 n0 Z0 SA SH SLo (by decide) (by show if_icmp.holds .lt (1 : Int32) (Int32.ofNat 6 >>> ((1 : Int32) &&& 31)) = true; decide) S2 rf S1 hz E1 F1 F2 (own_cc _ qi) (own_gc' _ qi) V1 (by show (2 : Int32) < Int32.ofNat 6; decide) (by show (3 : Int32) < Int32.ofNat 6; decide) rfl rfl
theorem rm_chC3_2 (l : Launch) (Z : State) (a0 : Array Value) (hw : ∀ d ∈ tables_1, d.before a0 Z = true) (ws : List Jvm.Cond) (u1 : Addr) (zc : Int32) (fm : Value) (cd : Int32) (t : Addr) (kb : ClassId) (N : Int32) (ys : List Int32) (c0 c1 c2 : Int32) (h0 : Heap) (n0 : Nat) (Z0 : n0 ≤ h0.size) (S1 : Sta Z h0 "java/lang/String" "COMPACT_STRINGS" "Z" (.int zc)) (hz : ¬ zc = 0) (S2 : Sta Z h0 "jdk/internal/util/Preconditions" "SIOOBE_FORMATTER" "Ljava/util/function/BiFunction;" fm) (rf : fm.isRef = true) (SA : Sta Z h0 "java/lang/StringUTF16" "$assertionsDisabled" "Z" (.int (1 : Int32))) (SH : Sta Z h0 "java/lang/StringUTF16" "HI_BYTE_SHIFT" "I" (.int (0 : Int32))) (SLo : Sta Z h0 "java/lang/StringUTF16" "LO_BYTE_SHIFT" "I" (.int (8 : Int32))) (E1 : Exa Z h0 u1 "java/lang/String") (F1 : Fld Z h0 u1 "java/lang/String" "coder" "B" (.int cd)) (F2 : Fld Z h0 u1 "java/lang/String" "value" "[B" (.ref t)) (V1 : Arv Z h0 t kb .byte N (ys.map Value.int) (.int (0 : Int32))) (cod : own_cod [c0, c1, c2] cd N ys) (qi : ¬ c2 < 0 ∧ ¬ (65535 : Int32) < c2) :
    MetFree l (⟨"java/lang/String", "charAt", "(I)C"⟩ : MethodName) (head1 (Jvm.Cond.code (⟨"java/lang/String", "charAt", "(I)C"⟩ : MethodName) jdk_42_method_56_code 2 (some .char) :: ws) ({ frames := 5, cells := 0, slots := 0, locals := 100 } : Room)) (fun a U => a = #[(.ref u1), (.int (2 : Int32))] ∧ Z.Warmed39 U.vm ∧ U.heap = h0) (fun _ _ _ _ _ => True) (fun _ U o U' => ∃ v L, o = .returned v ∧ Q_cv c2 h0 n0 v U'.heap L ∧ FrameEnd U o U' L ({ frames := 5, cells := 0, slots := 0, locals := 100 } : Room).cells ({ frames := 5, cells := 0, slots := 0, locals := 100 } : Room).slots) := by
  rcases cod with ⟨rfl, rfl, rfl, hall⟩ | ⟨rfl, rfl, rfl⟩
  · exact rm_ch l Z a0 hw ws u1 (2 : Int32) zc fm t kb _ _ (c2.toInt8.toInt32) c2 h0 n0 Z0 (own_l8' c2 qi (hall _ (by simp))) S1 hz S2 rf E1 F1 F2 V1 ⟨by decide, by show (2 : Int32) < Int32.ofNat 3; decide⟩ rfl
  · exact rm_chU2 l Z a0 hw ws u1 zc fm t kb _ _ ((c2 >>> ((0 : Int32) &&& 31)).toInt8.toInt32) ((c2 >>> ((8 : Int32) &&& 31)).toInt8.toInt32) c2 h0 n0 Z0 SA SH SLo (by decide) (by show if_icmp.holds .lt (2 : Int32) (Int32.ofNat 6 >>> ((1 : Int32) &&& 31)) = true; decide) S2 rf S1 hz E1 F1 F2 (own_cc _ qi) (own_gc' _ qi) V1 (by show (4 : Int32) < Int32.ofNat 6; decide) (by show (5 : Int32) < Int32.ofNat 6; decide) rfl rfl
def own_sz (c : Int32) : Int32 := (bif (if_icmp.holds .ge c (128 : Int32)) then (bif (if_icmp.holds .ge c (2048 : Int32)) then (3 : Int32) else (2 : Int32)) else (1 : Int32))
theorem own_sz3 (c : Int32) : own_sz c = 1 ∨ own_sz c = 2 ∨ own_sz c = 3 := by
  unfold own_sz
  cases if_icmp.holds .ge c (128 : Int32) <;> cases if_icmp.holds .ge c (2048 : Int32) <;> simp
def own_wr (xs : List Int32) (x c : Int32) : List Int32 := (bif (if_icmp.holds .ge c (128 : Int32)) then (bif (if_icmp.holds .ge c (2048 : Int32)) then (((xs.set (x).toNatClampNeg (((224 : Int32) ||| (c >>> ((12 : Int32) &&& 31))).toInt8.toInt32)).set ((x + (1 : Int32))).toNatClampNeg (((128 : Int32) ||| ((c >>> ((6 : Int32) &&& 31)) &&& (63 : Int32))).toInt8.toInt32)).set (((x + (1 : Int32)) + (1 : Int32))).toNatClampNeg (((128 : Int32) ||| (c &&& (63 : Int32))).toInt8.toInt32)) else ((xs.set (x).toNatClampNeg (((192 : Int32) ||| (c >>> ((6 : Int32) &&& 31))).toInt8.toInt32)).set ((x + (1 : Int32))).toNatClampNeg (((128 : Int32) ||| (c &&& (63 : Int32))).toInt8.toInt32))) else (xs.set (x).toNatClampNeg (c.toInt8.toInt32)))
theorem own_wrl (xs : List Int32) (x c : Int32) : (own_wr xs x c).length = xs.length := by
  unfold own_wr
  cases if_icmp.holds .ge c (128 : Int32) <;> cases if_icmp.holds .ge c (2048 : Int32) <;> simp
theorem own_inb {x N : Int32} {k : Int} (j : Int32) (hx : 0 ≤ x.toInt ∧ x.toInt ≤ 6) (hN : x.toInt + k ≤ N.toInt) (hj : 0 ≤ j.toInt ∧ j.toInt < k) (hk : k ≤ 3) : ¬ (x + j) < 0 ∧ (x + j) < N := by
  have a1 := c_iadd x j
  have r1 := rng32 (x + j)
  rw [Int32.lt_iff_toInt_lt, Int32.lt_iff_toInt_lt]
  have e0 : (0 : Int32).toInt = 0 := by decide
  omega
theorem own_lt9 {x : Int32} (j : Int32) (hx : 0 ≤ x.toInt ∧ x.toInt ≤ 6) (hj : 0 ≤ j.toInt ∧ j.toInt < 3) {xs : List Int32} (hl : xs.length = 9) : (x + j).toNatClampNeg < (xs.map Value.int).length := by
  rw [List.length_map, hl]
  have a1 := c_iadd x j
  have r1 := rng32 (x + j)
  have q := nat_of (j := x + j) (by rw [Int32.lt_iff_toInt_lt]; have e0 : (0 : Int32).toInt = 0 := by decide
                                    omega)
  omega
theorem own_add0 (x : Int32) : x + 0 = x := by simp
theorem own_add2 (x : Int32) : (x + 1) + 1 = x + 2 := by rw [Int32.add_assoc]; rfl
theorem own_add3 (x : Int32) : ((x + 1) + 1) + 1 = x + 3 := by rw [Int32.add_assoc, Int32.add_assoc]; rfl
theorem d8_59 : decode prog_30_method_12_code 59 = .ok (.iload 4, 2) := by decide +kernel
theorem d8_61 : decode prog_30_method_12_code 61 = .ok (.aload_n 0, 1) := by decide +kernel
theorem d8_62 : decode prog_30_method_12_code 62 = .ok (.invokevirtual 128, 3) := by decide +kernel
theorem pd_691884 : parseMethodDescriptor "()I" = some ⟨[], some .int⟩ := by decide +kernel
theorem d8_65 : decode prog_30_method_12_code 65 = .ok (.if_icmp .ge 131, 3) := by decide +kernel
theorem d8_68 : decode prog_30_method_12_code 68 = .ok (.aload_n 0, 1) := by decide +kernel
theorem d8_69 : decode prog_30_method_12_code 69 = .ok (.iload 4, 2) := by decide +kernel
theorem d8_71 : decode prog_30_method_12_code 71 = .ok (.invokevirtual 134, 3) := by decide +kernel
theorem pd_181558 : parseMethodDescriptor "(I)C" = some ⟨[.int], some .char⟩ := by decide +kernel
theorem d8_74 : decode prog_30_method_12_code 74 = .ok (.istore 5, 2) := by decide +kernel
theorem d8_76 : decode prog_30_method_12_code 76 = .ok (.iload 5, 2) := by decide +kernel
theorem d8_78 : decode prog_30_method_12_code 78 = .ok (.sipush 128, 3) := by decide +kernel
theorem d8_81 : decode prog_30_method_12_code 81 = .ok (.if_icmp .ge 15, 3) := by decide +kernel
theorem d8_96 : decode prog_30_method_12_code 96 = .ok (.iload 5, 2) := by decide +kernel
theorem d8_98 : decode prog_30_method_12_code 98 = .ok (.sipush 2048, 3) := by decide +kernel
theorem d8_101 : decode prog_30_method_12_code 101 = .ok (.if_icmp .ge 38, 3) := by decide +kernel
theorem d8_139 : decode prog_30_method_12_code 139 = .ok (.aload_n 2, 1) := by decide +kernel
theorem d8_140 : decode prog_30_method_12_code 140 = .ok (.iload_n 3, 1) := by decide +kernel
theorem d8_141 : decode prog_30_method_12_code 141 = .ok (.iinc 3 1, 3) := by decide +kernel
theorem d8_144 : decode prog_30_method_12_code 144 = .ok (.sipush 224, 3) := by decide +kernel
theorem d8_147 : decode prog_30_method_12_code 147 = .ok (.iload 5, 2) := by decide +kernel
theorem d8_149 : decode prog_30_method_12_code 149 = .ok (.bipush 12, 2) := by decide +kernel
theorem d8_151 : decode prog_30_method_12_code 151 = .ok (.ishr, 1) := by decide +kernel
theorem d8_152 : decode prog_30_method_12_code 152 = .ok (.ior, 1) := by decide +kernel
theorem d8_153 : decode prog_30_method_12_code 153 = .ok (.i2b, 1) := by decide +kernel
theorem d8_154 : decode prog_30_method_12_code 154 = .ok (.bastore, 1) := by decide +kernel
theorem d8_155 : decode prog_30_method_12_code 155 = .ok (.aload_n 2, 1) := by decide +kernel
theorem d8_156 : decode prog_30_method_12_code 156 = .ok (.iload_n 3, 1) := by decide +kernel
theorem d8_157 : decode prog_30_method_12_code 157 = .ok (.iinc 3 1, 3) := by decide +kernel
theorem d8_160 : decode prog_30_method_12_code 160 = .ok (.sipush 128, 3) := by decide +kernel
theorem d8_163 : decode prog_30_method_12_code 163 = .ok (.iload 5, 2) := by decide +kernel
theorem d8_165 : decode prog_30_method_12_code 165 = .ok (.bipush 6, 2) := by decide +kernel
theorem d8_167 : decode prog_30_method_12_code 167 = .ok (.ishr, 1) := by decide +kernel
theorem d8_168 : decode prog_30_method_12_code 168 = .ok (.bipush 63, 2) := by decide +kernel
theorem d8_170 : decode prog_30_method_12_code 170 = .ok (.iand, 1) := by decide +kernel
theorem d8_171 : decode prog_30_method_12_code 171 = .ok (.ior, 1) := by decide +kernel
theorem d8_172 : decode prog_30_method_12_code 172 = .ok (.i2b, 1) := by decide +kernel
theorem d8_173 : decode prog_30_method_12_code 173 = .ok (.bastore, 1) := by decide +kernel
theorem d8_174 : decode prog_30_method_12_code 174 = .ok (.aload_n 2, 1) := by decide +kernel
theorem d8_175 : decode prog_30_method_12_code 175 = .ok (.iload_n 3, 1) := by decide +kernel
theorem d8_176 : decode prog_30_method_12_code 176 = .ok (.iinc 3 1, 3) := by decide +kernel
theorem d8_179 : decode prog_30_method_12_code 179 = .ok (.sipush 128, 3) := by decide +kernel
theorem d8_182 : decode prog_30_method_12_code 182 = .ok (.iload 5, 2) := by decide +kernel
theorem d8_184 : decode prog_30_method_12_code 184 = .ok (.bipush 63, 2) := by decide +kernel
theorem d8_186 : decode prog_30_method_12_code 186 = .ok (.iand, 1) := by decide +kernel
theorem d8_187 : decode prog_30_method_12_code 187 = .ok (.ior, 1) := by decide +kernel
theorem d8_188 : decode prog_30_method_12_code 188 = .ok (.i2b, 1) := by decide +kernel
theorem d8_189 : decode prog_30_method_12_code 189 = .ok (.bastore, 1) := by decide +kernel
theorem d8_190 : decode prog_30_method_12_code 190 = .ok (.iinc 4 1, 3) := by decide +kernel
theorem d8_193 : decode prog_30_method_12_code 193 = .ok (.goto (-134), 3) := by decide +kernel
theorem d8_104 : decode prog_30_method_12_code 104 = .ok (.aload_n 2, 1) := by decide +kernel
theorem d8_105 : decode prog_30_method_12_code 105 = .ok (.iload_n 3, 1) := by decide +kernel
theorem d8_106 : decode prog_30_method_12_code 106 = .ok (.iinc 3 1, 3) := by decide +kernel
theorem d8_109 : decode prog_30_method_12_code 109 = .ok (.sipush 192, 3) := by decide +kernel
theorem d8_112 : decode prog_30_method_12_code 112 = .ok (.iload 5, 2) := by decide +kernel
theorem d8_114 : decode prog_30_method_12_code 114 = .ok (.bipush 6, 2) := by decide +kernel
theorem d8_116 : decode prog_30_method_12_code 116 = .ok (.ishr, 1) := by decide +kernel
theorem d8_117 : decode prog_30_method_12_code 117 = .ok (.ior, 1) := by decide +kernel
theorem d8_118 : decode prog_30_method_12_code 118 = .ok (.i2b, 1) := by decide +kernel
theorem d8_119 : decode prog_30_method_12_code 119 = .ok (.bastore, 1) := by decide +kernel
theorem d8_120 : decode prog_30_method_12_code 120 = .ok (.aload_n 2, 1) := by decide +kernel
theorem d8_121 : decode prog_30_method_12_code 121 = .ok (.iload_n 3, 1) := by decide +kernel
theorem d8_122 : decode prog_30_method_12_code 122 = .ok (.iinc 3 1, 3) := by decide +kernel
theorem d8_125 : decode prog_30_method_12_code 125 = .ok (.sipush 128, 3) := by decide +kernel
theorem d8_128 : decode prog_30_method_12_code 128 = .ok (.iload 5, 2) := by decide +kernel
theorem d8_130 : decode prog_30_method_12_code 130 = .ok (.bipush 63, 2) := by decide +kernel
theorem d8_132 : decode prog_30_method_12_code 132 = .ok (.iand, 1) := by decide +kernel
theorem d8_133 : decode prog_30_method_12_code 133 = .ok (.ior, 1) := by decide +kernel
theorem d8_134 : decode prog_30_method_12_code 134 = .ok (.i2b, 1) := by decide +kernel
theorem d8_135 : decode prog_30_method_12_code 135 = .ok (.bastore, 1) := by decide +kernel
theorem d8_136 : decode prog_30_method_12_code 136 = .ok (.goto 54, 3) := by decide +kernel
theorem d8_84 : decode prog_30_method_12_code 84 = .ok (.aload_n 2, 1) := by decide +kernel
theorem d8_85 : decode prog_30_method_12_code 85 = .ok (.iload_n 3, 1) := by decide +kernel
theorem d8_86 : decode prog_30_method_12_code 86 = .ok (.iinc 3 1, 3) := by decide +kernel
theorem d8_89 : decode prog_30_method_12_code 89 = .ok (.iload 5, 2) := by decide +kernel
theorem d8_91 : decode prog_30_method_12_code 91 = .ok (.i2b, 1) := by decide +kernel
theorem d8_92 : decode prog_30_method_12_code 92 = .ok (.bastore, 1) := by decide +kernel
theorem d8_93 : decode prog_30_method_12_code 93 = .ok (.goto 97, 3) := by decide +kernel
set_option maxRecDepth 65536 in
set_option maxHeartbeats 40000000 in
theorem tn {p : Program} {l : Launch} {e : Env} {s : State} {m : MethodId} {args : Array Value} {below : List Frame} {meth : Method} {c : Code} {T0 : State} {locs : List Loc} {Z : State} {a0 : Array Value} {h0 : Heap} {n0 : Nat} (u1 : Addr) (s1 : Int32) (o : Addr) (x : Int32) (i : Int32) (w5 : Slot) (nl : Int32) (cv : Int32) (ko : ClassId) (No : Int32) (xs : List Int32)
    (X0 : Stand p l e ({ frames := 6, cells := 1, slots := 9, locals := 130 } : Room) s m args below meth c T0 locs 1 9) (hx : p.tables.exec = Jvm.exec) (hZ : Z.Warmed39 s.vm) (hw : ∀ d ∈ tables_1, d.before a0 Z = true) (hby : c.code = prog_30_method_12_code) (hml : c.maxLocals = 6) (hown : s.vm.findClass "com/example/sonde/sonde/store/CurrentVersions" = some m.cls) (e0 : T0.heap = h0) (N0 : Fr n0 locs) (Z0 : n0 ≤ h0.size) (HL : MetFree l (⟨"java/lang/String", "length", "()I"⟩ : MethodName) (head1 [Jvm.Cond.code (⟨"java/lang/String", "length", "()I"⟩ : MethodName) jdk_42_method_54_code 1 (some .int)] ({ frames := 1, cells := 0, slots := 0, locals := 13 } : Room)) (fun a U => a = #[.ref u1] ∧ Z.Warmed39 U.vm ∧ U.heap = h0) (fun _ _ _ _ _ => True) (fun _ U o U' => ∃ v L, o = .returned v ∧ Q_cv nl h0 n0 v U'.heap L ∧ FrameEnd U o U' L ({ frames := 1, cells := 0, slots := 0, locals := 13 } : Room).cells ({ frames := 1, cells := 0, slots := 0, locals := 13 } : Room).slots)) (HC : MetFree l (⟨"java/lang/String", "charAt", "(I)C"⟩ : MethodName) (head1 [Jvm.Cond.code (⟨"java/lang/String", "charAt", "(I)C"⟩ : MethodName) jdk_42_method_56_code 2 (some .char)] ({ frames := 5, cells := 0, slots := 0, locals := 100 } : Room)) (fun a U => a = #[.ref u1, .int i] ∧ Z.Warmed39 U.vm ∧ U.heap = h0) (fun _ _ _ _ _ => True) (fun _ U o U' => ∃ v L, o = .returned v ∧ Q_cv cv h0 n0 v U'.heap L ∧ FrameEnd U o U' L ({ frames := 5, cells := 0, slots := 0, locals := 100 } : Room).cells ({ frames := 5, cells := 0, slots := 0, locals := 100 } : Room).slots)) (hlt : if_icmp.holds .ge i nl = false) (hw5 : w5 = .unset ∨ ∃ y : Int32, w5 = .val (.int y)) (E1 : Exa Z h0 u1 "java/lang/String") (Vo : Arv Z h0 o ko .byte No (xs.map Value.int) (.int (0 : Int32))) (go : n0 ≤ o) (ne1 : u1 ≠ o) (hxl : xs.length = 9) (hxr : 0 ≤ x.toInt ∧ x.toInt ≤ 6) (hfit : x.toInt + (own_sz cv).toInt ≤ No.toInt) :
    ∃ (T' : State) (h' : Heap) (locs' : List Loc), Stand p l e ({ frames := 6, cells := 1, slots := 9, locals := 130 } : Room) s m args below meth c T' locs' 1 9 ∧ T'.heap = h' ∧ Fr n0 locs' ∧ Keep h0 h' [o] ∧ Arv Z h' o ko .byte No ((own_wr xs x cv).map Value.int) (.int (0 : Int32)) ∧ ∀ t, Steps p.tables e below (T'.setTop (mkF m 59 #[.val (.ref u1), .val (.int s1), .val (.ref o), .val (.int (x + (own_sz cv))), .val (.int (i + (1 : Int32))), .val (.int cv)] [])) t → Steps p.tables e below (T0.setTop (mkF m 59 #[.val (.ref u1), .val (.int s1), .val (.ref o), .val (.int x), .val (.int i), w5] [])) t := by
  have K0 : Keep h0 h0 [o] := Keep.refl _ _
  have pre0 : ∀ t, Steps p.tables e below (T0.setTop (mkF m 59 #[.val (.ref u1), .val (.int s1), .val (.ref o), .val (.int x), .val (.int i), w5] [])) t → Steps p.tables e below (T0.setTop (mkF m 59 #[.val (.ref u1), .val (.int s1), .val (.ref o), .val (.int x), .val (.int i), w5] [])) t := fun _ k => k
  obtain ⟨cq31, kq31, q31a, q31b, q31c⟩ := isOf hZ e0 E1
  obtain ⟨_, _, ⟨T31, L31, k31, n31⟩, -, X31, ⟨Lc31, hQ31, l31, y31, z31⟩, st31⟩ := X0.virtualBack hx (y := (⟨"java/lang/String", "length", "()I"⟩ : MethodName)) (z := (⟨"java/lang/String", "length", "()I"⟩ : MethodName)) hown (mvT hZ (own_w hw 38 rfl)) (mvT hZ (own_w hw 39 rfl)) (notFace_of_selects (args := #[]) (mvT hZ (own_w hw 41 rfl))) (mvT hZ (own_w hw 41 rfl)) (mvT hZ (own_w hw 40 rfl)) (by decide) (backOf (W := 1) HL hZ (own_w hw 42 rfl) (own_w hw 7 rfl) (by decide) (by decide)) q31a q31c (g := (mkF m 62 #[.val (.ref u1), .val (.int s1), .val (.ref o), .val (.int x), .val (.int i), w5] [(.ref u1), (.int i)])) rfl (by rw [hml]; rfl) (Steps.refl _) (argsL := []) (rest := [(.int i)]) (lenOf pd_691884 rfl) rfl (by show 2 * 0 + _ ≤ _; exact Nat.le_of_eq rfl) (hb hby d8_62) (fun _ _ => ⟨rfl, e0, (by decide : 1 + 0 ≤ _), (by decide : 9 + 0 ≤ _)⟩)
  dsimp only [Pt.U, Pt.locs, Pt.cells, Pt.slots] at X31 l31 y31 z31 st31 hQ31
  replace y31 : k31 = 1 := y31
  replace z31 : n31 = 9 := z31
  subst y31 z31
  obtain ⟨rfl, Nq31, eq31⟩ := hQ31
  have N31 : Fr n0 L31 := by rw [l31]; exact Fr.app N0 Nq31
  obtain ⟨cq32, kq32, q32a, q32b, q32c⟩ := isOf hZ eq31 E1
  obtain ⟨_, _, ⟨T32, L32, k32, n32⟩, -, X32, ⟨Lc32, hQ32, l32, y32, z32⟩, st32⟩ := X31.virtualBack hx (y := (⟨"java/lang/String", "charAt", "(I)C"⟩ : MethodName)) (z := (⟨"java/lang/String", "charAt", "(I)C"⟩ : MethodName)) hown (mvT hZ (own_w hw 48 rfl)) (mvT hZ (own_w hw 49 rfl)) (notFace_of_selects (args := #[]) (mvT hZ (own_w hw 51 rfl))) (mvT hZ (own_w hw 51 rfl)) (mvT hZ (own_w hw 50 rfl)) (by decide) (backOf (W := 0) HC hZ (own_w hw 52 rfl) (own_w hw 7 rfl) (by decide) (by decide)) q32a q32c (g := (mkF m 71 #[.val (.ref u1), .val (.int s1), .val (.ref o), .val (.int x), .val (.int i), w5] [(.int i), (.ref u1)])) rfl (by rw [hml]; rfl) (Steps.refl _) (argsL := [(.int i)]) (rest := []) (lenOf pd_181558 rfl) rfl (by show 2 * 0 + _ ≤ _; exact Nat.le_of_eq rfl) (hb hby d8_71) (fun _ _ => ⟨rfl, eq31, (by decide : 1 + 0 ≤ _), (by decide : 9 + 0 ≤ _)⟩)
  dsimp only [Pt.U, Pt.locs, Pt.cells, Pt.slots] at X32 l32 y32 z32 st32 hQ32
  replace y32 : k32 = 1 := y32
  replace z32 : n32 = 9 := z32
  subst y32 z32
  obtain ⟨rfl, Nq32, eq32⟩ := hQ32
  have N32 : Fr n0 L32 := by rw [l32]; exact Fr.app N31 Nq32
  have pre33 : ∀ t, Steps p.tables e below (T32.setTop (mkF m 74 #[.val (.ref u1), .val (.int s1), .val (.ref o), .val (.int x), .val (.int i), w5] [(.int cv)])) t → Steps p.tables e below (T0.setTop (mkF m 59 #[.val (.ref u1), .val (.int s1), .val (.ref o), .val (.int x), .val (.int i), w5] [])) t := by
    intro t k
    refine pre0 t ?_
    show Steps p.tables e below (T0.setTop (mkF m 59 #[.val (.ref u1), .val (.int s1), .val (.ref o), .val (.int x), .val (.int i), w5] [])) _
    refine XS.iload X0.here hx rfl (hb hby d8_59) rfl ?_
    refine XS.aloadN X0.here hx rfl (hb hby d8_61) rfl rfl ?_
    refine st31.trans ?_
    refine XS.icmpNo X31.here hx rfl (hb hby d8_65) rfl hlt ?_
    refine XS.aloadN X31.here hx rfl (hb hby d8_68) rfl rfl ?_
    refine XS.iload X31.here hx rfl (hb hby d8_69) rfl ?_
    refine st32.trans ?_
    exact k
  have pre34 : ∀ t, Steps p.tables e below (T32.setTop (mkF m 76 #[.val (.ref u1), .val (.int s1), .val (.ref o), .val (.int x), .val (.int i), .val (.int cv)] [])) t → Steps p.tables e below (T0.setTop (mkF m 59 #[.val (.ref u1), .val (.int s1), .val (.ref o), .val (.int x), .val (.int i), w5] [])) t := by
    intro t k
    rcases hw5 with rfl | ⟨y, rfl⟩ <;> exact pre33 t (XS.istore X32.here hx rfl (hb hby d8_74) rfl (l' := #[.val (.ref u1), .val (.int s1), .val (.ref o), .val (.int x), .val (.int i), .val (.int cv)]) rfl k)
  have pre35 : ∀ t, Steps p.tables e below (T32.setTop (mkF m 81 #[.val (.ref u1), .val (.int s1), .val (.ref o), .val (.int x), .val (.int i), .val (.int cv)] [(.int (128 : Int32)), (.int cv)])) t → Steps p.tables e below (T0.setTop (mkF m 59 #[.val (.ref u1), .val (.int s1), .val (.ref o), .val (.int x), .val (.int i), w5] [])) t := by
    intro t k
    refine pre34 t ?_
    show Steps p.tables e below (T32.setTop (mkF m 76 #[.val (.ref u1), .val (.int s1), .val (.ref o), .val (.int x), .val (.int i), .val (.int cv)] [])) _
    refine XS.iload X32.here hx rfl (hb hby d8_76) rfl ?_
    show Steps p.tables e below (T32.setTop (mkF m 78 #[.val (.ref u1), .val (.int s1), .val (.ref o), .val (.int x), .val (.int i), .val (.int cv)] [(.int cv)])) _
    refine XS.sipush X32.here hx rfl (hb hby d8_78) ?_
    exact k
  rcases Bool.eq_false_or_eq_true (if_icmp.holds .ge cv (128 : Int32)) with hb81 | hb81
  · have pre36 : ∀ t, Steps p.tables e below (T32.setTop (mkF m 101 #[.val (.ref u1), .val (.int s1), .val (.ref o), .val (.int x), .val (.int i), .val (.int cv)] [(.int (2048 : Int32)), (.int cv)])) t → Steps p.tables e below (T0.setTop (mkF m 59 #[.val (.ref u1), .val (.int s1), .val (.ref o), .val (.int x), .val (.int i), w5] [])) t := by
      intro t k
      refine pre35 t ?_
      show Steps p.tables e below (T32.setTop (mkF m 81 #[.val (.ref u1), .val (.int s1), .val (.ref o), .val (.int x), .val (.int i), .val (.int cv)] [(.int (128 : Int32)), (.int cv)])) _
      refine XS.icmpYes X32.here hx rfl (pc0 := 81) (pc' := 96) rfl (hb hby d8_81) rfl hb81 (by decide) (by decide) ?_
      refine XS.iload X32.here hx rfl (hb hby d8_96) rfl ?_
      refine XS.sipush X32.here hx rfl (hb hby d8_98) ?_
      exact k
    rcases Bool.eq_false_or_eq_true (if_icmp.holds .ge cv (2048 : Int32)) with hb101 | hb101
    · have hsz : own_sz cv = 3 := by simp only [own_sz, hb81, hb101, cond_true, cond_false]
      rw [hsz] at hfit
      have hi0 : ¬ x < 0 ∧ x < No := by have q := own_inb (k := 3) (0 : Int32) hxr hfit (by decide) (by decide); rw [own_add0] at q; exact q
      have hj0 : (x).toNatClampNeg < (xs.map Value.int).length := by have q := own_lt9 (0 : Int32) hxr (by decide) hxl; rw [own_add0] at q; exact q
      obtain ⟨cl37, Ar37, q37, S37, M37, H37, G37⟩ := id Vo
      obtain ⟨T37, h37, X37, e37, W37, st37⟩ := stB X32 hx hZ eq32 Ar37 (j := x) (inb_of S37 hi0) (g := (mkF m 154 #[.val (.ref u1), .val (.int s1), .val (.ref o), .val (.int (x + (1 : Int32))), .val (.int i), .val (.int cv)] [(.int (((224 : Int32) ||| (cv >>> ((12 : Int32) &&& 31))).toInt8.toInt32)), (.int x), (.ref o)])) rfl rfl (hb hby d8_154)
      have V37 := Arv.set Ar37 q37 S37 M37 H37 G37 (fits_nar_byte _) W37 (x).toNatClampNeg rfl hj0
      have N37 := Fr.snoc X37 N32 go
      have Z37 : n0 ≤ h37.size := Nat.le_trans Z0 (Keep.of_wr W37).1
      have K37 : Keep h0 h37 [o] := Keep.wr K0 W37 (Or.inl (List.mem_of_getElem? (i := 0) rfl))
      have V37q : Arv Z h37 o ko .byte No ((xs.set (x).toNatClampNeg (((224 : Int32) ||| (cv >>> ((12 : Int32) &&& 31))).toInt8.toInt32)).map Value.int) (.int (0 : Int32)) := by rw [own_nb, ← List.map_set] at V37; exact V37
      have hl37 : (xs.set (x).toNatClampNeg (((224 : Int32) ||| (cv >>> ((12 : Int32) &&& 31))).toInt8.toInt32)).length = 9 := by rw [List.length_set]; exact hxl
      have hi1 : ¬ (x + (1 : Int32)) < 0 ∧ (x + (1 : Int32)) < No := by have q := own_inb (k := 3) (1 : Int32) hxr hfit (by decide) (by decide);  exact q
      have hj1 : ((x + (1 : Int32))).toNatClampNeg < ((xs.set (x).toNatClampNeg (((224 : Int32) ||| (cv >>> ((12 : Int32) &&& 31))).toInt8.toInt32)).map Value.int).length := by have q := own_lt9 (1 : Int32) hxr (by decide) hl37;  exact q
      obtain ⟨cl38, Ar38, q38, S38, M38, H38, G38⟩ := id V37q
      obtain ⟨T38, h38, X38, e38, W38, st38⟩ := stB X37 hx hZ e37 Ar38 (j := (x + (1 : Int32))) (inb_of S38 hi1) (g := (mkF m 173 #[.val (.ref u1), .val (.int s1), .val (.ref o), .val (.int ((x + (1 : Int32)) + (1 : Int32))), .val (.int i), .val (.int cv)] [(.int (((128 : Int32) ||| ((cv >>> ((6 : Int32) &&& 31)) &&& (63 : Int32))).toInt8.toInt32)), (.int (x + (1 : Int32))), (.ref o)])) rfl rfl (hb hby d8_173)
      have V38 := Arv.set Ar38 q38 S38 M38 H38 G38 (fits_nar_byte _) W38 ((x + (1 : Int32))).toNatClampNeg rfl hj1
      have N38 := Fr.snoc X38 N37 go
      have Z38 : n0 ≤ h38.size := Nat.le_trans Z37 (Keep.of_wr W38).1
      have K38 : Keep h0 h38 [o] := Keep.wr K37 W38 (Or.inl (List.mem_of_getElem? (i := 0) rfl))
      have V38q : Arv Z h38 o ko .byte No (((xs.set (x).toNatClampNeg (((224 : Int32) ||| (cv >>> ((12 : Int32) &&& 31))).toInt8.toInt32)).set ((x + (1 : Int32))).toNatClampNeg (((128 : Int32) ||| ((cv >>> ((6 : Int32) &&& 31)) &&& (63 : Int32))).toInt8.toInt32)).map Value.int) (.int (0 : Int32)) := by rw [own_nb, ← List.map_set] at V38; exact V38
      have hl38 : ((xs.set (x).toNatClampNeg (((224 : Int32) ||| (cv >>> ((12 : Int32) &&& 31))).toInt8.toInt32)).set ((x + (1 : Int32))).toNatClampNeg (((128 : Int32) ||| ((cv >>> ((6 : Int32) &&& 31)) &&& (63 : Int32))).toInt8.toInt32)).length = 9 := by rw [List.length_set]; exact hl37
      have hi2 : ¬ ((x + (1 : Int32)) + (1 : Int32)) < 0 ∧ ((x + (1 : Int32)) + (1 : Int32)) < No := by have q := own_inb (k := 3) (2 : Int32) hxr hfit (by decide) (by decide); rw [← own_add2] at q; exact q
      have hj2 : (((x + (1 : Int32)) + (1 : Int32))).toNatClampNeg < (((xs.set (x).toNatClampNeg (((224 : Int32) ||| (cv >>> ((12 : Int32) &&& 31))).toInt8.toInt32)).set ((x + (1 : Int32))).toNatClampNeg (((128 : Int32) ||| ((cv >>> ((6 : Int32) &&& 31)) &&& (63 : Int32))).toInt8.toInt32)).map Value.int).length := by have q := own_lt9 (2 : Int32) hxr (by decide) hl38; rw [← own_add2] at q; exact q
      obtain ⟨cl39, Ar39, q39, S39, M39, H39, G39⟩ := id V38q
      obtain ⟨T39, h39, X39, e39, W39, st39⟩ := stB X38 hx hZ e38 Ar39 (j := ((x + (1 : Int32)) + (1 : Int32))) (inb_of S39 hi2) (g := (mkF m 189 #[.val (.ref u1), .val (.int s1), .val (.ref o), .val (.int (((x + (1 : Int32)) + (1 : Int32)) + (1 : Int32))), .val (.int i), .val (.int cv)] [(.int (((128 : Int32) ||| (cv &&& (63 : Int32))).toInt8.toInt32)), (.int ((x + (1 : Int32)) + (1 : Int32))), (.ref o)])) rfl rfl (hb hby d8_189)
      have V39 := Arv.set Ar39 q39 S39 M39 H39 G39 (fits_nar_byte _) W39 (((x + (1 : Int32)) + (1 : Int32))).toNatClampNeg rfl hj2
      have N39 := Fr.snoc X39 N38 go
      have Z39 : n0 ≤ h39.size := Nat.le_trans Z38 (Keep.of_wr W39).1
      have K39 : Keep h0 h39 [o] := Keep.wr K38 W39 (Or.inl (List.mem_of_getElem? (i := 0) rfl))
      have V39q : Arv Z h39 o ko .byte No ((((xs.set (x).toNatClampNeg (((224 : Int32) ||| (cv >>> ((12 : Int32) &&& 31))).toInt8.toInt32)).set ((x + (1 : Int32))).toNatClampNeg (((128 : Int32) ||| ((cv >>> ((6 : Int32) &&& 31)) &&& (63 : Int32))).toInt8.toInt32)).set (((x + (1 : Int32)) + (1 : Int32))).toNatClampNeg (((128 : Int32) ||| (cv &&& (63 : Int32))).toInt8.toInt32)).map Value.int) (.int (0 : Int32)) := by rw [own_nb, ← List.map_set] at V39; exact V39
      have hl39 : (((xs.set (x).toNatClampNeg (((224 : Int32) ||| (cv >>> ((12 : Int32) &&& 31))).toInt8.toInt32)).set ((x + (1 : Int32))).toNatClampNeg (((128 : Int32) ||| ((cv >>> ((6 : Int32) &&& 31)) &&& (63 : Int32))).toInt8.toInt32)).set (((x + (1 : Int32)) + (1 : Int32))).toNatClampNeg (((128 : Int32) ||| (cv &&& (63 : Int32))).toInt8.toInt32)).length = 9 := by rw [List.length_set]; exact hl38
      have pre40 : ∀ t, Steps p.tables e below (T39.setTop (mkF m 59 #[.val (.ref u1), .val (.int s1), .val (.ref o), .val (.int (((x + (1 : Int32)) + (1 : Int32)) + (1 : Int32))), .val (.int (i + (1 : Int32))), .val (.int cv)] [])) t → Steps p.tables e below (T0.setTop (mkF m 59 #[.val (.ref u1), .val (.int s1), .val (.ref o), .val (.int x), .val (.int i), w5] [])) t := by
        intro t k
        refine pre36 t ?_
        show Steps p.tables e below (T32.setTop (mkF m 101 #[.val (.ref u1), .val (.int s1), .val (.ref o), .val (.int x), .val (.int i), .val (.int cv)] [(.int (2048 : Int32)), (.int cv)])) _
        refine XS.icmpYes X32.here hx rfl (pc0 := 101) (pc' := 139) rfl (hb hby d8_101) rfl hb101 (by decide) (by decide) ?_
        refine XS.aloadN X32.here hx rfl (hb hby d8_139) rfl rfl ?_
        refine XS.iloadN X32.here hx rfl (hb hby d8_140) rfl ?_
        refine XS.iinc X32.here hx rfl (hb hby d8_141) rfl (l' := #[.val (.ref u1), .val (.int s1), .val (.ref o), .val (.int (x + (1 : Int32))), .val (.int i), .val (.int cv)]) rfl ?_
        show Steps p.tables e below (T32.setTop (mkF m 144 #[.val (.ref u1), .val (.int s1), .val (.ref o), .val (.int (x + (1 : Int32))), .val (.int i), .val (.int cv)] [(.int x), (.ref o)])) _
        refine XS.sipush X32.here hx rfl (hb hby d8_144) ?_
        refine XS.iload X32.here hx rfl (hb hby d8_147) rfl ?_
        refine XS.bipush X32.here hx rfl (hb hby d8_149) ?_
        refine XS.ishr X32.here hx rfl (hb hby d8_151) rfl ?_
        refine XS.ior X32.here hx rfl (hb hby d8_152) rfl ?_
        refine XS.i2b X32.here hx rfl (hb hby d8_153) rfl ?_
        refine st37 _ ?_
        refine XS.aloadN X37.here hx rfl (hb hby d8_155) rfl rfl ?_
        show Steps p.tables e below (T37.setTop (mkF m 156 #[.val (.ref u1), .val (.int s1), .val (.ref o), .val (.int (x + (1 : Int32))), .val (.int i), .val (.int cv)] [(.ref o)])) _
        refine XS.iloadN X37.here hx rfl (hb hby d8_156) rfl ?_
        refine XS.iinc X37.here hx rfl (hb hby d8_157) rfl (l' := #[.val (.ref u1), .val (.int s1), .val (.ref o), .val (.int ((x + (1 : Int32)) + (1 : Int32))), .val (.int i), .val (.int cv)]) rfl ?_
        refine XS.sipush X37.here hx rfl (hb hby d8_160) ?_
        refine XS.iload X37.here hx rfl (hb hby d8_163) rfl ?_
        refine XS.bipush X37.here hx rfl (hb hby d8_165) ?_
        refine XS.ishr X37.here hx rfl (hb hby d8_167) rfl ?_
        refine XS.bipush X37.here hx rfl (hb hby d8_168) ?_
        refine XS.iand X37.here hx rfl (hb hby d8_170) rfl ?_
        show Steps p.tables e below (T37.setTop (mkF m 171 #[.val (.ref u1), .val (.int s1), .val (.ref o), .val (.int ((x + (1 : Int32)) + (1 : Int32))), .val (.int i), .val (.int cv)] [(.int ((cv >>> ((6 : Int32) &&& 31)) &&& (63 : Int32))), (.int (128 : Int32)), (.int (x + (1 : Int32))), (.ref o)])) _
        refine XS.ior X37.here hx rfl (hb hby d8_171) rfl ?_
        refine XS.i2b X37.here hx rfl (hb hby d8_172) rfl ?_
        refine st38 _ ?_
        refine XS.aloadN X38.here hx rfl (hb hby d8_174) rfl rfl ?_
        refine XS.iloadN X38.here hx rfl (hb hby d8_175) rfl ?_
        refine XS.iinc X38.here hx rfl (hb hby d8_176) rfl (l' := #[.val (.ref u1), .val (.int s1), .val (.ref o), .val (.int (((x + (1 : Int32)) + (1 : Int32)) + (1 : Int32))), .val (.int i), .val (.int cv)]) rfl ?_
        refine XS.sipush X38.here hx rfl (hb hby d8_179) ?_
        refine XS.iload X38.here hx rfl (hb hby d8_182) rfl ?_
        show Steps p.tables e below (T38.setTop (mkF m 184 #[.val (.ref u1), .val (.int s1), .val (.ref o), .val (.int (((x + (1 : Int32)) + (1 : Int32)) + (1 : Int32))), .val (.int i), .val (.int cv)] [(.int cv), (.int (128 : Int32)), (.int ((x + (1 : Int32)) + (1 : Int32))), (.ref o)])) _
        refine XS.bipush X38.here hx rfl (hb hby d8_184) ?_
        refine XS.iand X38.here hx rfl (hb hby d8_186) rfl ?_
        refine XS.ior X38.here hx rfl (hb hby d8_187) rfl ?_
        refine XS.i2b X38.here hx rfl (hb hby d8_188) rfl ?_
        refine st39 _ ?_
        refine XS.iinc X39.here hx rfl (hb hby d8_190) rfl (l' := #[.val (.ref u1), .val (.int s1), .val (.ref o), .val (.int (((x + (1 : Int32)) + (1 : Int32)) + (1 : Int32))), .val (.int (i + (1 : Int32))), .val (.int cv)]) rfl ?_
        refine XS.goto X39.here hx rfl (pc0 := 193) (pc' := 59) rfl (hb hby d8_193) (by decide) (by decide) ?_
        exact k
      have ee : (((x + (1 : Int32)) + (1 : Int32)) + (1 : Int32)) = x + own_sz cv := by rw [hsz]; exact own_add3 x
      rw [ee] at pre40
      have ew : own_wr xs x cv = (((xs.set (x).toNatClampNeg (((224 : Int32) ||| (cv >>> ((12 : Int32) &&& 31))).toInt8.toInt32)).set ((x + (1 : Int32))).toNatClampNeg (((128 : Int32) ||| ((cv >>> ((6 : Int32) &&& 31)) &&& (63 : Int32))).toInt8.toInt32)).set (((x + (1 : Int32)) + (1 : Int32))).toNatClampNeg (((128 : Int32) ||| (cv &&& (63 : Int32))).toInt8.toInt32)) := by simp only [own_wr, hb81, hb101, cond_true, cond_false]
      exact ⟨_, _, _, X39, e39, N39, K39, (by rw [ew]; exact V39q), pre40⟩
    · have hsz : own_sz cv = 2 := by simp only [own_sz, hb81, hb101, cond_true, cond_false]
      rw [hsz] at hfit
      have hi0 : ¬ x < 0 ∧ x < No := by have q := own_inb (k := 2) (0 : Int32) hxr hfit (by decide) (by decide); rw [own_add0] at q; exact q
      have hj0 : (x).toNatClampNeg < (xs.map Value.int).length := by have q := own_lt9 (0 : Int32) hxr (by decide) hxl; rw [own_add0] at q; exact q
      obtain ⟨cl41, Ar41, q41, S41, M41, H41, G41⟩ := id Vo
      obtain ⟨T41, h41, X41, e41, W41, st41⟩ := stB X32 hx hZ eq32 Ar41 (j := x) (inb_of S41 hi0) (g := (mkF m 119 #[.val (.ref u1), .val (.int s1), .val (.ref o), .val (.int (x + (1 : Int32))), .val (.int i), .val (.int cv)] [(.int (((192 : Int32) ||| (cv >>> ((6 : Int32) &&& 31))).toInt8.toInt32)), (.int x), (.ref o)])) rfl rfl (hb hby d8_119)
      have V41 := Arv.set Ar41 q41 S41 M41 H41 G41 (fits_nar_byte _) W41 (x).toNatClampNeg rfl hj0
      have N41 := Fr.snoc X41 N32 go
      have Z41 : n0 ≤ h41.size := Nat.le_trans Z0 (Keep.of_wr W41).1
      have K41 : Keep h0 h41 [o] := Keep.wr K0 W41 (Or.inl (List.mem_of_getElem? (i := 0) rfl))
      have V41q : Arv Z h41 o ko .byte No ((xs.set (x).toNatClampNeg (((192 : Int32) ||| (cv >>> ((6 : Int32) &&& 31))).toInt8.toInt32)).map Value.int) (.int (0 : Int32)) := by rw [own_nb, ← List.map_set] at V41; exact V41
      have hl41 : (xs.set (x).toNatClampNeg (((192 : Int32) ||| (cv >>> ((6 : Int32) &&& 31))).toInt8.toInt32)).length = 9 := by rw [List.length_set]; exact hxl
      have hi1 : ¬ (x + (1 : Int32)) < 0 ∧ (x + (1 : Int32)) < No := by have q := own_inb (k := 2) (1 : Int32) hxr hfit (by decide) (by decide);  exact q
      have hj1 : ((x + (1 : Int32))).toNatClampNeg < ((xs.set (x).toNatClampNeg (((192 : Int32) ||| (cv >>> ((6 : Int32) &&& 31))).toInt8.toInt32)).map Value.int).length := by have q := own_lt9 (1 : Int32) hxr (by decide) hl41;  exact q
      obtain ⟨cl42, Ar42, q42, S42, M42, H42, G42⟩ := id V41q
      obtain ⟨T42, h42, X42, e42, W42, st42⟩ := stB X41 hx hZ e41 Ar42 (j := (x + (1 : Int32))) (inb_of S42 hi1) (g := (mkF m 135 #[.val (.ref u1), .val (.int s1), .val (.ref o), .val (.int ((x + (1 : Int32)) + (1 : Int32))), .val (.int i), .val (.int cv)] [(.int (((128 : Int32) ||| (cv &&& (63 : Int32))).toInt8.toInt32)), (.int (x + (1 : Int32))), (.ref o)])) rfl rfl (hb hby d8_135)
      have V42 := Arv.set Ar42 q42 S42 M42 H42 G42 (fits_nar_byte _) W42 ((x + (1 : Int32))).toNatClampNeg rfl hj1
      have N42 := Fr.snoc X42 N41 go
      have Z42 : n0 ≤ h42.size := Nat.le_trans Z41 (Keep.of_wr W42).1
      have K42 : Keep h0 h42 [o] := Keep.wr K41 W42 (Or.inl (List.mem_of_getElem? (i := 0) rfl))
      have V42q : Arv Z h42 o ko .byte No (((xs.set (x).toNatClampNeg (((192 : Int32) ||| (cv >>> ((6 : Int32) &&& 31))).toInt8.toInt32)).set ((x + (1 : Int32))).toNatClampNeg (((128 : Int32) ||| (cv &&& (63 : Int32))).toInt8.toInt32)).map Value.int) (.int (0 : Int32)) := by rw [own_nb, ← List.map_set] at V42; exact V42
      have hl42 : ((xs.set (x).toNatClampNeg (((192 : Int32) ||| (cv >>> ((6 : Int32) &&& 31))).toInt8.toInt32)).set ((x + (1 : Int32))).toNatClampNeg (((128 : Int32) ||| (cv &&& (63 : Int32))).toInt8.toInt32)).length = 9 := by rw [List.length_set]; exact hl41
      have pre43 : ∀ t, Steps p.tables e below (T42.setTop (mkF m 59 #[.val (.ref u1), .val (.int s1), .val (.ref o), .val (.int ((x + (1 : Int32)) + (1 : Int32))), .val (.int (i + (1 : Int32))), .val (.int cv)] [])) t → Steps p.tables e below (T0.setTop (mkF m 59 #[.val (.ref u1), .val (.int s1), .val (.ref o), .val (.int x), .val (.int i), w5] [])) t := by
        intro t k
        refine pre36 t ?_
        show Steps p.tables e below (T32.setTop (mkF m 101 #[.val (.ref u1), .val (.int s1), .val (.ref o), .val (.int x), .val (.int i), .val (.int cv)] [(.int (2048 : Int32)), (.int cv)])) _
        refine XS.icmpNo X32.here hx rfl (hb hby d8_101) rfl hb101 ?_
        refine XS.aloadN X32.here hx rfl (hb hby d8_104) rfl rfl ?_
        refine XS.iloadN X32.here hx rfl (hb hby d8_105) rfl ?_
        refine XS.iinc X32.here hx rfl (hb hby d8_106) rfl (l' := #[.val (.ref u1), .val (.int s1), .val (.ref o), .val (.int (x + (1 : Int32))), .val (.int i), .val (.int cv)]) rfl ?_
        show Steps p.tables e below (T32.setTop (mkF m 109 #[.val (.ref u1), .val (.int s1), .val (.ref o), .val (.int (x + (1 : Int32))), .val (.int i), .val (.int cv)] [(.int x), (.ref o)])) _
        refine XS.sipush X32.here hx rfl (hb hby d8_109) ?_
        refine XS.iload X32.here hx rfl (hb hby d8_112) rfl ?_
        refine XS.bipush X32.here hx rfl (hb hby d8_114) ?_
        refine XS.ishr X32.here hx rfl (hb hby d8_116) rfl ?_
        refine XS.ior X32.here hx rfl (hb hby d8_117) rfl ?_
        refine XS.i2b X32.here hx rfl (hb hby d8_118) rfl ?_
        refine st41 _ ?_
        refine XS.aloadN X41.here hx rfl (hb hby d8_120) rfl rfl ?_
        show Steps p.tables e below (T41.setTop (mkF m 121 #[.val (.ref u1), .val (.int s1), .val (.ref o), .val (.int (x + (1 : Int32))), .val (.int i), .val (.int cv)] [(.ref o)])) _
        refine XS.iloadN X41.here hx rfl (hb hby d8_121) rfl ?_
        refine XS.iinc X41.here hx rfl (hb hby d8_122) rfl (l' := #[.val (.ref u1), .val (.int s1), .val (.ref o), .val (.int ((x + (1 : Int32)) + (1 : Int32))), .val (.int i), .val (.int cv)]) rfl ?_
        refine XS.sipush X41.here hx rfl (hb hby d8_125) ?_
        refine XS.iload X41.here hx rfl (hb hby d8_128) rfl ?_
        refine XS.bipush X41.here hx rfl (hb hby d8_130) ?_
        refine XS.iand X41.here hx rfl (hb hby d8_132) rfl ?_
        refine XS.ior X41.here hx rfl (hb hby d8_133) rfl ?_
        refine XS.i2b X41.here hx rfl (hb hby d8_134) rfl ?_
        show Steps p.tables e below (T41.setTop (mkF m 135 #[.val (.ref u1), .val (.int s1), .val (.ref o), .val (.int ((x + (1 : Int32)) + (1 : Int32))), .val (.int i), .val (.int cv)] [(.int (((128 : Int32) ||| (cv &&& (63 : Int32))).toInt8.toInt32)), (.int (x + (1 : Int32))), (.ref o)])) _
        refine st42 _ ?_
        refine XS.goto X42.here hx rfl (pc0 := 136) (pc' := 190) rfl (hb hby d8_136) (by decide) (by decide) ?_
        refine XS.iinc X42.here hx rfl (hb hby d8_190) rfl (l' := #[.val (.ref u1), .val (.int s1), .val (.ref o), .val (.int ((x + (1 : Int32)) + (1 : Int32))), .val (.int (i + (1 : Int32))), .val (.int cv)]) rfl ?_
        refine XS.goto X42.here hx rfl (pc0 := 193) (pc' := 59) rfl (hb hby d8_193) (by decide) (by decide) ?_
        exact k
      have ee : ((x + (1 : Int32)) + (1 : Int32)) = x + own_sz cv := by rw [hsz]; exact own_add2 x
      rw [ee] at pre43
      have ew : own_wr xs x cv = ((xs.set (x).toNatClampNeg (((192 : Int32) ||| (cv >>> ((6 : Int32) &&& 31))).toInt8.toInt32)).set ((x + (1 : Int32))).toNatClampNeg (((128 : Int32) ||| (cv &&& (63 : Int32))).toInt8.toInt32)) := by simp only [own_wr, hb81, hb101, cond_true, cond_false]
      exact ⟨_, _, _, X42, e42, N42, K42, (by rw [ew]; exact V42q), pre43⟩
  · have hsz : own_sz cv = 1 := by simp only [own_sz, hb81, cond_true, cond_false]
    rw [hsz] at hfit
    have hi0 : ¬ x < 0 ∧ x < No := by have q := own_inb (k := 1) (0 : Int32) hxr hfit (by decide) (by decide); rw [own_add0] at q; exact q
    have hj0 : (x).toNatClampNeg < (xs.map Value.int).length := by have q := own_lt9 (0 : Int32) hxr (by decide) hxl; rw [own_add0] at q; exact q
    obtain ⟨cl44, Ar44, q44, S44, M44, H44, G44⟩ := id Vo
    obtain ⟨T44, h44, X44, e44, W44, st44⟩ := stB X32 hx hZ eq32 Ar44 (j := x) (inb_of S44 hi0) (g := (mkF m 92 #[.val (.ref u1), .val (.int s1), .val (.ref o), .val (.int (x + (1 : Int32))), .val (.int i), .val (.int cv)] [(.int (cv.toInt8.toInt32)), (.int x), (.ref o)])) rfl rfl (hb hby d8_92)
    have V44 := Arv.set Ar44 q44 S44 M44 H44 G44 (fits_nar_byte _) W44 (x).toNatClampNeg rfl hj0
    have N44 := Fr.snoc X44 N32 go
    have Z44 : n0 ≤ h44.size := Nat.le_trans Z0 (Keep.of_wr W44).1
    have K44 : Keep h0 h44 [o] := Keep.wr K0 W44 (Or.inl (List.mem_of_getElem? (i := 0) rfl))
    have V44q : Arv Z h44 o ko .byte No ((xs.set (x).toNatClampNeg (cv.toInt8.toInt32)).map Value.int) (.int (0 : Int32)) := by rw [own_nb, ← List.map_set] at V44; exact V44
    have hl44 : (xs.set (x).toNatClampNeg (cv.toInt8.toInt32)).length = 9 := by rw [List.length_set]; exact hxl
    have pre45 : ∀ t, Steps p.tables e below (T44.setTop (mkF m 59 #[.val (.ref u1), .val (.int s1), .val (.ref o), .val (.int (x + (1 : Int32))), .val (.int (i + (1 : Int32))), .val (.int cv)] [])) t → Steps p.tables e below (T0.setTop (mkF m 59 #[.val (.ref u1), .val (.int s1), .val (.ref o), .val (.int x), .val (.int i), w5] [])) t := by
      intro t k
      refine pre35 t ?_
      show Steps p.tables e below (T32.setTop (mkF m 81 #[.val (.ref u1), .val (.int s1), .val (.ref o), .val (.int x), .val (.int i), .val (.int cv)] [(.int (128 : Int32)), (.int cv)])) _
      refine XS.icmpNo X32.here hx rfl (hb hby d8_81) rfl hb81 ?_
      refine XS.aloadN X32.here hx rfl (hb hby d8_84) rfl rfl ?_
      refine XS.iloadN X32.here hx rfl (hb hby d8_85) rfl ?_
      refine XS.iinc X32.here hx rfl (hb hby d8_86) rfl (l' := #[.val (.ref u1), .val (.int s1), .val (.ref o), .val (.int (x + (1 : Int32))), .val (.int i), .val (.int cv)]) rfl ?_
      refine XS.iload X32.here hx rfl (hb hby d8_89) rfl ?_
      refine XS.i2b X32.here hx rfl (hb hby d8_91) rfl ?_
      refine st44 _ ?_
      show Steps p.tables e below (T44.setTop (mkF m 93 #[.val (.ref u1), .val (.int s1), .val (.ref o), .val (.int (x + (1 : Int32))), .val (.int i), .val (.int cv)] [])) _
      refine XS.goto X44.here hx rfl (pc0 := 93) (pc' := 190) rfl (hb hby d8_93) (by decide) (by decide) ?_
      refine XS.iinc X44.here hx rfl (hb hby d8_190) rfl (l' := #[.val (.ref u1), .val (.int s1), .val (.ref o), .val (.int (x + (1 : Int32))), .val (.int (i + (1 : Int32))), .val (.int cv)]) rfl ?_
      refine XS.goto X44.here hx rfl (pc0 := 193) (pc' := 59) rfl (hb hby d8_193) (by decide) (by decide) ?_
      exact k
    have ee : (x + (1 : Int32)) = x + own_sz cv := by rw [hsz]
    rw [ee] at pre45
    have ew : own_wr xs x cv = (xs.set (x).toNatClampNeg (cv.toInt8.toInt32)) := by simp only [own_wr, hb81, cond_true, cond_false]
    exact ⟨_, _, _, X44, e44, N44, K44, (by rw [ew]; exact V44q), pre45⟩
theorem own_szN1 (c0 : Int32) : ¬ ((0 : Int32) + (own_sz c0)) < 0 ∧ (((0 : Int32) + (own_sz c0))).toNatClampNeg ≤ 9 := by
  rcases own_sz3 c0 with h0 | h0 | h0 <;> rw [h0] <;> decide +kernel
theorem own_szx1_0 (c0 : Int32) : 0 ≤ ((0 : Int32)).toInt ∧ ((0 : Int32)).toInt ≤ 6 := by
  decide
theorem own_szf1_0 (c0 : Int32) : ((0 : Int32)).toInt + (own_sz c0).toInt ≤ (((0 : Int32) + (own_sz c0))).toInt := by
  rcases own_sz3 c0 with h0 | h0 | h0 <;> rw [h0] <;> decide +kernel
theorem own_szN2 (c0 c1 : Int32) : ¬ (((0 : Int32) + (own_sz c0)) + (own_sz c1)) < 0 ∧ ((((0 : Int32) + (own_sz c0)) + (own_sz c1))).toNatClampNeg ≤ 9 := by
  rcases own_sz3 c0 with h0 | h0 | h0 <;> rcases own_sz3 c1 with h1 | h1 | h1 <;> rw [h0, h1] <;> decide +kernel
theorem own_szx2_0 (c0 c1 : Int32) : 0 ≤ ((0 : Int32)).toInt ∧ ((0 : Int32)).toInt ≤ 6 := by
  decide
theorem own_szf2_0 (c0 c1 : Int32) : ((0 : Int32)).toInt + (own_sz c0).toInt ≤ ((((0 : Int32) + (own_sz c0)) + (own_sz c1))).toInt := by
  rcases own_sz3 c0 with h0 | h0 | h0 <;> rcases own_sz3 c1 with h1 | h1 | h1 <;> rw [h0, h1] <;> decide +kernel
theorem own_szx2_1 (c0 c1 : Int32) : 0 ≤ (((0 : Int32) + (own_sz c0))).toInt ∧ (((0 : Int32) + (own_sz c0))).toInt ≤ 6 := by
  rcases own_sz3 c0 with h0 | h0 | h0 <;> rw [h0] <;> decide +kernel
theorem own_szf2_1 (c0 c1 : Int32) : (((0 : Int32) + (own_sz c0))).toInt + (own_sz c1).toInt ≤ ((((0 : Int32) + (own_sz c0)) + (own_sz c1))).toInt := by
  rcases own_sz3 c0 with h0 | h0 | h0 <;> rcases own_sz3 c1 with h1 | h1 | h1 <;> rw [h0, h1] <;> decide +kernel
theorem own_szN3 (c0 c1 c2 : Int32) : ¬ ((((0 : Int32) + (own_sz c0)) + (own_sz c1)) + (own_sz c2)) < 0 ∧ (((((0 : Int32) + (own_sz c0)) + (own_sz c1)) + (own_sz c2))).toNatClampNeg ≤ 9 := by
  rcases own_sz3 c0 with h0 | h0 | h0 <;> rcases own_sz3 c1 with h1 | h1 | h1 <;> rcases own_sz3 c2 with h2 | h2 | h2 <;> rw [h0, h1, h2] <;> decide +kernel
theorem own_szx3_0 (c0 c1 c2 : Int32) : 0 ≤ ((0 : Int32)).toInt ∧ ((0 : Int32)).toInt ≤ 6 := by
  decide
theorem own_szf3_0 (c0 c1 c2 : Int32) : ((0 : Int32)).toInt + (own_sz c0).toInt ≤ (((((0 : Int32) + (own_sz c0)) + (own_sz c1)) + (own_sz c2))).toInt := by
  rcases own_sz3 c0 with h0 | h0 | h0 <;> rcases own_sz3 c1 with h1 | h1 | h1 <;> rcases own_sz3 c2 with h2 | h2 | h2 <;> rw [h0, h1, h2] <;> decide +kernel
theorem own_szx3_1 (c0 c1 c2 : Int32) : 0 ≤ (((0 : Int32) + (own_sz c0))).toInt ∧ (((0 : Int32) + (own_sz c0))).toInt ≤ 6 := by
  rcases own_sz3 c0 with h0 | h0 | h0 <;> rw [h0] <;> decide +kernel
theorem own_szf3_1 (c0 c1 c2 : Int32) : (((0 : Int32) + (own_sz c0))).toInt + (own_sz c1).toInt ≤ (((((0 : Int32) + (own_sz c0)) + (own_sz c1)) + (own_sz c2))).toInt := by
  rcases own_sz3 c0 with h0 | h0 | h0 <;> rcases own_sz3 c1 with h1 | h1 | h1 <;> rcases own_sz3 c2 with h2 | h2 | h2 <;> rw [h0, h1, h2] <;> decide +kernel
theorem own_szx3_2 (c0 c1 c2 : Int32) : 0 ≤ ((((0 : Int32) + (own_sz c0)) + (own_sz c1))).toInt ∧ ((((0 : Int32) + (own_sz c0)) + (own_sz c1))).toInt ≤ 6 := by
  rcases own_sz3 c0 with h0 | h0 | h0 <;> rcases own_sz3 c1 with h1 | h1 | h1 <;> rw [h0, h1] <;> decide +kernel
theorem own_szf3_2 (c0 c1 c2 : Int32) : ((((0 : Int32) + (own_sz c0)) + (own_sz c1))).toInt + (own_sz c2).toInt ≤ (((((0 : Int32) + (own_sz c0)) + (own_sz c1)) + (own_sz c2))).toInt := by
  rcases own_sz3 c0 with h0 | h0 | h0 <;> rcases own_sz3 c1 with h1 | h1 | h1 <;> rcases own_sz3 c2 with h2 | h2 | h2 <;> rw [h0, h1, h2] <;> decide +kernel
theorem d8_0 : decode prog_30_method_12_code 0 = .ok (.iconst 0, 1) := by decide +kernel
theorem d8_1 : decode prog_30_method_12_code 1 = .ok (.istore_n 1, 1) := by decide +kernel
theorem d8_2 : decode prog_30_method_12_code 2 = .ok (.iconst 0, 1) := by decide +kernel
theorem d8_3 : decode prog_30_method_12_code 3 = .ok (.istore_n 2, 1) := by decide +kernel
theorem d8_4 : decode prog_30_method_12_code 4 = .ok (.iload_n 2, 1) := by decide +kernel
theorem d8_5 : decode prog_30_method_12_code 5 = .ok (.aload_n 0, 1) := by decide +kernel
theorem d8_6 : decode prog_30_method_12_code 6 = .ok (.invokevirtual 128, 3) := by decide +kernel
theorem d8_9 : decode prog_30_method_12_code 9 = .ok (.if_icmp .ge 41, 3) := by decide +kernel
theorem d8_50 : decode prog_30_method_12_code 50 = .ok (.iload_n 1, 1) := by decide +kernel
theorem d8_51 : decode prog_30_method_12_code 51 = .ok (.newarray .byte, 2) := by decide +kernel
theorem d8_53 : decode prog_30_method_12_code 53 = .ok (.astore_n 2, 1) := by decide +kernel
theorem d8_54 : decode prog_30_method_12_code 54 = .ok (.iconst 0, 1) := by decide +kernel
theorem d8_55 : decode prog_30_method_12_code 55 = .ok (.istore_n 3, 1) := by decide +kernel
theorem d8_56 : decode prog_30_method_12_code 56 = .ok (.iconst 0, 1) := by decide +kernel
theorem d8_57 : decode prog_30_method_12_code 57 = .ok (.istore 4, 2) := by decide +kernel
theorem d8_196 : decode prog_30_method_12_code 196 = .ok (.aload_n 2, 1) := by decide +kernel
theorem d8_197 : decode prog_30_method_12_code 197 = .ok (.areturn, 1) := by decide +kernel
theorem ef_rm_kept0 (m : MethodId) (x0 : Addr) : entryFrame m #[(.ref x0)] 6 = mkF m 0 #[.val (.ref x0), .unset, .unset, .unset, .unset, .unset] [] := by first | (simp [entryFrame, mkF, argsToLocals, Value.category]; done) | rfl
def Q_rm_kept0 (Z : State) (u1 : Addr) (zc : Int32) (fm : Value) (cd : Int32) (t : Addr) (kb : ClassId) (N : Int32) (ys : List Int32) (h0 : Heap) (n0 : Nat) (v : Option Value) (h : Heap) (L : List Loc) : Prop := ∃ (o : Addr) (ko : ClassId), v = some (.ref o) ∧ Fr n0 L ∧ Keep h0 h [] ∧ h0.size ≤ o ∧ Arv Z h o ko .byte (0 : Int32) (([(0 : Int32), (0 : Int32), (0 : Int32), (0 : Int32), (0 : Int32), (0 : Int32), (0 : Int32), (0 : Int32), (0 : Int32)] : List Int32).map Value.int) (.int (0 : Int32))
theorem pn_771912 : plainName "com/example/sonde/sonde/store/CurrentVersions" = true := by first | (simp [plainName, overriddenIn]; done) | decide +kernel
set_option maxRecDepth 65536 in
set_option maxHeartbeats 40000000 in
theorem rm_kept0 (l : Launch) (Z : State) (a0 : Array Value) (hw : ∀ d ∈ tables_1, d.before a0 Z = true) (ws : List Jvm.Cond) (u1 : Addr) (zc : Int32) (fm : Value) (cd : Int32) (t : Addr) (kb : ClassId) (N : Int32) (ys : List Int32) (h0 : Heap) (n0 : Nat) (Z0 : n0 ≤ h0.size) (X00 : Old Z Z.heap.size h0) (O2 : Sta Z Z.heap "java/lang/String" "COMPACT_STRINGS" "Z" (.int zc)) (hz : ¬ zc = 0) (O4 : Sta Z Z.heap "jdk/internal/util/Preconditions" "SIOOBE_FORMATTER" "Ljava/util/function/BiFunction;" fm) (rf : fm.isRef = true) (O5 : Sta Z Z.heap "java/lang/StringUTF16" "$assertionsDisabled" "Z" (.int (1 : Int32))) (O6 : Sta Z Z.heap "java/lang/StringUTF16" "HI_BYTE_SHIFT" "I" (.int (0 : Int32))) (O7 : Sta Z Z.heap "java/lang/StringUTF16" "LO_BYTE_SHIFT" "I" (.int (8 : Int32))) (E1 : Exa Z h0 u1 "java/lang/String") (F1 : Fld Z h0 u1 "java/lang/String" "coder" "B" (.int cd)) (F2 : Fld Z h0 u1 "java/lang/String" "value" "[B" (.ref t)) (V1 : Arv Z h0 t kb .byte N (ys.map Value.int) (.int (0 : Int32))) (hl0 : (N >>> ((nar .byte cd) &&& 31)) = (0 : Int32)) :
    MetFree l (⟨"com/example/sonde/sonde/store/CurrentVersions", "kept", "(Ljava/lang/String;)[B"⟩ : MethodName) (head1 (Jvm.Cond.code (⟨"com/example/sonde/sonde/store/CurrentVersions", "kept", "(Ljava/lang/String;)[B"⟩ : MethodName) prog_30_method_12_code 6 (some (.array .byte)) :: ws) ({ frames := 6, cells := 1, slots := 9, locals := 130 } : Room)) (fun a U => a = #[(.ref u1)] ∧ Z.Warmed39 U.vm ∧ U.heap = h0) (fun _ _ _ _ _ => True) (fun _ U o U' => ∃ v L, o = .returned v ∧ Q_rm_kept0 Z u1 zc fm cd t kb N ys h0 n0 v U'.heap L ∧ FrameEnd U o U' L ({ frames := 6, cells := 1, slots := 9, locals := 130 } : Room).cells ({ frames := 6, cells := 1, slots := 9, locals := 130 } : Room).slots) := by
  refine MetFree.of_bodySF (plainFor_of_name pn_771912) hisR ?_
  intro p e s m args below meth c s₁ Bd hml0 hP hK
  obtain ⟨rfl, hZ, hh⟩ := hP
  have hx := Bd.exec
  have hby := Bd.bytes
  have hml : c.maxLocals = 6 := hml0
  have hown : s.vm.findClass "com/example/sonde/sonde/store/CurrentVersions" = some m.cls := findClass_of_methodNamed Bd.named
  have hnm := (name_of_methodNamed Bd.named Bd.method).1
  have X0 : Stand p l e ({ frames := 6, cells := 1, slots := 9, locals := 130 } : Room) s m #[(.ref u1)] below meth c s₁ [] 0 0 := Stand.of_body Bd
  have e0 : s₁.heap = h0 := by rw [← hh, Bd.state]; rfl
  have N0 := Fr.nil n0
  have K0 : Keep h0 h0 [] := Keep.refl _ _
  have pre0 : ∀ t, Steps p.tables e below (s₁.setTop (mkF m 0 #[.val (.ref u1), .unset, .unset, .unset, .unset, .unset] [])) t → Steps p.tables e below (s₁.setTop (entryFrame m #[(.ref u1)] 6)) t := fun t k => castTop (ef_rm_kept0 m u1) k
  obtain ⟨cq31, kq31, q31a, q31b, q31c⟩ := isOf hZ e0 E1
  obtain ⟨_, _, ⟨T31, L31, k31, n31⟩, -, X31, ⟨Lc31, hQ31, l31, y31, z31⟩, st31⟩ := X0.virtualBack hx (y := (⟨"java/lang/String", "length", "()I"⟩ : MethodName)) (z := (⟨"java/lang/String", "length", "()I"⟩ : MethodName)) hown (mvT hZ (own_w hw 38 rfl)) (mvT hZ (own_w hw 39 rfl)) (notFace_of_selects (args := #[]) (mvT hZ (own_w hw 41 rfl))) (mvT hZ (own_w hw 41 rfl)) (mvT hZ (own_w hw 40 rfl)) (by decide) (backOf (W := 1) (rm_len l Z a0 hw [] u1 zc cd t kb N (ys.map Value.int) (0 : Int32) h0 n0 Z0 hl0 (O2.ext X00.2) hz E1 F1 F2 V1) hZ (own_w hw 42 rfl) (own_w hw 7 rfl) (by decide) (by decide)) q31a q31c (g := (mkF m 6 #[.val (.ref u1), .val (.int (0 : Int32)), .val (.int (0 : Int32)), .unset, .unset, .unset] [(.ref u1), (.int (0 : Int32))])) rfl (by rw [hml]; rfl) (Steps.refl _) (argsL := []) (rest := [(.int (0 : Int32))]) (lenOf pd_691884 rfl) rfl (by show 2 * 0 + _ ≤ _; exact Nat.le_of_eq rfl) (hb hby d8_6) (fun _ _ => ⟨rfl, e0, (by decide : 0 + 0 ≤ _), (by decide : 0 + 0 ≤ _)⟩)
  dsimp only [Pt.U, Pt.locs, Pt.cells, Pt.slots] at X31 l31 y31 z31 st31 hQ31
  replace y31 : k31 = 0 := y31
  replace z31 : n31 = 0 := z31
  subst y31 z31
  obtain ⟨rfl, Nq31, eq31⟩ := hQ31
  have N31 : Fr n0 L31 := by rw [l31]; exact Fr.app N0 Nq31
  obtain ⟨T32, h32, k32, X32, e32, E32, A32, st32⟩ := newP X31 hx hZ (own_w hw 23 rfl) eq31 (g := (mkF m 51 #[.val (.ref u1), .val (.int (0 : Int32)), .val (.int (0 : Int32)), .unset, .unset, .unset] [(.int (0 : Int32))])) rfl (hb hby d8_51) rfl (by decide) (cap := 9) (by decide) (by decide) (by decide) (by decide)
  obtain ⟨o, g32⟩ : ∃ z, z = h0.size := ⟨_, rfl⟩
  rw [← g32] at A32 st32
  have fr_o : n0 ≤ o := Nat.le_trans Z0 (Nat.le_of_eq g32.symm)
  have ne_u1_o : u1 ≠ o := Nat.ne_of_lt (Nat.lt_of_lt_of_le E1.lt (Nat.le_of_eq g32.symm))
  have ne_t_o : t ≠ o := Nat.ne_of_lt (Nat.lt_of_lt_of_le V1.lt (Nat.le_of_eq g32.symm))
  have sz_o : h0.size ≤ o := Nat.le_trans K0.1 (Nat.le_of_eq g32.symm)
  have Z32 : n0 ≤ h32.size := Nat.le_trans Z0 E32.1
  have K32 : Keep h0 h32 [] := K0.ext E32
  have Ox32 : Old Z Z.heap.size h32 := X00.ext E32
  have V32 := Arv.new A32 (by decide)
  have Vx0 : Arv Z h32 o k32 .byte (0 : Int32) (([(0 : Int32), (0 : Int32), (0 : Int32), (0 : Int32), (0 : Int32), (0 : Int32), (0 : Int32), (0 : Int32), (0 : Int32)] : List Int32).map Value.int) (.int (0 : Int32)) := V32.pad (pad_rep [] (.int (0 : Int32)) 9)
  obtain ⟨cq33, kq33, q33a, q33b, q33c⟩ := isOf hZ e32 (E1.ext E32)
  obtain ⟨_, _, ⟨T33, L33, k33, n33⟩, -, X33, ⟨Lc33, hQ33, l33, y33, z33⟩, st33⟩ := X32.virtualBack hx (y := (⟨"java/lang/String", "length", "()I"⟩ : MethodName)) (z := (⟨"java/lang/String", "length", "()I"⟩ : MethodName)) hown (mvT hZ (own_w hw 38 rfl)) (mvT hZ (own_w hw 39 rfl)) (notFace_of_selects (args := #[]) (mvT hZ (own_w hw 41 rfl))) (mvT hZ (own_w hw 41 rfl)) (mvT hZ (own_w hw 40 rfl)) (by decide) (backOf (W := 1) (rm_len l Z a0 hw [] u1 zc cd t kb N (ys.map Value.int) (0 : Int32) h32 n0 Z32 hl0 (O2.ext Ox32.2) hz (E1.ext E32) (F1.ext E32) (F2.ext E32) (V1.ext E32)) hZ (own_w hw 42 rfl) (own_w hw 7 rfl) (by decide) (by decide)) q33a q33c (g := (mkF m 62 #[.val (.ref u1), .val (.int (0 : Int32)), .val (.ref o), .val (.int (0 : Int32)), .val (.int (0 : Int32)), .unset] [(.ref u1), (.int (0 : Int32))])) rfl (by rw [hml]; rfl) (Steps.refl _) (argsL := []) (rest := [(.int (0 : Int32))]) (lenOf pd_691884 rfl) rfl (by show 2 * 0 + _ ≤ _; exact Nat.le_of_eq rfl) (hb hby d8_62) (fun _ _ => ⟨rfl, e32, (by decide : 1 + 0 ≤ _), (by decide : 9 + 0 ≤ _)⟩)
  dsimp only [Pt.U, Pt.locs, Pt.cells, Pt.slots] at X33 l33 y33 z33 st33 hQ33
  replace y33 : k33 = 1 := y33
  replace z33 : n33 = 9 := z33
  subst y33 z33
  obtain ⟨rfl, Nq33, eq33⟩ := hQ33
  have N33 : Fr n0 L33 := by rw [l33]; exact Fr.app N31 Nq33
  obtain ⟨fs, hr, hrun, hended, hW, hsame⟩ := X33.leave (v := some (.ref o)) (fun h => by rw [Bd.returns] at h; cases h)
  refine ⟨_, _, pre0 _ ?_, hrun, hended, _, _, rfl, ?_, ⟨_, rfl⟩, hW, hsame.mono (by decide) (by decide)⟩
  · show Steps p.tables e below (s₁.setTop (mkF m 0 #[.val (.ref u1), .unset, .unset, .unset, .unset, .unset] [])) _
    refine XS.iconst X0.here hx rfl (hb hby d8_0) ?_
    refine XS.istoreN X0.here hx rfl (hb hby d8_1) rfl (l' := #[.val (.ref u1), .val (.int (0 : Int32)), .unset, .unset, .unset, .unset]) rfl ?_
    refine XS.iconst X0.here hx rfl (hb hby d8_2) ?_
    refine XS.istoreN X0.here hx rfl (hb hby d8_3) rfl (l' := #[.val (.ref u1), .val (.int (0 : Int32)), .val (.int (0 : Int32)), .unset, .unset, .unset]) rfl ?_
    refine XS.iloadN X0.here hx rfl (hb hby d8_4) rfl ?_
    refine XS.aloadN X0.here hx rfl (hb hby d8_5) rfl rfl ?_
    refine st31.trans ?_
    refine XS.icmpYes X31.here hx rfl (pc0 := 9) (pc' := 50) rfl (hb hby d8_9) rfl (by decide) (by decide) (by decide) ?_
    show Steps p.tables e below (T31.setTop (mkF m 50 #[.val (.ref u1), .val (.int (0 : Int32)), .val (.int (0 : Int32)), .unset, .unset, .unset] [])) _
    refine XS.iloadN X31.here hx rfl (hb hby d8_50) rfl ?_
    refine st32 _ ?_
    refine XS.astoreN X32.here hx rfl (hb hby d8_53) rfl rfl (l' := #[.val (.ref u1), .val (.int (0 : Int32)), .val (.ref o), .unset, .unset, .unset]) rfl ?_
    refine XS.iconst X32.here hx rfl (hb hby d8_54) ?_
    refine XS.istoreN X32.here hx rfl (hb hby d8_55) rfl (l' := #[.val (.ref u1), .val (.int (0 : Int32)), .val (.ref o), .val (.int (0 : Int32)), .unset, .unset]) rfl ?_
    refine XS.iconst X32.here hx rfl (hb hby d8_56) ?_
    refine XS.istore X32.here hx rfl (hb hby d8_57) rfl (l' := #[.val (.ref u1), .val (.int (0 : Int32)), .val (.ref o), .val (.int (0 : Int32)), .val (.int (0 : Int32)), .unset]) rfl ?_
    refine XS.iload X32.here hx rfl (hb hby d8_59) rfl ?_
    show Steps p.tables e below (T32.setTop (mkF m 61 #[.val (.ref u1), .val (.int (0 : Int32)), .val (.ref o), .val (.int (0 : Int32)), .val (.int (0 : Int32)), .unset] [(.int (0 : Int32))])) _
    refine XS.aloadN X32.here hx rfl (hb hby d8_61) rfl rfl ?_
    refine st33.trans ?_
    refine XS.icmpYes X33.here hx rfl (pc0 := 65) (pc' := 196) rfl (hb hby d8_65) rfl (by decide) (by decide) (by decide) ?_
    refine XS.aloadN X33.here hx rfl (hb hby d8_196) rfl rfl ?_
    show Steps p.tables e below (T33.setTop (mkF m 197 #[.val (.ref u1), .val (.int (0 : Int32)), .val (.ref o), .val (.int (0 : Int32)), .val (.int (0 : Int32)), .unset] [(.ref o)])) _
    jvm_step X33.here [X33.here.top, hx, (hb hby d8_197), X33.method', Bd.returns, Value.isRef, FieldType.isReference]
    first | (intro acts; rw [hr _ acts rfl rfl rfl]) | rw [hr _ _ rfl rfl rfl]
    exact Steps.refl _
  · show Q_rm_kept0 Z _ _ _ _ _ _ _ _ h0 n0 _ T33.heap _
    rw [eq33]
    exact ⟨o, k32, rfl, N33, K32, sz_o, Vx0⟩
theorem d8_12 : decode prog_30_method_12_code 12 = .ok (.aload_n 0, 1) := by decide +kernel
theorem d8_13 : decode prog_30_method_12_code 13 = .ok (.iload_n 2, 1) := by decide +kernel
theorem d8_14 : decode prog_30_method_12_code 14 = .ok (.invokevirtual 134, 3) := by decide +kernel
theorem d8_17 : decode prog_30_method_12_code 17 = .ok (.istore_n 3, 1) := by decide +kernel
theorem d8_18 : decode prog_30_method_12_code 18 = .ok (.iload_n 1, 1) := by decide +kernel
theorem d8_19 : decode prog_30_method_12_code 19 = .ok (.iload_n 3, 1) := by decide +kernel
theorem d8_20 : decode prog_30_method_12_code 20 = .ok (.sipush 128, 3) := by decide +kernel
theorem d8_23 : decode prog_30_method_12_code 23 = .ok (.if_icmp .ge 7, 3) := by decide +kernel
theorem d8_30 : decode prog_30_method_12_code 30 = .ok (.iload_n 3, 1) := by decide +kernel
theorem d8_31 : decode prog_30_method_12_code 31 = .ok (.sipush 2048, 3) := by decide +kernel
theorem d8_34 : decode prog_30_method_12_code 34 = .ok (.if_icmp .ge 7, 3) := by decide +kernel
theorem d8_41 : decode prog_30_method_12_code 41 = .ok (.iconst 3, 1) := by decide +kernel
theorem d8_37 : decode prog_30_method_12_code 37 = .ok (.iconst 2, 1) := by decide +kernel
theorem d8_38 : decode prog_30_method_12_code 38 = .ok (.goto 4, 3) := by decide +kernel
theorem d8_26 : decode prog_30_method_12_code 26 = .ok (.iconst 1, 1) := by decide +kernel
theorem d8_27 : decode prog_30_method_12_code 27 = .ok (.goto 15, 3) := by decide +kernel
theorem d8_42 : decode prog_30_method_12_code 42 = .ok (.iadd, 1) := by decide +kernel
theorem d8_43 : decode prog_30_method_12_code 43 = .ok (.istore_n 1, 1) := by decide +kernel
theorem d8_44 : decode prog_30_method_12_code 44 = .ok (.iinc 2 1, 3) := by decide +kernel
theorem d8_47 : decode prog_30_method_12_code 47 = .ok (.goto (-43), 3) := by decide +kernel
theorem ef_rm_kept1 (m : MethodId) (x0 : Addr) : entryFrame m #[(.ref x0)] 6 = mkF m 0 #[.val (.ref x0), .unset, .unset, .unset, .unset, .unset] [] := by first | (simp [entryFrame, mkF, argsToLocals, Value.category]; done) | rfl
def Q_rm_kept1 (Z : State) (u1 : Addr) (zc : Int32) (fm : Value) (cd : Int32) (t : Addr) (kb : ClassId) (N : Int32) (ys : List Int32) (c0 : Int32) (h0 : Heap) (n0 : Nat) (v : Option Value) (h : Heap) (L : List Loc) : Prop := ∃ (o : Addr) (ko : ClassId), v = some (.ref o) ∧ Fr n0 L ∧ Keep h0 h [] ∧ h0.size ≤ o ∧ Arv Z h o ko .byte ((0 : Int32) + (own_sz c0)) ((own_wr ([(0 : Int32), (0 : Int32), (0 : Int32), (0 : Int32), (0 : Int32), (0 : Int32), (0 : Int32), (0 : Int32), (0 : Int32)] : List Int32) (0 : Int32) c0).map Value.int) (.int (0 : Int32))
set_option maxRecDepth 65536 in
set_option maxHeartbeats 40000000 in
theorem rm_kept1 (l : Launch) (Z : State) (a0 : Array Value) (hw : ∀ d ∈ tables_1, d.before a0 Z = true) (ws : List Jvm.Cond) (u1 : Addr) (zc : Int32) (fm : Value) (cd : Int32) (t : Addr) (kb : ClassId) (N : Int32) (ys : List Int32) (c0 : Int32) (h0 : Heap) (n0 : Nat) (Z0 : n0 ≤ h0.size) (X00 : Old Z Z.heap.size h0) (O2 : Sta Z Z.heap "java/lang/String" "COMPACT_STRINGS" "Z" (.int zc)) (hz : ¬ zc = 0) (O4 : Sta Z Z.heap "jdk/internal/util/Preconditions" "SIOOBE_FORMATTER" "Ljava/util/function/BiFunction;" fm) (rf : fm.isRef = true) (O5 : Sta Z Z.heap "java/lang/StringUTF16" "$assertionsDisabled" "Z" (.int (1 : Int32))) (O6 : Sta Z Z.heap "java/lang/StringUTF16" "HI_BYTE_SHIFT" "I" (.int (0 : Int32))) (O7 : Sta Z Z.heap "java/lang/StringUTF16" "LO_BYTE_SHIFT" "I" (.int (8 : Int32))) (E1 : Exa Z h0 u1 "java/lang/String") (F1 : Fld Z h0 u1 "java/lang/String" "coder" "B" (.int cd)) (F2 : Fld Z h0 u1 "java/lang/String" "value" "[B" (.ref t)) (V1 : Arv Z h0 t kb .byte N (ys.map Value.int) (.int (0 : Int32))) (cod : own_cod [c0] cd N ys) (q0 : ¬ c0 < 0 ∧ ¬ (65535 : Int32) < c0) :
    MetFree l (⟨"com/example/sonde/sonde/store/CurrentVersions", "kept", "(Ljava/lang/String;)[B"⟩ : MethodName) (head1 (Jvm.Cond.code (⟨"com/example/sonde/sonde/store/CurrentVersions", "kept", "(Ljava/lang/String;)[B"⟩ : MethodName) prog_30_method_12_code 6 (some (.array .byte)) :: ws) ({ frames := 6, cells := 1, slots := 9, locals := 130 } : Room)) (fun a U => a = #[(.ref u1)] ∧ Z.Warmed39 U.vm ∧ U.heap = h0) (fun _ _ _ _ _ => True) (fun _ U o U' => ∃ v L, o = .returned v ∧ Q_rm_kept1 Z u1 zc fm cd t kb N ys c0 h0 n0 v U'.heap L ∧ FrameEnd U o U' L ({ frames := 6, cells := 1, slots := 9, locals := 130 } : Room).cells ({ frames := 6, cells := 1, slots := 9, locals := 130 } : Room).slots) := by
  refine MetFree.of_bodySF (plainFor_of_name pn_771912) hisR ?_
  intro p e s m args below meth c s₁ Bd hml0 hP hK
  obtain ⟨rfl, hZ, hh⟩ := hP
  have hx := Bd.exec
  have hby := Bd.bytes
  have hml : c.maxLocals = 6 := hml0
  have hown : s.vm.findClass "com/example/sonde/sonde/store/CurrentVersions" = some m.cls := findClass_of_methodNamed Bd.named
  have hnm := (name_of_methodNamed Bd.named Bd.method).1
  have X0 : Stand p l e ({ frames := 6, cells := 1, slots := 9, locals := 130 } : Room) s m #[(.ref u1)] below meth c s₁ [] 0 0 := Stand.of_body Bd
  have e0 : s₁.heap = h0 := by rw [← hh, Bd.state]; rfl
  have N0 := Fr.nil n0
  have K0 : Keep h0 h0 [] := Keep.refl _ _
  have pre0 : ∀ t, Steps p.tables e below (s₁.setTop (mkF m 0 #[.val (.ref u1), .unset, .unset, .unset, .unset, .unset] [])) t → Steps p.tables e below (s₁.setTop (entryFrame m #[(.ref u1)] 6)) t := fun t k => castTop (ef_rm_kept1 m u1) k
  obtain ⟨cq31, kq31, q31a, q31b, q31c⟩ := isOf hZ e0 E1
  obtain ⟨_, _, ⟨T31, L31, k31, n31⟩, -, X31, ⟨Lc31, hQ31, l31, y31, z31⟩, st31⟩ := X0.virtualBack hx (y := (⟨"java/lang/String", "length", "()I"⟩ : MethodName)) (z := (⟨"java/lang/String", "length", "()I"⟩ : MethodName)) hown (mvT hZ (own_w hw 38 rfl)) (mvT hZ (own_w hw 39 rfl)) (notFace_of_selects (args := #[]) (mvT hZ (own_w hw 41 rfl))) (mvT hZ (own_w hw 41 rfl)) (mvT hZ (own_w hw 40 rfl)) (by decide) (backOf (W := 1) (rm_len l Z a0 hw [] u1 zc cd t kb N (ys.map Value.int) (1 : Int32) h0 n0 Z0 (own_lenrr1 cod) (O2.ext X00.2) hz E1 F1 F2 V1) hZ (own_w hw 42 rfl) (own_w hw 7 rfl) (by decide) (by decide)) q31a q31c (g := (mkF m 6 #[.val (.ref u1), .val (.int (0 : Int32)), .val (.int (0 : Int32)), .unset, .unset, .unset] [(.ref u1), (.int (0 : Int32))])) rfl (by rw [hml]; rfl) (Steps.refl _) (argsL := []) (rest := [(.int (0 : Int32))]) (lenOf pd_691884 rfl) rfl (by show 2 * 0 + _ ≤ _; exact Nat.le_of_eq rfl) (hb hby d8_6) (fun _ _ => ⟨rfl, e0, (by decide : 0 + 0 ≤ _), (by decide : 0 + 0 ≤ _)⟩)
  dsimp only [Pt.U, Pt.locs, Pt.cells, Pt.slots] at X31 l31 y31 z31 st31 hQ31
  replace y31 : k31 = 0 := y31
  replace z31 : n31 = 0 := z31
  subst y31 z31
  obtain ⟨rfl, Nq31, eq31⟩ := hQ31
  have N31 : Fr n0 L31 := by rw [l31]; exact Fr.app N0 Nq31
  obtain ⟨cq32, kq32, q32a, q32b, q32c⟩ := isOf hZ eq31 E1
  obtain ⟨_, _, ⟨T32, L32, k32, n32⟩, -, X32, ⟨Lc32, hQ32, l32, y32, z32⟩, st32⟩ := X31.virtualBack hx (y := (⟨"java/lang/String", "charAt", "(I)C"⟩ : MethodName)) (z := (⟨"java/lang/String", "charAt", "(I)C"⟩ : MethodName)) hown (mvT hZ (own_w hw 48 rfl)) (mvT hZ (own_w hw 49 rfl)) (notFace_of_selects (args := #[]) (mvT hZ (own_w hw 51 rfl))) (mvT hZ (own_w hw 51 rfl)) (mvT hZ (own_w hw 50 rfl)) (by decide) (backOf (W := 0) (rm_chC1_0 l Z a0 hw [] u1 zc fm cd t kb N ys c0 h0 n0 Z0 (O2.ext X00.2) hz (O4.ext X00.2) rf (O5.ext X00.2) (O6.ext X00.2) (O7.ext X00.2) E1 F1 F2 V1 cod q0) hZ (own_w hw 52 rfl) (own_w hw 7 rfl) (by decide) (by decide)) q32a q32c (g := (mkF m 14 #[.val (.ref u1), .val (.int (0 : Int32)), .val (.int (0 : Int32)), .unset, .unset, .unset] [(.int (0 : Int32)), (.ref u1)])) rfl (by rw [hml]; rfl) (Steps.refl _) (argsL := [(.int (0 : Int32))]) (rest := []) (lenOf pd_181558 rfl) rfl (by show 2 * 0 + _ ≤ _; exact Nat.le_of_eq rfl) (hb hby d8_14) (fun _ _ => ⟨rfl, eq31, (by decide : 0 + 0 ≤ _), (by decide : 0 + 0 ≤ _)⟩)
  dsimp only [Pt.U, Pt.locs, Pt.cells, Pt.slots] at X32 l32 y32 z32 st32 hQ32
  replace y32 : k32 = 0 := y32
  replace z32 : n32 = 0 := z32
  subst y32 z32
  obtain ⟨rfl, Nq32, eq32⟩ := hQ32
  have N32 : Fr n0 L32 := by rw [l32]; exact Fr.app N31 Nq32
  have pre33 : ∀ t, Steps p.tables e below (T32.setTop (mkF m 23 #[.val (.ref u1), .val (.int (0 : Int32)), .val (.int (0 : Int32)), .val (.int c0), .unset, .unset] [(.int (128 : Int32)), (.int c0), (.int (0 : Int32))])) t → Steps p.tables e below (s₁.setTop (entryFrame m #[(.ref u1)] 6)) t := by
    intro t k
    refine pre0 t ?_
    show Steps p.tables e below (s₁.setTop (mkF m 0 #[.val (.ref u1), .unset, .unset, .unset, .unset, .unset] [])) _
    refine XS.iconst X0.here hx rfl (hb hby d8_0) ?_
    refine XS.istoreN X0.here hx rfl (hb hby d8_1) rfl (l' := #[.val (.ref u1), .val (.int (0 : Int32)), .unset, .unset, .unset, .unset]) rfl ?_
    refine XS.iconst X0.here hx rfl (hb hby d8_2) ?_
    refine XS.istoreN X0.here hx rfl (hb hby d8_3) rfl (l' := #[.val (.ref u1), .val (.int (0 : Int32)), .val (.int (0 : Int32)), .unset, .unset, .unset]) rfl ?_
    refine XS.iloadN X0.here hx rfl (hb hby d8_4) rfl ?_
    refine XS.aloadN X0.here hx rfl (hb hby d8_5) rfl rfl ?_
    refine st31.trans ?_
    refine XS.icmpNo X31.here hx rfl (hb hby d8_9) rfl (by decide) ?_
    show Steps p.tables e below (T31.setTop (mkF m 12 #[.val (.ref u1), .val (.int (0 : Int32)), .val (.int (0 : Int32)), .unset, .unset, .unset] [])) _
    refine XS.aloadN X31.here hx rfl (hb hby d8_12) rfl rfl ?_
    refine XS.iloadN X31.here hx rfl (hb hby d8_13) rfl ?_
    refine st32.trans ?_
    refine XS.istoreN X32.here hx rfl (hb hby d8_17) rfl (l' := #[.val (.ref u1), .val (.int (0 : Int32)), .val (.int (0 : Int32)), .val (.int c0), .unset, .unset]) rfl ?_
    refine XS.iloadN X32.here hx rfl (hb hby d8_18) rfl ?_
    refine XS.iloadN X32.here hx rfl (hb hby d8_19) rfl ?_
    refine XS.sipush X32.here hx rfl (hb hby d8_20) ?_
    exact k
  have pre36 : ∀ t, Steps p.tables e below (T32.setTop (mkF m 42 #[.val (.ref u1), .val (.int (0 : Int32)), .val (.int (0 : Int32)), .val (.int c0), .unset, .unset] [(.int (bif (if_icmp.holds .ge c0 (128 : Int32)) then (bif (if_icmp.holds .ge c0 (2048 : Int32)) then (3 : Int32) else (2 : Int32)) else (1 : Int32))), (.int (0 : Int32))])) t → Steps p.tables e below (s₁.setTop (entryFrame m #[(.ref u1)] 6)) t := by
    intro t k
    refine pre33 t ?_
    show Steps p.tables e below (T32.setTop (mkF m 23 #[.val (.ref u1), .val (.int (0 : Int32)), .val (.int (0 : Int32)), .val (.int c0), .unset, .unset] [(.int (128 : Int32)), (.int c0), (.int (0 : Int32))])) _
    rcases Bool.eq_false_or_eq_true (if_icmp.holds .ge c0 (128 : Int32)) with hb23_34 | hb23_34
    · refine XS.icmpYes X32.here hx rfl (pc0 := 23) (pc' := 30) rfl (hb hby d8_23) rfl hb23_34 (by decide) (by decide) ?_
      show Steps p.tables e below (T32.setTop (mkF m 30 #[.val (.ref u1), .val (.int (0 : Int32)), .val (.int (0 : Int32)), .val (.int c0), .unset, .unset] [(.int (0 : Int32))])) _
      refine XS.iloadN X32.here hx rfl (hb hby d8_30) rfl ?_
      refine XS.sipush X32.here hx rfl (hb hby d8_31) ?_
      rcases Bool.eq_false_or_eq_true (if_icmp.holds .ge c0 (2048 : Int32)) with hb34_35 | hb34_35
      · refine XS.icmpYes X32.here hx rfl (pc0 := 34) (pc' := 41) rfl (hb hby d8_34) rfl hb34_35 (by decide) (by decide) ?_
        refine XS.iconst X32.here hx rfl (hb hby d8_41) ?_
        have k : Steps p.tables e below (T32.setTop (mkF m 42 #[.val (.ref u1), .val (.int (0 : Int32)), .val (.int (0 : Int32)), .val (.int c0), .unset, .unset] [(.int (3 : Int32)), (.int (0 : Int32))])) t := by (try simp only [hb34_35] at k); simpa only [hb23_34, hb34_35, cond_true, cond_false] using k
        exact k
      · refine XS.icmpNo X32.here hx rfl (hb hby d8_34) rfl hb34_35 ?_
        refine XS.iconst X32.here hx rfl (hb hby d8_37) ?_
        refine XS.goto X32.here hx rfl (pc0 := 38) (pc' := 42) rfl (hb hby d8_38) (by decide) (by decide) ?_
        have k : Steps p.tables e below (T32.setTop (mkF m 42 #[.val (.ref u1), .val (.int (0 : Int32)), .val (.int (0 : Int32)), .val (.int c0), .unset, .unset] [(.int (2 : Int32)), (.int (0 : Int32))])) t := by (try simp only [hb34_35] at k); simpa only [hb23_34, hb34_35, cond_true, cond_false] using k
        exact k
    · refine XS.icmpNo X32.here hx rfl (hb hby d8_23) rfl hb23_34 ?_
      show Steps p.tables e below (T32.setTop (mkF m 26 #[.val (.ref u1), .val (.int (0 : Int32)), .val (.int (0 : Int32)), .val (.int c0), .unset, .unset] [(.int (0 : Int32))])) _
      refine XS.iconst X32.here hx rfl (hb hby d8_26) ?_
      refine XS.goto X32.here hx rfl (pc0 := 27) (pc' := 42) rfl (hb hby d8_27) (by decide) (by decide) ?_
      have k : Steps p.tables e below (T32.setTop (mkF m 42 #[.val (.ref u1), .val (.int (0 : Int32)), .val (.int (0 : Int32)), .val (.int c0), .unset, .unset] [(.int (1 : Int32)), (.int (0 : Int32))])) t := by simpa only [hb23_34, cond_true, cond_false] using k
      exact k
  obtain ⟨cq37, kq37, q37a, q37b, q37c⟩ := isOf hZ eq32 E1
  obtain ⟨_, _, ⟨T37, L37, k37, n37⟩, -, X37, ⟨Lc37, hQ37, l37, y37, z37⟩, st37⟩ := X32.virtualBack hx (y := (⟨"java/lang/String", "length", "()I"⟩ : MethodName)) (z := (⟨"java/lang/String", "length", "()I"⟩ : MethodName)) hown (mvT hZ (own_w hw 38 rfl)) (mvT hZ (own_w hw 39 rfl)) (notFace_of_selects (args := #[]) (mvT hZ (own_w hw 41 rfl))) (mvT hZ (own_w hw 41 rfl)) (mvT hZ (own_w hw 40 rfl)) (by decide) (backOf (W := 1) (rm_len l Z a0 hw [] u1 zc cd t kb N (ys.map Value.int) (1 : Int32) h0 n0 Z0 (own_lenrr1 cod) (O2.ext X00.2) hz E1 F1 F2 V1) hZ (own_w hw 42 rfl) (own_w hw 7 rfl) (by decide) (by decide)) q37a q37c (g := (mkF m 6 #[.val (.ref u1), .val (.int ((0 : Int32) + (own_sz c0))), .val (.int (1 : Int32)), .val (.int c0), .unset, .unset] [(.ref u1), (.int (1 : Int32))])) rfl (by rw [hml]; rfl) (Steps.refl _) (argsL := []) (rest := [(.int (1 : Int32))]) (lenOf pd_691884 rfl) rfl (by show 2 * 0 + _ ≤ _; exact Nat.le_of_eq rfl) (hb hby d8_6) (fun _ _ => ⟨rfl, eq32, (by decide : 0 + 0 ≤ _), (by decide : 0 + 0 ≤ _)⟩)
  dsimp only [Pt.U, Pt.locs, Pt.cells, Pt.slots] at X37 l37 y37 z37 st37 hQ37
  replace y37 : k37 = 0 := y37
  replace z37 : n37 = 0 := z37
  subst y37 z37
  obtain ⟨rfl, Nq37, eq37⟩ := hQ37
  have N37 : Fr n0 L37 := by rw [l37]; exact Fr.app N32 Nq37
  obtain ⟨T38, h38, k38, X38, e38, E38, A38, st38⟩ := newP X37 hx hZ (own_w hw 23 rfl) eq37 (g := (mkF m 51 #[.val (.ref u1), .val (.int ((0 : Int32) + (own_sz c0))), .val (.int (1 : Int32)), .val (.int c0), .unset, .unset] [(.int ((0 : Int32) + (own_sz c0)))])) rfl (hb hby d8_51) rfl (own_szN1 c0).1 (cap := 9) (own_szN1 c0).2 (by decide) (by decide) (by decide)
  obtain ⟨o, g38⟩ : ∃ z, z = h0.size := ⟨_, rfl⟩
  rw [← g38] at A38 st38
  have fr_o : n0 ≤ o := Nat.le_trans Z0 (Nat.le_of_eq g38.symm)
  have ne_u1_o : u1 ≠ o := Nat.ne_of_lt (Nat.lt_of_lt_of_le E1.lt (Nat.le_of_eq g38.symm))
  have ne_t_o : t ≠ o := Nat.ne_of_lt (Nat.lt_of_lt_of_le V1.lt (Nat.le_of_eq g38.symm))
  have sz_o : h0.size ≤ o := Nat.le_trans K0.1 (Nat.le_of_eq g38.symm)
  have Z38 : n0 ≤ h38.size := Nat.le_trans Z0 E38.1
  have K38 : Keep h0 h38 [] := K0.ext E38
  have Ox38 : Old Z Z.heap.size h38 := X00.ext E38
  have V38 := Arv.new A38 (own_szN1 c0).1
  have Vx0 : Arv Z h38 o k38 .byte ((0 : Int32) + (own_sz c0)) (([(0 : Int32), (0 : Int32), (0 : Int32), (0 : Int32), (0 : Int32), (0 : Int32), (0 : Int32), (0 : Int32), (0 : Int32)] : List Int32).map Value.int) (.int (0 : Int32)) := V38.pad (pad_rep [] (.int (0 : Int32)) 9)
  have pre39 : ∀ t, Steps p.tables e below (T38.setTop (mkF m 59 #[.val (.ref u1), .val (.int ((0 : Int32) + (own_sz c0))), .val (.ref o), .val (.int (0 : Int32)), .val (.int (0 : Int32)), .unset] [])) t → Steps p.tables e below (s₁.setTop (entryFrame m #[(.ref u1)] 6)) t := by
    intro t k
    refine pre36 t ?_
    show Steps p.tables e below (T32.setTop (mkF m 42 #[.val (.ref u1), .val (.int (0 : Int32)), .val (.int (0 : Int32)), .val (.int c0), .unset, .unset] [(.int (own_sz c0)), (.int (0 : Int32))])) _
    refine XS.iadd X32.here hx rfl (hb hby d8_42) rfl ?_
    show Steps p.tables e below (T32.setTop (mkF m 43 #[.val (.ref u1), .val (.int (0 : Int32)), .val (.int (0 : Int32)), .val (.int c0), .unset, .unset] [(.int ((0 : Int32) + (own_sz c0)))])) _
    refine XS.istoreN X32.here hx rfl (hb hby d8_43) rfl (l' := #[.val (.ref u1), .val (.int ((0 : Int32) + (own_sz c0))), .val (.int (0 : Int32)), .val (.int c0), .unset, .unset]) rfl ?_
    refine XS.iinc X32.here hx rfl (hb hby d8_44) rfl (l' := #[.val (.ref u1), .val (.int ((0 : Int32) + (own_sz c0))), .val (.int (1 : Int32)), .val (.int c0), .unset, .unset]) rfl ?_
    refine XS.goto X32.here hx rfl (pc0 := 47) (pc' := 4) rfl (hb hby d8_47) (by decide) (by decide) ?_
    refine XS.iloadN X32.here hx rfl (hb hby d8_4) rfl ?_
    refine XS.aloadN X32.here hx rfl (hb hby d8_5) rfl rfl ?_
    refine st37.trans ?_
    refine XS.icmpYes X37.here hx rfl (pc0 := 9) (pc' := 50) rfl (hb hby d8_9) rfl (by decide) (by decide) (by decide) ?_
    refine XS.iloadN X37.here hx rfl (hb hby d8_50) rfl ?_
    show Steps p.tables e below (T37.setTop (mkF m 51 #[.val (.ref u1), .val (.int ((0 : Int32) + (own_sz c0))), .val (.int (1 : Int32)), .val (.int c0), .unset, .unset] [(.int ((0 : Int32) + (own_sz c0)))])) _
    refine st38 _ ?_
    refine XS.astoreN X38.here hx rfl (hb hby d8_53) rfl rfl (l' := #[.val (.ref u1), .val (.int ((0 : Int32) + (own_sz c0))), .val (.ref o), .val (.int c0), .unset, .unset]) rfl ?_
    refine XS.iconst X38.here hx rfl (hb hby d8_54) ?_
    refine XS.istoreN X38.here hx rfl (hb hby d8_55) rfl (l' := #[.val (.ref u1), .val (.int ((0 : Int32) + (own_sz c0))), .val (.ref o), .val (.int (0 : Int32)), .unset, .unset]) rfl ?_
    refine XS.iconst X38.here hx rfl (hb hby d8_56) ?_
    refine XS.istore X38.here hx rfl (hb hby d8_57) rfl (l' := #[.val (.ref u1), .val (.int ((0 : Int32) + (own_sz c0))), .val (.ref o), .val (.int (0 : Int32)), .val (.int (0 : Int32)), .unset]) rfl ?_
    exact k
  obtain ⟨T40, h40, L40, X40, e40, N40, Kt40, Vt40, st40⟩ := tn u1 ((0 : Int32) + (own_sz c0)) o (0 : Int32) (0 : Int32) (.unset) (1 : Int32) c0 k38 ((0 : Int32) + (own_sz c0)) ([(0 : Int32), (0 : Int32), (0 : Int32), (0 : Int32), (0 : Int32), (0 : Int32), (0 : Int32), (0 : Int32), (0 : Int32)] : List Int32) X38 hx hZ hw hby hml hown e38 N37 Z38 (rm_len l Z a0 hw [] u1 zc cd t kb N (ys.map Value.int) (1 : Int32) h38 n0 Z38 (own_lenrr1 cod) (O2.ext Ox38.2) hz (E1.ext E38) (F1.ext E38) (F2.ext E38) (V1.ext E38)) (rm_chC1_0 l Z a0 hw [] u1 zc fm cd t kb N ys c0 h38 n0 Z38 (O2.ext Ox38.2) hz (O4.ext Ox38.2) rf (O5.ext Ox38.2) (O6.ext Ox38.2) (O7.ext Ox38.2) (E1.ext E38) (F1.ext E38) (F2.ext E38) (V1.ext E38) cod q0) (by decide) (Or.inl rfl) (E1.ext E38) Vx0 fr_o ne_u1_o (by rfl) (own_szx1_0 c0) (own_szf1_0 c0)
  have Z40 : n0 ≤ h40.size := Nat.le_trans Z38 Kt40.1
  have K40 : Keep h0 h40 [] := K38.trans Kt40 (allS (Or.inr sz_o) all0)
  have Oz40 : Old Z Z.heap.size h40 := Ox38.keep Kt40 (allS (Nat.le_trans X00.2.1 sz_o) all0)
  obtain ⟨cq41, kq41, q41a, q41b, q41c⟩ := isOf hZ e40 ((E1.ext E38).keep Kt40)
  obtain ⟨_, _, ⟨T41, L41, k41, n41⟩, -, X41, ⟨Lc41, hQ41, l41, y41, z41⟩, st41⟩ := X40.virtualBack hx (y := (⟨"java/lang/String", "length", "()I"⟩ : MethodName)) (z := (⟨"java/lang/String", "length", "()I"⟩ : MethodName)) hown (mvT hZ (own_w hw 38 rfl)) (mvT hZ (own_w hw 39 rfl)) (notFace_of_selects (args := #[]) (mvT hZ (own_w hw 41 rfl))) (mvT hZ (own_w hw 41 rfl)) (mvT hZ (own_w hw 40 rfl)) (by decide) (backOf (W := 1) (rm_len l Z a0 hw [] u1 zc cd t kb N (ys.map Value.int) (1 : Int32) h40 n0 Z40 (own_lenrr1 cod) (O2.ext Oz40.2) hz ((E1.ext E38).keep Kt40) ((F1.ext E38).keep Kt40 (ninS ne_u1_o nin0)) ((F2.ext E38).keep Kt40 (ninS ne_u1_o nin0)) ((V1.ext E38).keep Kt40 (ninS ne_t_o nin0))) hZ (own_w hw 42 rfl) (own_w hw 7 rfl) (by decide) (by decide)) q41a q41c (g := (mkF m 62 #[.val (.ref u1), .val (.int ((0 : Int32) + (own_sz c0))), .val (.ref o), .val (.int ((0 : Int32) + (own_sz c0))), .val (.int (1 : Int32)), .val (.int c0)] [(.ref u1), (.int (1 : Int32))])) rfl (by rw [hml]; rfl) (Steps.refl _) (argsL := []) (rest := [(.int (1 : Int32))]) (lenOf pd_691884 rfl) rfl (by show 2 * 0 + _ ≤ _; exact Nat.le_of_eq rfl) (hb hby d8_62) (fun _ _ => ⟨rfl, e40, (by decide : 1 + 0 ≤ _), (by decide : 9 + 0 ≤ _)⟩)
  dsimp only [Pt.U, Pt.locs, Pt.cells, Pt.slots] at X41 l41 y41 z41 st41 hQ41
  replace y41 : k41 = 1 := y41
  replace z41 : n41 = 9 := z41
  subst y41 z41
  obtain ⟨rfl, Nq41, eq41⟩ := hQ41
  have N41 : Fr n0 L41 := by rw [l41]; exact Fr.app N40 Nq41
  obtain ⟨fs, hr, hrun, hended, hW, hsame⟩ := X41.leave (v := some (.ref o)) (fun h => by rw [Bd.returns] at h; cases h)
  refine ⟨_, _, pre39 _ ?_, hrun, hended, _, _, rfl, ?_, ⟨_, rfl⟩, hW, hsame.mono (by decide) (by decide)⟩
  · refine st40 _ ?_
    refine XS.iload X40.here hx rfl (hb hby d8_59) rfl ?_
    refine XS.aloadN X40.here hx rfl (hb hby d8_61) rfl rfl ?_
    show Steps p.tables e below (T40.setTop (mkF m 62 #[.val (.ref u1), .val (.int ((0 : Int32) + (own_sz c0))), .val (.ref o), .val (.int ((0 : Int32) + (own_sz c0))), .val (.int (1 : Int32)), .val (.int c0)] [(.ref u1), (.int (1 : Int32))])) _
    refine st41.trans ?_
    refine XS.icmpYes X41.here hx rfl (pc0 := 65) (pc' := 196) rfl (hb hby d8_65) rfl (by decide) (by decide) (by decide) ?_
    refine XS.aloadN X41.here hx rfl (hb hby d8_196) rfl rfl ?_
    show Steps p.tables e below (T41.setTop (mkF m 197 #[.val (.ref u1), .val (.int ((0 : Int32) + (own_sz c0))), .val (.ref o), .val (.int ((0 : Int32) + (own_sz c0))), .val (.int (1 : Int32)), .val (.int c0)] [(.ref o)])) _
    jvm_step X41.here [X41.here.top, hx, (hb hby d8_197), X41.method', Bd.returns, Value.isRef, FieldType.isReference]
    first | (intro acts; rw [hr _ acts rfl rfl rfl]) | rw [hr _ _ rfl rfl rfl]
    exact Steps.refl _
  · show Q_rm_kept1 Z _ _ _ _ _ _ _ _ _ h0 n0 _ T41.heap _
    rw [eq41]
    exact ⟨o, k38, rfl, N41, K40, sz_o, Vt40⟩
theorem ef_rm_kept2 (m : MethodId) (x0 : Addr) : entryFrame m #[(.ref x0)] 6 = mkF m 0 #[.val (.ref x0), .unset, .unset, .unset, .unset, .unset] [] := by first | (simp [entryFrame, mkF, argsToLocals, Value.category]; done) | rfl
def Q_rm_kept2 (Z : State) (u1 : Addr) (zc : Int32) (fm : Value) (cd : Int32) (t : Addr) (kb : ClassId) (N : Int32) (ys : List Int32) (c0 : Int32) (c1 : Int32) (h0 : Heap) (n0 : Nat) (v : Option Value) (h : Heap) (L : List Loc) : Prop := ∃ (o : Addr) (ko : ClassId), v = some (.ref o) ∧ Fr n0 L ∧ Keep h0 h [] ∧ h0.size ≤ o ∧ Arv Z h o ko .byte (((0 : Int32) + (own_sz c0)) + (own_sz c1)) ((own_wr (own_wr ([(0 : Int32), (0 : Int32), (0 : Int32), (0 : Int32), (0 : Int32), (0 : Int32), (0 : Int32), (0 : Int32), (0 : Int32)] : List Int32) (0 : Int32) c0) ((0 : Int32) + (own_sz c0)) c1).map Value.int) (.int (0 : Int32))
set_option maxRecDepth 65536 in
set_option maxHeartbeats 40000000 in
theorem rm_kept2 (l : Launch) (Z : State) (a0 : Array Value) (hw : ∀ d ∈ tables_1, d.before a0 Z = true) (ws : List Jvm.Cond) (u1 : Addr) (zc : Int32) (fm : Value) (cd : Int32) (t : Addr) (kb : ClassId) (N : Int32) (ys : List Int32) (c0 : Int32) (c1 : Int32) (h0 : Heap) (n0 : Nat) (Z0 : n0 ≤ h0.size) (X00 : Old Z Z.heap.size h0) (O2 : Sta Z Z.heap "java/lang/String" "COMPACT_STRINGS" "Z" (.int zc)) (hz : ¬ zc = 0) (O4 : Sta Z Z.heap "jdk/internal/util/Preconditions" "SIOOBE_FORMATTER" "Ljava/util/function/BiFunction;" fm) (rf : fm.isRef = true) (O5 : Sta Z Z.heap "java/lang/StringUTF16" "$assertionsDisabled" "Z" (.int (1 : Int32))) (O6 : Sta Z Z.heap "java/lang/StringUTF16" "HI_BYTE_SHIFT" "I" (.int (0 : Int32))) (O7 : Sta Z Z.heap "java/lang/StringUTF16" "LO_BYTE_SHIFT" "I" (.int (8 : Int32))) (E1 : Exa Z h0 u1 "java/lang/String") (F1 : Fld Z h0 u1 "java/lang/String" "coder" "B" (.int cd)) (F2 : Fld Z h0 u1 "java/lang/String" "value" "[B" (.ref t)) (V1 : Arv Z h0 t kb .byte N (ys.map Value.int) (.int (0 : Int32))) (cod : own_cod [c0, c1] cd N ys) (q0 : ¬ c0 < 0 ∧ ¬ (65535 : Int32) < c0) (q1 : ¬ c1 < 0 ∧ ¬ (65535 : Int32) < c1) :
    MetFree l (⟨"com/example/sonde/sonde/store/CurrentVersions", "kept", "(Ljava/lang/String;)[B"⟩ : MethodName) (head1 (Jvm.Cond.code (⟨"com/example/sonde/sonde/store/CurrentVersions", "kept", "(Ljava/lang/String;)[B"⟩ : MethodName) prog_30_method_12_code 6 (some (.array .byte)) :: ws) ({ frames := 6, cells := 1, slots := 9, locals := 130 } : Room)) (fun a U => a = #[(.ref u1)] ∧ Z.Warmed39 U.vm ∧ U.heap = h0) (fun _ _ _ _ _ => True) (fun _ U o U' => ∃ v L, o = .returned v ∧ Q_rm_kept2 Z u1 zc fm cd t kb N ys c0 c1 h0 n0 v U'.heap L ∧ FrameEnd U o U' L ({ frames := 6, cells := 1, slots := 9, locals := 130 } : Room).cells ({ frames := 6, cells := 1, slots := 9, locals := 130 } : Room).slots) := by
  refine MetFree.of_bodySF (plainFor_of_name pn_771912) hisR ?_
  intro p e s m args below meth c s₁ Bd hml0 hP hK
  obtain ⟨rfl, hZ, hh⟩ := hP
  have hx := Bd.exec
  have hby := Bd.bytes
  have hml : c.maxLocals = 6 := hml0
  have hown : s.vm.findClass "com/example/sonde/sonde/store/CurrentVersions" = some m.cls := findClass_of_methodNamed Bd.named
  have hnm := (name_of_methodNamed Bd.named Bd.method).1
  have X0 : Stand p l e ({ frames := 6, cells := 1, slots := 9, locals := 130 } : Room) s m #[(.ref u1)] below meth c s₁ [] 0 0 := Stand.of_body Bd
  have e0 : s₁.heap = h0 := by rw [← hh, Bd.state]; rfl
  have N0 := Fr.nil n0
  have K0 : Keep h0 h0 [] := Keep.refl _ _
  have pre0 : ∀ t, Steps p.tables e below (s₁.setTop (mkF m 0 #[.val (.ref u1), .unset, .unset, .unset, .unset, .unset] [])) t → Steps p.tables e below (s₁.setTop (entryFrame m #[(.ref u1)] 6)) t := fun t k => castTop (ef_rm_kept2 m u1) k
  obtain ⟨cq31, kq31, q31a, q31b, q31c⟩ := isOf hZ e0 E1
  obtain ⟨_, _, ⟨T31, L31, k31, n31⟩, -, X31, ⟨Lc31, hQ31, l31, y31, z31⟩, st31⟩ := X0.virtualBack hx (y := (⟨"java/lang/String", "length", "()I"⟩ : MethodName)) (z := (⟨"java/lang/String", "length", "()I"⟩ : MethodName)) hown (mvT hZ (own_w hw 38 rfl)) (mvT hZ (own_w hw 39 rfl)) (notFace_of_selects (args := #[]) (mvT hZ (own_w hw 41 rfl))) (mvT hZ (own_w hw 41 rfl)) (mvT hZ (own_w hw 40 rfl)) (by decide) (backOf (W := 1) (rm_len l Z a0 hw [] u1 zc cd t kb N (ys.map Value.int) (2 : Int32) h0 n0 Z0 (own_lenrr2 cod) (O2.ext X00.2) hz E1 F1 F2 V1) hZ (own_w hw 42 rfl) (own_w hw 7 rfl) (by decide) (by decide)) q31a q31c (g := (mkF m 6 #[.val (.ref u1), .val (.int (0 : Int32)), .val (.int (0 : Int32)), .unset, .unset, .unset] [(.ref u1), (.int (0 : Int32))])) rfl (by rw [hml]; rfl) (Steps.refl _) (argsL := []) (rest := [(.int (0 : Int32))]) (lenOf pd_691884 rfl) rfl (by show 2 * 0 + _ ≤ _; exact Nat.le_of_eq rfl) (hb hby d8_6) (fun _ _ => ⟨rfl, e0, (by decide : 0 + 0 ≤ _), (by decide : 0 + 0 ≤ _)⟩)
  dsimp only [Pt.U, Pt.locs, Pt.cells, Pt.slots] at X31 l31 y31 z31 st31 hQ31
  replace y31 : k31 = 0 := y31
  replace z31 : n31 = 0 := z31
  subst y31 z31
  obtain ⟨rfl, Nq31, eq31⟩ := hQ31
  have N31 : Fr n0 L31 := by rw [l31]; exact Fr.app N0 Nq31
  obtain ⟨cq32, kq32, q32a, q32b, q32c⟩ := isOf hZ eq31 E1
  obtain ⟨_, _, ⟨T32, L32, k32, n32⟩, -, X32, ⟨Lc32, hQ32, l32, y32, z32⟩, st32⟩ := X31.virtualBack hx (y := (⟨"java/lang/String", "charAt", "(I)C"⟩ : MethodName)) (z := (⟨"java/lang/String", "charAt", "(I)C"⟩ : MethodName)) hown (mvT hZ (own_w hw 48 rfl)) (mvT hZ (own_w hw 49 rfl)) (notFace_of_selects (args := #[]) (mvT hZ (own_w hw 51 rfl))) (mvT hZ (own_w hw 51 rfl)) (mvT hZ (own_w hw 50 rfl)) (by decide) (backOf (W := 0) (rm_chC2_0 l Z a0 hw [] u1 zc fm cd t kb N ys c0 c1 h0 n0 Z0 (O2.ext X00.2) hz (O4.ext X00.2) rf (O5.ext X00.2) (O6.ext X00.2) (O7.ext X00.2) E1 F1 F2 V1 cod q0) hZ (own_w hw 52 rfl) (own_w hw 7 rfl) (by decide) (by decide)) q32a q32c (g := (mkF m 14 #[.val (.ref u1), .val (.int (0 : Int32)), .val (.int (0 : Int32)), .unset, .unset, .unset] [(.int (0 : Int32)), (.ref u1)])) rfl (by rw [hml]; rfl) (Steps.refl _) (argsL := [(.int (0 : Int32))]) (rest := []) (lenOf pd_181558 rfl) rfl (by show 2 * 0 + _ ≤ _; exact Nat.le_of_eq rfl) (hb hby d8_14) (fun _ _ => ⟨rfl, eq31, (by decide : 0 + 0 ≤ _), (by decide : 0 + 0 ≤ _)⟩)
  dsimp only [Pt.U, Pt.locs, Pt.cells, Pt.slots] at X32 l32 y32 z32 st32 hQ32
  replace y32 : k32 = 0 := y32
  replace z32 : n32 = 0 := z32
  subst y32 z32
  obtain ⟨rfl, Nq32, eq32⟩ := hQ32
  have N32 : Fr n0 L32 := by rw [l32]; exact Fr.app N31 Nq32
  have pre33 : ∀ t, Steps p.tables e below (T32.setTop (mkF m 23 #[.val (.ref u1), .val (.int (0 : Int32)), .val (.int (0 : Int32)), .val (.int c0), .unset, .unset] [(.int (128 : Int32)), (.int c0), (.int (0 : Int32))])) t → Steps p.tables e below (s₁.setTop (entryFrame m #[(.ref u1)] 6)) t := by
    intro t k
    refine pre0 t ?_
    show Steps p.tables e below (s₁.setTop (mkF m 0 #[.val (.ref u1), .unset, .unset, .unset, .unset, .unset] [])) _
    refine XS.iconst X0.here hx rfl (hb hby d8_0) ?_
    refine XS.istoreN X0.here hx rfl (hb hby d8_1) rfl (l' := #[.val (.ref u1), .val (.int (0 : Int32)), .unset, .unset, .unset, .unset]) rfl ?_
    refine XS.iconst X0.here hx rfl (hb hby d8_2) ?_
    refine XS.istoreN X0.here hx rfl (hb hby d8_3) rfl (l' := #[.val (.ref u1), .val (.int (0 : Int32)), .val (.int (0 : Int32)), .unset, .unset, .unset]) rfl ?_
    refine XS.iloadN X0.here hx rfl (hb hby d8_4) rfl ?_
    refine XS.aloadN X0.here hx rfl (hb hby d8_5) rfl rfl ?_
    refine st31.trans ?_
    refine XS.icmpNo X31.here hx rfl (hb hby d8_9) rfl (by decide) ?_
    show Steps p.tables e below (T31.setTop (mkF m 12 #[.val (.ref u1), .val (.int (0 : Int32)), .val (.int (0 : Int32)), .unset, .unset, .unset] [])) _
    refine XS.aloadN X31.here hx rfl (hb hby d8_12) rfl rfl ?_
    refine XS.iloadN X31.here hx rfl (hb hby d8_13) rfl ?_
    refine st32.trans ?_
    refine XS.istoreN X32.here hx rfl (hb hby d8_17) rfl (l' := #[.val (.ref u1), .val (.int (0 : Int32)), .val (.int (0 : Int32)), .val (.int c0), .unset, .unset]) rfl ?_
    refine XS.iloadN X32.here hx rfl (hb hby d8_18) rfl ?_
    refine XS.iloadN X32.here hx rfl (hb hby d8_19) rfl ?_
    refine XS.sipush X32.here hx rfl (hb hby d8_20) ?_
    exact k
  have pre36 : ∀ t, Steps p.tables e below (T32.setTop (mkF m 42 #[.val (.ref u1), .val (.int (0 : Int32)), .val (.int (0 : Int32)), .val (.int c0), .unset, .unset] [(.int (bif (if_icmp.holds .ge c0 (128 : Int32)) then (bif (if_icmp.holds .ge c0 (2048 : Int32)) then (3 : Int32) else (2 : Int32)) else (1 : Int32))), (.int (0 : Int32))])) t → Steps p.tables e below (s₁.setTop (entryFrame m #[(.ref u1)] 6)) t := by
    intro t k
    refine pre33 t ?_
    show Steps p.tables e below (T32.setTop (mkF m 23 #[.val (.ref u1), .val (.int (0 : Int32)), .val (.int (0 : Int32)), .val (.int c0), .unset, .unset] [(.int (128 : Int32)), (.int c0), (.int (0 : Int32))])) _
    rcases Bool.eq_false_or_eq_true (if_icmp.holds .ge c0 (128 : Int32)) with hb23_34 | hb23_34
    · refine XS.icmpYes X32.here hx rfl (pc0 := 23) (pc' := 30) rfl (hb hby d8_23) rfl hb23_34 (by decide) (by decide) ?_
      show Steps p.tables e below (T32.setTop (mkF m 30 #[.val (.ref u1), .val (.int (0 : Int32)), .val (.int (0 : Int32)), .val (.int c0), .unset, .unset] [(.int (0 : Int32))])) _
      refine XS.iloadN X32.here hx rfl (hb hby d8_30) rfl ?_
      refine XS.sipush X32.here hx rfl (hb hby d8_31) ?_
      rcases Bool.eq_false_or_eq_true (if_icmp.holds .ge c0 (2048 : Int32)) with hb34_35 | hb34_35
      · refine XS.icmpYes X32.here hx rfl (pc0 := 34) (pc' := 41) rfl (hb hby d8_34) rfl hb34_35 (by decide) (by decide) ?_
        refine XS.iconst X32.here hx rfl (hb hby d8_41) ?_
        have k : Steps p.tables e below (T32.setTop (mkF m 42 #[.val (.ref u1), .val (.int (0 : Int32)), .val (.int (0 : Int32)), .val (.int c0), .unset, .unset] [(.int (3 : Int32)), (.int (0 : Int32))])) t := by (try simp only [hb34_35] at k); simpa only [hb23_34, hb34_35, cond_true, cond_false] using k
        exact k
      · refine XS.icmpNo X32.here hx rfl (hb hby d8_34) rfl hb34_35 ?_
        refine XS.iconst X32.here hx rfl (hb hby d8_37) ?_
        refine XS.goto X32.here hx rfl (pc0 := 38) (pc' := 42) rfl (hb hby d8_38) (by decide) (by decide) ?_
        have k : Steps p.tables e below (T32.setTop (mkF m 42 #[.val (.ref u1), .val (.int (0 : Int32)), .val (.int (0 : Int32)), .val (.int c0), .unset, .unset] [(.int (2 : Int32)), (.int (0 : Int32))])) t := by (try simp only [hb34_35] at k); simpa only [hb23_34, hb34_35, cond_true, cond_false] using k
        exact k
    · refine XS.icmpNo X32.here hx rfl (hb hby d8_23) rfl hb23_34 ?_
      show Steps p.tables e below (T32.setTop (mkF m 26 #[.val (.ref u1), .val (.int (0 : Int32)), .val (.int (0 : Int32)), .val (.int c0), .unset, .unset] [(.int (0 : Int32))])) _
      refine XS.iconst X32.here hx rfl (hb hby d8_26) ?_
      refine XS.goto X32.here hx rfl (pc0 := 27) (pc' := 42) rfl (hb hby d8_27) (by decide) (by decide) ?_
      have k : Steps p.tables e below (T32.setTop (mkF m 42 #[.val (.ref u1), .val (.int (0 : Int32)), .val (.int (0 : Int32)), .val (.int c0), .unset, .unset] [(.int (1 : Int32)), (.int (0 : Int32))])) t := by simpa only [hb23_34, cond_true, cond_false] using k
      exact k
  obtain ⟨cq37, kq37, q37a, q37b, q37c⟩ := isOf hZ eq32 E1
  obtain ⟨_, _, ⟨T37, L37, k37, n37⟩, -, X37, ⟨Lc37, hQ37, l37, y37, z37⟩, st37⟩ := X32.virtualBack hx (y := (⟨"java/lang/String", "length", "()I"⟩ : MethodName)) (z := (⟨"java/lang/String", "length", "()I"⟩ : MethodName)) hown (mvT hZ (own_w hw 38 rfl)) (mvT hZ (own_w hw 39 rfl)) (notFace_of_selects (args := #[]) (mvT hZ (own_w hw 41 rfl))) (mvT hZ (own_w hw 41 rfl)) (mvT hZ (own_w hw 40 rfl)) (by decide) (backOf (W := 1) (rm_len l Z a0 hw [] u1 zc cd t kb N (ys.map Value.int) (2 : Int32) h0 n0 Z0 (own_lenrr2 cod) (O2.ext X00.2) hz E1 F1 F2 V1) hZ (own_w hw 42 rfl) (own_w hw 7 rfl) (by decide) (by decide)) q37a q37c (g := (mkF m 6 #[.val (.ref u1), .val (.int ((0 : Int32) + (own_sz c0))), .val (.int (1 : Int32)), .val (.int c0), .unset, .unset] [(.ref u1), (.int (1 : Int32))])) rfl (by rw [hml]; rfl) (Steps.refl _) (argsL := []) (rest := [(.int (1 : Int32))]) (lenOf pd_691884 rfl) rfl (by show 2 * 0 + _ ≤ _; exact Nat.le_of_eq rfl) (hb hby d8_6) (fun _ _ => ⟨rfl, eq32, (by decide : 0 + 0 ≤ _), (by decide : 0 + 0 ≤ _)⟩)
  dsimp only [Pt.U, Pt.locs, Pt.cells, Pt.slots] at X37 l37 y37 z37 st37 hQ37
  replace y37 : k37 = 0 := y37
  replace z37 : n37 = 0 := z37
  subst y37 z37
  obtain ⟨rfl, Nq37, eq37⟩ := hQ37
  have N37 : Fr n0 L37 := by rw [l37]; exact Fr.app N32 Nq37
  obtain ⟨cq38, kq38, q38a, q38b, q38c⟩ := isOf hZ eq37 E1
  obtain ⟨_, _, ⟨T38, L38, k38, n38⟩, -, X38, ⟨Lc38, hQ38, l38, y38, z38⟩, st38⟩ := X37.virtualBack hx (y := (⟨"java/lang/String", "charAt", "(I)C"⟩ : MethodName)) (z := (⟨"java/lang/String", "charAt", "(I)C"⟩ : MethodName)) hown (mvT hZ (own_w hw 48 rfl)) (mvT hZ (own_w hw 49 rfl)) (notFace_of_selects (args := #[]) (mvT hZ (own_w hw 51 rfl))) (mvT hZ (own_w hw 51 rfl)) (mvT hZ (own_w hw 50 rfl)) (by decide) (backOf (W := 0) (rm_chC2_1 l Z a0 hw [] u1 zc fm cd t kb N ys c0 c1 h0 n0 Z0 (O2.ext X00.2) hz (O4.ext X00.2) rf (O5.ext X00.2) (O6.ext X00.2) (O7.ext X00.2) E1 F1 F2 V1 cod q1) hZ (own_w hw 52 rfl) (own_w hw 7 rfl) (by decide) (by decide)) q38a q38c (g := (mkF m 14 #[.val (.ref u1), .val (.int ((0 : Int32) + (own_sz c0))), .val (.int (1 : Int32)), .val (.int c0), .unset, .unset] [(.int (1 : Int32)), (.ref u1)])) rfl (by rw [hml]; rfl) (Steps.refl _) (argsL := [(.int (1 : Int32))]) (rest := []) (lenOf pd_181558 rfl) rfl (by show 2 * 0 + _ ≤ _; exact Nat.le_of_eq rfl) (hb hby d8_14) (fun _ _ => ⟨rfl, eq37, (by decide : 0 + 0 ≤ _), (by decide : 0 + 0 ≤ _)⟩)
  dsimp only [Pt.U, Pt.locs, Pt.cells, Pt.slots] at X38 l38 y38 z38 st38 hQ38
  replace y38 : k38 = 0 := y38
  replace z38 : n38 = 0 := z38
  subst y38 z38
  obtain ⟨rfl, Nq38, eq38⟩ := hQ38
  have N38 : Fr n0 L38 := by rw [l38]; exact Fr.app N37 Nq38
  have pre39 : ∀ t, Steps p.tables e below (T38.setTop (mkF m 23 #[.val (.ref u1), .val (.int ((0 : Int32) + (own_sz c0))), .val (.int (1 : Int32)), .val (.int c1), .unset, .unset] [(.int (128 : Int32)), (.int c1), (.int ((0 : Int32) + (own_sz c0)))])) t → Steps p.tables e below (s₁.setTop (entryFrame m #[(.ref u1)] 6)) t := by
    intro t k
    refine pre36 t ?_
    show Steps p.tables e below (T32.setTop (mkF m 42 #[.val (.ref u1), .val (.int (0 : Int32)), .val (.int (0 : Int32)), .val (.int c0), .unset, .unset] [(.int (own_sz c0)), (.int (0 : Int32))])) _
    refine XS.iadd X32.here hx rfl (hb hby d8_42) rfl ?_
    show Steps p.tables e below (T32.setTop (mkF m 43 #[.val (.ref u1), .val (.int (0 : Int32)), .val (.int (0 : Int32)), .val (.int c0), .unset, .unset] [(.int ((0 : Int32) + (own_sz c0)))])) _
    refine XS.istoreN X32.here hx rfl (hb hby d8_43) rfl (l' := #[.val (.ref u1), .val (.int ((0 : Int32) + (own_sz c0))), .val (.int (0 : Int32)), .val (.int c0), .unset, .unset]) rfl ?_
    refine XS.iinc X32.here hx rfl (hb hby d8_44) rfl (l' := #[.val (.ref u1), .val (.int ((0 : Int32) + (own_sz c0))), .val (.int (1 : Int32)), .val (.int c0), .unset, .unset]) rfl ?_
    refine XS.goto X32.here hx rfl (pc0 := 47) (pc' := 4) rfl (hb hby d8_47) (by decide) (by decide) ?_
    refine XS.iloadN X32.here hx rfl (hb hby d8_4) rfl ?_
    refine XS.aloadN X32.here hx rfl (hb hby d8_5) rfl rfl ?_
    refine st37.trans ?_
    refine XS.icmpNo X37.here hx rfl (hb hby d8_9) rfl (by decide) ?_
    refine XS.aloadN X37.here hx rfl (hb hby d8_12) rfl rfl ?_
    show Steps p.tables e below (T37.setTop (mkF m 13 #[.val (.ref u1), .val (.int ((0 : Int32) + (own_sz c0))), .val (.int (1 : Int32)), .val (.int c0), .unset, .unset] [(.ref u1)])) _
    refine XS.iloadN X37.here hx rfl (hb hby d8_13) rfl ?_
    refine st38.trans ?_
    refine XS.istoreN X38.here hx rfl (hb hby d8_17) rfl (l' := #[.val (.ref u1), .val (.int ((0 : Int32) + (own_sz c0))), .val (.int (1 : Int32)), .val (.int c1), .unset, .unset]) rfl ?_
    refine XS.iloadN X38.here hx rfl (hb hby d8_18) rfl ?_
    refine XS.iloadN X38.here hx rfl (hb hby d8_19) rfl ?_
    refine XS.sipush X38.here hx rfl (hb hby d8_20) ?_
    exact k
  have pre42 : ∀ t, Steps p.tables e below (T38.setTop (mkF m 42 #[.val (.ref u1), .val (.int ((0 : Int32) + (own_sz c0))), .val (.int (1 : Int32)), .val (.int c1), .unset, .unset] [(.int (bif (if_icmp.holds .ge c1 (128 : Int32)) then (bif (if_icmp.holds .ge c1 (2048 : Int32)) then (3 : Int32) else (2 : Int32)) else (1 : Int32))), (.int ((0 : Int32) + (own_sz c0)))])) t → Steps p.tables e below (s₁.setTop (entryFrame m #[(.ref u1)] 6)) t := by
    intro t k
    refine pre39 t ?_
    show Steps p.tables e below (T38.setTop (mkF m 23 #[.val (.ref u1), .val (.int ((0 : Int32) + (own_sz c0))), .val (.int (1 : Int32)), .val (.int c1), .unset, .unset] [(.int (128 : Int32)), (.int c1), (.int ((0 : Int32) + (own_sz c0)))])) _
    rcases Bool.eq_false_or_eq_true (if_icmp.holds .ge c1 (128 : Int32)) with hb23_40 | hb23_40
    · refine XS.icmpYes X38.here hx rfl (pc0 := 23) (pc' := 30) rfl (hb hby d8_23) rfl hb23_40 (by decide) (by decide) ?_
      refine XS.iloadN X38.here hx rfl (hb hby d8_30) rfl ?_
      show Steps p.tables e below (T38.setTop (mkF m 31 #[.val (.ref u1), .val (.int ((0 : Int32) + (own_sz c0))), .val (.int (1 : Int32)), .val (.int c1), .unset, .unset] [(.int c1), (.int ((0 : Int32) + (own_sz c0)))])) _
      refine XS.sipush X38.here hx rfl (hb hby d8_31) ?_
      rcases Bool.eq_false_or_eq_true (if_icmp.holds .ge c1 (2048 : Int32)) with hb34_41 | hb34_41
      · refine XS.icmpYes X38.here hx rfl (pc0 := 34) (pc' := 41) rfl (hb hby d8_34) rfl hb34_41 (by decide) (by decide) ?_
        refine XS.iconst X38.here hx rfl (hb hby d8_41) ?_
        have k : Steps p.tables e below (T38.setTop (mkF m 42 #[.val (.ref u1), .val (.int ((0 : Int32) + (own_sz c0))), .val (.int (1 : Int32)), .val (.int c1), .unset, .unset] [(.int (3 : Int32)), (.int ((0 : Int32) + (own_sz c0)))])) t := by (try simp only [hb34_41] at k); simpa only [hb23_40, hb34_41, cond_true, cond_false] using k
        exact k
      · refine XS.icmpNo X38.here hx rfl (hb hby d8_34) rfl hb34_41 ?_
        refine XS.iconst X38.here hx rfl (hb hby d8_37) ?_
        refine XS.goto X38.here hx rfl (pc0 := 38) (pc' := 42) rfl (hb hby d8_38) (by decide) (by decide) ?_
        have k : Steps p.tables e below (T38.setTop (mkF m 42 #[.val (.ref u1), .val (.int ((0 : Int32) + (own_sz c0))), .val (.int (1 : Int32)), .val (.int c1), .unset, .unset] [(.int (2 : Int32)), (.int ((0 : Int32) + (own_sz c0)))])) t := by (try simp only [hb34_41] at k); simpa only [hb23_40, hb34_41, cond_true, cond_false] using k
        exact k
    · refine XS.icmpNo X38.here hx rfl (hb hby d8_23) rfl hb23_40 ?_
      refine XS.iconst X38.here hx rfl (hb hby d8_26) ?_
      show Steps p.tables e below (T38.setTop (mkF m 27 #[.val (.ref u1), .val (.int ((0 : Int32) + (own_sz c0))), .val (.int (1 : Int32)), .val (.int c1), .unset, .unset] [(.int (1 : Int32)), (.int ((0 : Int32) + (own_sz c0)))])) _
      refine XS.goto X38.here hx rfl (pc0 := 27) (pc' := 42) rfl (hb hby d8_27) (by decide) (by decide) ?_
      have k : Steps p.tables e below (T38.setTop (mkF m 42 #[.val (.ref u1), .val (.int ((0 : Int32) + (own_sz c0))), .val (.int (1 : Int32)), .val (.int c1), .unset, .unset] [(.int (1 : Int32)), (.int ((0 : Int32) + (own_sz c0)))])) t := by simpa only [hb23_40, cond_true, cond_false] using k
      exact k
  obtain ⟨cq43, kq43, q43a, q43b, q43c⟩ := isOf hZ eq38 E1
  obtain ⟨_, _, ⟨T43, L43, k43, n43⟩, -, X43, ⟨Lc43, hQ43, l43, y43, z43⟩, st43⟩ := X38.virtualBack hx (y := (⟨"java/lang/String", "length", "()I"⟩ : MethodName)) (z := (⟨"java/lang/String", "length", "()I"⟩ : MethodName)) hown (mvT hZ (own_w hw 38 rfl)) (mvT hZ (own_w hw 39 rfl)) (notFace_of_selects (args := #[]) (mvT hZ (own_w hw 41 rfl))) (mvT hZ (own_w hw 41 rfl)) (mvT hZ (own_w hw 40 rfl)) (by decide) (backOf (W := 1) (rm_len l Z a0 hw [] u1 zc cd t kb N (ys.map Value.int) (2 : Int32) h0 n0 Z0 (own_lenrr2 cod) (O2.ext X00.2) hz E1 F1 F2 V1) hZ (own_w hw 42 rfl) (own_w hw 7 rfl) (by decide) (by decide)) q43a q43c (g := (mkF m 6 #[.val (.ref u1), .val (.int (((0 : Int32) + (own_sz c0)) + (own_sz c1))), .val (.int (2 : Int32)), .val (.int c1), .unset, .unset] [(.ref u1), (.int (2 : Int32))])) rfl (by rw [hml]; rfl) (Steps.refl _) (argsL := []) (rest := [(.int (2 : Int32))]) (lenOf pd_691884 rfl) rfl (by show 2 * 0 + _ ≤ _; exact Nat.le_of_eq rfl) (hb hby d8_6) (fun _ _ => ⟨rfl, eq38, (by decide : 0 + 0 ≤ _), (by decide : 0 + 0 ≤ _)⟩)
  dsimp only [Pt.U, Pt.locs, Pt.cells, Pt.slots] at X43 l43 y43 z43 st43 hQ43
  replace y43 : k43 = 0 := y43
  replace z43 : n43 = 0 := z43
  subst y43 z43
  obtain ⟨rfl, Nq43, eq43⟩ := hQ43
  have N43 : Fr n0 L43 := by rw [l43]; exact Fr.app N38 Nq43
  obtain ⟨T44, h44, k44, X44, e44, E44, A44, st44⟩ := newP X43 hx hZ (own_w hw 23 rfl) eq43 (g := (mkF m 51 #[.val (.ref u1), .val (.int (((0 : Int32) + (own_sz c0)) + (own_sz c1))), .val (.int (2 : Int32)), .val (.int c1), .unset, .unset] [(.int (((0 : Int32) + (own_sz c0)) + (own_sz c1)))])) rfl (hb hby d8_51) rfl (own_szN2 c0 c1).1 (cap := 9) (own_szN2 c0 c1).2 (by decide) (by decide) (by decide)
  obtain ⟨o, g44⟩ : ∃ z, z = h0.size := ⟨_, rfl⟩
  rw [← g44] at A44 st44
  have fr_o : n0 ≤ o := Nat.le_trans Z0 (Nat.le_of_eq g44.symm)
  have ne_u1_o : u1 ≠ o := Nat.ne_of_lt (Nat.lt_of_lt_of_le E1.lt (Nat.le_of_eq g44.symm))
  have ne_t_o : t ≠ o := Nat.ne_of_lt (Nat.lt_of_lt_of_le V1.lt (Nat.le_of_eq g44.symm))
  have sz_o : h0.size ≤ o := Nat.le_trans K0.1 (Nat.le_of_eq g44.symm)
  have Z44 : n0 ≤ h44.size := Nat.le_trans Z0 E44.1
  have K44 : Keep h0 h44 [] := K0.ext E44
  have Ox44 : Old Z Z.heap.size h44 := X00.ext E44
  have V44 := Arv.new A44 (own_szN2 c0 c1).1
  have Vx0 : Arv Z h44 o k44 .byte (((0 : Int32) + (own_sz c0)) + (own_sz c1)) (([(0 : Int32), (0 : Int32), (0 : Int32), (0 : Int32), (0 : Int32), (0 : Int32), (0 : Int32), (0 : Int32), (0 : Int32)] : List Int32).map Value.int) (.int (0 : Int32)) := V44.pad (pad_rep [] (.int (0 : Int32)) 9)
  have pre45 : ∀ t, Steps p.tables e below (T44.setTop (mkF m 59 #[.val (.ref u1), .val (.int (((0 : Int32) + (own_sz c0)) + (own_sz c1))), .val (.ref o), .val (.int (0 : Int32)), .val (.int (0 : Int32)), .unset] [])) t → Steps p.tables e below (s₁.setTop (entryFrame m #[(.ref u1)] 6)) t := by
    intro t k
    refine pre42 t ?_
    show Steps p.tables e below (T38.setTop (mkF m 42 #[.val (.ref u1), .val (.int ((0 : Int32) + (own_sz c0))), .val (.int (1 : Int32)), .val (.int c1), .unset, .unset] [(.int (own_sz c1)), (.int ((0 : Int32) + (own_sz c0)))])) _
    refine XS.iadd X38.here hx rfl (hb hby d8_42) rfl ?_
    refine XS.istoreN X38.here hx rfl (hb hby d8_43) rfl (l' := #[.val (.ref u1), .val (.int (((0 : Int32) + (own_sz c0)) + (own_sz c1))), .val (.int (1 : Int32)), .val (.int c1), .unset, .unset]) rfl ?_
    show Steps p.tables e below (T38.setTop (mkF m 44 #[.val (.ref u1), .val (.int (((0 : Int32) + (own_sz c0)) + (own_sz c1))), .val (.int (1 : Int32)), .val (.int c1), .unset, .unset] [])) _
    refine XS.iinc X38.here hx rfl (hb hby d8_44) rfl (l' := #[.val (.ref u1), .val (.int (((0 : Int32) + (own_sz c0)) + (own_sz c1))), .val (.int (2 : Int32)), .val (.int c1), .unset, .unset]) rfl ?_
    refine XS.goto X38.here hx rfl (pc0 := 47) (pc' := 4) rfl (hb hby d8_47) (by decide) (by decide) ?_
    refine XS.iloadN X38.here hx rfl (hb hby d8_4) rfl ?_
    refine XS.aloadN X38.here hx rfl (hb hby d8_5) rfl rfl ?_
    refine st43.trans ?_
    refine XS.icmpYes X43.here hx rfl (pc0 := 9) (pc' := 50) rfl (hb hby d8_9) rfl (by decide) (by decide) (by decide) ?_
    refine XS.iloadN X43.here hx rfl (hb hby d8_50) rfl ?_
    refine st44 _ ?_
    show Steps p.tables e below (T44.setTop (mkF m 53 #[.val (.ref u1), .val (.int (((0 : Int32) + (own_sz c0)) + (own_sz c1))), .val (.int (2 : Int32)), .val (.int c1), .unset, .unset] [(.ref o)])) _
    refine XS.astoreN X44.here hx rfl (hb hby d8_53) rfl rfl (l' := #[.val (.ref u1), .val (.int (((0 : Int32) + (own_sz c0)) + (own_sz c1))), .val (.ref o), .val (.int c1), .unset, .unset]) rfl ?_
    refine XS.iconst X44.here hx rfl (hb hby d8_54) ?_
    refine XS.istoreN X44.here hx rfl (hb hby d8_55) rfl (l' := #[.val (.ref u1), .val (.int (((0 : Int32) + (own_sz c0)) + (own_sz c1))), .val (.ref o), .val (.int (0 : Int32)), .unset, .unset]) rfl ?_
    refine XS.iconst X44.here hx rfl (hb hby d8_56) ?_
    refine XS.istore X44.here hx rfl (hb hby d8_57) rfl (l' := #[.val (.ref u1), .val (.int (((0 : Int32) + (own_sz c0)) + (own_sz c1))), .val (.ref o), .val (.int (0 : Int32)), .val (.int (0 : Int32)), .unset]) rfl ?_
    exact k
  obtain ⟨T46, h46, L46, X46, e46, N46, Kt46, Vt46, st46⟩ := tn u1 (((0 : Int32) + (own_sz c0)) + (own_sz c1)) o (0 : Int32) (0 : Int32) (.unset) (2 : Int32) c0 k44 (((0 : Int32) + (own_sz c0)) + (own_sz c1)) ([(0 : Int32), (0 : Int32), (0 : Int32), (0 : Int32), (0 : Int32), (0 : Int32), (0 : Int32), (0 : Int32), (0 : Int32)] : List Int32) X44 hx hZ hw hby hml hown e44 N43 Z44 (rm_len l Z a0 hw [] u1 zc cd t kb N (ys.map Value.int) (2 : Int32) h44 n0 Z44 (own_lenrr2 cod) (O2.ext Ox44.2) hz (E1.ext E44) (F1.ext E44) (F2.ext E44) (V1.ext E44)) (rm_chC2_0 l Z a0 hw [] u1 zc fm cd t kb N ys c0 c1 h44 n0 Z44 (O2.ext Ox44.2) hz (O4.ext Ox44.2) rf (O5.ext Ox44.2) (O6.ext Ox44.2) (O7.ext Ox44.2) (E1.ext E44) (F1.ext E44) (F2.ext E44) (V1.ext E44) cod q0) (by decide) (Or.inl rfl) (E1.ext E44) Vx0 fr_o ne_u1_o (by rfl) (own_szx2_0 c0 c1) (own_szf2_0 c0 c1)
  have Z46 : n0 ≤ h46.size := Nat.le_trans Z44 Kt46.1
  have K46 : Keep h0 h46 [] := K44.trans Kt46 (allS (Or.inr sz_o) all0)
  have Oz46 : Old Z Z.heap.size h46 := Ox44.keep Kt46 (allS (Nat.le_trans X00.2.1 sz_o) all0)
  have pre47 : ∀ t, Steps p.tables e below (T46.setTop (mkF m 59 #[.val (.ref u1), .val (.int (((0 : Int32) + (own_sz c0)) + (own_sz c1))), .val (.ref o), .val (.int ((0 : Int32) + (own_sz c0))), .val (.int (1 : Int32)), .val (.int c0)] [])) t → Steps p.tables e below (s₁.setTop (entryFrame m #[(.ref u1)] 6)) t := by
    intro t k
    refine pre45 t ?_
    refine st46 _ ?_
    exact k
  obtain ⟨T48, h48, L48, X48, e48, N48, Kt48, Vt48, st48⟩ := tn u1 (((0 : Int32) + (own_sz c0)) + (own_sz c1)) o ((0 : Int32) + (own_sz c0)) (1 : Int32) (.val (.int c0)) (2 : Int32) c1 k44 (((0 : Int32) + (own_sz c0)) + (own_sz c1)) (own_wr ([(0 : Int32), (0 : Int32), (0 : Int32), (0 : Int32), (0 : Int32), (0 : Int32), (0 : Int32), (0 : Int32), (0 : Int32)] : List Int32) (0 : Int32) c0) X46 hx hZ hw hby hml hown e46 N46 Z46 (rm_len l Z a0 hw [] u1 zc cd t kb N (ys.map Value.int) (2 : Int32) h46 n0 Z46 (own_lenrr2 cod) (O2.ext Oz46.2) hz ((E1.ext E44).keep Kt46) ((F1.ext E44).keep Kt46 (ninS ne_u1_o nin0)) ((F2.ext E44).keep Kt46 (ninS ne_u1_o nin0)) ((V1.ext E44).keep Kt46 (ninS ne_t_o nin0))) (rm_chC2_1 l Z a0 hw [] u1 zc fm cd t kb N ys c0 c1 h46 n0 Z46 (O2.ext Oz46.2) hz (O4.ext Oz46.2) rf (O5.ext Oz46.2) (O6.ext Oz46.2) (O7.ext Oz46.2) ((E1.ext E44).keep Kt46) ((F1.ext E44).keep Kt46 (ninS ne_u1_o nin0)) ((F2.ext E44).keep Kt46 (ninS ne_u1_o nin0)) ((V1.ext E44).keep Kt46 (ninS ne_t_o nin0)) cod q1) (by decide) (Or.inr ⟨_, rfl⟩) ((E1.ext E44).keep Kt46) Vt46 fr_o ne_u1_o (by simp only [own_wrl]; rfl) (own_szx2_1 c0 c1) (own_szf2_1 c0 c1)
  have Z48 : n0 ≤ h48.size := Nat.le_trans Z46 Kt48.1
  have K48 : Keep h0 h48 [] := K46.trans Kt48 (allS (Or.inr sz_o) all0)
  have Oz48 : Old Z Z.heap.size h48 := Oz46.keep Kt48 (allS (Nat.le_trans X00.2.1 sz_o) all0)
  obtain ⟨cq49, kq49, q49a, q49b, q49c⟩ := isOf hZ e48 (((E1.ext E44).keep Kt46).keep Kt48)
  obtain ⟨_, _, ⟨T49, L49, k49, n49⟩, -, X49, ⟨Lc49, hQ49, l49, y49, z49⟩, st49⟩ := X48.virtualBack hx (y := (⟨"java/lang/String", "length", "()I"⟩ : MethodName)) (z := (⟨"java/lang/String", "length", "()I"⟩ : MethodName)) hown (mvT hZ (own_w hw 38 rfl)) (mvT hZ (own_w hw 39 rfl)) (notFace_of_selects (args := #[]) (mvT hZ (own_w hw 41 rfl))) (mvT hZ (own_w hw 41 rfl)) (mvT hZ (own_w hw 40 rfl)) (by decide) (backOf (W := 1) (rm_len l Z a0 hw [] u1 zc cd t kb N (ys.map Value.int) (2 : Int32) h48 n0 Z48 (own_lenrr2 cod) (O2.ext Oz48.2) hz (((E1.ext E44).keep Kt46).keep Kt48) (((F1.ext E44).keep Kt46 (ninS ne_u1_o nin0)).keep Kt48 (ninS ne_u1_o nin0)) (((F2.ext E44).keep Kt46 (ninS ne_u1_o nin0)).keep Kt48 (ninS ne_u1_o nin0)) (((V1.ext E44).keep Kt46 (ninS ne_t_o nin0)).keep Kt48 (ninS ne_t_o nin0))) hZ (own_w hw 42 rfl) (own_w hw 7 rfl) (by decide) (by decide)) q49a q49c (g := (mkF m 62 #[.val (.ref u1), .val (.int (((0 : Int32) + (own_sz c0)) + (own_sz c1))), .val (.ref o), .val (.int (((0 : Int32) + (own_sz c0)) + (own_sz c1))), .val (.int (2 : Int32)), .val (.int c1)] [(.ref u1), (.int (2 : Int32))])) rfl (by rw [hml]; rfl) (Steps.refl _) (argsL := []) (rest := [(.int (2 : Int32))]) (lenOf pd_691884 rfl) rfl (by show 2 * 0 + _ ≤ _; exact Nat.le_of_eq rfl) (hb hby d8_62) (fun _ _ => ⟨rfl, e48, (by decide : 1 + 0 ≤ _), (by decide : 9 + 0 ≤ _)⟩)
  dsimp only [Pt.U, Pt.locs, Pt.cells, Pt.slots] at X49 l49 y49 z49 st49 hQ49
  replace y49 : k49 = 1 := y49
  replace z49 : n49 = 9 := z49
  subst y49 z49
  obtain ⟨rfl, Nq49, eq49⟩ := hQ49
  have N49 : Fr n0 L49 := by rw [l49]; exact Fr.app N48 Nq49
  obtain ⟨fs, hr, hrun, hended, hW, hsame⟩ := X49.leave (v := some (.ref o)) (fun h => by rw [Bd.returns] at h; cases h)
  refine ⟨_, _, pre47 _ ?_, hrun, hended, _, _, rfl, ?_, ⟨_, rfl⟩, hW, hsame.mono (by decide) (by decide)⟩
  · refine st48 _ ?_
    refine XS.iload X48.here hx rfl (hb hby d8_59) rfl ?_
    refine XS.aloadN X48.here hx rfl (hb hby d8_61) rfl rfl ?_
    refine st49.trans ?_
    show Steps p.tables e below (T49.setTop (mkF m 65 #[.val (.ref u1), .val (.int (((0 : Int32) + (own_sz c0)) + (own_sz c1))), .val (.ref o), .val (.int (((0 : Int32) + (own_sz c0)) + (own_sz c1))), .val (.int (2 : Int32)), .val (.int c1)] [(.int (2 : Int32)), (.int (2 : Int32))])) _
    refine XS.icmpYes X49.here hx rfl (pc0 := 65) (pc' := 196) rfl (hb hby d8_65) rfl (by decide) (by decide) (by decide) ?_
    refine XS.aloadN X49.here hx rfl (hb hby d8_196) rfl rfl ?_
    show Steps p.tables e below (T49.setTop (mkF m 197 #[.val (.ref u1), .val (.int (((0 : Int32) + (own_sz c0)) + (own_sz c1))), .val (.ref o), .val (.int (((0 : Int32) + (own_sz c0)) + (own_sz c1))), .val (.int (2 : Int32)), .val (.int c1)] [(.ref o)])) _
    jvm_step X49.here [X49.here.top, hx, (hb hby d8_197), X49.method', Bd.returns, Value.isRef, FieldType.isReference]
    first | (intro acts; rw [hr _ acts rfl rfl rfl]) | rw [hr _ _ rfl rfl rfl]
    exact Steps.refl _
  · show Q_rm_kept2 Z _ _ _ _ _ _ _ _ _ _ h0 n0 _ T49.heap _
    rw [eq49]
    exact ⟨o, k44, rfl, N49, K48, sz_o, Vt48⟩
theorem ef_rm_kept3 (m : MethodId) (x0 : Addr) : entryFrame m #[(.ref x0)] 6 = mkF m 0 #[.val (.ref x0), .unset, .unset, .unset, .unset, .unset] [] := by first | (simp [entryFrame, mkF, argsToLocals, Value.category]; done) | rfl
def Q_rm_kept3 (Z : State) (u1 : Addr) (zc : Int32) (fm : Value) (cd : Int32) (t : Addr) (kb : ClassId) (N : Int32) (ys : List Int32) (c0 : Int32) (c1 : Int32) (c2 : Int32) (h0 : Heap) (n0 : Nat) (v : Option Value) (h : Heap) (L : List Loc) : Prop := ∃ (o : Addr) (ko : ClassId), v = some (.ref o) ∧ Fr n0 L ∧ Keep h0 h [] ∧ h0.size ≤ o ∧ Arv Z h o ko .byte ((((0 : Int32) + (own_sz c0)) + (own_sz c1)) + (own_sz c2)) ((own_wr (own_wr (own_wr ([(0 : Int32), (0 : Int32), (0 : Int32), (0 : Int32), (0 : Int32), (0 : Int32), (0 : Int32), (0 : Int32), (0 : Int32)] : List Int32) (0 : Int32) c0) ((0 : Int32) + (own_sz c0)) c1) (((0 : Int32) + (own_sz c0)) + (own_sz c1)) c2).map Value.int) (.int (0 : Int32))
set_option maxRecDepth 65536 in
set_option maxHeartbeats 40000000 in
theorem rm_kept3 (l : Launch) (Z : State) (a0 : Array Value) (hw : ∀ d ∈ tables_1, d.before a0 Z = true) (ws : List Jvm.Cond) (u1 : Addr) (zc : Int32) (fm : Value) (cd : Int32) (t : Addr) (kb : ClassId) (N : Int32) (ys : List Int32) (c0 : Int32) (c1 : Int32) (c2 : Int32) (h0 : Heap) (n0 : Nat) (Z0 : n0 ≤ h0.size) (X00 : Old Z Z.heap.size h0) (O2 : Sta Z Z.heap "java/lang/String" "COMPACT_STRINGS" "Z" (.int zc)) (hz : ¬ zc = 0) (O4 : Sta Z Z.heap "jdk/internal/util/Preconditions" "SIOOBE_FORMATTER" "Ljava/util/function/BiFunction;" fm) (rf : fm.isRef = true) (O5 : Sta Z Z.heap "java/lang/StringUTF16" "$assertionsDisabled" "Z" (.int (1 : Int32))) (O6 : Sta Z Z.heap "java/lang/StringUTF16" "HI_BYTE_SHIFT" "I" (.int (0 : Int32))) (O7 : Sta Z Z.heap "java/lang/StringUTF16" "LO_BYTE_SHIFT" "I" (.int (8 : Int32))) (E1 : Exa Z h0 u1 "java/lang/String") (F1 : Fld Z h0 u1 "java/lang/String" "coder" "B" (.int cd)) (F2 : Fld Z h0 u1 "java/lang/String" "value" "[B" (.ref t)) (V1 : Arv Z h0 t kb .byte N (ys.map Value.int) (.int (0 : Int32))) (cod : own_cod [c0, c1, c2] cd N ys) (q0 : ¬ c0 < 0 ∧ ¬ (65535 : Int32) < c0) (q1 : ¬ c1 < 0 ∧ ¬ (65535 : Int32) < c1) (q2 : ¬ c2 < 0 ∧ ¬ (65535 : Int32) < c2) :
    MetFree l (⟨"com/example/sonde/sonde/store/CurrentVersions", "kept", "(Ljava/lang/String;)[B"⟩ : MethodName) (head1 (Jvm.Cond.code (⟨"com/example/sonde/sonde/store/CurrentVersions", "kept", "(Ljava/lang/String;)[B"⟩ : MethodName) prog_30_method_12_code 6 (some (.array .byte)) :: ws) ({ frames := 6, cells := 1, slots := 9, locals := 130 } : Room)) (fun a U => a = #[(.ref u1)] ∧ Z.Warmed39 U.vm ∧ U.heap = h0) (fun _ _ _ _ _ => True) (fun _ U o U' => ∃ v L, o = .returned v ∧ Q_rm_kept3 Z u1 zc fm cd t kb N ys c0 c1 c2 h0 n0 v U'.heap L ∧ FrameEnd U o U' L ({ frames := 6, cells := 1, slots := 9, locals := 130 } : Room).cells ({ frames := 6, cells := 1, slots := 9, locals := 130 } : Room).slots) := by
  refine MetFree.of_bodySF (plainFor_of_name pn_771912) hisR ?_
  intro p e s m args below meth c s₁ Bd hml0 hP hK
  obtain ⟨rfl, hZ, hh⟩ := hP
  have hx := Bd.exec
  have hby := Bd.bytes
  have hml : c.maxLocals = 6 := hml0
  have hown : s.vm.findClass "com/example/sonde/sonde/store/CurrentVersions" = some m.cls := findClass_of_methodNamed Bd.named
  have hnm := (name_of_methodNamed Bd.named Bd.method).1
  have X0 : Stand p l e ({ frames := 6, cells := 1, slots := 9, locals := 130 } : Room) s m #[(.ref u1)] below meth c s₁ [] 0 0 := Stand.of_body Bd
  have e0 : s₁.heap = h0 := by rw [← hh, Bd.state]; rfl
  have N0 := Fr.nil n0
  have K0 : Keep h0 h0 [] := Keep.refl _ _
  have pre0 : ∀ t, Steps p.tables e below (s₁.setTop (mkF m 0 #[.val (.ref u1), .unset, .unset, .unset, .unset, .unset] [])) t → Steps p.tables e below (s₁.setTop (entryFrame m #[(.ref u1)] 6)) t := fun t k => castTop (ef_rm_kept3 m u1) k
  obtain ⟨cq31, kq31, q31a, q31b, q31c⟩ := isOf hZ e0 E1
  obtain ⟨_, _, ⟨T31, L31, k31, n31⟩, -, X31, ⟨Lc31, hQ31, l31, y31, z31⟩, st31⟩ := X0.virtualBack hx (y := (⟨"java/lang/String", "length", "()I"⟩ : MethodName)) (z := (⟨"java/lang/String", "length", "()I"⟩ : MethodName)) hown (mvT hZ (own_w hw 38 rfl)) (mvT hZ (own_w hw 39 rfl)) (notFace_of_selects (args := #[]) (mvT hZ (own_w hw 41 rfl))) (mvT hZ (own_w hw 41 rfl)) (mvT hZ (own_w hw 40 rfl)) (by decide) (backOf (W := 1) (rm_len l Z a0 hw [] u1 zc cd t kb N (ys.map Value.int) (3 : Int32) h0 n0 Z0 (own_lenrr3 cod) (O2.ext X00.2) hz E1 F1 F2 V1) hZ (own_w hw 42 rfl) (own_w hw 7 rfl) (by decide) (by decide)) q31a q31c (g := (mkF m 6 #[.val (.ref u1), .val (.int (0 : Int32)), .val (.int (0 : Int32)), .unset, .unset, .unset] [(.ref u1), (.int (0 : Int32))])) rfl (by rw [hml]; rfl) (Steps.refl _) (argsL := []) (rest := [(.int (0 : Int32))]) (lenOf pd_691884 rfl) rfl (by show 2 * 0 + _ ≤ _; exact Nat.le_of_eq rfl) (hb hby d8_6) (fun _ _ => ⟨rfl, e0, (by decide : 0 + 0 ≤ _), (by decide : 0 + 0 ≤ _)⟩)
  dsimp only [Pt.U, Pt.locs, Pt.cells, Pt.slots] at X31 l31 y31 z31 st31 hQ31
  replace y31 : k31 = 0 := y31
  replace z31 : n31 = 0 := z31
  subst y31 z31
  obtain ⟨rfl, Nq31, eq31⟩ := hQ31
  have N31 : Fr n0 L31 := by rw [l31]; exact Fr.app N0 Nq31
  obtain ⟨cq32, kq32, q32a, q32b, q32c⟩ := isOf hZ eq31 E1
  obtain ⟨_, _, ⟨T32, L32, k32, n32⟩, -, X32, ⟨Lc32, hQ32, l32, y32, z32⟩, st32⟩ := X31.virtualBack hx (y := (⟨"java/lang/String", "charAt", "(I)C"⟩ : MethodName)) (z := (⟨"java/lang/String", "charAt", "(I)C"⟩ : MethodName)) hown (mvT hZ (own_w hw 48 rfl)) (mvT hZ (own_w hw 49 rfl)) (notFace_of_selects (args := #[]) (mvT hZ (own_w hw 51 rfl))) (mvT hZ (own_w hw 51 rfl)) (mvT hZ (own_w hw 50 rfl)) (by decide) (backOf (W := 0) (rm_chC3_0 l Z a0 hw [] u1 zc fm cd t kb N ys c0 c1 c2 h0 n0 Z0 (O2.ext X00.2) hz (O4.ext X00.2) rf (O5.ext X00.2) (O6.ext X00.2) (O7.ext X00.2) E1 F1 F2 V1 cod q0) hZ (own_w hw 52 rfl) (own_w hw 7 rfl) (by decide) (by decide)) q32a q32c (g := (mkF m 14 #[.val (.ref u1), .val (.int (0 : Int32)), .val (.int (0 : Int32)), .unset, .unset, .unset] [(.int (0 : Int32)), (.ref u1)])) rfl (by rw [hml]; rfl) (Steps.refl _) (argsL := [(.int (0 : Int32))]) (rest := []) (lenOf pd_181558 rfl) rfl (by show 2 * 0 + _ ≤ _; exact Nat.le_of_eq rfl) (hb hby d8_14) (fun _ _ => ⟨rfl, eq31, (by decide : 0 + 0 ≤ _), (by decide : 0 + 0 ≤ _)⟩)
  dsimp only [Pt.U, Pt.locs, Pt.cells, Pt.slots] at X32 l32 y32 z32 st32 hQ32
  replace y32 : k32 = 0 := y32
  replace z32 : n32 = 0 := z32
  subst y32 z32
  obtain ⟨rfl, Nq32, eq32⟩ := hQ32
  have N32 : Fr n0 L32 := by rw [l32]; exact Fr.app N31 Nq32
  have pre33 : ∀ t, Steps p.tables e below (T32.setTop (mkF m 23 #[.val (.ref u1), .val (.int (0 : Int32)), .val (.int (0 : Int32)), .val (.int c0), .unset, .unset] [(.int (128 : Int32)), (.int c0), (.int (0 : Int32))])) t → Steps p.tables e below (s₁.setTop (entryFrame m #[(.ref u1)] 6)) t := by
    intro t k
    refine pre0 t ?_
    show Steps p.tables e below (s₁.setTop (mkF m 0 #[.val (.ref u1), .unset, .unset, .unset, .unset, .unset] [])) _
    refine XS.iconst X0.here hx rfl (hb hby d8_0) ?_
    refine XS.istoreN X0.here hx rfl (hb hby d8_1) rfl (l' := #[.val (.ref u1), .val (.int (0 : Int32)), .unset, .unset, .unset, .unset]) rfl ?_
    refine XS.iconst X0.here hx rfl (hb hby d8_2) ?_
    refine XS.istoreN X0.here hx rfl (hb hby d8_3) rfl (l' := #[.val (.ref u1), .val (.int (0 : Int32)), .val (.int (0 : Int32)), .unset, .unset, .unset]) rfl ?_
    refine XS.iloadN X0.here hx rfl (hb hby d8_4) rfl ?_
    refine XS.aloadN X0.here hx rfl (hb hby d8_5) rfl rfl ?_
    refine st31.trans ?_
    refine XS.icmpNo X31.here hx rfl (hb hby d8_9) rfl (by decide) ?_
    show Steps p.tables e below (T31.setTop (mkF m 12 #[.val (.ref u1), .val (.int (0 : Int32)), .val (.int (0 : Int32)), .unset, .unset, .unset] [])) _
    refine XS.aloadN X31.here hx rfl (hb hby d8_12) rfl rfl ?_
    refine XS.iloadN X31.here hx rfl (hb hby d8_13) rfl ?_
    refine st32.trans ?_
    refine XS.istoreN X32.here hx rfl (hb hby d8_17) rfl (l' := #[.val (.ref u1), .val (.int (0 : Int32)), .val (.int (0 : Int32)), .val (.int c0), .unset, .unset]) rfl ?_
    refine XS.iloadN X32.here hx rfl (hb hby d8_18) rfl ?_
    refine XS.iloadN X32.here hx rfl (hb hby d8_19) rfl ?_
    refine XS.sipush X32.here hx rfl (hb hby d8_20) ?_
    exact k
  have pre36 : ∀ t, Steps p.tables e below (T32.setTop (mkF m 42 #[.val (.ref u1), .val (.int (0 : Int32)), .val (.int (0 : Int32)), .val (.int c0), .unset, .unset] [(.int (bif (if_icmp.holds .ge c0 (128 : Int32)) then (bif (if_icmp.holds .ge c0 (2048 : Int32)) then (3 : Int32) else (2 : Int32)) else (1 : Int32))), (.int (0 : Int32))])) t → Steps p.tables e below (s₁.setTop (entryFrame m #[(.ref u1)] 6)) t := by
    intro t k
    refine pre33 t ?_
    show Steps p.tables e below (T32.setTop (mkF m 23 #[.val (.ref u1), .val (.int (0 : Int32)), .val (.int (0 : Int32)), .val (.int c0), .unset, .unset] [(.int (128 : Int32)), (.int c0), (.int (0 : Int32))])) _
    rcases Bool.eq_false_or_eq_true (if_icmp.holds .ge c0 (128 : Int32)) with hb23_34 | hb23_34
    · refine XS.icmpYes X32.here hx rfl (pc0 := 23) (pc' := 30) rfl (hb hby d8_23) rfl hb23_34 (by decide) (by decide) ?_
      show Steps p.tables e below (T32.setTop (mkF m 30 #[.val (.ref u1), .val (.int (0 : Int32)), .val (.int (0 : Int32)), .val (.int c0), .unset, .unset] [(.int (0 : Int32))])) _
      refine XS.iloadN X32.here hx rfl (hb hby d8_30) rfl ?_
      refine XS.sipush X32.here hx rfl (hb hby d8_31) ?_
      rcases Bool.eq_false_or_eq_true (if_icmp.holds .ge c0 (2048 : Int32)) with hb34_35 | hb34_35
      · refine XS.icmpYes X32.here hx rfl (pc0 := 34) (pc' := 41) rfl (hb hby d8_34) rfl hb34_35 (by decide) (by decide) ?_
        refine XS.iconst X32.here hx rfl (hb hby d8_41) ?_
        have k : Steps p.tables e below (T32.setTop (mkF m 42 #[.val (.ref u1), .val (.int (0 : Int32)), .val (.int (0 : Int32)), .val (.int c0), .unset, .unset] [(.int (3 : Int32)), (.int (0 : Int32))])) t := by (try simp only [hb34_35] at k); simpa only [hb23_34, hb34_35, cond_true, cond_false] using k
        exact k
      · refine XS.icmpNo X32.here hx rfl (hb hby d8_34) rfl hb34_35 ?_
        refine XS.iconst X32.here hx rfl (hb hby d8_37) ?_
        refine XS.goto X32.here hx rfl (pc0 := 38) (pc' := 42) rfl (hb hby d8_38) (by decide) (by decide) ?_
        have k : Steps p.tables e below (T32.setTop (mkF m 42 #[.val (.ref u1), .val (.int (0 : Int32)), .val (.int (0 : Int32)), .val (.int c0), .unset, .unset] [(.int (2 : Int32)), (.int (0 : Int32))])) t := by (try simp only [hb34_35] at k); simpa only [hb23_34, hb34_35, cond_true, cond_false] using k
        exact k
    · refine XS.icmpNo X32.here hx rfl (hb hby d8_23) rfl hb23_34 ?_
      show Steps p.tables e below (T32.setTop (mkF m 26 #[.val (.ref u1), .val (.int (0 : Int32)), .val (.int (0 : Int32)), .val (.int c0), .unset, .unset] [(.int (0 : Int32))])) _
      refine XS.iconst X32.here hx rfl (hb hby d8_26) ?_
      refine XS.goto X32.here hx rfl (pc0 := 27) (pc' := 42) rfl (hb hby d8_27) (by decide) (by decide) ?_
      have k : Steps p.tables e below (T32.setTop (mkF m 42 #[.val (.ref u1), .val (.int (0 : Int32)), .val (.int (0 : Int32)), .val (.int c0), .unset, .unset] [(.int (1 : Int32)), (.int (0 : Int32))])) t := by simpa only [hb23_34, cond_true, cond_false] using k
      exact k
  obtain ⟨cq37, kq37, q37a, q37b, q37c⟩ := isOf hZ eq32 E1
  obtain ⟨_, _, ⟨T37, L37, k37, n37⟩, -, X37, ⟨Lc37, hQ37, l37, y37, z37⟩, st37⟩ := X32.virtualBack hx (y := (⟨"java/lang/String", "length", "()I"⟩ : MethodName)) (z := (⟨"java/lang/String", "length", "()I"⟩ : MethodName)) hown (mvT hZ (own_w hw 38 rfl)) (mvT hZ (own_w hw 39 rfl)) (notFace_of_selects (args := #[]) (mvT hZ (own_w hw 41 rfl))) (mvT hZ (own_w hw 41 rfl)) (mvT hZ (own_w hw 40 rfl)) (by decide) (backOf (W := 1) (rm_len l Z a0 hw [] u1 zc cd t kb N (ys.map Value.int) (3 : Int32) h0 n0 Z0 (own_lenrr3 cod) (O2.ext X00.2) hz E1 F1 F2 V1) hZ (own_w hw 42 rfl) (own_w hw 7 rfl) (by decide) (by decide)) q37a q37c (g := (mkF m 6 #[.val (.ref u1), .val (.int ((0 : Int32) + (own_sz c0))), .val (.int (1 : Int32)), .val (.int c0), .unset, .unset] [(.ref u1), (.int (1 : Int32))])) rfl (by rw [hml]; rfl) (Steps.refl _) (argsL := []) (rest := [(.int (1 : Int32))]) (lenOf pd_691884 rfl) rfl (by show 2 * 0 + _ ≤ _; exact Nat.le_of_eq rfl) (hb hby d8_6) (fun _ _ => ⟨rfl, eq32, (by decide : 0 + 0 ≤ _), (by decide : 0 + 0 ≤ _)⟩)
  dsimp only [Pt.U, Pt.locs, Pt.cells, Pt.slots] at X37 l37 y37 z37 st37 hQ37
  replace y37 : k37 = 0 := y37
  replace z37 : n37 = 0 := z37
  subst y37 z37
  obtain ⟨rfl, Nq37, eq37⟩ := hQ37
  have N37 : Fr n0 L37 := by rw [l37]; exact Fr.app N32 Nq37
  obtain ⟨cq38, kq38, q38a, q38b, q38c⟩ := isOf hZ eq37 E1
  obtain ⟨_, _, ⟨T38, L38, k38, n38⟩, -, X38, ⟨Lc38, hQ38, l38, y38, z38⟩, st38⟩ := X37.virtualBack hx (y := (⟨"java/lang/String", "charAt", "(I)C"⟩ : MethodName)) (z := (⟨"java/lang/String", "charAt", "(I)C"⟩ : MethodName)) hown (mvT hZ (own_w hw 48 rfl)) (mvT hZ (own_w hw 49 rfl)) (notFace_of_selects (args := #[]) (mvT hZ (own_w hw 51 rfl))) (mvT hZ (own_w hw 51 rfl)) (mvT hZ (own_w hw 50 rfl)) (by decide) (backOf (W := 0) (rm_chC3_1 l Z a0 hw [] u1 zc fm cd t kb N ys c0 c1 c2 h0 n0 Z0 (O2.ext X00.2) hz (O4.ext X00.2) rf (O5.ext X00.2) (O6.ext X00.2) (O7.ext X00.2) E1 F1 F2 V1 cod q1) hZ (own_w hw 52 rfl) (own_w hw 7 rfl) (by decide) (by decide)) q38a q38c (g := (mkF m 14 #[.val (.ref u1), .val (.int ((0 : Int32) + (own_sz c0))), .val (.int (1 : Int32)), .val (.int c0), .unset, .unset] [(.int (1 : Int32)), (.ref u1)])) rfl (by rw [hml]; rfl) (Steps.refl _) (argsL := [(.int (1 : Int32))]) (rest := []) (lenOf pd_181558 rfl) rfl (by show 2 * 0 + _ ≤ _; exact Nat.le_of_eq rfl) (hb hby d8_14) (fun _ _ => ⟨rfl, eq37, (by decide : 0 + 0 ≤ _), (by decide : 0 + 0 ≤ _)⟩)
  dsimp only [Pt.U, Pt.locs, Pt.cells, Pt.slots] at X38 l38 y38 z38 st38 hQ38
  replace y38 : k38 = 0 := y38
  replace z38 : n38 = 0 := z38
  subst y38 z38
  obtain ⟨rfl, Nq38, eq38⟩ := hQ38
  have N38 : Fr n0 L38 := by rw [l38]; exact Fr.app N37 Nq38
  have pre39 : ∀ t, Steps p.tables e below (T38.setTop (mkF m 23 #[.val (.ref u1), .val (.int ((0 : Int32) + (own_sz c0))), .val (.int (1 : Int32)), .val (.int c1), .unset, .unset] [(.int (128 : Int32)), (.int c1), (.int ((0 : Int32) + (own_sz c0)))])) t → Steps p.tables e below (s₁.setTop (entryFrame m #[(.ref u1)] 6)) t := by
    intro t k
    refine pre36 t ?_
    show Steps p.tables e below (T32.setTop (mkF m 42 #[.val (.ref u1), .val (.int (0 : Int32)), .val (.int (0 : Int32)), .val (.int c0), .unset, .unset] [(.int (own_sz c0)), (.int (0 : Int32))])) _
    refine XS.iadd X32.here hx rfl (hb hby d8_42) rfl ?_
    show Steps p.tables e below (T32.setTop (mkF m 43 #[.val (.ref u1), .val (.int (0 : Int32)), .val (.int (0 : Int32)), .val (.int c0), .unset, .unset] [(.int ((0 : Int32) + (own_sz c0)))])) _
    refine XS.istoreN X32.here hx rfl (hb hby d8_43) rfl (l' := #[.val (.ref u1), .val (.int ((0 : Int32) + (own_sz c0))), .val (.int (0 : Int32)), .val (.int c0), .unset, .unset]) rfl ?_
    refine XS.iinc X32.here hx rfl (hb hby d8_44) rfl (l' := #[.val (.ref u1), .val (.int ((0 : Int32) + (own_sz c0))), .val (.int (1 : Int32)), .val (.int c0), .unset, .unset]) rfl ?_
    refine XS.goto X32.here hx rfl (pc0 := 47) (pc' := 4) rfl (hb hby d8_47) (by decide) (by decide) ?_
    refine XS.iloadN X32.here hx rfl (hb hby d8_4) rfl ?_
    refine XS.aloadN X32.here hx rfl (hb hby d8_5) rfl rfl ?_
    refine st37.trans ?_
    refine XS.icmpNo X37.here hx rfl (hb hby d8_9) rfl (by decide) ?_
    refine XS.aloadN X37.here hx rfl (hb hby d8_12) rfl rfl ?_
    show Steps p.tables e below (T37.setTop (mkF m 13 #[.val (.ref u1), .val (.int ((0 : Int32) + (own_sz c0))), .val (.int (1 : Int32)), .val (.int c0), .unset, .unset] [(.ref u1)])) _
    refine XS.iloadN X37.here hx rfl (hb hby d8_13) rfl ?_
    refine st38.trans ?_
    refine XS.istoreN X38.here hx rfl (hb hby d8_17) rfl (l' := #[.val (.ref u1), .val (.int ((0 : Int32) + (own_sz c0))), .val (.int (1 : Int32)), .val (.int c1), .unset, .unset]) rfl ?_
    refine XS.iloadN X38.here hx rfl (hb hby d8_18) rfl ?_
    refine XS.iloadN X38.here hx rfl (hb hby d8_19) rfl ?_
    refine XS.sipush X38.here hx rfl (hb hby d8_20) ?_
    exact k
  have pre42 : ∀ t, Steps p.tables e below (T38.setTop (mkF m 42 #[.val (.ref u1), .val (.int ((0 : Int32) + (own_sz c0))), .val (.int (1 : Int32)), .val (.int c1), .unset, .unset] [(.int (bif (if_icmp.holds .ge c1 (128 : Int32)) then (bif (if_icmp.holds .ge c1 (2048 : Int32)) then (3 : Int32) else (2 : Int32)) else (1 : Int32))), (.int ((0 : Int32) + (own_sz c0)))])) t → Steps p.tables e below (s₁.setTop (entryFrame m #[(.ref u1)] 6)) t := by
    intro t k
    refine pre39 t ?_
    show Steps p.tables e below (T38.setTop (mkF m 23 #[.val (.ref u1), .val (.int ((0 : Int32) + (own_sz c0))), .val (.int (1 : Int32)), .val (.int c1), .unset, .unset] [(.int (128 : Int32)), (.int c1), (.int ((0 : Int32) + (own_sz c0)))])) _
    rcases Bool.eq_false_or_eq_true (if_icmp.holds .ge c1 (128 : Int32)) with hb23_40 | hb23_40
    · refine XS.icmpYes X38.here hx rfl (pc0 := 23) (pc' := 30) rfl (hb hby d8_23) rfl hb23_40 (by decide) (by decide) ?_
      refine XS.iloadN X38.here hx rfl (hb hby d8_30) rfl ?_
      show Steps p.tables e below (T38.setTop (mkF m 31 #[.val (.ref u1), .val (.int ((0 : Int32) + (own_sz c0))), .val (.int (1 : Int32)), .val (.int c1), .unset, .unset] [(.int c1), (.int ((0 : Int32) + (own_sz c0)))])) _
      refine XS.sipush X38.here hx rfl (hb hby d8_31) ?_
      rcases Bool.eq_false_or_eq_true (if_icmp.holds .ge c1 (2048 : Int32)) with hb34_41 | hb34_41
      · refine XS.icmpYes X38.here hx rfl (pc0 := 34) (pc' := 41) rfl (hb hby d8_34) rfl hb34_41 (by decide) (by decide) ?_
        refine XS.iconst X38.here hx rfl (hb hby d8_41) ?_
        have k : Steps p.tables e below (T38.setTop (mkF m 42 #[.val (.ref u1), .val (.int ((0 : Int32) + (own_sz c0))), .val (.int (1 : Int32)), .val (.int c1), .unset, .unset] [(.int (3 : Int32)), (.int ((0 : Int32) + (own_sz c0)))])) t := by (try simp only [hb34_41] at k); simpa only [hb23_40, hb34_41, cond_true, cond_false] using k
        exact k
      · refine XS.icmpNo X38.here hx rfl (hb hby d8_34) rfl hb34_41 ?_
        refine XS.iconst X38.here hx rfl (hb hby d8_37) ?_
        refine XS.goto X38.here hx rfl (pc0 := 38) (pc' := 42) rfl (hb hby d8_38) (by decide) (by decide) ?_
        have k : Steps p.tables e below (T38.setTop (mkF m 42 #[.val (.ref u1), .val (.int ((0 : Int32) + (own_sz c0))), .val (.int (1 : Int32)), .val (.int c1), .unset, .unset] [(.int (2 : Int32)), (.int ((0 : Int32) + (own_sz c0)))])) t := by (try simp only [hb34_41] at k); simpa only [hb23_40, hb34_41, cond_true, cond_false] using k
        exact k
    · refine XS.icmpNo X38.here hx rfl (hb hby d8_23) rfl hb23_40 ?_
      refine XS.iconst X38.here hx rfl (hb hby d8_26) ?_
      show Steps p.tables e below (T38.setTop (mkF m 27 #[.val (.ref u1), .val (.int ((0 : Int32) + (own_sz c0))), .val (.int (1 : Int32)), .val (.int c1), .unset, .unset] [(.int (1 : Int32)), (.int ((0 : Int32) + (own_sz c0)))])) _
      refine XS.goto X38.here hx rfl (pc0 := 27) (pc' := 42) rfl (hb hby d8_27) (by decide) (by decide) ?_
      have k : Steps p.tables e below (T38.setTop (mkF m 42 #[.val (.ref u1), .val (.int ((0 : Int32) + (own_sz c0))), .val (.int (1 : Int32)), .val (.int c1), .unset, .unset] [(.int (1 : Int32)), (.int ((0 : Int32) + (own_sz c0)))])) t := by simpa only [hb23_40, cond_true, cond_false] using k
      exact k
  obtain ⟨cq43, kq43, q43a, q43b, q43c⟩ := isOf hZ eq38 E1
  obtain ⟨_, _, ⟨T43, L43, k43, n43⟩, -, X43, ⟨Lc43, hQ43, l43, y43, z43⟩, st43⟩ := X38.virtualBack hx (y := (⟨"java/lang/String", "length", "()I"⟩ : MethodName)) (z := (⟨"java/lang/String", "length", "()I"⟩ : MethodName)) hown (mvT hZ (own_w hw 38 rfl)) (mvT hZ (own_w hw 39 rfl)) (notFace_of_selects (args := #[]) (mvT hZ (own_w hw 41 rfl))) (mvT hZ (own_w hw 41 rfl)) (mvT hZ (own_w hw 40 rfl)) (by decide) (backOf (W := 1) (rm_len l Z a0 hw [] u1 zc cd t kb N (ys.map Value.int) (3 : Int32) h0 n0 Z0 (own_lenrr3 cod) (O2.ext X00.2) hz E1 F1 F2 V1) hZ (own_w hw 42 rfl) (own_w hw 7 rfl) (by decide) (by decide)) q43a q43c (g := (mkF m 6 #[.val (.ref u1), .val (.int (((0 : Int32) + (own_sz c0)) + (own_sz c1))), .val (.int (2 : Int32)), .val (.int c1), .unset, .unset] [(.ref u1), (.int (2 : Int32))])) rfl (by rw [hml]; rfl) (Steps.refl _) (argsL := []) (rest := [(.int (2 : Int32))]) (lenOf pd_691884 rfl) rfl (by show 2 * 0 + _ ≤ _; exact Nat.le_of_eq rfl) (hb hby d8_6) (fun _ _ => ⟨rfl, eq38, (by decide : 0 + 0 ≤ _), (by decide : 0 + 0 ≤ _)⟩)
  dsimp only [Pt.U, Pt.locs, Pt.cells, Pt.slots] at X43 l43 y43 z43 st43 hQ43
  replace y43 : k43 = 0 := y43
  replace z43 : n43 = 0 := z43
  subst y43 z43
  obtain ⟨rfl, Nq43, eq43⟩ := hQ43
  have N43 : Fr n0 L43 := by rw [l43]; exact Fr.app N38 Nq43
  obtain ⟨cq44, kq44, q44a, q44b, q44c⟩ := isOf hZ eq43 E1
  obtain ⟨_, _, ⟨T44, L44, k44, n44⟩, -, X44, ⟨Lc44, hQ44, l44, y44, z44⟩, st44⟩ := X43.virtualBack hx (y := (⟨"java/lang/String", "charAt", "(I)C"⟩ : MethodName)) (z := (⟨"java/lang/String", "charAt", "(I)C"⟩ : MethodName)) hown (mvT hZ (own_w hw 48 rfl)) (mvT hZ (own_w hw 49 rfl)) (notFace_of_selects (args := #[]) (mvT hZ (own_w hw 51 rfl))) (mvT hZ (own_w hw 51 rfl)) (mvT hZ (own_w hw 50 rfl)) (by decide) (backOf (W := 0) (rm_chC3_2 l Z a0 hw [] u1 zc fm cd t kb N ys c0 c1 c2 h0 n0 Z0 (O2.ext X00.2) hz (O4.ext X00.2) rf (O5.ext X00.2) (O6.ext X00.2) (O7.ext X00.2) E1 F1 F2 V1 cod q2) hZ (own_w hw 52 rfl) (own_w hw 7 rfl) (by decide) (by decide)) q44a q44c (g := (mkF m 14 #[.val (.ref u1), .val (.int (((0 : Int32) + (own_sz c0)) + (own_sz c1))), .val (.int (2 : Int32)), .val (.int c1), .unset, .unset] [(.int (2 : Int32)), (.ref u1)])) rfl (by rw [hml]; rfl) (Steps.refl _) (argsL := [(.int (2 : Int32))]) (rest := []) (lenOf pd_181558 rfl) rfl (by show 2 * 0 + _ ≤ _; exact Nat.le_of_eq rfl) (hb hby d8_14) (fun _ _ => ⟨rfl, eq43, (by decide : 0 + 0 ≤ _), (by decide : 0 + 0 ≤ _)⟩)
  dsimp only [Pt.U, Pt.locs, Pt.cells, Pt.slots] at X44 l44 y44 z44 st44 hQ44
  replace y44 : k44 = 0 := y44
  replace z44 : n44 = 0 := z44
  subst y44 z44
  obtain ⟨rfl, Nq44, eq44⟩ := hQ44
  have N44 : Fr n0 L44 := by rw [l44]; exact Fr.app N43 Nq44
  have pre45 : ∀ t, Steps p.tables e below (T44.setTop (mkF m 23 #[.val (.ref u1), .val (.int (((0 : Int32) + (own_sz c0)) + (own_sz c1))), .val (.int (2 : Int32)), .val (.int c2), .unset, .unset] [(.int (128 : Int32)), (.int c2), (.int (((0 : Int32) + (own_sz c0)) + (own_sz c1)))])) t → Steps p.tables e below (s₁.setTop (entryFrame m #[(.ref u1)] 6)) t := by
    intro t k
    refine pre42 t ?_
    show Steps p.tables e below (T38.setTop (mkF m 42 #[.val (.ref u1), .val (.int ((0 : Int32) + (own_sz c0))), .val (.int (1 : Int32)), .val (.int c1), .unset, .unset] [(.int (own_sz c1)), (.int ((0 : Int32) + (own_sz c0)))])) _
    refine XS.iadd X38.here hx rfl (hb hby d8_42) rfl ?_
    refine XS.istoreN X38.here hx rfl (hb hby d8_43) rfl (l' := #[.val (.ref u1), .val (.int (((0 : Int32) + (own_sz c0)) + (own_sz c1))), .val (.int (1 : Int32)), .val (.int c1), .unset, .unset]) rfl ?_
    show Steps p.tables e below (T38.setTop (mkF m 44 #[.val (.ref u1), .val (.int (((0 : Int32) + (own_sz c0)) + (own_sz c1))), .val (.int (1 : Int32)), .val (.int c1), .unset, .unset] [])) _
    refine XS.iinc X38.here hx rfl (hb hby d8_44) rfl (l' := #[.val (.ref u1), .val (.int (((0 : Int32) + (own_sz c0)) + (own_sz c1))), .val (.int (2 : Int32)), .val (.int c1), .unset, .unset]) rfl ?_
    refine XS.goto X38.here hx rfl (pc0 := 47) (pc' := 4) rfl (hb hby d8_47) (by decide) (by decide) ?_
    refine XS.iloadN X38.here hx rfl (hb hby d8_4) rfl ?_
    refine XS.aloadN X38.here hx rfl (hb hby d8_5) rfl rfl ?_
    refine st43.trans ?_
    refine XS.icmpNo X43.here hx rfl (hb hby d8_9) rfl (by decide) ?_
    refine XS.aloadN X43.here hx rfl (hb hby d8_12) rfl rfl ?_
    refine XS.iloadN X43.here hx rfl (hb hby d8_13) rfl ?_
    show Steps p.tables e below (T43.setTop (mkF m 14 #[.val (.ref u1), .val (.int (((0 : Int32) + (own_sz c0)) + (own_sz c1))), .val (.int (2 : Int32)), .val (.int c1), .unset, .unset] [(.int (2 : Int32)), (.ref u1)])) _
    refine st44.trans ?_
    refine XS.istoreN X44.here hx rfl (hb hby d8_17) rfl (l' := #[.val (.ref u1), .val (.int (((0 : Int32) + (own_sz c0)) + (own_sz c1))), .val (.int (2 : Int32)), .val (.int c2), .unset, .unset]) rfl ?_
    refine XS.iloadN X44.here hx rfl (hb hby d8_18) rfl ?_
    refine XS.iloadN X44.here hx rfl (hb hby d8_19) rfl ?_
    refine XS.sipush X44.here hx rfl (hb hby d8_20) ?_
    exact k
  have pre48 : ∀ t, Steps p.tables e below (T44.setTop (mkF m 42 #[.val (.ref u1), .val (.int (((0 : Int32) + (own_sz c0)) + (own_sz c1))), .val (.int (2 : Int32)), .val (.int c2), .unset, .unset] [(.int (bif (if_icmp.holds .ge c2 (128 : Int32)) then (bif (if_icmp.holds .ge c2 (2048 : Int32)) then (3 : Int32) else (2 : Int32)) else (1 : Int32))), (.int (((0 : Int32) + (own_sz c0)) + (own_sz c1)))])) t → Steps p.tables e below (s₁.setTop (entryFrame m #[(.ref u1)] 6)) t := by
    intro t k
    refine pre45 t ?_
    show Steps p.tables e below (T44.setTop (mkF m 23 #[.val (.ref u1), .val (.int (((0 : Int32) + (own_sz c0)) + (own_sz c1))), .val (.int (2 : Int32)), .val (.int c2), .unset, .unset] [(.int (128 : Int32)), (.int c2), (.int (((0 : Int32) + (own_sz c0)) + (own_sz c1)))])) _
    rcases Bool.eq_false_or_eq_true (if_icmp.holds .ge c2 (128 : Int32)) with hb23_46 | hb23_46
    · refine XS.icmpYes X44.here hx rfl (pc0 := 23) (pc' := 30) rfl (hb hby d8_23) rfl hb23_46 (by decide) (by decide) ?_
      refine XS.iloadN X44.here hx rfl (hb hby d8_30) rfl ?_
      refine XS.sipush X44.here hx rfl (hb hby d8_31) ?_
      show Steps p.tables e below (T44.setTop (mkF m 34 #[.val (.ref u1), .val (.int (((0 : Int32) + (own_sz c0)) + (own_sz c1))), .val (.int (2 : Int32)), .val (.int c2), .unset, .unset] [(.int (2048 : Int32)), (.int c2), (.int (((0 : Int32) + (own_sz c0)) + (own_sz c1)))])) _
      rcases Bool.eq_false_or_eq_true (if_icmp.holds .ge c2 (2048 : Int32)) with hb34_47 | hb34_47
      · refine XS.icmpYes X44.here hx rfl (pc0 := 34) (pc' := 41) rfl (hb hby d8_34) rfl hb34_47 (by decide) (by decide) ?_
        refine XS.iconst X44.here hx rfl (hb hby d8_41) ?_
        have k : Steps p.tables e below (T44.setTop (mkF m 42 #[.val (.ref u1), .val (.int (((0 : Int32) + (own_sz c0)) + (own_sz c1))), .val (.int (2 : Int32)), .val (.int c2), .unset, .unset] [(.int (3 : Int32)), (.int (((0 : Int32) + (own_sz c0)) + (own_sz c1)))])) t := by (try simp only [hb34_47] at k); simpa only [hb23_46, hb34_47, cond_true, cond_false] using k
        exact k
      · refine XS.icmpNo X44.here hx rfl (hb hby d8_34) rfl hb34_47 ?_
        refine XS.iconst X44.here hx rfl (hb hby d8_37) ?_
        refine XS.goto X44.here hx rfl (pc0 := 38) (pc' := 42) rfl (hb hby d8_38) (by decide) (by decide) ?_
        have k : Steps p.tables e below (T44.setTop (mkF m 42 #[.val (.ref u1), .val (.int (((0 : Int32) + (own_sz c0)) + (own_sz c1))), .val (.int (2 : Int32)), .val (.int c2), .unset, .unset] [(.int (2 : Int32)), (.int (((0 : Int32) + (own_sz c0)) + (own_sz c1)))])) t := by (try simp only [hb34_47] at k); simpa only [hb23_46, hb34_47, cond_true, cond_false] using k
        exact k
    · refine XS.icmpNo X44.here hx rfl (hb hby d8_23) rfl hb23_46 ?_
      refine XS.iconst X44.here hx rfl (hb hby d8_26) ?_
      refine XS.goto X44.here hx rfl (pc0 := 27) (pc' := 42) rfl (hb hby d8_27) (by decide) (by decide) ?_
      have k : Steps p.tables e below (T44.setTop (mkF m 42 #[.val (.ref u1), .val (.int (((0 : Int32) + (own_sz c0)) + (own_sz c1))), .val (.int (2 : Int32)), .val (.int c2), .unset, .unset] [(.int (1 : Int32)), (.int (((0 : Int32) + (own_sz c0)) + (own_sz c1)))])) t := by simpa only [hb23_46, cond_true, cond_false] using k
      exact k
  obtain ⟨cq49, kq49, q49a, q49b, q49c⟩ := isOf hZ eq44 E1
  obtain ⟨_, _, ⟨T49, L49, k49, n49⟩, -, X49, ⟨Lc49, hQ49, l49, y49, z49⟩, st49⟩ := X44.virtualBack hx (y := (⟨"java/lang/String", "length", "()I"⟩ : MethodName)) (z := (⟨"java/lang/String", "length", "()I"⟩ : MethodName)) hown (mvT hZ (own_w hw 38 rfl)) (mvT hZ (own_w hw 39 rfl)) (notFace_of_selects (args := #[]) (mvT hZ (own_w hw 41 rfl))) (mvT hZ (own_w hw 41 rfl)) (mvT hZ (own_w hw 40 rfl)) (by decide) (backOf (W := 1) (rm_len l Z a0 hw [] u1 zc cd t kb N (ys.map Value.int) (3 : Int32) h0 n0 Z0 (own_lenrr3 cod) (O2.ext X00.2) hz E1 F1 F2 V1) hZ (own_w hw 42 rfl) (own_w hw 7 rfl) (by decide) (by decide)) q49a q49c (g := (mkF m 6 #[.val (.ref u1), .val (.int ((((0 : Int32) + (own_sz c0)) + (own_sz c1)) + (own_sz c2))), .val (.int (3 : Int32)), .val (.int c2), .unset, .unset] [(.ref u1), (.int (3 : Int32))])) rfl (by rw [hml]; rfl) (Steps.refl _) (argsL := []) (rest := [(.int (3 : Int32))]) (lenOf pd_691884 rfl) rfl (by show 2 * 0 + _ ≤ _; exact Nat.le_of_eq rfl) (hb hby d8_6) (fun _ _ => ⟨rfl, eq44, (by decide : 0 + 0 ≤ _), (by decide : 0 + 0 ≤ _)⟩)
  dsimp only [Pt.U, Pt.locs, Pt.cells, Pt.slots] at X49 l49 y49 z49 st49 hQ49
  replace y49 : k49 = 0 := y49
  replace z49 : n49 = 0 := z49
  subst y49 z49
  obtain ⟨rfl, Nq49, eq49⟩ := hQ49
  have N49 : Fr n0 L49 := by rw [l49]; exact Fr.app N44 Nq49
  obtain ⟨T50, h50, k50, X50, e50, E50, A50, st50⟩ := newP X49 hx hZ (own_w hw 23 rfl) eq49 (g := (mkF m 51 #[.val (.ref u1), .val (.int ((((0 : Int32) + (own_sz c0)) + (own_sz c1)) + (own_sz c2))), .val (.int (3 : Int32)), .val (.int c2), .unset, .unset] [(.int ((((0 : Int32) + (own_sz c0)) + (own_sz c1)) + (own_sz c2)))])) rfl (hb hby d8_51) rfl (own_szN3 c0 c1 c2).1 (cap := 9) (own_szN3 c0 c1 c2).2 (by decide) (by decide) (by decide)
  obtain ⟨o, g50⟩ : ∃ z, z = h0.size := ⟨_, rfl⟩
  rw [← g50] at A50 st50
  have fr_o : n0 ≤ o := Nat.le_trans Z0 (Nat.le_of_eq g50.symm)
  have ne_u1_o : u1 ≠ o := Nat.ne_of_lt (Nat.lt_of_lt_of_le E1.lt (Nat.le_of_eq g50.symm))
  have ne_t_o : t ≠ o := Nat.ne_of_lt (Nat.lt_of_lt_of_le V1.lt (Nat.le_of_eq g50.symm))
  have sz_o : h0.size ≤ o := Nat.le_trans K0.1 (Nat.le_of_eq g50.symm)
  have Z50 : n0 ≤ h50.size := Nat.le_trans Z0 E50.1
  have K50 : Keep h0 h50 [] := K0.ext E50
  have Ox50 : Old Z Z.heap.size h50 := X00.ext E50
  have V50 := Arv.new A50 (own_szN3 c0 c1 c2).1
  have Vx0 : Arv Z h50 o k50 .byte ((((0 : Int32) + (own_sz c0)) + (own_sz c1)) + (own_sz c2)) (([(0 : Int32), (0 : Int32), (0 : Int32), (0 : Int32), (0 : Int32), (0 : Int32), (0 : Int32), (0 : Int32), (0 : Int32)] : List Int32).map Value.int) (.int (0 : Int32)) := V50.pad (pad_rep [] (.int (0 : Int32)) 9)
  have pre51 : ∀ t, Steps p.tables e below (T50.setTop (mkF m 59 #[.val (.ref u1), .val (.int ((((0 : Int32) + (own_sz c0)) + (own_sz c1)) + (own_sz c2))), .val (.ref o), .val (.int (0 : Int32)), .val (.int (0 : Int32)), .unset] [])) t → Steps p.tables e below (s₁.setTop (entryFrame m #[(.ref u1)] 6)) t := by
    intro t k
    refine pre48 t ?_
    show Steps p.tables e below (T44.setTop (mkF m 42 #[.val (.ref u1), .val (.int (((0 : Int32) + (own_sz c0)) + (own_sz c1))), .val (.int (2 : Int32)), .val (.int c2), .unset, .unset] [(.int (own_sz c2)), (.int (((0 : Int32) + (own_sz c0)) + (own_sz c1)))])) _
    refine XS.iadd X44.here hx rfl (hb hby d8_42) rfl ?_
    refine XS.istoreN X44.here hx rfl (hb hby d8_43) rfl (l' := #[.val (.ref u1), .val (.int ((((0 : Int32) + (own_sz c0)) + (own_sz c1)) + (own_sz c2))), .val (.int (2 : Int32)), .val (.int c2), .unset, .unset]) rfl ?_
    refine XS.iinc X44.here hx rfl (hb hby d8_44) rfl (l' := #[.val (.ref u1), .val (.int ((((0 : Int32) + (own_sz c0)) + (own_sz c1)) + (own_sz c2))), .val (.int (3 : Int32)), .val (.int c2), .unset, .unset]) rfl ?_
    show Steps p.tables e below (T44.setTop (mkF m 47 #[.val (.ref u1), .val (.int ((((0 : Int32) + (own_sz c0)) + (own_sz c1)) + (own_sz c2))), .val (.int (3 : Int32)), .val (.int c2), .unset, .unset] [])) _
    refine XS.goto X44.here hx rfl (pc0 := 47) (pc' := 4) rfl (hb hby d8_47) (by decide) (by decide) ?_
    refine XS.iloadN X44.here hx rfl (hb hby d8_4) rfl ?_
    refine XS.aloadN X44.here hx rfl (hb hby d8_5) rfl rfl ?_
    refine st49.trans ?_
    refine XS.icmpYes X49.here hx rfl (pc0 := 9) (pc' := 50) rfl (hb hby d8_9) rfl (by decide) (by decide) (by decide) ?_
    refine XS.iloadN X49.here hx rfl (hb hby d8_50) rfl ?_
    refine st50 _ ?_
    refine XS.astoreN X50.here hx rfl (hb hby d8_53) rfl rfl (l' := #[.val (.ref u1), .val (.int ((((0 : Int32) + (own_sz c0)) + (own_sz c1)) + (own_sz c2))), .val (.ref o), .val (.int c2), .unset, .unset]) rfl ?_
    show Steps p.tables e below (T50.setTop (mkF m 54 #[.val (.ref u1), .val (.int ((((0 : Int32) + (own_sz c0)) + (own_sz c1)) + (own_sz c2))), .val (.ref o), .val (.int c2), .unset, .unset] [])) _
    refine XS.iconst X50.here hx rfl (hb hby d8_54) ?_
    refine XS.istoreN X50.here hx rfl (hb hby d8_55) rfl (l' := #[.val (.ref u1), .val (.int ((((0 : Int32) + (own_sz c0)) + (own_sz c1)) + (own_sz c2))), .val (.ref o), .val (.int (0 : Int32)), .unset, .unset]) rfl ?_
    refine XS.iconst X50.here hx rfl (hb hby d8_56) ?_
    refine XS.istore X50.here hx rfl (hb hby d8_57) rfl (l' := #[.val (.ref u1), .val (.int ((((0 : Int32) + (own_sz c0)) + (own_sz c1)) + (own_sz c2))), .val (.ref o), .val (.int (0 : Int32)), .val (.int (0 : Int32)), .unset]) rfl ?_
    exact k
  obtain ⟨T52, h52, L52, X52, e52, N52, Kt52, Vt52, st52⟩ := tn u1 ((((0 : Int32) + (own_sz c0)) + (own_sz c1)) + (own_sz c2)) o (0 : Int32) (0 : Int32) (.unset) (3 : Int32) c0 k50 ((((0 : Int32) + (own_sz c0)) + (own_sz c1)) + (own_sz c2)) ([(0 : Int32), (0 : Int32), (0 : Int32), (0 : Int32), (0 : Int32), (0 : Int32), (0 : Int32), (0 : Int32), (0 : Int32)] : List Int32) X50 hx hZ hw hby hml hown e50 N49 Z50 (rm_len l Z a0 hw [] u1 zc cd t kb N (ys.map Value.int) (3 : Int32) h50 n0 Z50 (own_lenrr3 cod) (O2.ext Ox50.2) hz (E1.ext E50) (F1.ext E50) (F2.ext E50) (V1.ext E50)) (rm_chC3_0 l Z a0 hw [] u1 zc fm cd t kb N ys c0 c1 c2 h50 n0 Z50 (O2.ext Ox50.2) hz (O4.ext Ox50.2) rf (O5.ext Ox50.2) (O6.ext Ox50.2) (O7.ext Ox50.2) (E1.ext E50) (F1.ext E50) (F2.ext E50) (V1.ext E50) cod q0) (by decide) (Or.inl rfl) (E1.ext E50) Vx0 fr_o ne_u1_o (by rfl) (own_szx3_0 c0 c1 c2) (own_szf3_0 c0 c1 c2)
  have Z52 : n0 ≤ h52.size := Nat.le_trans Z50 Kt52.1
  have K52 : Keep h0 h52 [] := K50.trans Kt52 (allS (Or.inr sz_o) all0)
  have Oz52 : Old Z Z.heap.size h52 := Ox50.keep Kt52 (allS (Nat.le_trans X00.2.1 sz_o) all0)
  have pre53 : ∀ t, Steps p.tables e below (T52.setTop (mkF m 59 #[.val (.ref u1), .val (.int ((((0 : Int32) + (own_sz c0)) + (own_sz c1)) + (own_sz c2))), .val (.ref o), .val (.int ((0 : Int32) + (own_sz c0))), .val (.int (1 : Int32)), .val (.int c0)] [])) t → Steps p.tables e below (s₁.setTop (entryFrame m #[(.ref u1)] 6)) t := by
    intro t k
    refine pre51 t ?_
    refine st52 _ ?_
    exact k
  obtain ⟨T54, h54, L54, X54, e54, N54, Kt54, Vt54, st54⟩ := tn u1 ((((0 : Int32) + (own_sz c0)) + (own_sz c1)) + (own_sz c2)) o ((0 : Int32) + (own_sz c0)) (1 : Int32) (.val (.int c0)) (3 : Int32) c1 k50 ((((0 : Int32) + (own_sz c0)) + (own_sz c1)) + (own_sz c2)) (own_wr ([(0 : Int32), (0 : Int32), (0 : Int32), (0 : Int32), (0 : Int32), (0 : Int32), (0 : Int32), (0 : Int32), (0 : Int32)] : List Int32) (0 : Int32) c0) X52 hx hZ hw hby hml hown e52 N52 Z52 (rm_len l Z a0 hw [] u1 zc cd t kb N (ys.map Value.int) (3 : Int32) h52 n0 Z52 (own_lenrr3 cod) (O2.ext Oz52.2) hz ((E1.ext E50).keep Kt52) ((F1.ext E50).keep Kt52 (ninS ne_u1_o nin0)) ((F2.ext E50).keep Kt52 (ninS ne_u1_o nin0)) ((V1.ext E50).keep Kt52 (ninS ne_t_o nin0))) (rm_chC3_1 l Z a0 hw [] u1 zc fm cd t kb N ys c0 c1 c2 h52 n0 Z52 (O2.ext Oz52.2) hz (O4.ext Oz52.2) rf (O5.ext Oz52.2) (O6.ext Oz52.2) (O7.ext Oz52.2) ((E1.ext E50).keep Kt52) ((F1.ext E50).keep Kt52 (ninS ne_u1_o nin0)) ((F2.ext E50).keep Kt52 (ninS ne_u1_o nin0)) ((V1.ext E50).keep Kt52 (ninS ne_t_o nin0)) cod q1) (by decide) (Or.inr ⟨_, rfl⟩) ((E1.ext E50).keep Kt52) Vt52 fr_o ne_u1_o (by simp only [own_wrl]; rfl) (own_szx3_1 c0 c1 c2) (own_szf3_1 c0 c1 c2)
  have Z54 : n0 ≤ h54.size := Nat.le_trans Z52 Kt54.1
  have K54 : Keep h0 h54 [] := K52.trans Kt54 (allS (Or.inr sz_o) all0)
  have Oz54 : Old Z Z.heap.size h54 := Oz52.keep Kt54 (allS (Nat.le_trans X00.2.1 sz_o) all0)
  have pre55 : ∀ t, Steps p.tables e below (T54.setTop (mkF m 59 #[.val (.ref u1), .val (.int ((((0 : Int32) + (own_sz c0)) + (own_sz c1)) + (own_sz c2))), .val (.ref o), .val (.int (((0 : Int32) + (own_sz c0)) + (own_sz c1))), .val (.int (2 : Int32)), .val (.int c1)] [])) t → Steps p.tables e below (s₁.setTop (entryFrame m #[(.ref u1)] 6)) t := by
    intro t k
    refine pre53 t ?_
    refine st54 _ ?_
    exact k
  obtain ⟨T56, h56, L56, X56, e56, N56, Kt56, Vt56, st56⟩ := tn u1 ((((0 : Int32) + (own_sz c0)) + (own_sz c1)) + (own_sz c2)) o (((0 : Int32) + (own_sz c0)) + (own_sz c1)) (2 : Int32) (.val (.int c1)) (3 : Int32) c2 k50 ((((0 : Int32) + (own_sz c0)) + (own_sz c1)) + (own_sz c2)) (own_wr (own_wr ([(0 : Int32), (0 : Int32), (0 : Int32), (0 : Int32), (0 : Int32), (0 : Int32), (0 : Int32), (0 : Int32), (0 : Int32)] : List Int32) (0 : Int32) c0) ((0 : Int32) + (own_sz c0)) c1) X54 hx hZ hw hby hml hown e54 N54 Z54 (rm_len l Z a0 hw [] u1 zc cd t kb N (ys.map Value.int) (3 : Int32) h54 n0 Z54 (own_lenrr3 cod) (O2.ext Oz54.2) hz (((E1.ext E50).keep Kt52).keep Kt54) (((F1.ext E50).keep Kt52 (ninS ne_u1_o nin0)).keep Kt54 (ninS ne_u1_o nin0)) (((F2.ext E50).keep Kt52 (ninS ne_u1_o nin0)).keep Kt54 (ninS ne_u1_o nin0)) (((V1.ext E50).keep Kt52 (ninS ne_t_o nin0)).keep Kt54 (ninS ne_t_o nin0))) (rm_chC3_2 l Z a0 hw [] u1 zc fm cd t kb N ys c0 c1 c2 h54 n0 Z54 (O2.ext Oz54.2) hz (O4.ext Oz54.2) rf (O5.ext Oz54.2) (O6.ext Oz54.2) (O7.ext Oz54.2) (((E1.ext E50).keep Kt52).keep Kt54) (((F1.ext E50).keep Kt52 (ninS ne_u1_o nin0)).keep Kt54 (ninS ne_u1_o nin0)) (((F2.ext E50).keep Kt52 (ninS ne_u1_o nin0)).keep Kt54 (ninS ne_u1_o nin0)) (((V1.ext E50).keep Kt52 (ninS ne_t_o nin0)).keep Kt54 (ninS ne_t_o nin0)) cod q2) (by decide) (Or.inr ⟨_, rfl⟩) (((E1.ext E50).keep Kt52).keep Kt54) Vt54 fr_o ne_u1_o (by simp only [own_wrl]; rfl) (own_szx3_2 c0 c1 c2) (own_szf3_2 c0 c1 c2)
  have Z56 : n0 ≤ h56.size := Nat.le_trans Z54 Kt56.1
  have K56 : Keep h0 h56 [] := K54.trans Kt56 (allS (Or.inr sz_o) all0)
  have Oz56 : Old Z Z.heap.size h56 := Oz54.keep Kt56 (allS (Nat.le_trans X00.2.1 sz_o) all0)
  obtain ⟨cq57, kq57, q57a, q57b, q57c⟩ := isOf hZ e56 ((((E1.ext E50).keep Kt52).keep Kt54).keep Kt56)
  obtain ⟨_, _, ⟨T57, L57, k57, n57⟩, -, X57, ⟨Lc57, hQ57, l57, y57, z57⟩, st57⟩ := X56.virtualBack hx (y := (⟨"java/lang/String", "length", "()I"⟩ : MethodName)) (z := (⟨"java/lang/String", "length", "()I"⟩ : MethodName)) hown (mvT hZ (own_w hw 38 rfl)) (mvT hZ (own_w hw 39 rfl)) (notFace_of_selects (args := #[]) (mvT hZ (own_w hw 41 rfl))) (mvT hZ (own_w hw 41 rfl)) (mvT hZ (own_w hw 40 rfl)) (by decide) (backOf (W := 1) (rm_len l Z a0 hw [] u1 zc cd t kb N (ys.map Value.int) (3 : Int32) h56 n0 Z56 (own_lenrr3 cod) (O2.ext Oz56.2) hz ((((E1.ext E50).keep Kt52).keep Kt54).keep Kt56) ((((F1.ext E50).keep Kt52 (ninS ne_u1_o nin0)).keep Kt54 (ninS ne_u1_o nin0)).keep Kt56 (ninS ne_u1_o nin0)) ((((F2.ext E50).keep Kt52 (ninS ne_u1_o nin0)).keep Kt54 (ninS ne_u1_o nin0)).keep Kt56 (ninS ne_u1_o nin0)) ((((V1.ext E50).keep Kt52 (ninS ne_t_o nin0)).keep Kt54 (ninS ne_t_o nin0)).keep Kt56 (ninS ne_t_o nin0))) hZ (own_w hw 42 rfl) (own_w hw 7 rfl) (by decide) (by decide)) q57a q57c (g := (mkF m 62 #[.val (.ref u1), .val (.int ((((0 : Int32) + (own_sz c0)) + (own_sz c1)) + (own_sz c2))), .val (.ref o), .val (.int ((((0 : Int32) + (own_sz c0)) + (own_sz c1)) + (own_sz c2))), .val (.int (3 : Int32)), .val (.int c2)] [(.ref u1), (.int (3 : Int32))])) rfl (by rw [hml]; rfl) (Steps.refl _) (argsL := []) (rest := [(.int (3 : Int32))]) (lenOf pd_691884 rfl) rfl (by show 2 * 0 + _ ≤ _; exact Nat.le_of_eq rfl) (hb hby d8_62) (fun _ _ => ⟨rfl, e56, (by decide : 1 + 0 ≤ _), (by decide : 9 + 0 ≤ _)⟩)
  dsimp only [Pt.U, Pt.locs, Pt.cells, Pt.slots] at X57 l57 y57 z57 st57 hQ57
  replace y57 : k57 = 1 := y57
  replace z57 : n57 = 9 := z57
  subst y57 z57
  obtain ⟨rfl, Nq57, eq57⟩ := hQ57
  have N57 : Fr n0 L57 := by rw [l57]; exact Fr.app N56 Nq57
  obtain ⟨fs, hr, hrun, hended, hW, hsame⟩ := X57.leave (v := some (.ref o)) (fun h => by rw [Bd.returns] at h; cases h)
  refine ⟨_, _, pre55 _ ?_, hrun, hended, _, _, rfl, ?_, ⟨_, rfl⟩, hW, hsame.mono (by decide) (by decide)⟩
  · refine st56 _ ?_
    refine XS.iload X56.here hx rfl (hb hby d8_59) rfl ?_
    refine XS.aloadN X56.here hx rfl (hb hby d8_61) rfl rfl ?_
    refine st57.trans ?_
    refine XS.icmpYes X57.here hx rfl (pc0 := 65) (pc' := 196) rfl (hb hby d8_65) rfl (by decide) (by decide) (by decide) ?_
    show Steps p.tables e below (T57.setTop (mkF m 196 #[.val (.ref u1), .val (.int ((((0 : Int32) + (own_sz c0)) + (own_sz c1)) + (own_sz c2))), .val (.ref o), .val (.int ((((0 : Int32) + (own_sz c0)) + (own_sz c1)) + (own_sz c2))), .val (.int (3 : Int32)), .val (.int c2)] [])) _
    refine XS.aloadN X57.here hx rfl (hb hby d8_196) rfl rfl ?_
    show Steps p.tables e below (T57.setTop (mkF m 197 #[.val (.ref u1), .val (.int ((((0 : Int32) + (own_sz c0)) + (own_sz c1)) + (own_sz c2))), .val (.ref o), .val (.int ((((0 : Int32) + (own_sz c0)) + (own_sz c1)) + (own_sz c2))), .val (.int (3 : Int32)), .val (.int c2)] [(.ref o)])) _
    jvm_step X57.here [X57.here.top, hx, (hb hby d8_197), X57.method', Bd.returns, Value.isRef, FieldType.isReference]
    first | (intro acts; rw [hr _ acts rfl rfl rfl]) | rw [hr _ _ rfl rfl rfl]
    exact Steps.refl _
  · show Q_rm_kept3 Z _ _ _ _ _ _ _ _ _ _ _ h0 n0 _ T57.heap _
    rw [eq57]
    exact ⟨o, k50, rfl, N57, K56, sz_o, Vt56⟩
def own_match (xs : List Int32) (x c : Int32) : Bool := (bif (if_icmp.holds .ge c (128 : Int32)) then (bif (if_icmp.holds .ge c (2048 : Int32)) then (!(if_icmp.holds .ne (((xs.getD (x).toNatClampNeg (0 : Int32)) &&& (255 : Int32)) &&& (240 : Int32)) (224 : Int32)) && !(if_icmp.holds .ne (((xs.getD ((x + (1 : Int32))).toNatClampNeg (0 : Int32)) &&& (255 : Int32)) &&& (192 : Int32)) (128 : Int32)) && !(if_icmp.holds .ne (((xs.getD ((x + (2 : Int32))).toNatClampNeg (0 : Int32)) &&& (255 : Int32)) &&& (192 : Int32)) (128 : Int32)) && !(if_icmp.holds .ne ((((((xs.getD (x).toNatClampNeg (0 : Int32)) &&& (255 : Int32)) &&& (15 : Int32)) * (4096 : Int32)) + ((((xs.getD ((x + (1 : Int32))).toNatClampNeg (0 : Int32)) &&& (255 : Int32)) &&& (63 : Int32)) * (64 : Int32))) + (((xs.getD ((x + (2 : Int32))).toNatClampNeg (0 : Int32)) &&& (255 : Int32)) &&& (63 : Int32))) c)) else (!(if_icmp.holds .ne (((xs.getD (x).toNatClampNeg (0 : Int32)) &&& (255 : Int32)) &&& (224 : Int32)) (192 : Int32)) && !(if_icmp.holds .ne (((xs.getD ((x + (1 : Int32))).toNatClampNeg (0 : Int32)) &&& (255 : Int32)) &&& (192 : Int32)) (128 : Int32)) && !(if_icmp.holds .ne (((((xs.getD (x).toNatClampNeg (0 : Int32)) &&& (255 : Int32)) &&& (31 : Int32)) * (64 : Int32)) + (((xs.getD ((x + (1 : Int32))).toNatClampNeg (0 : Int32)) &&& (255 : Int32)) &&& (63 : Int32))) c))) else (!(if_icmp.holds .ne (xs.getD (x).toNatClampNeg (0 : Int32)) c)))
theorem own_ge0 {x : Int32} (h : 0 ≤ x.toInt ∧ x.toInt ≤ 6) : ifCond.holds .ge x = true := by
  rw [if0, own_ige]; refine decide_eq_true ?_
  rw [Int32.le_iff_toInt_le]; have e : (0 : Int32).toInt = 0 := by decide
  omega
theorem own_fits {x N k : Int32} (hx : 0 ≤ x.toInt ∧ x.toInt ≤ 6) (hk : 0 ≤ k.toInt ∧ k.toInt ≤ 3) (h : x.toInt + k.toInt ≤ N.toInt) : if_icmp.holds .le (x + k) N = true := by
  rw [own_ile]; refine decide_eq_true ?_
  have a1 := c_iadd x k
  have r1 := rng32 (x + k)
  rw [Int32.le_iff_toInt_le]; omega
theorem own_getD (xs : List Int32) (k : Nat) : (xs.map Value.int).getD k (.int (0 : Int32)) = .int (xs.getD k (0 : Int32)) := by
  rw [List.getD_eq_getElem?_getD, List.getD_eq_getElem?_getD, List.getElem?_map]
  cases xs[k]? <;> rfl
theorem own_same (x : Int32) : if_icmp.holds .ne x x = false := (teq rfl).2
theorem d16_0 : decode method_3_code 0 = .ok (.iload_n 1, 1) := by decide +kernel
theorem d16_1 : decode method_3_code 1 = .ok (.ifCond .ge 5, 3) := by decide +kernel
theorem d16_6 : decode method_3_code 6 = .ok (.iload_n 2, 1) := by decide +kernel
theorem d16_7 : decode method_3_code 7 = .ok (.sipush 128, 3) := by decide +kernel
theorem d16_10 : decode method_3_code 10 = .ok (.if_icmp .ge 7, 3) := by decide +kernel
theorem d16_17 : decode method_3_code 17 = .ok (.iload_n 2, 1) := by decide +kernel
theorem d16_18 : decode method_3_code 18 = .ok (.sipush 2048, 3) := by decide +kernel
theorem d16_21 : decode method_3_code 21 = .ok (.if_icmp .ge 7, 3) := by decide +kernel
theorem d16_28 : decode method_3_code 28 = .ok (.iconst 3, 1) := by decide +kernel
theorem d16_29 : decode method_3_code 29 = .ok (.istore_n 3, 1) := by decide +kernel
theorem d16_30 : decode method_3_code 30 = .ok (.iload_n 1, 1) := by decide +kernel
theorem d16_31 : decode method_3_code 31 = .ok (.iload_n 3, 1) := by decide +kernel
theorem d16_32 : decode method_3_code 32 = .ok (.iadd, 1) := by decide +kernel
theorem d16_33 : decode method_3_code 33 = .ok (.aload_n 0, 1) := by decide +kernel
theorem d16_34 : decode method_3_code 34 = .ok (.arraylength, 1) := by decide +kernel
theorem d16_35 : decode method_3_code 35 = .ok (.if_icmp .le 5, 3) := by decide +kernel
theorem d16_40 : decode method_3_code 40 = .ok (.iload_n 3, 1) := by decide +kernel
theorem d16_41 : decode method_3_code 41 = .ok (.iconst 1, 1) := by decide +kernel
theorem d16_42 : decode method_3_code 42 = .ok (.if_icmp .ne 18, 3) := by decide +kernel
theorem d16_60 : decode method_3_code 60 = .ok (.aload_n 0, 1) := by decide +kernel
theorem d16_61 : decode method_3_code 61 = .ok (.iload_n 1, 1) := by decide +kernel
theorem d16_62 : decode method_3_code 62 = .ok (.baload, 1) := by decide +kernel
theorem d16_63 : decode method_3_code 63 = .ok (.sipush 255, 3) := by decide +kernel
theorem d16_66 : decode method_3_code 66 = .ok (.iand, 1) := by decide +kernel
theorem d16_67 : decode method_3_code 67 = .ok (.istore 4, 2) := by decide +kernel
theorem d16_69 : decode method_3_code 69 = .ok (.aload_n 0, 1) := by decide +kernel
theorem d16_70 : decode method_3_code 70 = .ok (.iload_n 1, 1) := by decide +kernel
theorem d16_71 : decode method_3_code 71 = .ok (.iconst 1, 1) := by decide +kernel
theorem d16_72 : decode method_3_code 72 = .ok (.iadd, 1) := by decide +kernel
theorem d16_73 : decode method_3_code 73 = .ok (.baload, 1) := by decide +kernel
theorem d16_74 : decode method_3_code 74 = .ok (.sipush 255, 3) := by decide +kernel
theorem d16_77 : decode method_3_code 77 = .ok (.iand, 1) := by decide +kernel
theorem d16_78 : decode method_3_code 78 = .ok (.istore 5, 2) := by decide +kernel
theorem d16_80 : decode method_3_code 80 = .ok (.iload_n 3, 1) := by decide +kernel
theorem d16_81 : decode method_3_code 81 = .ok (.iconst 2, 1) := by decide +kernel
theorem d16_82 : decode method_3_code 82 = .ok (.if_icmp .ne 65, 3) := by decide +kernel
theorem d16_147 : decode method_3_code 147 = .ok (.aload_n 0, 1) := by decide +kernel
theorem d16_148 : decode method_3_code 148 = .ok (.iload_n 1, 1) := by decide +kernel
theorem d16_149 : decode method_3_code 149 = .ok (.iconst 2, 1) := by decide +kernel
theorem d16_150 : decode method_3_code 150 = .ok (.iadd, 1) := by decide +kernel
theorem d16_151 : decode method_3_code 151 = .ok (.baload, 1) := by decide +kernel
theorem d16_152 : decode method_3_code 152 = .ok (.sipush 255, 3) := by decide +kernel
theorem d16_155 : decode method_3_code 155 = .ok (.iand, 1) := by decide +kernel
theorem d16_156 : decode method_3_code 156 = .ok (.istore 6, 2) := by decide +kernel
theorem d16_158 : decode method_3_code 158 = .ok (.iload 4, 2) := by decide +kernel
theorem d16_160 : decode method_3_code 160 = .ok (.sipush 240, 3) := by decide +kernel
theorem d16_163 : decode method_3_code 163 = .ok (.iand, 1) := by decide +kernel
theorem d16_164 : decode method_3_code 164 = .ok (.sipush 224, 3) := by decide +kernel
theorem d16_167 : decode method_3_code 167 = .ok (.if_icmp .ne 59, 3) := by decide +kernel
theorem d16_170 : decode method_3_code 170 = .ok (.iload 5, 2) := by decide +kernel
theorem d16_172 : decode method_3_code 172 = .ok (.sipush 192, 3) := by decide +kernel
theorem d16_175 : decode method_3_code 175 = .ok (.iand, 1) := by decide +kernel
theorem d16_176 : decode method_3_code 176 = .ok (.sipush 128, 3) := by decide +kernel
theorem d16_179 : decode method_3_code 179 = .ok (.if_icmp .ne 47, 3) := by decide +kernel
theorem d16_182 : decode method_3_code 182 = .ok (.iload 6, 2) := by decide +kernel
theorem d16_184 : decode method_3_code 184 = .ok (.sipush 192, 3) := by decide +kernel
theorem d16_187 : decode method_3_code 187 = .ok (.iand, 1) := by decide +kernel
theorem d16_188 : decode method_3_code 188 = .ok (.sipush 128, 3) := by decide +kernel
theorem d16_191 : decode method_3_code 191 = .ok (.if_icmp .ne 35, 3) := by decide +kernel
theorem d16_194 : decode method_3_code 194 = .ok (.iload 4, 2) := by decide +kernel
theorem d16_196 : decode method_3_code 196 = .ok (.bipush 15, 2) := by decide +kernel
theorem d16_198 : decode method_3_code 198 = .ok (.iand, 1) := by decide +kernel
theorem d16_199 : decode method_3_code 199 = .ok (.sipush 4096, 3) := by decide +kernel
theorem d16_202 : decode method_3_code 202 = .ok (.imul, 1) := by decide +kernel
theorem d16_203 : decode method_3_code 203 = .ok (.iload 5, 2) := by decide +kernel
theorem d16_205 : decode method_3_code 205 = .ok (.bipush 63, 2) := by decide +kernel
theorem d16_207 : decode method_3_code 207 = .ok (.iand, 1) := by decide +kernel
theorem d16_208 : decode method_3_code 208 = .ok (.bipush 64, 2) := by decide +kernel
theorem d16_210 : decode method_3_code 210 = .ok (.imul, 1) := by decide +kernel
theorem d16_211 : decode method_3_code 211 = .ok (.iadd, 1) := by decide +kernel
theorem d16_212 : decode method_3_code 212 = .ok (.iload 6, 2) := by decide +kernel
theorem d16_214 : decode method_3_code 214 = .ok (.bipush 63, 2) := by decide +kernel
theorem d16_216 : decode method_3_code 216 = .ok (.iand, 1) := by decide +kernel
theorem d16_217 : decode method_3_code 217 = .ok (.iadd, 1) := by decide +kernel
theorem d16_218 : decode method_3_code 218 = .ok (.iload_n 2, 1) := by decide +kernel
theorem d16_219 : decode method_3_code 219 = .ok (.if_icmp .ne 7, 3) := by decide +kernel
theorem d16_222 : decode method_3_code 222 = .ok (.iconst 1, 1) := by decide +kernel
theorem d16_223 : decode method_3_code 223 = .ok (.goto 4, 3) := by decide +kernel
theorem d16_227 : decode method_3_code 227 = .ok (.istore 7, 2) := by decide +kernel
theorem d16_229 : decode method_3_code 229 = .ok (.iload 7, 2) := by decide +kernel
theorem d16_231 : decode method_3_code 231 = .ok (.ifCond .eq 9, 3) := by decide +kernel
theorem d16_234 : decode method_3_code 234 = .ok (.iload_n 1, 1) := by decide +kernel
theorem d16_235 : decode method_3_code 235 = .ok (.iconst 3, 1) := by decide +kernel
theorem d16_236 : decode method_3_code 236 = .ok (.iadd, 1) := by decide +kernel
theorem d16_237 : decode method_3_code 237 = .ok (.goto 4, 3) := by decide +kernel
theorem d16_241 : decode method_3_code 241 = .ok (.ireturn, 1) := by decide +kernel
theorem d16_24 : decode method_3_code 24 = .ok (.iconst 2, 1) := by decide +kernel
theorem d16_25 : decode method_3_code 25 = .ok (.goto 4, 3) := by decide +kernel
theorem d16_85 : decode method_3_code 85 = .ok (.iload 4, 2) := by decide +kernel
theorem d16_87 : decode method_3_code 87 = .ok (.sipush 224, 3) := by decide +kernel
theorem d16_90 : decode method_3_code 90 = .ok (.iand, 1) := by decide +kernel
theorem d16_91 : decode method_3_code 91 = .ok (.sipush 192, 3) := by decide +kernel
theorem d16_94 : decode method_3_code 94 = .ok (.if_icmp .ne 37, 3) := by decide +kernel
theorem d16_97 : decode method_3_code 97 = .ok (.iload 5, 2) := by decide +kernel
theorem d16_99 : decode method_3_code 99 = .ok (.sipush 192, 3) := by decide +kernel
theorem d16_102 : decode method_3_code 102 = .ok (.iand, 1) := by decide +kernel
theorem d16_103 : decode method_3_code 103 = .ok (.sipush 128, 3) := by decide +kernel
theorem d16_106 : decode method_3_code 106 = .ok (.if_icmp .ne 25, 3) := by decide +kernel
theorem d16_109 : decode method_3_code 109 = .ok (.iload 4, 2) := by decide +kernel
theorem d16_111 : decode method_3_code 111 = .ok (.bipush 31, 2) := by decide +kernel
theorem d16_113 : decode method_3_code 113 = .ok (.iand, 1) := by decide +kernel
theorem d16_114 : decode method_3_code 114 = .ok (.bipush 64, 2) := by decide +kernel
theorem d16_116 : decode method_3_code 116 = .ok (.imul, 1) := by decide +kernel
theorem d16_117 : decode method_3_code 117 = .ok (.iload 5, 2) := by decide +kernel
theorem d16_119 : decode method_3_code 119 = .ok (.bipush 63, 2) := by decide +kernel
theorem d16_121 : decode method_3_code 121 = .ok (.iand, 1) := by decide +kernel
theorem d16_122 : decode method_3_code 122 = .ok (.iadd, 1) := by decide +kernel
theorem d16_123 : decode method_3_code 123 = .ok (.iload_n 2, 1) := by decide +kernel
theorem d16_124 : decode method_3_code 124 = .ok (.if_icmp .ne 7, 3) := by decide +kernel
theorem d16_127 : decode method_3_code 127 = .ok (.iconst 1, 1) := by decide +kernel
theorem d16_128 : decode method_3_code 128 = .ok (.goto 4, 3) := by decide +kernel
theorem d16_132 : decode method_3_code 132 = .ok (.istore 6, 2) := by decide +kernel
theorem d16_134 : decode method_3_code 134 = .ok (.iload 6, 2) := by decide +kernel
theorem d16_136 : decode method_3_code 136 = .ok (.ifCond .eq 9, 3) := by decide +kernel
theorem d16_139 : decode method_3_code 139 = .ok (.iload_n 1, 1) := by decide +kernel
theorem d16_140 : decode method_3_code 140 = .ok (.iconst 2, 1) := by decide +kernel
theorem d16_141 : decode method_3_code 141 = .ok (.iadd, 1) := by decide +kernel
theorem d16_142 : decode method_3_code 142 = .ok (.goto 4, 3) := by decide +kernel
theorem d16_146 : decode method_3_code 146 = .ok (.ireturn, 1) := by decide +kernel
theorem d16_13 : decode method_3_code 13 = .ok (.iconst 1, 1) := by decide +kernel
theorem d16_14 : decode method_3_code 14 = .ok (.goto 15, 3) := by decide +kernel
theorem d16_45 : decode method_3_code 45 = .ok (.aload_n 0, 1) := by decide +kernel
theorem d16_46 : decode method_3_code 46 = .ok (.iload_n 1, 1) := by decide +kernel
theorem d16_47 : decode method_3_code 47 = .ok (.baload, 1) := by decide +kernel
theorem d16_48 : decode method_3_code 48 = .ok (.iload_n 2, 1) := by decide +kernel
theorem d16_49 : decode method_3_code 49 = .ok (.if_icmp .ne 9, 3) := by decide +kernel
theorem d16_52 : decode method_3_code 52 = .ok (.iload_n 1, 1) := by decide +kernel
theorem d16_53 : decode method_3_code 53 = .ok (.iconst 1, 1) := by decide +kernel
theorem d16_54 : decode method_3_code 54 = .ok (.iadd, 1) := by decide +kernel
theorem d16_55 : decode method_3_code 55 = .ok (.goto 4, 3) := by decide +kernel
theorem d16_59 : decode method_3_code 59 = .ok (.ireturn, 1) := by decide +kernel
theorem ef_rm_step (m : MethodId) (x0 : Addr) (x1 : Int32) (x2 : Int32) : entryFrame m #[(.ref x0), (.int x1), (.int x2)] 8 = mkF m 0 #[.val (.ref x0), .val (.int x1), .val (.int x2), .unset, .unset, .unset, .unset, .unset] [] := by first | (simp [entryFrame, mkF, argsToLocals, Value.category]; done) | rfl
def Q_rm_step (Z : State) (u1 : Addr) (u2 : Int32) (u3 : Int32) (kb : ClassId) (N : Int32) (xs : List Int32) (h0 : Heap) (n0 : Nat) (v : Option Value) (h : Heap) (L : List Loc) : Prop := v = some (.int (u2 + (own_sz u3))) ∧ Fr n0 L ∧ h = h0
set_option maxRecDepth 65536 in
set_option maxHeartbeats 40000000 in
theorem rm_step (l : Launch) (Z : State) (a0 : Array Value) (hw : ∀ d ∈ tables_1, d.before a0 Z = true) (ws : List Jvm.Cond) (u1 : Addr) (u2 : Int32) (u3 : Int32) (kb : ClassId) (N : Int32) (xs : List Int32) (h0 : Heap) (n0 : Nat) (Z0 : n0 ≤ h0.size) (V1 : Arv Z h0 u1 kb .byte N (xs.map Value.int) (.int (0 : Int32))) (hx_ : 0 ≤ u2.toInt ∧ u2.toInt ≤ 6) (hfit : u2.toInt + (own_sz u3).toInt ≤ N.toInt) (hm : own_match xs u2 u3 = true) :
    MetFree l (⟨"com/example/sonde/sonde/store/CurrentVersionsKeptPinLaw", "step", "([BII)I"⟩ : MethodName) (head1 (Jvm.Cond.code (⟨"com/example/sonde/sonde/store/CurrentVersionsKeptPinLaw", "step", "([BII)I"⟩ : MethodName) method_3_code 8 (some .int) :: ws) ({ frames := 0, cells := 0, slots := 0, locals := 0 } : Room)) (fun a U => a = #[(.ref u1), (.int u2), (.int u3)] ∧ Z.Warmed39 U.vm ∧ U.heap = h0) (fun _ _ _ _ _ => True) (fun _ U o U' => ∃ v L, o = .returned v ∧ Q_rm_step Z u1 u2 u3 kb N xs h0 n0 v U'.heap L ∧ FrameEnd U o U' L ({ frames := 0, cells := 0, slots := 0, locals := 0 } : Room).cells ({ frames := 0, cells := 0, slots := 0, locals := 0 } : Room).slots) := by
  refine MetFree.of_bodySF (plainFor_of_name pn_353727) hisR ?_
  intro p e s m args below meth c s₁ Bd hml0 hP hK
  obtain ⟨rfl, hZ, hh⟩ := hP
  have hx := Bd.exec
  have hby := Bd.bytes
  have hml : c.maxLocals = 8 := hml0
  have hown : s.vm.findClass "com/example/sonde/sonde/store/CurrentVersionsKeptPinLaw" = some m.cls := findClass_of_methodNamed Bd.named
  have hnm := (name_of_methodNamed Bd.named Bd.method).1
  have X0 : Stand p l e ({ frames := 0, cells := 0, slots := 0, locals := 0 } : Room) s m #[(.ref u1), (.int u2), (.int u3)] below meth c s₁ [] 0 0 := Stand.of_body Bd
  have e0 : s₁.heap = h0 := by rw [← hh, Bd.state]; rfl
  have N0 := Fr.nil n0
  have pre0 : ∀ t, Steps p.tables e below (s₁.setTop (mkF m 0 #[.val (.ref u1), .val (.int u2), .val (.int u3), .unset, .unset, .unset, .unset, .unset] [])) t → Steps p.tables e below (s₁.setTop (entryFrame m #[(.ref u1), (.int u2), (.int u3)] 8)) t := fun t k => castTop (ef_rm_step m u1 u2 u3) k
  have hxx := hx_
  obtain ⟨cl, Ar, -, Sz, Mz, Hz, -⟩ := id V1
  have pre31 : ∀ t, Steps p.tables e below (s₁.setTop (mkF m 10 #[.val (.ref u1), .val (.int u2), .val (.int u3), .unset, .unset, .unset, .unset, .unset] [(.int (128 : Int32)), (.int u3)])) t → Steps p.tables e below (s₁.setTop (entryFrame m #[(.ref u1), (.int u2), (.int u3)] 8)) t := by
    intro t k
    refine pre0 t ?_
    show Steps p.tables e below (s₁.setTop (mkF m 0 #[.val (.ref u1), .val (.int u2), .val (.int u3), .unset, .unset, .unset, .unset, .unset] [])) _
    refine XS.iloadN X0.here hx rfl (hb hby d16_0) rfl ?_
    refine XS.ifYes X0.here hx rfl (pc0 := 1) (pc' := 6) rfl (hb hby d16_1) rfl (own_ge0 hx_) (by decide) (by decide) ?_
    refine XS.iloadN X0.here hx rfl (hb hby d16_6) rfl ?_
    refine XS.sipush X0.here hx rfl (hb hby d16_7) ?_
    exact k
  rcases Bool.eq_false_or_eq_true (if_icmp.holds .ge u3 (128 : Int32)) with hb10 | hb10
  · have pre32 : ∀ t, Steps p.tables e below (s₁.setTop (mkF m 21 #[.val (.ref u1), .val (.int u2), .val (.int u3), .unset, .unset, .unset, .unset, .unset] [(.int (2048 : Int32)), (.int u3)])) t → Steps p.tables e below (s₁.setTop (entryFrame m #[(.ref u1), (.int u2), (.int u3)] 8)) t := by
      intro t k
      refine pre31 t ?_
      show Steps p.tables e below (s₁.setTop (mkF m 10 #[.val (.ref u1), .val (.int u2), .val (.int u3), .unset, .unset, .unset, .unset, .unset] [(.int (128 : Int32)), (.int u3)])) _
      refine XS.icmpYes X0.here hx rfl (pc0 := 10) (pc' := 17) rfl (hb hby d16_10) rfl hb10 (by decide) (by decide) ?_
      refine XS.iloadN X0.here hx rfl (hb hby d16_17) rfl ?_
      refine XS.sipush X0.here hx rfl (hb hby d16_18) ?_
      exact k
    rcases Bool.eq_false_or_eq_true (if_icmp.holds .ge u3 (2048 : Int32)) with hb21 | hb21
    · have hsz : own_sz u3 = 3 := by simp only [own_sz, hb10, hb21, cond_true, cond_false]
      rw [hsz] at hfit
      simp only [own_match, hb10, hb21, cond_true, cond_false, Bool.and_eq_true, Bool.not_eq_true'] at hm
      obtain ⟨⟨⟨m1, m2⟩, m3⟩, m4⟩ := hm
      obtain ⟨fs, hr, hrun, hended, hW, hsame⟩ := X0.leave (v := some (.int (u2 + (3 : Int32)))) (fun h => by rw [Bd.returns] at h; cases h)
      refine ⟨_, _, pre32 _ ?_, hrun, hended, _, _, rfl, ?_, ⟨_, rfl⟩, hW, hsame.mono (by decide) (by decide)⟩
      · show Steps p.tables e below (s₁.setTop (mkF m 21 #[.val (.ref u1), .val (.int u2), .val (.int u3), .unset, .unset, .unset, .unset, .unset] [(.int (2048 : Int32)), (.int u3)])) _
        refine XS.icmpYes X0.here hx rfl (pc0 := 21) (pc' := 28) rfl (hb hby d16_21) rfl hb21 (by decide) (by decide) ?_
        show Steps p.tables e below (s₁.setTop (mkF m 28 #[.val (.ref u1), .val (.int u2), .val (.int u3), .unset, .unset, .unset, .unset, .unset] [])) _
        refine XS.iconst X0.here hx rfl (hb hby d16_28) ?_
        refine XS.istoreN X0.here hx rfl (hb hby d16_29) rfl (l' := #[.val (.ref u1), .val (.int u2), .val (.int u3), .val (.int (3 : Int32)), .unset, .unset, .unset, .unset]) rfl ?_
        refine XS.iloadN X0.here hx rfl (hb hby d16_30) rfl ?_
        refine XS.iloadN X0.here hx rfl (hb hby d16_31) rfl ?_
        refine XS.iadd X0.here hx rfl (hb hby d16_32) rfl ?_
        refine XS.aloadN X0.here hx rfl (hb hby d16_33) rfl rfl ?_
        refine X0.arraylength hx (by rw [e0]; exact Ar.1) (State.isArrayOf_alike hZ.alike Ar.2.1) (g := (mkF m 34 #[.val (.ref u1), .val (.int u2), .val (.int u3), .val (.int (3 : Int32)), .unset, .unset, .unset, .unset] [(.ref u1), (.int (u2 + (3 : Int32)))])) rfl rfl (hb hby d16_34) _ ?_
        rw [len_of Sz Mz]
        refine XS.icmpYes X0.here hx rfl (pc0 := 35) (pc' := 40) rfl (hb hby d16_35) rfl (own_fits hx_ (by decide) hfit) (by decide) (by decide) ?_
        show Steps p.tables e below (s₁.setTop (mkF m 40 #[.val (.ref u1), .val (.int u2), .val (.int u3), .val (.int (3 : Int32)), .unset, .unset, .unset, .unset] [])) _
        refine XS.iloadN X0.here hx rfl (hb hby d16_40) rfl ?_
        refine XS.iconst X0.here hx rfl (hb hby d16_41) ?_
        refine XS.icmpYes X0.here hx rfl (pc0 := 42) (pc' := 60) rfl (hb hby d16_42) rfl (by decide) (by decide) (by decide) ?_
        refine XS.aloadN X0.here hx rfl (hb hby d16_60) rfl rfl ?_
        refine XS.iloadN X0.here hx rfl (hb hby d16_61) rfl ?_
        refine X0.baloadBytes hx (j := u2) (v := (.int (xs.getD (u2).toNatClampNeg (0 : Int32)))) (by rw [e0]; exact Ar.1) (State.isArrayOf_alike hZ.alike Ar.2.1) Ar.2.2 (inb_of Sz (by have q := own_inb (k := 3) (0 : Int32) hx_ (N := N) hfit (by decide) (by decide); rw [own_add0] at q; exact q)) (Hz.at (inb_of Sz (by have q := own_inb (k := 3) (0 : Int32) hx_ (N := N) hfit (by decide) (by decide); rw [own_add0] at q; exact q)) (own_getD xs _)) (g := (mkF m 62 #[.val (.ref u1), .val (.int u2), .val (.int u3), .val (.int (3 : Int32)), .unset, .unset, .unset, .unset] [(.int u2), (.ref u1)])) rfl rfl (hb hby d16_62) _ ?_
        refine XS.sipush X0.here hx rfl (hb hby d16_63) ?_
        refine XS.iand X0.here hx rfl (hb hby d16_66) rfl ?_
        show Steps p.tables e below (s₁.setTop (mkF m 67 #[.val (.ref u1), .val (.int u2), .val (.int u3), .val (.int (3 : Int32)), .unset, .unset, .unset, .unset] [(.int ((xs.getD (u2).toNatClampNeg (0 : Int32)) &&& (255 : Int32)))])) _
        refine XS.istore X0.here hx rfl (hb hby d16_67) rfl (l' := #[.val (.ref u1), .val (.int u2), .val (.int u3), .val (.int (3 : Int32)), .val (.int ((xs.getD (u2).toNatClampNeg (0 : Int32)) &&& (255 : Int32))), .unset, .unset, .unset]) rfl ?_
        refine XS.aloadN X0.here hx rfl (hb hby d16_69) rfl rfl ?_
        refine XS.iloadN X0.here hx rfl (hb hby d16_70) rfl ?_
        refine XS.iconst X0.here hx rfl (hb hby d16_71) ?_
        refine XS.iadd X0.here hx rfl (hb hby d16_72) rfl ?_
        refine X0.baloadBytes hx (j := (u2 + (1 : Int32))) (v := (.int (xs.getD ((u2 + (1 : Int32))).toNatClampNeg (0 : Int32)))) (by rw [e0]; exact Ar.1) (State.isArrayOf_alike hZ.alike Ar.2.1) Ar.2.2 (inb_of Sz (by have q := own_inb (k := 3) (1 : Int32) hx_ (N := N) hfit (by decide) (by decide); exact q)) (Hz.at (inb_of Sz (by have q := own_inb (k := 3) (1 : Int32) hx_ (N := N) hfit (by decide) (by decide); exact q)) (own_getD xs _)) (g := (mkF m 73 #[.val (.ref u1), .val (.int u2), .val (.int u3), .val (.int (3 : Int32)), .val (.int ((xs.getD (u2).toNatClampNeg (0 : Int32)) &&& (255 : Int32))), .unset, .unset, .unset] [(.int (u2 + (1 : Int32))), (.ref u1)])) rfl rfl (hb hby d16_73) _ ?_
        refine XS.sipush X0.here hx rfl (hb hby d16_74) ?_
        refine XS.iand X0.here hx rfl (hb hby d16_77) rfl ?_
        show Steps p.tables e below (s₁.setTop (mkF m 78 #[.val (.ref u1), .val (.int u2), .val (.int u3), .val (.int (3 : Int32)), .val (.int ((xs.getD (u2).toNatClampNeg (0 : Int32)) &&& (255 : Int32))), .unset, .unset, .unset] [(.int ((xs.getD ((u2 + (1 : Int32))).toNatClampNeg (0 : Int32)) &&& (255 : Int32)))])) _
        refine XS.istore X0.here hx rfl (hb hby d16_78) rfl (l' := #[.val (.ref u1), .val (.int u2), .val (.int u3), .val (.int (3 : Int32)), .val (.int ((xs.getD (u2).toNatClampNeg (0 : Int32)) &&& (255 : Int32))), .val (.int ((xs.getD ((u2 + (1 : Int32))).toNatClampNeg (0 : Int32)) &&& (255 : Int32))), .unset, .unset]) rfl ?_
        refine XS.iloadN X0.here hx rfl (hb hby d16_80) rfl ?_
        refine XS.iconst X0.here hx rfl (hb hby d16_81) ?_
        refine XS.icmpYes X0.here hx rfl (pc0 := 82) (pc' := 147) rfl (hb hby d16_82) rfl (by decide) (by decide) (by decide) ?_
        refine XS.aloadN X0.here hx rfl (hb hby d16_147) rfl rfl ?_
        refine XS.iloadN X0.here hx rfl (hb hby d16_148) rfl ?_
        refine XS.iconst X0.here hx rfl (hb hby d16_149) ?_
        refine XS.iadd X0.here hx rfl (hb hby d16_150) rfl ?_
        show Steps p.tables e below (s₁.setTop (mkF m 151 #[.val (.ref u1), .val (.int u2), .val (.int u3), .val (.int (3 : Int32)), .val (.int ((xs.getD (u2).toNatClampNeg (0 : Int32)) &&& (255 : Int32))), .val (.int ((xs.getD ((u2 + (1 : Int32))).toNatClampNeg (0 : Int32)) &&& (255 : Int32))), .unset, .unset] [(.int (u2 + (2 : Int32))), (.ref u1)])) _
        refine X0.baloadBytes hx (j := (u2 + (2 : Int32))) (v := (.int (xs.getD ((u2 + (2 : Int32))).toNatClampNeg (0 : Int32)))) (by rw [e0]; exact Ar.1) (State.isArrayOf_alike hZ.alike Ar.2.1) Ar.2.2 (inb_of Sz (by have q := own_inb (k := 3) (2 : Int32) hx_ (N := N) hfit (by decide) (by decide); exact q)) (Hz.at (inb_of Sz (by have q := own_inb (k := 3) (2 : Int32) hx_ (N := N) hfit (by decide) (by decide); exact q)) (own_getD xs _)) (g := (mkF m 151 #[.val (.ref u1), .val (.int u2), .val (.int u3), .val (.int (3 : Int32)), .val (.int ((xs.getD (u2).toNatClampNeg (0 : Int32)) &&& (255 : Int32))), .val (.int ((xs.getD ((u2 + (1 : Int32))).toNatClampNeg (0 : Int32)) &&& (255 : Int32))), .unset, .unset] [(.int (u2 + (2 : Int32))), (.ref u1)])) rfl rfl (hb hby d16_151) _ ?_
        refine XS.sipush X0.here hx rfl (hb hby d16_152) ?_
        refine XS.iand X0.here hx rfl (hb hby d16_155) rfl ?_
        refine XS.istore X0.here hx rfl (hb hby d16_156) rfl (l' := #[.val (.ref u1), .val (.int u2), .val (.int u3), .val (.int (3 : Int32)), .val (.int ((xs.getD (u2).toNatClampNeg (0 : Int32)) &&& (255 : Int32))), .val (.int ((xs.getD ((u2 + (1 : Int32))).toNatClampNeg (0 : Int32)) &&& (255 : Int32))), .val (.int ((xs.getD ((u2 + (2 : Int32))).toNatClampNeg (0 : Int32)) &&& (255 : Int32))), .unset]) rfl ?_
        refine XS.iload X0.here hx rfl (hb hby d16_158) rfl ?_
        refine XS.sipush X0.here hx rfl (hb hby d16_160) ?_
        refine XS.iand X0.here hx rfl (hb hby d16_163) rfl ?_
        refine XS.sipush X0.here hx rfl (hb hby d16_164) ?_
        show Steps p.tables e below (s₁.setTop (mkF m 167 #[.val (.ref u1), .val (.int u2), .val (.int u3), .val (.int (3 : Int32)), .val (.int ((xs.getD (u2).toNatClampNeg (0 : Int32)) &&& (255 : Int32))), .val (.int ((xs.getD ((u2 + (1 : Int32))).toNatClampNeg (0 : Int32)) &&& (255 : Int32))), .val (.int ((xs.getD ((u2 + (2 : Int32))).toNatClampNeg (0 : Int32)) &&& (255 : Int32))), .unset] [(.int (224 : Int32)), (.int (((xs.getD (u2).toNatClampNeg (0 : Int32)) &&& (255 : Int32)) &&& (240 : Int32)))])) _
        refine XS.icmpNo X0.here hx rfl (hb hby d16_167) rfl m1 ?_
        refine XS.iload X0.here hx rfl (hb hby d16_170) rfl ?_
        refine XS.sipush X0.here hx rfl (hb hby d16_172) ?_
        refine XS.iand X0.here hx rfl (hb hby d16_175) rfl ?_
        refine XS.sipush X0.here hx rfl (hb hby d16_176) ?_
        refine XS.icmpNo X0.here hx rfl (hb hby d16_179) rfl m2 ?_
        refine XS.iload X0.here hx rfl (hb hby d16_182) rfl ?_
        refine XS.sipush X0.here hx rfl (hb hby d16_184) ?_
        show Steps p.tables e below (s₁.setTop (mkF m 187 #[.val (.ref u1), .val (.int u2), .val (.int u3), .val (.int (3 : Int32)), .val (.int ((xs.getD (u2).toNatClampNeg (0 : Int32)) &&& (255 : Int32))), .val (.int ((xs.getD ((u2 + (1 : Int32))).toNatClampNeg (0 : Int32)) &&& (255 : Int32))), .val (.int ((xs.getD ((u2 + (2 : Int32))).toNatClampNeg (0 : Int32)) &&& (255 : Int32))), .unset] [(.int (192 : Int32)), (.int ((xs.getD ((u2 + (2 : Int32))).toNatClampNeg (0 : Int32)) &&& (255 : Int32)))])) _
        refine XS.iand X0.here hx rfl (hb hby d16_187) rfl ?_
        refine XS.sipush X0.here hx rfl (hb hby d16_188) ?_
        refine XS.icmpNo X0.here hx rfl (hb hby d16_191) rfl m3 ?_
        refine XS.iload X0.here hx rfl (hb hby d16_194) rfl ?_
        refine XS.bipush X0.here hx rfl (hb hby d16_196) ?_
        refine XS.iand X0.here hx rfl (hb hby d16_198) rfl ?_
        refine XS.sipush X0.here hx rfl (hb hby d16_199) ?_
        refine XS.imul X0.here hx rfl (hb hby d16_202) rfl ?_
        show Steps p.tables e below (s₁.setTop (mkF m 203 #[.val (.ref u1), .val (.int u2), .val (.int u3), .val (.int (3 : Int32)), .val (.int ((xs.getD (u2).toNatClampNeg (0 : Int32)) &&& (255 : Int32))), .val (.int ((xs.getD ((u2 + (1 : Int32))).toNatClampNeg (0 : Int32)) &&& (255 : Int32))), .val (.int ((xs.getD ((u2 + (2 : Int32))).toNatClampNeg (0 : Int32)) &&& (255 : Int32))), .unset] [(.int ((((xs.getD (u2).toNatClampNeg (0 : Int32)) &&& (255 : Int32)) &&& (15 : Int32)) * (4096 : Int32)))])) _
        refine XS.iload X0.here hx rfl (hb hby d16_203) rfl ?_
        refine XS.bipush X0.here hx rfl (hb hby d16_205) ?_
        refine XS.iand X0.here hx rfl (hb hby d16_207) rfl ?_
        refine XS.bipush X0.here hx rfl (hb hby d16_208) ?_
        refine XS.imul X0.here hx rfl (hb hby d16_210) rfl ?_
        refine XS.iadd X0.here hx rfl (hb hby d16_211) rfl ?_
        refine XS.iload X0.here hx rfl (hb hby d16_212) rfl ?_
        refine XS.bipush X0.here hx rfl (hb hby d16_214) ?_
        show Steps p.tables e below (s₁.setTop (mkF m 216 #[.val (.ref u1), .val (.int u2), .val (.int u3), .val (.int (3 : Int32)), .val (.int ((xs.getD (u2).toNatClampNeg (0 : Int32)) &&& (255 : Int32))), .val (.int ((xs.getD ((u2 + (1 : Int32))).toNatClampNeg (0 : Int32)) &&& (255 : Int32))), .val (.int ((xs.getD ((u2 + (2 : Int32))).toNatClampNeg (0 : Int32)) &&& (255 : Int32))), .unset] [(.int (63 : Int32)), (.int ((xs.getD ((u2 + (2 : Int32))).toNatClampNeg (0 : Int32)) &&& (255 : Int32))), (.int (((((xs.getD (u2).toNatClampNeg (0 : Int32)) &&& (255 : Int32)) &&& (15 : Int32)) * (4096 : Int32)) + ((((xs.getD ((u2 + (1 : Int32))).toNatClampNeg (0 : Int32)) &&& (255 : Int32)) &&& (63 : Int32)) * (64 : Int32))))])) _
        refine XS.iand X0.here hx rfl (hb hby d16_216) rfl ?_
        refine XS.iadd X0.here hx rfl (hb hby d16_217) rfl ?_
        refine XS.iloadN X0.here hx rfl (hb hby d16_218) rfl ?_
        refine XS.icmpNo X0.here hx rfl (hb hby d16_219) rfl m4 ?_
        refine XS.iconst X0.here hx rfl (hb hby d16_222) ?_
        refine XS.goto X0.here hx rfl (pc0 := 223) (pc' := 227) rfl (hb hby d16_223) (by decide) (by decide) ?_
        refine XS.istore X0.here hx rfl (hb hby d16_227) rfl (l' := #[.val (.ref u1), .val (.int u2), .val (.int u3), .val (.int (3 : Int32)), .val (.int ((xs.getD (u2).toNatClampNeg (0 : Int32)) &&& (255 : Int32))), .val (.int ((xs.getD ((u2 + (1 : Int32))).toNatClampNeg (0 : Int32)) &&& (255 : Int32))), .val (.int ((xs.getD ((u2 + (2 : Int32))).toNatClampNeg (0 : Int32)) &&& (255 : Int32))), .val (.int (1 : Int32))]) rfl ?_
        refine XS.iload X0.here hx rfl (hb hby d16_229) rfl ?_
        show Steps p.tables e below (s₁.setTop (mkF m 231 #[.val (.ref u1), .val (.int u2), .val (.int u3), .val (.int (3 : Int32)), .val (.int ((xs.getD (u2).toNatClampNeg (0 : Int32)) &&& (255 : Int32))), .val (.int ((xs.getD ((u2 + (1 : Int32))).toNatClampNeg (0 : Int32)) &&& (255 : Int32))), .val (.int ((xs.getD ((u2 + (2 : Int32))).toNatClampNeg (0 : Int32)) &&& (255 : Int32))), .val (.int (1 : Int32))] [(.int (1 : Int32))])) _
        refine XS.ifNo X0.here hx rfl (hb hby d16_231) rfl (by decide) ?_
        refine XS.iloadN X0.here hx rfl (hb hby d16_234) rfl ?_
        refine XS.iconst X0.here hx rfl (hb hby d16_235) ?_
        refine XS.iadd X0.here hx rfl (hb hby d16_236) rfl ?_
        refine XS.goto X0.here hx rfl (pc0 := 237) (pc' := 241) rfl (hb hby d16_237) (by decide) (by decide) ?_
        show Steps p.tables e below (s₁.setTop (mkF m 241 #[.val (.ref u1), .val (.int u2), .val (.int u3), .val (.int (3 : Int32)), .val (.int ((xs.getD (u2).toNatClampNeg (0 : Int32)) &&& (255 : Int32))), .val (.int ((xs.getD ((u2 + (1 : Int32))).toNatClampNeg (0 : Int32)) &&& (255 : Int32))), .val (.int ((xs.getD ((u2 + (2 : Int32))).toNatClampNeg (0 : Int32)) &&& (255 : Int32))), .val (.int (1 : Int32))] [(.int (u2 + (3 : Int32)))])) _
        exact retI X0 hx Bd.returns (hb hby d16_241) hr
      · show Q_rm_step Z _ _ _ _ _ _ h0 n0 _ s₁.heap _
        rw [e0]
        exact ⟨(by rw [hsz]), N0, rfl⟩
    · have hsz : own_sz u3 = 2 := by simp only [own_sz, hb10, hb21, cond_true, cond_false]
      rw [hsz] at hfit
      simp only [own_match, hb10, hb21, cond_true, cond_false, Bool.and_eq_true, Bool.not_eq_true'] at hm
      obtain ⟨⟨m1, m2⟩, m3⟩ := hm
      obtain ⟨fs, hr, hrun, hended, hW, hsame⟩ := X0.leave (v := some (.int (u2 + (2 : Int32)))) (fun h => by rw [Bd.returns] at h; cases h)
      refine ⟨_, _, pre32 _ ?_, hrun, hended, _, _, rfl, ?_, ⟨_, rfl⟩, hW, hsame.mono (by decide) (by decide)⟩
      · show Steps p.tables e below (s₁.setTop (mkF m 21 #[.val (.ref u1), .val (.int u2), .val (.int u3), .unset, .unset, .unset, .unset, .unset] [(.int (2048 : Int32)), (.int u3)])) _
        refine XS.icmpNo X0.here hx rfl (hb hby d16_21) rfl hb21 ?_
        show Steps p.tables e below (s₁.setTop (mkF m 24 #[.val (.ref u1), .val (.int u2), .val (.int u3), .unset, .unset, .unset, .unset, .unset] [])) _
        refine XS.iconst X0.here hx rfl (hb hby d16_24) ?_
        refine XS.goto X0.here hx rfl (pc0 := 25) (pc' := 29) rfl (hb hby d16_25) (by decide) (by decide) ?_
        refine XS.istoreN X0.here hx rfl (hb hby d16_29) rfl (l' := #[.val (.ref u1), .val (.int u2), .val (.int u3), .val (.int (2 : Int32)), .unset, .unset, .unset, .unset]) rfl ?_
        refine XS.iloadN X0.here hx rfl (hb hby d16_30) rfl ?_
        refine XS.iloadN X0.here hx rfl (hb hby d16_31) rfl ?_
        refine XS.iadd X0.here hx rfl (hb hby d16_32) rfl ?_
        refine XS.aloadN X0.here hx rfl (hb hby d16_33) rfl rfl ?_
        refine X0.arraylength hx (by rw [e0]; exact Ar.1) (State.isArrayOf_alike hZ.alike Ar.2.1) (g := (mkF m 34 #[.val (.ref u1), .val (.int u2), .val (.int u3), .val (.int (2 : Int32)), .unset, .unset, .unset, .unset] [(.ref u1), (.int (u2 + (2 : Int32)))])) rfl rfl (hb hby d16_34) _ ?_
        rw [len_of Sz Mz]
        show Steps p.tables e below (s₁.setTop (mkF m 35 #[.val (.ref u1), .val (.int u2), .val (.int u3), .val (.int (2 : Int32)), .unset, .unset, .unset, .unset] [(.int N), (.int (u2 + (2 : Int32)))])) _
        refine XS.icmpYes X0.here hx rfl (pc0 := 35) (pc' := 40) rfl (hb hby d16_35) rfl (own_fits hx_ (by decide) hfit) (by decide) (by decide) ?_
        refine XS.iloadN X0.here hx rfl (hb hby d16_40) rfl ?_
        refine XS.iconst X0.here hx rfl (hb hby d16_41) ?_
        refine XS.icmpYes X0.here hx rfl (pc0 := 42) (pc' := 60) rfl (hb hby d16_42) rfl (by decide) (by decide) (by decide) ?_
        refine XS.aloadN X0.here hx rfl (hb hby d16_60) rfl rfl ?_
        refine XS.iloadN X0.here hx rfl (hb hby d16_61) rfl ?_
        refine X0.baloadBytes hx (j := u2) (v := (.int (xs.getD (u2).toNatClampNeg (0 : Int32)))) (by rw [e0]; exact Ar.1) (State.isArrayOf_alike hZ.alike Ar.2.1) Ar.2.2 (inb_of Sz (by have q := own_inb (k := 2) (0 : Int32) hx_ (N := N) hfit (by decide) (by decide); rw [own_add0] at q; exact q)) (Hz.at (inb_of Sz (by have q := own_inb (k := 2) (0 : Int32) hx_ (N := N) hfit (by decide) (by decide); rw [own_add0] at q; exact q)) (own_getD xs _)) (g := (mkF m 62 #[.val (.ref u1), .val (.int u2), .val (.int u3), .val (.int (2 : Int32)), .unset, .unset, .unset, .unset] [(.int u2), (.ref u1)])) rfl rfl (hb hby d16_62) _ ?_
        refine XS.sipush X0.here hx rfl (hb hby d16_63) ?_
        show Steps p.tables e below (s₁.setTop (mkF m 66 #[.val (.ref u1), .val (.int u2), .val (.int u3), .val (.int (2 : Int32)), .unset, .unset, .unset, .unset] [(.int (255 : Int32)), (.int (xs.getD (u2).toNatClampNeg (0 : Int32)))])) _
        refine XS.iand X0.here hx rfl (hb hby d16_66) rfl ?_
        refine XS.istore X0.here hx rfl (hb hby d16_67) rfl (l' := #[.val (.ref u1), .val (.int u2), .val (.int u3), .val (.int (2 : Int32)), .val (.int ((xs.getD (u2).toNatClampNeg (0 : Int32)) &&& (255 : Int32))), .unset, .unset, .unset]) rfl ?_
        refine XS.aloadN X0.here hx rfl (hb hby d16_69) rfl rfl ?_
        refine XS.iloadN X0.here hx rfl (hb hby d16_70) rfl ?_
        refine XS.iconst X0.here hx rfl (hb hby d16_71) ?_
        refine XS.iadd X0.here hx rfl (hb hby d16_72) rfl ?_
        refine X0.baloadBytes hx (j := (u2 + (1 : Int32))) (v := (.int (xs.getD ((u2 + (1 : Int32))).toNatClampNeg (0 : Int32)))) (by rw [e0]; exact Ar.1) (State.isArrayOf_alike hZ.alike Ar.2.1) Ar.2.2 (inb_of Sz (by have q := own_inb (k := 2) (1 : Int32) hx_ (N := N) hfit (by decide) (by decide); exact q)) (Hz.at (inb_of Sz (by have q := own_inb (k := 2) (1 : Int32) hx_ (N := N) hfit (by decide) (by decide); exact q)) (own_getD xs _)) (g := (mkF m 73 #[.val (.ref u1), .val (.int u2), .val (.int u3), .val (.int (2 : Int32)), .val (.int ((xs.getD (u2).toNatClampNeg (0 : Int32)) &&& (255 : Int32))), .unset, .unset, .unset] [(.int (u2 + (1 : Int32))), (.ref u1)])) rfl rfl (hb hby d16_73) _ ?_
        refine XS.sipush X0.here hx rfl (hb hby d16_74) ?_
        show Steps p.tables e below (s₁.setTop (mkF m 77 #[.val (.ref u1), .val (.int u2), .val (.int u3), .val (.int (2 : Int32)), .val (.int ((xs.getD (u2).toNatClampNeg (0 : Int32)) &&& (255 : Int32))), .unset, .unset, .unset] [(.int (255 : Int32)), (.int (xs.getD ((u2 + (1 : Int32))).toNatClampNeg (0 : Int32)))])) _
        refine XS.iand X0.here hx rfl (hb hby d16_77) rfl ?_
        refine XS.istore X0.here hx rfl (hb hby d16_78) rfl (l' := #[.val (.ref u1), .val (.int u2), .val (.int u3), .val (.int (2 : Int32)), .val (.int ((xs.getD (u2).toNatClampNeg (0 : Int32)) &&& (255 : Int32))), .val (.int ((xs.getD ((u2 + (1 : Int32))).toNatClampNeg (0 : Int32)) &&& (255 : Int32))), .unset, .unset]) rfl ?_
        refine XS.iloadN X0.here hx rfl (hb hby d16_80) rfl ?_
        refine XS.iconst X0.here hx rfl (hb hby d16_81) ?_
        refine XS.icmpNo X0.here hx rfl (hb hby d16_82) rfl (by decide) ?_
        refine XS.iload X0.here hx rfl (hb hby d16_85) rfl ?_
        refine XS.sipush X0.here hx rfl (hb hby d16_87) ?_
        refine XS.iand X0.here hx rfl (hb hby d16_90) rfl ?_
        show Steps p.tables e below (s₁.setTop (mkF m 91 #[.val (.ref u1), .val (.int u2), .val (.int u3), .val (.int (2 : Int32)), .val (.int ((xs.getD (u2).toNatClampNeg (0 : Int32)) &&& (255 : Int32))), .val (.int ((xs.getD ((u2 + (1 : Int32))).toNatClampNeg (0 : Int32)) &&& (255 : Int32))), .unset, .unset] [(.int (((xs.getD (u2).toNatClampNeg (0 : Int32)) &&& (255 : Int32)) &&& (224 : Int32)))])) _
        refine XS.sipush X0.here hx rfl (hb hby d16_91) ?_
        refine XS.icmpNo X0.here hx rfl (hb hby d16_94) rfl m1 ?_
        refine XS.iload X0.here hx rfl (hb hby d16_97) rfl ?_
        refine XS.sipush X0.here hx rfl (hb hby d16_99) ?_
        refine XS.iand X0.here hx rfl (hb hby d16_102) rfl ?_
        refine XS.sipush X0.here hx rfl (hb hby d16_103) ?_
        refine XS.icmpNo X0.here hx rfl (hb hby d16_106) rfl m2 ?_
        refine XS.iload X0.here hx rfl (hb hby d16_109) rfl ?_
        show Steps p.tables e below (s₁.setTop (mkF m 111 #[.val (.ref u1), .val (.int u2), .val (.int u3), .val (.int (2 : Int32)), .val (.int ((xs.getD (u2).toNatClampNeg (0 : Int32)) &&& (255 : Int32))), .val (.int ((xs.getD ((u2 + (1 : Int32))).toNatClampNeg (0 : Int32)) &&& (255 : Int32))), .unset, .unset] [(.int ((xs.getD (u2).toNatClampNeg (0 : Int32)) &&& (255 : Int32)))])) _
        refine XS.bipush X0.here hx rfl (hb hby d16_111) ?_
        refine XS.iand X0.here hx rfl (hb hby d16_113) rfl ?_
        refine XS.bipush X0.here hx rfl (hb hby d16_114) ?_
        refine XS.imul X0.here hx rfl (hb hby d16_116) rfl ?_
        refine XS.iload X0.here hx rfl (hb hby d16_117) rfl ?_
        refine XS.bipush X0.here hx rfl (hb hby d16_119) ?_
        refine XS.iand X0.here hx rfl (hb hby d16_121) rfl ?_
        refine XS.iadd X0.here hx rfl (hb hby d16_122) rfl ?_
        show Steps p.tables e below (s₁.setTop (mkF m 123 #[.val (.ref u1), .val (.int u2), .val (.int u3), .val (.int (2 : Int32)), .val (.int ((xs.getD (u2).toNatClampNeg (0 : Int32)) &&& (255 : Int32))), .val (.int ((xs.getD ((u2 + (1 : Int32))).toNatClampNeg (0 : Int32)) &&& (255 : Int32))), .unset, .unset] [(.int (((((xs.getD (u2).toNatClampNeg (0 : Int32)) &&& (255 : Int32)) &&& (31 : Int32)) * (64 : Int32)) + (((xs.getD ((u2 + (1 : Int32))).toNatClampNeg (0 : Int32)) &&& (255 : Int32)) &&& (63 : Int32))))])) _
        refine XS.iloadN X0.here hx rfl (hb hby d16_123) rfl ?_
        refine XS.icmpNo X0.here hx rfl (hb hby d16_124) rfl m3 ?_
        refine XS.iconst X0.here hx rfl (hb hby d16_127) ?_
        refine XS.goto X0.here hx rfl (pc0 := 128) (pc' := 132) rfl (hb hby d16_128) (by decide) (by decide) ?_
        refine XS.istore X0.here hx rfl (hb hby d16_132) rfl (l' := #[.val (.ref u1), .val (.int u2), .val (.int u3), .val (.int (2 : Int32)), .val (.int ((xs.getD (u2).toNatClampNeg (0 : Int32)) &&& (255 : Int32))), .val (.int ((xs.getD ((u2 + (1 : Int32))).toNatClampNeg (0 : Int32)) &&& (255 : Int32))), .val (.int (1 : Int32)), .unset]) rfl ?_
        refine XS.iload X0.here hx rfl (hb hby d16_134) rfl ?_
        refine XS.ifNo X0.here hx rfl (hb hby d16_136) rfl (by decide) ?_
        refine XS.iloadN X0.here hx rfl (hb hby d16_139) rfl ?_
        show Steps p.tables e below (s₁.setTop (mkF m 140 #[.val (.ref u1), .val (.int u2), .val (.int u3), .val (.int (2 : Int32)), .val (.int ((xs.getD (u2).toNatClampNeg (0 : Int32)) &&& (255 : Int32))), .val (.int ((xs.getD ((u2 + (1 : Int32))).toNatClampNeg (0 : Int32)) &&& (255 : Int32))), .val (.int (1 : Int32)), .unset] [(.int u2)])) _
        refine XS.iconst X0.here hx rfl (hb hby d16_140) ?_
        refine XS.iadd X0.here hx rfl (hb hby d16_141) rfl ?_
        refine XS.goto X0.here hx rfl (pc0 := 142) (pc' := 146) rfl (hb hby d16_142) (by decide) (by decide) ?_
        show Steps p.tables e below (s₁.setTop (mkF m 146 #[.val (.ref u1), .val (.int u2), .val (.int u3), .val (.int (2 : Int32)), .val (.int ((xs.getD (u2).toNatClampNeg (0 : Int32)) &&& (255 : Int32))), .val (.int ((xs.getD ((u2 + (1 : Int32))).toNatClampNeg (0 : Int32)) &&& (255 : Int32))), .val (.int (1 : Int32)), .unset] [(.int (u2 + (2 : Int32)))])) _
        exact retI X0 hx Bd.returns (hb hby d16_146) hr
      · show Q_rm_step Z _ _ _ _ _ _ h0 n0 _ s₁.heap _
        rw [e0]
        exact ⟨(by rw [hsz]), N0, rfl⟩
  · have hsz : own_sz u3 = 1 := by simp only [own_sz, hb10, cond_true, cond_false]
    rw [hsz] at hfit
    simp only [own_match, hb10, cond_true, cond_false, Bool.and_eq_true, Bool.not_eq_true'] at hm
    have m1 := hm
    obtain ⟨fs, hr, hrun, hended, hW, hsame⟩ := X0.leave (v := some (.int (u2 + (1 : Int32)))) (fun h => by rw [Bd.returns] at h; cases h)
    refine ⟨_, _, pre31 _ ?_, hrun, hended, _, _, rfl, ?_, ⟨_, rfl⟩, hW, hsame.mono (by decide) (by decide)⟩
    · show Steps p.tables e below (s₁.setTop (mkF m 10 #[.val (.ref u1), .val (.int u2), .val (.int u3), .unset, .unset, .unset, .unset, .unset] [(.int (128 : Int32)), (.int u3)])) _
      refine XS.icmpNo X0.here hx rfl (hb hby d16_10) rfl hb10 ?_
      refine XS.iconst X0.here hx rfl (hb hby d16_13) ?_
      refine XS.goto X0.here hx rfl (pc0 := 14) (pc' := 29) rfl (hb hby d16_14) (by decide) (by decide) ?_
      refine XS.istoreN X0.here hx rfl (hb hby d16_29) rfl (l' := #[.val (.ref u1), .val (.int u2), .val (.int u3), .val (.int (1 : Int32)), .unset, .unset, .unset, .unset]) rfl ?_
      show Steps p.tables e below (s₁.setTop (mkF m 30 #[.val (.ref u1), .val (.int u2), .val (.int u3), .val (.int (1 : Int32)), .unset, .unset, .unset, .unset] [])) _
      refine XS.iloadN X0.here hx rfl (hb hby d16_30) rfl ?_
      refine XS.iloadN X0.here hx rfl (hb hby d16_31) rfl ?_
      refine XS.iadd X0.here hx rfl (hb hby d16_32) rfl ?_
      refine XS.aloadN X0.here hx rfl (hb hby d16_33) rfl rfl ?_
      refine X0.arraylength hx (by rw [e0]; exact Ar.1) (State.isArrayOf_alike hZ.alike Ar.2.1) (g := (mkF m 34 #[.val (.ref u1), .val (.int u2), .val (.int u3), .val (.int (1 : Int32)), .unset, .unset, .unset, .unset] [(.ref u1), (.int (u2 + (1 : Int32)))])) rfl rfl (hb hby d16_34) _ ?_
      rw [len_of Sz Mz]
      refine XS.icmpYes X0.here hx rfl (pc0 := 35) (pc' := 40) rfl (hb hby d16_35) rfl (own_fits hx_ (by decide) hfit) (by decide) (by decide) ?_
      refine XS.iloadN X0.here hx rfl (hb hby d16_40) rfl ?_
      refine XS.iconst X0.here hx rfl (hb hby d16_41) ?_
      show Steps p.tables e below (s₁.setTop (mkF m 42 #[.val (.ref u1), .val (.int u2), .val (.int u3), .val (.int (1 : Int32)), .unset, .unset, .unset, .unset] [(.int (1 : Int32)), (.int (1 : Int32))])) _
      refine XS.icmpNo X0.here hx rfl (hb hby d16_42) rfl (by decide) ?_
      refine XS.aloadN X0.here hx rfl (hb hby d16_45) rfl rfl ?_
      refine XS.iloadN X0.here hx rfl (hb hby d16_46) rfl ?_
      refine X0.baloadBytes hx (j := u2) (v := (.int (xs.getD (u2).toNatClampNeg (0 : Int32)))) (by rw [e0]; exact Ar.1) (State.isArrayOf_alike hZ.alike Ar.2.1) Ar.2.2 (inb_of Sz (by have q := own_inb (k := 1) (0 : Int32) hx_ (N := N) hfit (by decide) (by decide); rw [own_add0] at q; exact q)) (Hz.at (inb_of Sz (by have q := own_inb (k := 1) (0 : Int32) hx_ (N := N) hfit (by decide) (by decide); rw [own_add0] at q; exact q)) (own_getD xs _)) (g := (mkF m 47 #[.val (.ref u1), .val (.int u2), .val (.int u3), .val (.int (1 : Int32)), .unset, .unset, .unset, .unset] [(.int u2), (.ref u1)])) rfl rfl (hb hby d16_47) _ ?_
      refine XS.iloadN X0.here hx rfl (hb hby d16_48) rfl ?_
      refine XS.icmpNo X0.here hx rfl (hb hby d16_49) rfl m1 ?_
      refine XS.iloadN X0.here hx rfl (hb hby d16_52) rfl ?_
      refine XS.iconst X0.here hx rfl (hb hby d16_53) ?_
      show Steps p.tables e below (s₁.setTop (mkF m 54 #[.val (.ref u1), .val (.int u2), .val (.int u3), .val (.int (1 : Int32)), .unset, .unset, .unset, .unset] [(.int (1 : Int32)), (.int u2)])) _
      refine XS.iadd X0.here hx rfl (hb hby d16_54) rfl ?_
      refine XS.goto X0.here hx rfl (pc0 := 55) (pc' := 59) rfl (hb hby d16_55) (by decide) (by decide) ?_
      show Steps p.tables e below (s₁.setTop (mkF m 59 #[.val (.ref u1), .val (.int u2), .val (.int u3), .val (.int (1 : Int32)), .unset, .unset, .unset, .unset] [(.int (u2 + (1 : Int32)))])) _
      exact retI X0 hx Bd.returns (hb hby d16_59) hr
    · show Q_rm_step Z _ _ _ _ _ _ h0 n0 _ s₁.heap _
      rw [e0]
      exact ⟨(by rw [hsz]), N0, rfl⟩
def own_mm (c : Int32) : Bool := (bif (if_icmp.holds .ge c (128 : Int32)) then (bif (if_icmp.holds .ge c (2048 : Int32)) then (!(if_icmp.holds .ne (((((224 : Int32) ||| (c >>> ((12 : Int32) &&& 31))).toInt8.toInt32) &&& (255 : Int32)) &&& (240 : Int32)) (224 : Int32)) && !(if_icmp.holds .ne (((((128 : Int32) ||| ((c >>> ((6 : Int32) &&& 31)) &&& (63 : Int32))).toInt8.toInt32) &&& (255 : Int32)) &&& (192 : Int32)) (128 : Int32)) && !(if_icmp.holds .ne (((((128 : Int32) ||| (c &&& (63 : Int32))).toInt8.toInt32) &&& (255 : Int32)) &&& (192 : Int32)) (128 : Int32)) && !(if_icmp.holds .ne ((((((((224 : Int32) ||| (c >>> ((12 : Int32) &&& 31))).toInt8.toInt32) &&& (255 : Int32)) &&& (15 : Int32)) * (4096 : Int32)) + ((((((128 : Int32) ||| ((c >>> ((6 : Int32) &&& 31)) &&& (63 : Int32))).toInt8.toInt32) &&& (255 : Int32)) &&& (63 : Int32)) * (64 : Int32))) + (((((128 : Int32) ||| (c &&& (63 : Int32))).toInt8.toInt32) &&& (255 : Int32)) &&& (63 : Int32))) c)) else (!(if_icmp.holds .ne (((((192 : Int32) ||| (c >>> ((6 : Int32) &&& 31))).toInt8.toInt32) &&& (255 : Int32)) &&& (224 : Int32)) (192 : Int32)) && !(if_icmp.holds .ne (((((128 : Int32) ||| (c &&& (63 : Int32))).toInt8.toInt32) &&& (255 : Int32)) &&& (192 : Int32)) (128 : Int32)) && !(if_icmp.holds .ne (((((((192 : Int32) ||| (c >>> ((6 : Int32) &&& 31))).toInt8.toInt32) &&& (255 : Int32)) &&& (31 : Int32)) * (64 : Int32)) + (((((128 : Int32) ||| (c &&& (63 : Int32))).toInt8.toInt32) &&& (255 : Int32)) &&& (63 : Int32))) c))) else (!(if_icmp.holds .ne (c.toInt8.toInt32) c)))
theorem own_fin {P : Int32 → Prop} (n : Nat) (h : ∀ k : Fin n, P (Int32.ofInt k.val)) (y : Int32) (h0 : 0 ≤ y.toInt) (h1 : y.toInt < n) : P y := by
  have q := h ⟨y.toInt.toNat, by omega⟩
  have e : Int32.ofInt ((y.toInt.toNat : Nat) : Int) = y := by rw [Int.toNat_of_nonneg h0, Int32.ofInt_toInt]
  rw [← e]; exact q
theorem own_f2 (y : Int32) (h0 : 0 ≤ y.toInt) (h1 : y.toInt < 32) : ((((192 : Int32) ||| y).toInt8.toInt32 &&& (255 : Int32)) &&& (224 : Int32)) = (192 : Int32) ∧ ((((192 : Int32) ||| y).toInt8.toInt32 &&& (255 : Int32)) &&& (31 : Int32)) = y :=
  own_fin (P := fun y => ((((192 : Int32) ||| y).toInt8.toInt32 &&& (255 : Int32)) &&& (224 : Int32)) = (192 : Int32) ∧ ((((192 : Int32) ||| y).toInt8.toInt32 &&& (255 : Int32)) &&& (31 : Int32)) = y) 32 (by decide +kernel) y h0 h1
theorem own_f1 (y : Int32) (h0 : 0 ≤ y.toInt) (h1 : y.toInt < 64) : ((((128 : Int32) ||| y).toInt8.toInt32 &&& (255 : Int32)) &&& (192 : Int32)) = (128 : Int32) ∧ ((((128 : Int32) ||| y).toInt8.toInt32 &&& (255 : Int32)) &&& (63 : Int32)) = y :=
  own_fin (P := fun y => ((((128 : Int32) ||| y).toInt8.toInt32 &&& (255 : Int32)) &&& (192 : Int32)) = (128 : Int32) ∧ ((((128 : Int32) ||| y).toInt8.toInt32 &&& (255 : Int32)) &&& (63 : Int32)) = y) 64 (by decide +kernel) y h0 h1
theorem own_f3 (y : Int32) (h0 : 0 ≤ y.toInt) (h1 : y.toInt < 16) : ((((224 : Int32) ||| y).toInt8.toInt32 &&& (255 : Int32)) &&& (240 : Int32)) = (224 : Int32) ∧ ((((224 : Int32) ||| y).toInt8.toInt32 &&& (255 : Int32)) &&& (15 : Int32)) = y :=
  own_fin (P := fun y => ((((224 : Int32) ||| y).toInt8.toInt32 &&& (255 : Int32)) &&& (240 : Int32)) = (224 : Int32) ∧ ((((224 : Int32) ||| y).toInt8.toInt32 &&& (255 : Int32)) &&& (15 : Int32)) = y) 16 (by decide +kernel) y h0 h1
theorem own_s2 (c : Int32) (h : 0 ≤ c.toInt ∧ c.toInt < 2048) : (((c >>> ((6 : Int32) &&& 31)) * (64 : Int32)) + (c &&& (63 : Int32))) = c ∧ 0 ≤ (c >>> ((6 : Int32) &&& 31)).toInt ∧ (c >>> ((6 : Int32) &&& 31)).toInt < 32 ∧ 0 ≤ (c &&& (63 : Int32)).toInt ∧ (c &&& (63 : Int32)).toInt < 64 := by
  have a1 := c_ishr c (6 : Int32) 6 (by decide)
  have a2 := c_mask c (63 : Int32) 6 (by decide) (by decide)
  generalize (c >>> ((6 : Int32) &&& 31)) = x at *
  generalize (c &&& (63 : Int32)) = y at *
  have m := c_imul x (64 : Int32)
  have e : (64 : Int32).toInt = 64 := by decide
  rw [e] at m
  have r := rng32 (x * 64)
  have s := c_iadd (x * 64) y
  have r2 := rng32 (x * 64 + y)
  rw [← Int32.toInt_inj]; omega
theorem own_s3 (c : Int32) (h : 0 ≤ c.toInt ∧ c.toInt < 65536) : ((((c >>> ((12 : Int32) &&& 31)) * (4096 : Int32)) + (((c >>> ((6 : Int32) &&& 31)) &&& (63 : Int32)) * (64 : Int32))) + (c &&& (63 : Int32))) = c ∧ 0 ≤ (c >>> ((12 : Int32) &&& 31)).toInt ∧ (c >>> ((12 : Int32) &&& 31)).toInt < 16 ∧ (0 ≤ ((c >>> ((6 : Int32) &&& 31)) &&& (63 : Int32)).toInt ∧ ((c >>> ((6 : Int32) &&& 31)) &&& (63 : Int32)).toInt < 64) ∧ 0 ≤ (c &&& (63 : Int32)).toInt ∧ (c &&& (63 : Int32)).toInt < 64 := by
  have a1 := c_ishr c (6 : Int32) 6 (by decide)
  have a3 := c_ishr c (12 : Int32) 12 (by decide)
  have a2 := c_mask c (63 : Int32) 6 (by decide) (by decide)
  have a4 := c_mask (c >>> ((6 : Int32) &&& 31)) (63 : Int32) 6 (by decide) (by decide)
  generalize ((c >>> ((6 : Int32) &&& 31)) &&& (63 : Int32)) = w at *
  generalize (c >>> ((6 : Int32) &&& 31)) = x at *
  generalize (c >>> ((12 : Int32) &&& 31)) = z at *
  generalize (c &&& (63 : Int32)) = y at *
  have m := c_imul w (64 : Int32)
  have e : (64 : Int32).toInt = 64 := by decide
  rw [e] at m
  have m2 := c_imul z (4096 : Int32)
  have e : (4096 : Int32).toInt = 4096 := by decide
  rw [e] at m2
  have r := rng32 (w * 64)
  have r' := rng32 (z * 4096)
  have s := c_iadd (z * 4096) (w * 64)
  have r1 := rng32 (z * 4096 + w * 64)
  have s2 := c_iadd (z * 4096 + w * 64) y
  have r2 := rng32 (z * 4096 + w * 64 + y)
  rw [← Int32.toInt_inj]; omega
theorem own_mmT (c : Int32) (h : ¬ c < 0 ∧ ¬ (65535 : Int32) < c) : own_mm c = true := by
  have e0 : (0 : Int32).toInt = 0 := by decide
  have e1 : (65535 : Int32).toInt = 65535 := by decide
  have e2 : (128 : Int32).toInt = 128 := by decide
  have e3 : (2048 : Int32).toInt = 2048 := by decide
  rw [Int32.lt_iff_toInt_lt, Int32.lt_iff_toInt_lt, e0, e1] at h
  unfold own_mm
  rcases Bool.eq_false_or_eq_true (if_icmp.holds .ge c (128 : Int32)) with k | k
  · rcases Bool.eq_false_or_eq_true (if_icmp.holds .ge c (2048 : Int32)) with k2 | k2
    · obtain ⟨s, w0, w1, y0, z0, z1⟩ := own_s3 c (by omega)
      have f3 := own_f3 _ w0 w1
      have fy := own_f1 _ y0.1 y0.2
      have fz := own_f1 _ z0 z1
      rw [k, k2, f3.1, f3.2, fy.1, fy.2, fz.1, fz.2, s, own_same, own_same, own_same]; rfl
    · have q := k2
      rw [own_ige] at q
      have q := of_decide_eq_false q
      rw [Int32.le_iff_toInt_le, e3] at q
      obtain ⟨s, w0, w1, z0, z1⟩ := own_s2 c (by omega)
      have f3 := own_f2 _ w0 w1
      have fz := own_f1 _ z0 z1
      rw [k, k2, f3.1, f3.2, fz.1, fz.2, s, own_same, own_same, own_same]; rfl
  · have q := k
    rw [own_ige] at q
    have q := of_decide_eq_false q
    rw [Int32.le_iff_toInt_le, e2] at q
    have b := c_i2b c
    have e : c.toInt8.toInt32 = c := by rw [← Int32.toInt_inj]; omega
    rw [k, e, own_same]; rfl
theorem own_gs0 (xs : List Int32) (p : Nat) (v : Int32) (h : p < xs.length) : (xs.set p v).getD p (0 : Int32) = v := by
  rw [List.getD_eq_getElem?_getD, List.getElem?_set_self h]; rfl
theorem own_gsN (xs : List Int32) (p q : Nat) (v : Int32) (h : p ≠ q) : (xs.set p v).getD q (0 : Int32) = xs.getD q (0 : Int32) := by
  rw [List.getD_eq_getElem?_getD, List.getElem?_set_ne h, List.getD_eq_getElem?_getD]
theorem own_g2 (xs : List Int32) (p : Nat) (a b : Int32) (h : p + 1 < xs.length) : ((xs.set p a).set (p + 1) b).getD p (0 : Int32) = a ∧ ((xs.set p a).set (p + 1) b).getD (p + 1) (0 : Int32) = b := by
  refine ⟨?_, ?_⟩
  · rw [own_gsN _ _ _ _ (by omega), own_gs0 _ _ _ (by omega)]
  · rw [own_gs0 _ _ _ (by rw [List.length_set]; omega)]
theorem own_g3 (xs : List Int32) (p : Nat) (a b d : Int32) (h : p + 2 < xs.length) : (((xs.set p a).set (p + 1) b).set (p + 2) d).getD p (0 : Int32) = a ∧ (((xs.set p a).set (p + 1) b).set (p + 2) d).getD (p + 1) (0 : Int32) = b ∧ (((xs.set p a).set (p + 1) b).set (p + 2) d).getD (p + 2) (0 : Int32) = d := by
  refine ⟨?_, ?_, ?_⟩
  · rw [own_gsN _ _ _ _ (by omega)]; exact (own_g2 xs p a b (by omega)).1
  · rw [own_gsN _ _ _ _ (by omega)]; exact (own_g2 xs p a b (by omega)).2
  · rw [own_gs0 _ _ _ (by rw [List.length_set, List.length_set]; omega)]
theorem own_ix (x j : Int32) (hx : 0 ≤ x.toInt ∧ x.toInt ≤ 6) (hj : 0 ≤ j.toInt ∧ j.toInt < 3) : ((x + j).toNatClampNeg : Int) = x.toInt + j.toInt := by
  have a1 := c_iadd x j
  have r1 := rng32 (x + j)
  have e0 : (0 : Int32).toInt = 0 := by decide
  have q := nat_of (j := x + j) (by rw [Int32.lt_iff_toInt_lt]; omega)
  omega
theorem own_ixs (x : Int32) (hx : 0 ≤ x.toInt ∧ x.toInt ≤ 6) : (x.toNatClampNeg : Int) = x.toInt ∧ (x + 1).toNatClampNeg = x.toNatClampNeg + 1 ∧ (x + 2).toNatClampNeg = x.toNatClampNeg + 2 := by
  have e0 : (0 : Int32).toInt = 0 := by decide
  have e1 : (1 : Int32).toInt = 1 := by decide
  have e2 : (2 : Int32).toInt = 2 := by decide
  have a1 := own_ix x 1 hx (by omega)
  have a2 := own_ix x 2 hx (by omega)
  have q := nat_of (j := x) (by rw [Int32.lt_iff_toInt_lt]; omega)
  omega
theorem own_mtW (xs : List Int32) (x c : Int32) (hl : xs.length = 9) (hx : 0 ≤ x.toInt ∧ x.toInt ≤ 6) (h : ¬ c < 0 ∧ ¬ (65535 : Int32) < c) : own_match (own_wr xs x c) x c = true := by
  have t := own_mmT c h
  obtain ⟨i0, i1, i2⟩ := own_ixs x hx
  unfold own_match own_wr
  rw [own_add2, i1, i2]
  unfold own_mm at t
  generalize x.toNatClampNeg = p at *
  revert t
  cases if_icmp.holds .ge c (128 : Int32) <;> cases if_icmp.holds .ge c (2048 : Int32) <;> simp only [cond_true, cond_false] <;> intro t
  · rw [own_gs0 _ _ _ (by omega)]; exact t
  · rw [own_gs0 _ _ _ (by omega)]; exact t
  · rw [(own_g2 xs p _ _ (by omega)).1, (own_g2 xs p _ _ (by omega)).2]; exact t
  · rw [(own_g3 xs p _ _ _ (by omega)).1, (own_g3 xs p _ _ _ (by omega)).2.1, (own_g3 xs p _ _ _ (by omega)).2.2]; exact t
theorem own_wrg (xs : List Int32) (y d : Int32) (q : Nat) (hy : 0 ≤ y.toInt ∧ y.toInt ≤ 6) (h : q < y.toNatClampNeg) : (own_wr xs y d).getD q (0 : Int32) = xs.getD q (0 : Int32) := by
  obtain ⟨i0, i1, i2⟩ := own_ixs y hy
  unfold own_wr
  rw [own_add2, i1, i2]
  generalize y.toNatClampNeg = p at *
  cases if_icmp.holds .ge d (128 : Int32) <;> cases if_icmp.holds .ge d (2048 : Int32) <;> simp only [cond_true, cond_false]
  · rw [own_gsN _ _ _ _ (by omega)]
  · rw [own_gsN _ _ _ _ (by omega)]
  · rw [own_gsN _ _ _ _ (by omega), own_gsN _ _ _ _ (by omega)]
  · rw [own_gsN _ _ _ _ (by omega), own_gsN _ _ _ _ (by omega), own_gsN _ _ _ _ (by omega)]
theorem own_mtK (xs : List Int32) (x c y d : Int32) (hx : 0 ≤ x.toInt ∧ x.toInt ≤ 6) (hy : 0 ≤ y.toInt ∧ y.toInt ≤ 6) (hs : x.toInt + (own_sz c).toInt ≤ y.toInt) (t : own_match xs x c = true) : own_match (own_wr xs y d) x c = true := by
  rw [← t]
  obtain ⟨i0, i1, i2⟩ := own_ixs x hx
  obtain ⟨j0, -, -⟩ := own_ixs y hy
  have e1 : (1 : Int32).toInt = 1 := by decide
  have e2 : (2 : Int32).toInt = 2 := by decide
  have e3 : (3 : Int32).toInt = 3 := by decide
  have g := fun q h => own_wrg xs y d q hy h
  clear t
  unfold own_match
  unfold own_sz at hs
  rw [i1, i2]
  revert hs
  cases if_icmp.holds .ge c (128 : Int32) <;> cases if_icmp.holds .ge c (2048 : Int32) <;> simp only [cond_true, cond_false] <;> intro hs
  · rw [g _ (by omega)]
  · rw [g _ (by omega)]
  · rw [g x.toNatClampNeg (by omega), g (x.toNatClampNeg + 1) (by omega)]
  · rw [g x.toNatClampNeg (by omega), g (x.toNatClampNeg + 1) (by omega), g (x.toNatClampNeg + 2) (by omega)]
theorem own_mt1_0 (c0 : Int32) (h : ¬ c0 < 0 ∧ ¬ (65535 : Int32) < c0) : own_match (own_wr ([(0 : Int32), (0 : Int32), (0 : Int32), (0 : Int32), (0 : Int32), (0 : Int32), (0 : Int32), (0 : Int32), (0 : Int32)] : List Int32) (0 : Int32) c0) (0 : Int32) c0 = true := (own_mtW ([(0 : Int32), (0 : Int32), (0 : Int32), (0 : Int32), (0 : Int32), (0 : Int32), (0 : Int32), (0 : Int32), (0 : Int32)] : List Int32) (0 : Int32) c0 (by rfl) (own_szx1_0 c0) h)
theorem own_mt2_0 (c0 c1 : Int32) (h : ¬ c0 < 0 ∧ ¬ (65535 : Int32) < c0) : own_match (own_wr (own_wr ([(0 : Int32), (0 : Int32), (0 : Int32), (0 : Int32), (0 : Int32), (0 : Int32), (0 : Int32), (0 : Int32), (0 : Int32)] : List Int32) (0 : Int32) c0) ((0 : Int32) + (own_sz c0)) c1) (0 : Int32) c0 = true := (own_mtK (own_wr ([(0 : Int32), (0 : Int32), (0 : Int32), (0 : Int32), (0 : Int32), (0 : Int32), (0 : Int32), (0 : Int32), (0 : Int32)] : List Int32) (0 : Int32) c0) (0 : Int32) c0 ((0 : Int32) + (own_sz c0)) c1 (own_szx2_0 c0 c1) (own_szx2_1 c0 c1) (own_szf1_0 c0) (own_mtW ([(0 : Int32), (0 : Int32), (0 : Int32), (0 : Int32), (0 : Int32), (0 : Int32), (0 : Int32), (0 : Int32), (0 : Int32)] : List Int32) (0 : Int32) c0 (by rfl) (own_szx2_0 c0 c1) h))
theorem own_mt2_1 (c0 c1 : Int32) (h : ¬ c1 < 0 ∧ ¬ (65535 : Int32) < c1) : own_match (own_wr (own_wr ([(0 : Int32), (0 : Int32), (0 : Int32), (0 : Int32), (0 : Int32), (0 : Int32), (0 : Int32), (0 : Int32), (0 : Int32)] : List Int32) (0 : Int32) c0) ((0 : Int32) + (own_sz c0)) c1) ((0 : Int32) + (own_sz c0)) c1 = true := (own_mtW (own_wr ([(0 : Int32), (0 : Int32), (0 : Int32), (0 : Int32), (0 : Int32), (0 : Int32), (0 : Int32), (0 : Int32), (0 : Int32)] : List Int32) (0 : Int32) c0) ((0 : Int32) + (own_sz c0)) c1 (by simp only [own_wrl]; rfl) (own_szx2_1 c0 c1) h)
theorem own_mt3_0 (c0 c1 c2 : Int32) (h : ¬ c0 < 0 ∧ ¬ (65535 : Int32) < c0) : own_match (own_wr (own_wr (own_wr ([(0 : Int32), (0 : Int32), (0 : Int32), (0 : Int32), (0 : Int32), (0 : Int32), (0 : Int32), (0 : Int32), (0 : Int32)] : List Int32) (0 : Int32) c0) ((0 : Int32) + (own_sz c0)) c1) (((0 : Int32) + (own_sz c0)) + (own_sz c1)) c2) (0 : Int32) c0 = true := (own_mtK (own_wr (own_wr ([(0 : Int32), (0 : Int32), (0 : Int32), (0 : Int32), (0 : Int32), (0 : Int32), (0 : Int32), (0 : Int32), (0 : Int32)] : List Int32) (0 : Int32) c0) ((0 : Int32) + (own_sz c0)) c1) (0 : Int32) c0 (((0 : Int32) + (own_sz c0)) + (own_sz c1)) c2 (own_szx3_0 c0 c1 c2) (own_szx3_2 c0 c1 c2) (own_szf2_0 c0 c1) (own_mtK (own_wr ([(0 : Int32), (0 : Int32), (0 : Int32), (0 : Int32), (0 : Int32), (0 : Int32), (0 : Int32), (0 : Int32), (0 : Int32)] : List Int32) (0 : Int32) c0) (0 : Int32) c0 ((0 : Int32) + (own_sz c0)) c1 (own_szx3_0 c0 c1 c2) (own_szx3_1 c0 c1 c2) (own_szf1_0 c0) (own_mtW ([(0 : Int32), (0 : Int32), (0 : Int32), (0 : Int32), (0 : Int32), (0 : Int32), (0 : Int32), (0 : Int32), (0 : Int32)] : List Int32) (0 : Int32) c0 (by rfl) (own_szx3_0 c0 c1 c2) h)))
theorem own_mt3_1 (c0 c1 c2 : Int32) (h : ¬ c1 < 0 ∧ ¬ (65535 : Int32) < c1) : own_match (own_wr (own_wr (own_wr ([(0 : Int32), (0 : Int32), (0 : Int32), (0 : Int32), (0 : Int32), (0 : Int32), (0 : Int32), (0 : Int32), (0 : Int32)] : List Int32) (0 : Int32) c0) ((0 : Int32) + (own_sz c0)) c1) (((0 : Int32) + (own_sz c0)) + (own_sz c1)) c2) ((0 : Int32) + (own_sz c0)) c1 = true := (own_mtK (own_wr (own_wr ([(0 : Int32), (0 : Int32), (0 : Int32), (0 : Int32), (0 : Int32), (0 : Int32), (0 : Int32), (0 : Int32), (0 : Int32)] : List Int32) (0 : Int32) c0) ((0 : Int32) + (own_sz c0)) c1) ((0 : Int32) + (own_sz c0)) c1 (((0 : Int32) + (own_sz c0)) + (own_sz c1)) c2 (own_szx3_1 c0 c1 c2) (own_szx3_2 c0 c1 c2) (own_szf2_1 c0 c1) (own_mtW (own_wr ([(0 : Int32), (0 : Int32), (0 : Int32), (0 : Int32), (0 : Int32), (0 : Int32), (0 : Int32), (0 : Int32), (0 : Int32)] : List Int32) (0 : Int32) c0) ((0 : Int32) + (own_sz c0)) c1 (by simp only [own_wrl]; rfl) (own_szx3_1 c0 c1 c2) h))
theorem own_mt3_2 (c0 c1 c2 : Int32) (h : ¬ c2 < 0 ∧ ¬ (65535 : Int32) < c2) : own_match (own_wr (own_wr (own_wr ([(0 : Int32), (0 : Int32), (0 : Int32), (0 : Int32), (0 : Int32), (0 : Int32), (0 : Int32), (0 : Int32), (0 : Int32)] : List Int32) (0 : Int32) c0) ((0 : Int32) + (own_sz c0)) c1) (((0 : Int32) + (own_sz c0)) + (own_sz c1)) c2) (((0 : Int32) + (own_sz c0)) + (own_sz c1)) c2 = true := (own_mtW (own_wr (own_wr ([(0 : Int32), (0 : Int32), (0 : Int32), (0 : Int32), (0 : Int32), (0 : Int32), (0 : Int32), (0 : Int32), (0 : Int32)] : List Int32) (0 : Int32) c0) ((0 : Int32) + (own_sz c0)) c1) (((0 : Int32) + (own_sz c0)) + (own_sz c1)) c2 (by simp only [own_wrl]; rfl) (own_szx3_2 c0 c1 c2) h)
theorem own_unit (u1 : Int32) : ¬ (bif (ifCond.holds .ne (((u1.toUInt32 >>> ((16 : Int32) &&& 31).toUInt32).toInt32) &&& (3 : Int32))) then (bif (if_icmp.holds .ne (((u1.toUInt32 >>> ((16 : Int32) &&& 31).toUInt32).toInt32) &&& (3 : Int32)) (1 : Int32)) then (u1 &&& (65535 : Int32)) else (u1 &&& (2047 : Int32))) else (u1 &&& (127 : Int32))) < 0 ∧ ¬ (65535 : Int32) < (bif (ifCond.holds .ne (((u1.toUInt32 >>> ((16 : Int32) &&& 31).toUInt32).toInt32) &&& (3 : Int32))) then (bif (if_icmp.holds .ne (((u1.toUInt32 >>> ((16 : Int32) &&& 31).toUInt32).toInt32) &&& (3 : Int32)) (1 : Int32)) then (u1 &&& (65535 : Int32)) else (u1 &&& (2047 : Int32))) else (u1 &&& (127 : Int32))) := by
  have m1 := c_mask u1 (65535 : Int32) 16 (by decide) (by decide)
  have m2 := c_mask u1 (2047 : Int32) 11 (by decide) (by decide)
  have m3 := c_mask u1 (127 : Int32) 7 (by decide) (by decide)
  have e0 : (0 : Int32).toInt = 0 := by decide
  have e1 : (65535 : Int32).toInt = 65535 := by decide
  cases ifCond.holds .ne (((u1.toUInt32 >>> ((16 : Int32) &&& 31).toUInt32).toInt32) &&& (3 : Int32)) <;> cases if_icmp.holds .ne (((u1.toUInt32 >>> ((16 : Int32) &&& 31).toUInt32).toInt32) &&& (3 : Int32)) (1 : Int32) <;> simp only [cond_true, cond_false, Int32.lt_iff_toInt_lt, e0, e1] <;> omega
theorem own_z {x : Int32} (h : ifCond.holds .ne x = false) : x = 0 := by
  rw [if0, own_ine] at h; simpa using h
theorem own_k {x k : Int32} (h : if_icmp.holds .ne x k = false) : x = k := by
  rw [own_ine] at h; simpa using h
theorem own_3 {x : Int32} (h0 : ifCond.holds .ne (x &&& (3 : Int32)) = true) (h1 : if_icmp.holds .ne (x &&& (3 : Int32)) (1 : Int32) = true) (h2 : if_icmp.holds .ne (x &&& (3 : Int32)) (2 : Int32) = true) : (x &&& (3 : Int32)) = 3 := by
  have m1 := c_mask x (3 : Int32) 2 (by decide) (by decide)
  rw [if0, own_ine] at h0
  rw [own_ine] at h1 h2
  have h0 := of_decide_eq_true h0
  have h1 := of_decide_eq_true h1
  have h2 := of_decide_eq_true h2
  have e0 : (0 : Int32).toInt = 0 := by decide
  have e1 : (1 : Int32).toInt = 1 := by decide
  have e2 : (2 : Int32).toInt = 2 := by decide
  have e3 : (3 : Int32).toInt = 3 := by decide
  rw [ne_eq, ← Int32.toInt_inj] at h0 h1 h2
  rw [← Int32.toInt_inj]
  omega
theorem own_backT {p : Program} {l : Launch} {e : Env} {R : Room} {s : State} {args : Array Value} {below : List Frame} {Z : State} {a0 : Array Value} {h : Heap} {y : MethodName} {bytes : ByteArray} {maxL : Nat} {ret : Option FieldType} {rm : Room} {len W : Nat} {as' : Array Value} {Q : Option Value → Heap → List Loc → Prop}
    (hM : MetFree l y (head1 [Cond.code y bytes maxL ret] rm) (fun a U => a = as' ∧ Z.Warmed39 U.vm ∧ U.vm.interned = Z.vm.interned ∧ U.heap = h) (fun _ _ _ _ _ => True) (fun _ U o U' => ∃ v L, o = .returned v ∧ Q v U'.heap L ∧ ReturnedEndW U o U' L rm.cells rm.slots))
    (hZ : Z.Warmed39 s.vm) (hti : s.vm.interned = Z.vm.interned) (wc : (Cond.code y bytes maxL ret).before a0 Z = true) (wz : (Cond.initialized y.cls).before a0 Z = true) (hf : rm.frames + 1 ≤ R.frames) (hl : W + (maxL + 11) + rm.locals ≤ R.locals) :
    BackS l R p e below s args y len W (fun A a => a = as' ∧ A.U.heap = h ∧ A.cells + rm.cells ≤ R.cells ∧ A.slots + rm.slots ≤ R.slots)
      (fun A _ v B => ∃ L, Q v B.U.heap L ∧ B.locs = A.locs ++ L ∧ B.cells = A.cells + rm.cells ∧ B.slots = A.slots + rm.slots) := by
  refine BackS.of_freeW (bytes := bytes) (maxL := maxL) (ret := ret) (E := fun _ _ o t L k n => k = rm.cells ∧ n = rm.slots ∧ ∃ v, o = .returned v ∧ Q v t.heap L) hM hf hl ?_ ?_ ?_ ?_ ?_
  · intro m meth c A a Y hp
    have hU : Z.Warmed39 A.U.vm := wtrans hZ Y.warmed
    refine ⟨?_, mv hU wc, mv hU wz, hp.2.2.1, hp.2.2.2⟩
    show (Cond.and _ .tt).before a A.U = true
    rw [Cond.before_and, mv hU wc]; rfl
  · intro m meth c A a g mk Y hp
    exact ⟨hp.1, wtrans hZ Y.warmed, Y.warmed.interned_eq.trans hti, hp.2.1⟩
  · intros; trivial
  · intro a first o t hq
    obtain ⟨v, L, h1, h2, h3⟩ := hq
    exact ⟨L, _, _, h3, rfl, rfl, v, h1, h2⟩
  · intro m meth c A a g mk v t L k n Y hp _ _ hE
    obtain ⟨e1, e2, v', e3, e4⟩ := hE
    cases e3
    subst e1 e2
    exact ⟨L, e4, rfl, rfl, rfl⟩
theorem d3_8 : decode jdk_42_method_149_code 8 = .ok (.aload_n 0, 1) := by decide +kernel
theorem d3_9 : decode jdk_42_method_149_code 9 = .ok (.ldc 7, 2) := by decide +kernel
theorem d3_11 : decode jdk_42_method_149_code 11 = .ok (.getfield 9, 3) := by decide +kernel
theorem d3_14 : decode jdk_42_method_149_code 14 = .ok (.putfield 9, 3) := by decide +kernel
theorem d3_17 : decode jdk_42_method_149_code 17 = .ok (.aload_n 0, 1) := by decide +kernel
theorem d3_18 : decode jdk_42_method_149_code 18 = .ok (.ldc 7, 2) := by decide +kernel
theorem d3_20 : decode jdk_42_method_149_code 20 = .ok (.getfield 15, 3) := by decide +kernel
theorem d3_23 : decode jdk_42_method_149_code 23 = .ok (.putfield 15, 3) := by decide +kernel
theorem d3_26 : decode jdk_42_method_149_code 26 = .ok (.return_, 1) := by decide +kernel
theorem ef_rm_sv0 (m : MethodId) (x0 : Addr) (x1 : Addr) (x2 : Int32) (x3 : Int32) : entryFrame m #[(.ref x0), (.ref x1), (.int x2), (.int x3), .null] 6 = mkF m 0 #[.val (.ref x0), .val (.ref x1), .val (.int x2), .val (.int x3), .val .null, .unset] [] := by first | (simp [entryFrame, mkF, argsToLocals, Value.category]; done) | rfl
def Q_rm_sv0 (Z : State) (u1 : Addr) (u2 : Addr) (h0 : Heap) (n0 : Nat) (v : Option Value) (h : Heap) (L : List Loc) : Prop := v = none ∧ Fr n0 L ∧ Keep h0 h [u1] ∧ Exa Z h u1 "java/lang/String" ∧ Fld Z h u1 "java/lang/String" "coder" "B" (.int (0 : Int32)) ∧ ∃ (t : Addr) (kt : ClassId), Fld Z h u1 "java/lang/String" "value" "[B" (.ref t) ∧ Arv Z h t kt .byte (0 : Int32) [] (.int (0 : Int32))
set_option maxRecDepth 65536 in
set_option maxHeartbeats 40000000 in
theorem rm_sv0 (l : Launch) (Z : State) (a0 : Array Value) (hw : ∀ d ∈ tables_1, d.before a0 Z = true) (ws : List Jvm.Cond) (u1 : Addr) (u2 : Addr) (h0 : Heap) (n0 : Nat) (Z0 : n0 ≤ h0.size) (X00 : Old Z Z.heap.size h0) (hh7 : Jvm.Lit.constHeld Z "java/lang/String" 7) (hcw : Jvm.Lit.compactW.before a0 Z = true) (F1 : Fld Z h0 u1 "java/lang/String" "value" "[B" .null) (F2 : Fld Z h0 u1 "java/lang/String" "coder" "B" (.int (0 : Int32))) (E1 : Exa Z h0 u1 "java/lang/String") (g1 : n0 ≤ u1) :
    MetFree l (⟨"java/lang/String", "<init>", "([CIILjava/lang/Void;)V"⟩ : MethodName) (head1 (Jvm.Cond.code (⟨"java/lang/String", "<init>", "([CIILjava/lang/Void;)V"⟩ : MethodName) jdk_42_method_149_code 6 none :: ws) ({ frames := 1, cells := 2, slots := 4, locals := 12 } : Room)) (fun a U => a = #[(.ref u1), (.ref u2), (.int (0 : Int32)), (.int (0 : Int32)), .null] ∧ Z.Warmed39 U.vm ∧ U.vm.interned = Z.vm.interned ∧ U.heap = h0) (fun _ _ _ _ _ => True) (fun _ U o U' => ∃ v L, o = .returned v ∧ Q_rm_sv0 Z u1 u2 h0 n0 v U'.heap L ∧ ReturnedEndW U o U' L ({ frames := 1, cells := 2, slots := 4, locals := 12 } : Room).cells ({ frames := 1, cells := 2, slots := 4, locals := 12 } : Room).slots) := by
  refine MetFree.of_bodySF (plainFor_of_name pn_453642) hisR ?_
  intro p e s m args below meth c s₁ Bd hml0 hP hK
  obtain ⟨rfl, hZ, hti, hh⟩ := hP
  have hx := Bd.exec
  have hby := Bd.bytes
  have hml : c.maxLocals = 6 := hml0
  have hown : s.vm.findClass "java/lang/String" = some m.cls := findClass_of_methodNamed Bd.named
  have hnm := (name_of_methodNamed Bd.named Bd.method).1
  have X0 : Stand p l e ({ frames := 1, cells := 2, slots := 4, locals := 12 } : Room) s m #[(.ref u1), (.ref u2), (.int (0 : Int32)), (.int (0 : Int32)), .null] below meth c s₁ [] 0 0 := Stand.of_body Bd
  have e0 : s₁.heap = h0 := by rw [← hh, Bd.state]; rfl
  have N0 := Fr.nil n0
  have K0 : Keep h0 h0 [u1] := Keep.refl _ _
  have pre0 : ∀ t, Steps p.tables e below (s₁.setTop (mkF m 0 #[.val (.ref u1), .val (.ref u2), .val (.int (0 : Int32)), .val (.int (0 : Int32)), .val .null, .unset] [])) t → Steps p.tables e below (s₁.setTop (entryFrame m #[(.ref u1), (.ref u2), (.int (0 : Int32)), (.int (0 : Int32)), .null] 6)) t := fun t k => castTop (ef_rm_sv0 m u1 u2 (0 : Int32) (0 : Int32)) k
  have hint : IB Z s.vm [] := ⟨#[], by simpa using hti, fun q hq => by simp at hq⟩
  have hkeep : ∀ (b : Addr) (cl : Cell), Z.heap[b]? = some cl → s.heap[b]? = some cl := fun b cl q => by rw [hh]; exact X00.2.2 b cl q
  obtain ⟨T31, X31, e31, st31⟩ := initO X0 hx hZ hown (own_w hw 15 rfl) (own_w hw 16 rfl) (own_w hw 17 rfl) e0 (g := (mkF m 1 #[.val (.ref u1), .val (.ref u2), .val (.int (0 : Int32)), .val (.int (0 : Int32)), .val .null, .unset] [(.ref u1)])) rfl (by rw [hml]; rfl) rfl (hb hby d3_1) (by decide) (W := 0) (by show 2 * 0 + _ ≤ _; exact Nat.le_of_eq rfl) (by decide)
  have wS : ∀ a ∈ Bundle.stringAtoms, a.before a0 Z = true := fun d hd => hw d ((by decide +kernel : ∀ d ∈ Bundle.stringAtoms, d ∈ tables_1) d hd)
  obtain ⟨sa32, T32, h32, kc32, sb32, kb32, X32, e32, E32, hS32, kk32, hZ, hown, Ea32, Fc32, Fv32, Vb32, -, -, IB32, Lt32, st32⟩ := ldcSVL (s := s) (vm0 := s.vm) X31 hx hZ hown (own_w hw 74 rfl) wS e31 (k0 := h0.size) ((State.WarmedH.refl s).since _) (Nat.le_refl _) (Fr.nil _) hkeep hint (by simp) hh7 hcw (vs := []) (z := (0 : Int32)) (by decide) (by decide) (by decide) (g := (mkF m 9 #[.val (.ref u1), .val (.ref u2), .val (.int (0 : Int32)), .val (.int (0 : Int32)), .val .null, .unset] [(.ref u1)])) rfl (hb hby d3_9) (n := 0) (by decide) (by decide) (by decide) (by decide)
  have Z32 : n0 ≤ h32.size := Nat.le_trans Z0 E32.1
  have K32 : Keep h0 h32 [u1] := K0.ext E32
  have ne_a : sa32 ≠ u1 := Fld.ne Fv32 (F1.ext E32) (by simp)
  have ne_b : u1 ≠ sb32 := Exa.neArv (E1.ext E32) Vb32 (own_w hw 6 rfl)
  obtain ⟨T33, X33, e33, st33⟩ := getF X32 hx hZ hown (host := "") (Or.inl (own_w hw 32 rfl)) Via.refl e32 Fv32 (g := (mkF m 11 #[.val (.ref u1), .val (.ref u2), .val (.int (0 : Int32)), .val (.int (0 : Int32)), .val .null, .unset] [(.ref sa32), (.ref u1)])) rfl rfl (hb hby d3_11)
  obtain ⟨T34, h34, X34, e34, W34, st34⟩ := putF X33 hx hZ hown (host := "") (Or.inl (own_w hw 32 rfl)) Via.refl e33 (F1.ext E32) (E1.ext E32) (Or.inr ⟨(own_w hw 33 rfl), rfl, hnm⟩) (own_w hw 6 rfl) (ty := (.array .byte)) (by decide) rfl rfl (g := (mkF m 14 #[.val (.ref u1), .val (.ref u2), .val (.int (0 : Int32)), .val (.int (0 : Int32)), .val .null, .unset] [(.ref sb32), (.ref u1)])) rfl rfl (hb hby d3_14)
  have Fw34 := Fld.same W34 (F1.ext E32)
  have N34 := Fr.snoc X34 N0 g1
  have Z34 : n0 ≤ h34.size := Nat.le_trans Z32 (Keep.of_wr W34).1
  have kk34 : kc32 ≤ h34.size := Nat.le_trans kk32 (Keep.of_wr W34).1
  have K34 : Keep h0 h34 [u1] := Keep.wr K32 W34 (Or.inl (List.mem_of_getElem? (i := 0) rfl))
  obtain ⟨T35, X35, e35, st35⟩ := getF X34 hx hZ hown (host := "") (Or.inl (own_w hw 30 rfl)) Via.refl e34 (Fld.other W34 Fc32 (Or.inl ne_a)) (g := (mkF m 20 #[.val (.ref u1), .val (.ref u2), .val (.int (0 : Int32)), .val (.int (0 : Int32)), .val .null, .unset] [(.ref sa32), (.ref u1)])) rfl rfl (hb hby d3_20)
  obtain ⟨T36, h36, X36, e36, W36, st36⟩ := putFN X35 hx hZ hown (own_w hw 30 rfl) Via.refl e35 (Fld.other W34 (F2.ext E32) (Or.inr (slot_ne (Or.inr (own_w hw 31 rfl)) (Or.inr (own_w hw 33 rfl)) (by decide) (t := .byte) (t' := (.array .byte)) (by decide) (by decide)))) ((E1.ext E32).wr W34) (Or.inr ⟨(own_w hw 31 rfl), rfl, hnm⟩) (own_w hw 6 rfl) (ty := .byte) (v' := (.int (0 : Int32))) (by decide) rfl (by decide) (g := (mkF m 23 #[.val (.ref u1), .val (.ref u2), .val (.int (0 : Int32)), .val (.int (0 : Int32)), .val .null, .unset] [(.int (0 : Int32)), (.ref u1)])) rfl rfl (hb hby d3_23)
  have Fw36 := Fld.same W36 (Fld.other W34 (F2.ext E32) (Or.inr (slot_ne (Or.inr (own_w hw 31 rfl)) (Or.inr (own_w hw 33 rfl)) (by decide) (t := .byte) (t' := (.array .byte)) (by decide) (by decide))))
  have N36 := Fr.snoc X36 N34 g1
  have Z36 : n0 ≤ h36.size := Nat.le_trans Z34 (Keep.of_wr W36).1
  have kk36 : kc32 ≤ h36.size := Nat.le_trans kk34 (Keep.of_wr W36).1
  have K36 : Keep h0 h36 [u1] := Keep.wr K34 W36 (Or.inl (List.mem_of_getElem? (i := 0) rfl))
  obtain ⟨fs, hr, hrun, hended, hEnd⟩ := Stand.leaveW (s := s) X36 hS32 (by rw [e36]; exact kk36) (v := none) (fun _ => rfl)
  refine ⟨_, _, pre0 _ ?_, hrun, hended, _, _, rfl, ?_, hEnd.1, hEnd.2.1, hEnd.2.2.1, hEnd.2.2.2.mono (by decide) (by decide)⟩
  · show Steps p.tables e below (s₁.setTop (mkF m 0 #[.val (.ref u1), .val (.ref u2), .val (.int (0 : Int32)), .val (.int (0 : Int32)), .val .null, .unset] [])) _
    refine XS.aloadN X0.here hx rfl (hb hby d3_0) rfl rfl ?_
    refine st31 _ ?_
    refine XS.iloadN X31.here hx rfl (hb hby d3_4) rfl ?_
    refine XS.ifNo X31.here hx rfl (hb hby d3_5) rfl (by decide) ?_
    refine XS.aloadN X31.here hx rfl (hb hby d3_8) rfl rfl ?_
    refine st32 _ ?_
    refine st33 _ ?_
    refine st34 _ ?_
    show Steps p.tables e below (T34.setTop (mkF m 17 #[.val (.ref u1), .val (.ref u2), .val (.int (0 : Int32)), .val (.int (0 : Int32)), .val .null, .unset] [])) _
    refine XS.aloadN X34.here hx rfl (hb hby d3_17) rfl rfl ?_
    refine ldcAgain (s := s) (vm0 := T32.vm) X34 hx hZ hown (own_w hw 74 rfl) Lt32 (g := (mkF m 18 #[.val (.ref u1), .val (.ref u2), .val (.int (0 : Int32)), .val (.int (0 : Int32)), .val .null, .unset] [(.ref u1)])) rfl (hb hby d3_18) _ ?_
    refine st35 _ ?_
    refine st36 _ ?_
    show Steps p.tables e below (T36.setTop (mkF m 26 #[.val (.ref u1), .val (.ref u2), .val (.int (0 : Int32)), .val (.int (0 : Int32)), .val .null, .unset] [])) _
    exact X36.returnOut hx Bd.returns (hb hby d3_26) hr
  · show Q_rm_sv0 Z _ _ h0 n0 _ T36.heap _
    rw [e36]
    exact ⟨rfl, N36, K36, (((E1.ext E32).wr W34).wr W36), Fw36, sb32, kb32, (Fld.other W36 Fw34 (Or.inr (slot_ne (Or.inr (own_w hw 33 rfl)) (Or.inr (own_w hw 31 rfl)) (by decide) (t := (.array .byte)) (t' := .byte) (by decide) (by decide)))), ((Vb32.other W34 (Ne.symm ne_b)).other W36 (Ne.symm ne_b))⟩
theorem ef_rm_s0 (m : MethodId) (x0 : Addr) (x1 : Addr) : entryFrame m #[(.ref x0), (.ref x1)] 2 = mkF m 0 #[.val (.ref x0), .val (.ref x1)] [] := by first | (simp [entryFrame, mkF, argsToLocals, Value.category]; done) | rfl
def Q_rm_s0 (Z : State) (u1 : Addr) (u2 : Addr) (kc : ClassId) (h0 : Heap) (n0 : Nat) (v : Option Value) (h : Heap) (L : List Loc) : Prop := v = none ∧ Fr n0 L ∧ Keep h0 h [u1] ∧ Exa Z h u1 "java/lang/String" ∧ Fld Z h u1 "java/lang/String" "coder" "B" (.int (0 : Int32)) ∧ ∃ (t : Addr) (kt : ClassId), Fld Z h u1 "java/lang/String" "value" "[B" (.ref t) ∧ Arv Z h t kt .byte (0 : Int32) [] (.int (0 : Int32))
set_option maxRecDepth 65536 in
set_option maxHeartbeats 40000000 in
theorem rm_s0 (l : Launch) (Z : State) (a0 : Array Value) (hw : ∀ d ∈ tables_1, d.before a0 Z = true) (ws : List Jvm.Cond) (u1 : Addr) (u2 : Addr) (kc : ClassId) (h0 : Heap) (n0 : Nat) (Z0 : n0 ≤ h0.size) (X00 : Old Z Z.heap.size h0) (hh7 : Jvm.Lit.constHeld Z "java/lang/String" 7) (hcw : Jvm.Lit.compactW.before a0 Z = true) (F1 : Fld Z h0 u1 "java/lang/String" "value" "[B" .null) (F2 : Fld Z h0 u1 "java/lang/String" "coder" "B" (.int (0 : Int32))) (E1 : Exa Z h0 u1 "java/lang/String") (g1 : n0 ≤ u1) (V1 : Arv Z h0 u2 kc .char (0 : Int32) [] (.int (0 : Int32))) :
    MetFree l (⟨"java/lang/String", "<init>", "([C)V"⟩ : MethodName) (head1 (Jvm.Cond.code (⟨"java/lang/String", "<init>", "([C)V"⟩ : MethodName) jdk_42_method_3_code 2 none :: ws) ({ frames := 2, cells := 2, slots := 4, locals := 29 } : Room)) (fun a U => a = #[(.ref u1), (.ref u2)] ∧ Z.Warmed39 U.vm ∧ U.vm.interned = Z.vm.interned ∧ U.heap = h0) (fun _ _ _ _ _ => True) (fun _ U o U' => ∃ v L, o = .returned v ∧ Q_rm_s0 Z u1 u2 kc h0 n0 v U'.heap L ∧ ReturnedEndW U o U' L ({ frames := 2, cells := 2, slots := 4, locals := 29 } : Room).cells ({ frames := 2, cells := 2, slots := 4, locals := 29 } : Room).slots) := by
  refine MetFree.of_bodySF (plainFor_of_name pn_453642) hisR ?_
  intro p e s m args below meth c s₁ Bd hml0 hP hK
  obtain ⟨rfl, hZ, hti, hh⟩ := hP
  have hx := Bd.exec
  have hby := Bd.bytes
  have hml : c.maxLocals = 2 := hml0
  have hown : s.vm.findClass "java/lang/String" = some m.cls := findClass_of_methodNamed Bd.named
  have hnm := (name_of_methodNamed Bd.named Bd.method).1
  have X0 : Stand p l e ({ frames := 2, cells := 2, slots := 4, locals := 29 } : Room) s m #[(.ref u1), (.ref u2)] below meth c s₁ [] 0 0 := Stand.of_body Bd
  have e0 : s₁.heap = h0 := by rw [← hh, Bd.state]; rfl
  have N0 := Fr.nil n0
  have K0 : Keep h0 h0 [u1] := Keep.refl _ _
  have pre0 : ∀ t, Steps p.tables e below (s₁.setTop (mkF m 0 #[.val (.ref u1), .val (.ref u2)] [])) t → Steps p.tables e below (s₁.setTop (entryFrame m #[(.ref u1), (.ref u2)] 2)) t := fun t k => castTop (ef_rm_s0 m u1 u2) k
  obtain ⟨cl, Ar, -, Sz, Mz, -, -⟩ := id V1
  have pre31 : ∀ t, Steps p.tables e below (s₁.setTop (mkF m 6 #[.val (.ref u1), .val (.ref u2)] [.null, (.int (0 : Int32)), (.int (0 : Int32)), (.ref u2), (.ref u1)])) t → Steps p.tables e below (s₁.setTop (entryFrame m #[(.ref u1), (.ref u2)] 2)) t := by
    intro t k
    refine pre0 t ?_
    show Steps p.tables e below (s₁.setTop (mkF m 0 #[.val (.ref u1), .val (.ref u2)] [])) _
    refine XS.aloadN X0.here hx rfl (hb hby d2_0) rfl rfl ?_
    refine XS.aloadN X0.here hx rfl (hb hby d2_1) rfl rfl ?_
    refine XS.iconst X0.here hx rfl (hb hby d2_2) ?_
    refine XS.aloadN X0.here hx rfl (hb hby d2_3) rfl rfl ?_
    refine X0.arraylength hx (by rw [e0]; exact Ar.1) (State.isArrayOf_alike hZ.alike Ar.2.1) (g := (mkF m 4 #[.val (.ref u1), .val (.ref u2)] [(.ref u2), (.int (0 : Int32)), (.ref u2), (.ref u1)])) rfl rfl (hb hby d2_4) _ ?_
    rw [len_of Sz Mz]
    refine XS.aconstNull X0.here hx rfl (hb hby d2_5) ?_
    exact k
  obtain ⟨_, _, ⟨T32, L32, k32, n32⟩, -, X32, hSx32, hgr32, ⟨Lc32, hQ32, l32, y32, z32⟩, st32⟩ := X0.specialBackS hx (y := (⟨"java/lang/String", "<init>", "([CIILjava/lang/Void;)V"⟩ : MethodName)) rfl hown (mvT hZ (own_w hw 11 rfl)) (mvT hZ (own_w hw 12 rfl)) (mvT hZ (own_w hw 14 rfl)) (by decide) (own_backT (W := 0) (rm_sv0 l Z a0 hw [] u1 u2 h0 n0 Z0 X00 hh7 hcw F1 F2 E1 g1) hZ hti (own_w hw 14 rfl) (own_w hw 7 rfl) (by decide) (by decide)) (g := (mkF m 6 #[.val (.ref u1), .val (.ref u2)] [.null, (.int (0 : Int32)), (.int (0 : Int32)), (.ref u2), (.ref u1)])) rfl (by rw [hml]; rfl) (Steps.refl _) (a := u1) (argsL := [(.ref u2), (.int (0 : Int32)), (.int (0 : Int32)), .null]) (rest := []) (lenOf pd_335774 rfl) rfl (by show 2 * 0 + _ ≤ _; exact Nat.le_of_eq rfl) (hb hby d2_6) (fun _ _ => ⟨rfl, e0, (by decide : 0 + 2 ≤ _), (by decide : 0 + 4 ≤ _)⟩)
  dsimp only [Pt.U, Pt.locs, Pt.cells, Pt.slots] at X32 l32 y32 z32 st32 hQ32 hSx32 hgr32
  replace y32 : k32 = 2 := y32
  replace z32 : n32 = 4 := z32
  subst y32 z32
  obtain ⟨rfl, Nq32, Kq32, hs32⟩ := hQ32
  have N32 : Fr n0 L32 := by rw [l32]; exact Fr.app N0 Nq32
  have hZ : Z.Warmed39 (s.setVm T32.vm).vm := State.Warmed39.trans hZ hSx32.1
  have hown : (s.setVm T32.vm).vm.findClass "java/lang/String" = some m.cls := (hSx32.1.alike.findClass _ _).trans hown
  have Z32 : n0 ≤ T32.heap.size := Nat.le_trans Z0 Kq32.1
  have K32 : Keep h0 T32.heap [u1] := K0.trans Kq32 (allS (Or.inl (List.mem_of_getElem? (i := 0) rfl)) all0)
  obtain ⟨fs, hr, hrun, hended, hEnd⟩ := Stand.leaveW (s := s) X32 hSx32 (Nat.le_refl _) (v := none) (fun _ => rfl)
  refine ⟨_, _, pre31 _ ?_, hrun, hended, _, _, rfl, ?_, hEnd.1, hEnd.2.1, hEnd.2.2.1, hEnd.2.2.2.mono (by decide) (by decide)⟩
  · show Steps p.tables e below (s₁.setTop (mkF m 6 #[.val (.ref u1), .val (.ref u2)] [.null, (.int (0 : Int32)), (.int (0 : Int32)), (.ref u2), (.ref u1)])) _
    refine st32.trans ?_
    show Steps p.tables e below (T32.setTop (mkF m 9 #[.val (.ref u1), .val (.ref u2)] [])) _
    exact X32.returnOut hx Bd.returns (hb hby d2_9) hr
  · show Q_rm_s0 Z _ _ _ h0 n0 _ T32.heap _
    exact ⟨rfl, N32, K32, hs32⟩
theorem pd_692410 : parseMethodDescriptor "([C)V" = some ⟨[(.array .char)], none⟩ := by decide +kernel
theorem pd_386298 : parseMethodDescriptor "(Ljava/lang/String;)[B" = some ⟨[(.object "java/lang/String")], some (.array .byte)⟩ := by decide +kernel
theorem pd_634375 : parseMethodDescriptor "([BII)I" = some ⟨[(.array .byte), .int, .int], some .int⟩ := by decide +kernel
theorem ef_rm_law (m : MethodId) (x0 : Int32) (x1 : Int32) (x2 : Int32) (x3 : Int32) : entryFrame m #[(.int x0), (.int x1), (.int x2), (.int x3)] maxLocals = mkF m 0 #[.val (.int x0), .val (.int x1), .val (.int x2), .val (.int x3), .unset, .unset, .unset, .unset, .unset, .unset, .unset, .unset, .unset, .unset, .unset] [] := by first | (simp [entryFrame, mkF, argsToLocals, Value.category, maxLocals]; done) | rfl
def Q_rm_law (Z : State) (u1 : Int32) (u2 : Int32) (u3 : Int32) (u4 : Int32) (zc : Int32) (fm : Value) (h0 : Heap) (n0 : Nat) (v : Option Value) (h : Heap) (L : List Loc) : Prop := v = some (.int (1 : Int32)) ∧ Fr n0 L
set_option maxRecDepth 65536 in
set_option maxHeartbeats 40000000 in
theorem rm_law (l : Launch) (Z : State) (a0 : Array Value) (hw : ∀ d ∈ tables_1, d.before a0 Z = true) (ws : List Jvm.Cond) (u1 : Int32) (u2 : Int32) (u3 : Int32) (u4 : Int32) (zc : Int32) (fm : Value) (h0 : Heap) (n0 : Nat) (Z0 : n0 ≤ h0.size) (hh0 : Z.heap = h0) (X00 : Old Z n0 h0) (O2 : Sta Z Z.heap "java/lang/String" "COMPACT_STRINGS" "Z" (.int zc)) (hz : ¬ zc = 0) (O4 : Sta Z Z.heap "jdk/internal/util/Preconditions" "SIOOBE_FORMATTER" "Ljava/util/function/BiFunction;" fm) (rf : fm.isRef = true) (O5 : Sta Z Z.heap "java/lang/StringUTF16" "$assertionsDisabled" "Z" (.int (1 : Int32))) (O6 : Sta Z Z.heap "java/lang/StringUTF16" "HI_BYTE_SHIFT" "I" (.int (0 : Int32))) (O7 : Sta Z Z.heap "java/lang/StringUTF16" "LO_BYTE_SHIFT" "I" (.int (8 : Int32))) (hh7 : Jvm.Lit.constHeld Z "java/lang/String" 7) (hcw : Jvm.Lit.compactW.before a0 Z = true) :
    MetFree l x (head1 (Jvm.Cond.code x code maxLocals ret :: ws) room_1) (fun a U => a = #[(.int u1), (.int u2), (.int u3), (.int u4)] ∧ U = Z) (fun _ _ _ _ _ => True) (fun _ U o U' => ∃ v L, o = .returned v ∧ Q_rm_law Z u1 u2 u3 u4 zc fm h0 n0 v U'.heap L ∧ ReturnedEndW U o U' L room_1.cells room_1.slots) := by
  refine MetFree.of_bodySF (plainFor_of_name pn_353727) hisR ?_
  intro p e s m args below meth c s₁ Bd hml0 hP hK
  obtain ⟨rfl, hsZ⟩ := hP
  have hZ : Z.Warmed39 s.vm := by rw [hsZ]; exact State.Warmed39.refl Z
  have hh : s.heap = h0 := by rw [hsZ]; exact hh0
  have hint : IB Z s.vm [] := by rw [hsZ]; exact IB.start
  have hkeep : ∀ (b : Addr) (cl : Cell), Z.heap[b]? = some cl → s.heap[b]? = some cl := by rw [hsZ]; exact fun _ _ q => q
  have hx := Bd.exec
  have hby := Bd.bytes
  have hml : c.maxLocals = 15 := hml0
  have hown : s.vm.findClass "com/example/sonde/sonde/store/CurrentVersionsKeptPinLaw" = some m.cls := findClass_of_methodNamed Bd.named
  have hnm := (name_of_methodNamed Bd.named Bd.method).1
  have X0 : Stand p l e room_1 s m #[(.int u1), (.int u2), (.int u3), (.int u4)] below meth c s₁ [] 0 0 := Stand.of_body Bd
  have e0 : s₁.heap = h0 := by rw [← hh, Bd.state]; rfl
  have N0 := Fr.nil n0
  have pre0 : ∀ t, Steps p.tables e below (s₁.setTop (mkF m 0 #[.val (.int u1), .val (.int u2), .val (.int u3), .val (.int u4), .unset, .unset, .unset, .unset, .unset, .unset, .unset, .unset, .unset, .unset, .unset] [])) t → Steps p.tables e below (s₁.setTop (entryFrame m #[(.int u1), (.int u2), (.int u3), (.int u4)] maxLocals)) t := fun t k => castTop (ef_rm_law m u1 u2 u3 u4) k
  have hti : s.vm.interned = Z.vm.interned := by rw [hsZ]
  obtain ⟨_, _, ⟨T31, L31, k31, n31⟩, -, X31, ⟨Lc31, hQ31, l31, y31, z31⟩, st31⟩ := Jvm.LawKit.callS X0 hx (y := (⟨"com/example/sonde/sonde/store/CurrentVersionsKeptPinLaw", "unit", "(I)I"⟩ : MethodName)) hown (mvT hZ (own_w hw 0 rfl)) (mvT hZ (own_w hw 1 rfl)) (mvT hZ (own_w hw 2 rfl)) (mvT hZ (own_w hw 3 rfl)) (by decide) (backOf (W := 0) (rm_unit l Z a0 hw [] u1 h0 n0 Z0 ) hZ (own_w hw 3 rfl) (own_w hw 2 rfl) (by decide) (by decide)) (g := (mkF m 6 #[.val (.int u1), .val (.int u2), .val (.int u3), .val (.int u4), .val (.int (u4 &&& (3 : Int32))), .unset, .unset, .unset, .unset, .unset, .unset, .unset, .unset, .unset, .unset] [(.int u1)])) rfl (by rw [hml]; rfl) (argsL := [(.int u1)]) (rest := []) (lenOf pd_181564 rfl) rfl (by show 2 * 0 + _ ≤ _; exact Nat.le_of_eq rfl) (hb hby at_6) (fun _ _ => ⟨rfl, e0, (by decide : 0 + 0 ≤ _), (by decide : 0 + 0 ≤ _)⟩)
  dsimp only [Pt.U, Pt.locs, Pt.cells, Pt.slots] at X31 l31 y31 z31 st31 hQ31
  replace y31 : k31 = 0 := y31
  replace z31 : n31 = 0 := z31
  subst y31 z31
  obtain ⟨rfl, Nq31, eq31⟩ := hQ31
  have N31 : Fr n0 L31 := by rw [l31]; exact Fr.app N0 Nq31
  obtain ⟨v0, hv0⟩ : ∃ z : Int32, z = (bif (ifCond.holds .ne (((u1.toUInt32 >>> ((16 : Int32) &&& 31).toUInt32).toInt32) &&& (3 : Int32))) then (bif (if_icmp.holds .ne (((u1.toUInt32 >>> ((16 : Int32) &&& 31).toUInt32).toInt32) &&& (3 : Int32)) (1 : Int32)) then (u1 &&& (65535 : Int32)) else (u1 &&& (2047 : Int32))) else (u1 &&& (127 : Int32))) := ⟨_, rfl⟩
  rw [← hv0] at st31
  have q0 : ¬ v0 < 0 ∧ ¬ (65535 : Int32) < v0 := by rw [hv0]; exact own_unit u1
  obtain ⟨_, _, ⟨T32, L32, k32, n32⟩, -, X32, ⟨Lc32, hQ32, l32, y32, z32⟩, st32⟩ := Jvm.LawKit.callS X31 hx (y := (⟨"com/example/sonde/sonde/store/CurrentVersionsKeptPinLaw", "unit", "(I)I"⟩ : MethodName)) hown (mvT hZ (own_w hw 0 rfl)) (mvT hZ (own_w hw 1 rfl)) (mvT hZ (own_w hw 2 rfl)) (mvT hZ (own_w hw 3 rfl)) (by decide) (backOf (W := 0) (rm_unit l Z a0 hw [] u2 h0 n0 Z0 ) hZ (own_w hw 3 rfl) (own_w hw 2 rfl) (by decide) (by decide)) (g := (mkF m 12 #[.val (.int u1), .val (.int u2), .val (.int u3), .val (.int u4), .val (.int (u4 &&& (3 : Int32))), .val (.int v0), .unset, .unset, .unset, .unset, .unset, .unset, .unset, .unset, .unset] [(.int u2)])) rfl (by rw [hml]; rfl) (argsL := [(.int u2)]) (rest := []) (lenOf pd_181564 rfl) rfl (by show 2 * 0 + _ ≤ _; exact Nat.le_of_eq rfl) (hb hby at_12) (fun _ _ => ⟨rfl, eq31, (by decide : 0 + 0 ≤ _), (by decide : 0 + 0 ≤ _)⟩)
  dsimp only [Pt.U, Pt.locs, Pt.cells, Pt.slots] at X32 l32 y32 z32 st32 hQ32
  replace y32 : k32 = 0 := y32
  replace z32 : n32 = 0 := z32
  subst y32 z32
  obtain ⟨rfl, Nq32, eq32⟩ := hQ32
  have N32 : Fr n0 L32 := by rw [l32]; exact Fr.app N31 Nq32
  obtain ⟨v1, hv1⟩ : ∃ z : Int32, z = (bif (ifCond.holds .ne (((u2.toUInt32 >>> ((16 : Int32) &&& 31).toUInt32).toInt32) &&& (3 : Int32))) then (bif (if_icmp.holds .ne (((u2.toUInt32 >>> ((16 : Int32) &&& 31).toUInt32).toInt32) &&& (3 : Int32)) (1 : Int32)) then (u2 &&& (65535 : Int32)) else (u2 &&& (2047 : Int32))) else (u2 &&& (127 : Int32))) := ⟨_, rfl⟩
  rw [← hv1] at st32
  have q1 : ¬ v1 < 0 ∧ ¬ (65535 : Int32) < v1 := by rw [hv1]; exact own_unit u2
  obtain ⟨_, _, ⟨T33, L33, k33, n33⟩, -, X33, ⟨Lc33, hQ33, l33, y33, z33⟩, st33⟩ := Jvm.LawKit.callS X32 hx (y := (⟨"com/example/sonde/sonde/store/CurrentVersionsKeptPinLaw", "unit", "(I)I"⟩ : MethodName)) hown (mvT hZ (own_w hw 0 rfl)) (mvT hZ (own_w hw 1 rfl)) (mvT hZ (own_w hw 2 rfl)) (mvT hZ (own_w hw 3 rfl)) (by decide) (backOf (W := 0) (rm_unit l Z a0 hw [] u3 h0 n0 Z0 ) hZ (own_w hw 3 rfl) (own_w hw 2 rfl) (by decide) (by decide)) (g := (mkF m 18 #[.val (.int u1), .val (.int u2), .val (.int u3), .val (.int u4), .val (.int (u4 &&& (3 : Int32))), .val (.int v0), .val (.int v1), .unset, .unset, .unset, .unset, .unset, .unset, .unset, .unset] [(.int u3)])) rfl (by rw [hml]; rfl) (argsL := [(.int u3)]) (rest := []) (lenOf pd_181564 rfl) rfl (by show 2 * 0 + _ ≤ _; exact Nat.le_of_eq rfl) (hb hby at_18) (fun _ _ => ⟨rfl, eq32, (by decide : 0 + 0 ≤ _), (by decide : 0 + 0 ≤ _)⟩)
  dsimp only [Pt.U, Pt.locs, Pt.cells, Pt.slots] at X33 l33 y33 z33 st33 hQ33
  replace y33 : k33 = 0 := y33
  replace z33 : n33 = 0 := z33
  subst y33 z33
  obtain ⟨rfl, Nq33, eq33⟩ := hQ33
  have N33 : Fr n0 L33 := by rw [l33]; exact Fr.app N32 Nq33
  obtain ⟨v2, hv2⟩ : ∃ z : Int32, z = (bif (ifCond.holds .ne (((u3.toUInt32 >>> ((16 : Int32) &&& 31).toUInt32).toInt32) &&& (3 : Int32))) then (bif (if_icmp.holds .ne (((u3.toUInt32 >>> ((16 : Int32) &&& 31).toUInt32).toInt32) &&& (3 : Int32)) (1 : Int32)) then (u3 &&& (65535 : Int32)) else (u3 &&& (2047 : Int32))) else (u3 &&& (127 : Int32))) := ⟨_, rfl⟩
  rw [← hv2] at st33
  have q2 : ¬ v2 < 0 ∧ ¬ (65535 : Int32) < v2 := by rw [hv2]; exact own_unit u3
  have pre34 : ∀ t, Steps p.tables e below (T33.setTop (mkF m 38 #[.val (.int u1), .val (.int u2), .val (.int u3), .val (.int u4), .val (.int (u4 &&& (3 : Int32))), .val (.int v0), .val (.int v1), .val (.int v2), .val (.int (v0.toUInt32.toUInt16.toUInt32.toInt32)), .val (.int (v1.toUInt32.toUInt16.toUInt32.toInt32)), .val (.int (v2.toUInt32.toUInt16.toUInt32.toInt32)), .unset, .unset, .unset, .unset] [])) t → Steps p.tables e below (s₁.setTop (entryFrame m #[(.int u1), (.int u2), (.int u3), (.int u4)] maxLocals)) t := by
    intro t k
    refine pre0 t ?_
    show Steps p.tables e below (s₁.setTop (mkF m 0 #[.val (.int u1), .val (.int u2), .val (.int u3), .val (.int u4), .unset, .unset, .unset, .unset, .unset, .unset, .unset, .unset, .unset, .unset, .unset] [])) _
    refine XS.iloadN X0.here hx rfl (hb hby at_0) rfl ?_
    refine XS.iconst X0.here hx rfl (hb hby at_1) ?_
    refine XS.iand X0.here hx rfl (hb hby at_2) rfl ?_
    refine XS.istore X0.here hx rfl (hb hby at_3) rfl (l' := #[.val (.int u1), .val (.int u2), .val (.int u3), .val (.int u4), .val (.int (u4 &&& (3 : Int32))), .unset, .unset, .unset, .unset, .unset, .unset, .unset, .unset, .unset, .unset]) rfl ?_
    refine XS.iloadN X0.here hx rfl (hb hby at_5) rfl ?_
    refine st31 _ ?_
    refine XS.istore X31.here hx rfl (hb hby at_9) rfl (l' := #[.val (.int u1), .val (.int u2), .val (.int u3), .val (.int u4), .val (.int (u4 &&& (3 : Int32))), .val (.int v0), .unset, .unset, .unset, .unset, .unset, .unset, .unset, .unset, .unset]) rfl ?_
    refine XS.iloadN X31.here hx rfl (hb hby at_11) rfl ?_
    show Steps p.tables e below (T31.setTop (mkF m 12 #[.val (.int u1), .val (.int u2), .val (.int u3), .val (.int u4), .val (.int (u4 &&& (3 : Int32))), .val (.int v0), .unset, .unset, .unset, .unset, .unset, .unset, .unset, .unset, .unset] [(.int u2)])) _
    refine st32 _ ?_
    refine XS.istore X32.here hx rfl (hb hby at_15) rfl (l' := #[.val (.int u1), .val (.int u2), .val (.int u3), .val (.int u4), .val (.int (u4 &&& (3 : Int32))), .val (.int v0), .val (.int v1), .unset, .unset, .unset, .unset, .unset, .unset, .unset, .unset]) rfl ?_
    refine XS.iloadN X32.here hx rfl (hb hby at_17) rfl ?_
    refine st33 _ ?_
    refine XS.istore X33.here hx rfl (hb hby at_21) rfl (l' := #[.val (.int u1), .val (.int u2), .val (.int u3), .val (.int u4), .val (.int (u4 &&& (3 : Int32))), .val (.int v0), .val (.int v1), .val (.int v2), .unset, .unset, .unset, .unset, .unset, .unset, .unset]) rfl ?_
    refine XS.iload X33.here hx rfl (hb hby at_23) rfl ?_
    refine XS.i2c X33.here hx rfl (hb hby at_25) rfl ?_
    refine XS.istore X33.here hx rfl (hb hby at_26) rfl (l' := #[.val (.int u1), .val (.int u2), .val (.int u3), .val (.int u4), .val (.int (u4 &&& (3 : Int32))), .val (.int v0), .val (.int v1), .val (.int v2), .val (.int (v0.toUInt32.toUInt16.toUInt32.toInt32)), .unset, .unset, .unset, .unset, .unset, .unset]) rfl ?_
    show Steps p.tables e below (T33.setTop (mkF m 28 #[.val (.int u1), .val (.int u2), .val (.int u3), .val (.int u4), .val (.int (u4 &&& (3 : Int32))), .val (.int v0), .val (.int v1), .val (.int v2), .val (.int (v0.toUInt32.toUInt16.toUInt32.toInt32)), .unset, .unset, .unset, .unset, .unset, .unset] [])) _
    refine XS.iload X33.here hx rfl (hb hby at_28) rfl ?_
    refine XS.i2c X33.here hx rfl (hb hby at_30) rfl ?_
    refine XS.istore X33.here hx rfl (hb hby at_31) rfl (l' := #[.val (.int u1), .val (.int u2), .val (.int u3), .val (.int u4), .val (.int (u4 &&& (3 : Int32))), .val (.int v0), .val (.int v1), .val (.int v2), .val (.int (v0.toUInt32.toUInt16.toUInt32.toInt32)), .val (.int (v1.toUInt32.toUInt16.toUInt32.toInt32)), .unset, .unset, .unset, .unset, .unset]) rfl ?_
    refine XS.iload X33.here hx rfl (hb hby at_33) rfl ?_
    refine XS.i2c X33.here hx rfl (hb hby at_35) rfl ?_
    refine XS.istore X33.here hx rfl (hb hby at_36) rfl (l' := #[.val (.int u1), .val (.int u2), .val (.int u3), .val (.int u4), .val (.int (u4 &&& (3 : Int32))), .val (.int v0), .val (.int v1), .val (.int v2), .val (.int (v0.toUInt32.toUInt16.toUInt32.toInt32)), .val (.int (v1.toUInt32.toUInt16.toUInt32.toInt32)), .val (.int (v2.toUInt32.toUInt16.toUInt32.toInt32)), .unset, .unset, .unset, .unset]) rfl ?_
    exact k
  have ec0 : (v0.toUInt32.toUInt16.toUInt32.toInt32) = v0 := own_cc v0 q0
  rw [ec0] at pre34
  have ec1 : (v1.toUInt32.toUInt16.toUInt32.toInt32) = v1 := own_cc v1 q1
  rw [ec1] at pre34
  have ec2 : (v2.toUInt32.toUInt16.toUInt32.toInt32) = v2 := own_cc v2 q2
  rw [ec2] at pre34
  have pre35 : ∀ t, Steps p.tables e below (T33.setTop (mkF m 40 #[.val (.int u1), .val (.int u2), .val (.int u3), .val (.int u4), .val (.int (u4 &&& (3 : Int32))), .val (.int v0), .val (.int v1), .val (.int v2), .val (.int v0), .val (.int v1), .val (.int v2), .unset, .unset, .unset, .unset] [(.int (u4 &&& (3 : Int32)))])) t → Steps p.tables e below (s₁.setTop (entryFrame m #[(.int u1), (.int u2), (.int u3), (.int u4)] maxLocals)) t := by
    intro t k
    refine pre34 t ?_
    show Steps p.tables e below (T33.setTop (mkF m 38 #[.val (.int u1), .val (.int u2), .val (.int u3), .val (.int u4), .val (.int (u4 &&& (3 : Int32))), .val (.int v0), .val (.int v1), .val (.int v2), .val (.int v0), .val (.int v1), .val (.int v2), .unset, .unset, .unset, .unset] [])) _
    refine XS.iload X33.here hx rfl (hb hby at_38) rfl ?_
    exact k
  rcases Bool.eq_false_or_eq_true (ifCond.holds .ne (u4 &&& (3 : Int32))) with hb40 | hb40
  · have pre36 : ∀ t, Steps p.tables e below (T33.setTop (mkF m 54 #[.val (.int u1), .val (.int u2), .val (.int u3), .val (.int u4), .val (.int (u4 &&& (3 : Int32))), .val (.int v0), .val (.int v1), .val (.int v2), .val (.int v0), .val (.int v1), .val (.int v2), .unset, .unset, .unset, .unset] [(.int (1 : Int32)), (.int (u4 &&& (3 : Int32)))])) t → Steps p.tables e below (s₁.setTop (entryFrame m #[(.int u1), (.int u2), (.int u3), (.int u4)] maxLocals)) t := by
      intro t k
      refine pre35 t ?_
      show Steps p.tables e below (T33.setTop (mkF m 40 #[.val (.int u1), .val (.int u2), .val (.int u3), .val (.int u4), .val (.int (u4 &&& (3 : Int32))), .val (.int v0), .val (.int v1), .val (.int v2), .val (.int v0), .val (.int v1), .val (.int v2), .unset, .unset, .unset, .unset] [(.int (u4 &&& (3 : Int32)))])) _
      refine XS.ifYes X33.here hx rfl (pc0 := 40) (pc' := 51) rfl (hb hby at_40) rfl hb40 (by decide) (by decide) ?_
      show Steps p.tables e below (T33.setTop (mkF m 51 #[.val (.int u1), .val (.int u2), .val (.int u3), .val (.int u4), .val (.int (u4 &&& (3 : Int32))), .val (.int v0), .val (.int v1), .val (.int v2), .val (.int v0), .val (.int v1), .val (.int v2), .unset, .unset, .unset, .unset] [])) _
      refine XS.iload X33.here hx rfl (hb hby at_51) rfl ?_
      refine XS.iconst X33.here hx rfl (hb hby at_53) ?_
      exact k
    rcases Bool.eq_false_or_eq_true (if_icmp.holds .ne (u4 &&& (3 : Int32)) (1 : Int32)) with hb54 | hb54
    · have pre37 : ∀ t, Steps p.tables e below (T33.setTop (mkF m 73 #[.val (.int u1), .val (.int u2), .val (.int u3), .val (.int u4), .val (.int (u4 &&& (3 : Int32))), .val (.int v0), .val (.int v1), .val (.int v2), .val (.int v0), .val (.int v1), .val (.int v2), .unset, .unset, .unset, .unset] [(.int (2 : Int32)), (.int (u4 &&& (3 : Int32)))])) t → Steps p.tables e below (s₁.setTop (entryFrame m #[(.int u1), (.int u2), (.int u3), (.int u4)] maxLocals)) t := by
        intro t k
        refine pre36 t ?_
        show Steps p.tables e below (T33.setTop (mkF m 54 #[.val (.int u1), .val (.int u2), .val (.int u3), .val (.int u4), .val (.int (u4 &&& (3 : Int32))), .val (.int v0), .val (.int v1), .val (.int v2), .val (.int v0), .val (.int v1), .val (.int v2), .unset, .unset, .unset, .unset] [(.int (1 : Int32)), (.int (u4 &&& (3 : Int32)))])) _
        refine XS.icmpYes X33.here hx rfl (pc0 := 54) (pc' := 70) rfl (hb hby at_54) rfl hb54 (by decide) (by decide) ?_
        refine XS.iload X33.here hx rfl (hb hby at_70) rfl ?_
        refine XS.iconst X33.here hx rfl (hb hby at_72) ?_
        exact k
      rcases Bool.eq_false_or_eq_true (if_icmp.holds .ne (u4 &&& (3 : Int32)) (2 : Int32)) with hb73 | hb73
      · have pre38 : ∀ t, Steps p.tables e below (T33.setTop (mkF m 94 #[.val (.int u1), .val (.int u2), .val (.int u3), .val (.int u4), .val (.int (u4 &&& (3 : Int32))), .val (.int v0), .val (.int v1), .val (.int v2), .val (.int v0), .val (.int v1), .val (.int v2), .unset, .unset, .unset, .unset] [])) t → Steps p.tables e below (s₁.setTop (entryFrame m #[(.int u1), (.int u2), (.int u3), (.int u4)] maxLocals)) t := by
          intro t k
          refine pre37 t ?_
          show Steps p.tables e below (T33.setTop (mkF m 73 #[.val (.int u1), .val (.int u2), .val (.int u3), .val (.int u4), .val (.int (u4 &&& (3 : Int32))), .val (.int v0), .val (.int v1), .val (.int v2), .val (.int v0), .val (.int v1), .val (.int v2), .unset, .unset, .unset, .unset] [(.int (2 : Int32)), (.int (u4 &&& (3 : Int32)))])) _
          refine XS.icmpYes X33.here hx rfl (pc0 := 73) (pc' := 94) rfl (hb hby at_73) rfl hb73 (by decide) (by decide) ?_
          exact k
        have hL : (u4 &&& (3 : Int32)) = (3 : Int32) := own_3 hb40 hb54 hb73
        rw [hL] at pre38
        obtain ⟨T39, h39, k39, X39, e39, E39, A39, st39⟩ := newP X33 hx hZ (own_w hw 4 rfl) eq33 (g := (mkF m 95 #[.val (.int u1), .val (.int u2), .val (.int u3), .val (.int u4), .val (.int (3 : Int32)), .val (.int v0), .val (.int v1), .val (.int v2), .val (.int v0), .val (.int v1), .val (.int v2), .unset, .unset, .unset, .unset] [(.int (3 : Int32))])) rfl (hb hby at_95) rfl (by decide) (cap := 3) (by decide) (by decide) (by decide) (by decide)
        obtain ⟨b39, g39⟩ : ∃ z, z = h0.size := ⟨_, rfl⟩
        rw [← g39] at A39 st39
        have fr_b39 : n0 ≤ b39 := Nat.le_trans Z0 (Nat.le_of_eq g39.symm)
        have Z39 : n0 ≤ h39.size := Nat.le_trans Z0 E39.1
        have Od39 : Old Z n0 h39 := X00.ext E39
        have V39 := Arv.new A39 (by decide)
        have V39p : Arv Z h39 b39 k39 .char (3 : Int32) [(.int (0 : Int32)), (.int (0 : Int32)), (.int (0 : Int32))] (.int (0 : Int32)) := V39.pad (pad_rep [] (.int (0 : Int32)) 3)
        obtain ⟨cl40, Ar40, q40, S40, M40, H40, G40⟩ := id V39p
        obtain ⟨T40, h40, X40, e40, W40, st40⟩ := stC X39 hx hZ e39 Ar40 (j := (0 : Int32)) (inb_of S40 ⟨by decide, by decide⟩) (g := (mkF m 101 #[.val (.int u1), .val (.int u2), .val (.int u3), .val (.int u4), .val (.int (3 : Int32)), .val (.int v0), .val (.int v1), .val (.int v2), .val (.int v0), .val (.int v1), .val (.int v2), .unset, .unset, .unset, .unset] [(.int v0), (.int (0 : Int32)), (.ref b39), (.ref b39)])) rfl rfl (hb hby at_101)
        have V40 := Arv.set Ar40 q40 S40 M40 H40 G40 (fits_nar_char _) W40 0 rfl (Nat.le_of_ble_eq_true rfl)
        have N40 := Fr.snoc X40 N33 fr_b39
        have Z40 : n0 ≤ h40.size := Nat.le_trans Z39 (Keep.of_wr W40).1
        have Od40 : Old Z n0 h40 := Od39.wr W40 fr_b39
        have V40q : Arv Z h40 b39 k39 .char (3 : Int32) [(.int v0), (.int (0 : Int32)), (.int (0 : Int32))] (.int (0 : Int32)) := by rw [own_cc v0 q0] at V40; exact V40
        obtain ⟨cl41, Ar41, q41, S41, M41, H41, G41⟩ := id V40q
        obtain ⟨T41, h41, X41, e41, W41, st41⟩ := stC X40 hx hZ e40 Ar41 (j := (1 : Int32)) (inb_of S41 ⟨by decide, by decide⟩) (g := (mkF m 106 #[.val (.int u1), .val (.int u2), .val (.int u3), .val (.int u4), .val (.int (3 : Int32)), .val (.int v0), .val (.int v1), .val (.int v2), .val (.int v0), .val (.int v1), .val (.int v2), .unset, .unset, .unset, .unset] [(.int v1), (.int (1 : Int32)), (.ref b39), (.ref b39)])) rfl rfl (hb hby at_106)
        have V41 := Arv.set Ar41 q41 S41 M41 H41 G41 (fits_nar_char _) W41 1 rfl (Nat.le_of_ble_eq_true rfl)
        have N41 := Fr.snoc X41 N40 fr_b39
        have Z41 : n0 ≤ h41.size := Nat.le_trans Z40 (Keep.of_wr W41).1
        have Od41 : Old Z n0 h41 := Od40.wr W41 fr_b39
        have V41q : Arv Z h41 b39 k39 .char (3 : Int32) [(.int v0), (.int v1), (.int (0 : Int32))] (.int (0 : Int32)) := by rw [own_cc v1 q1] at V41; exact V41
        obtain ⟨cl42, Ar42, q42, S42, M42, H42, G42⟩ := id V41q
        obtain ⟨T42, h42, X42, e42, W42, st42⟩ := stC X41 hx hZ e41 Ar42 (j := (2 : Int32)) (inb_of S42 ⟨by decide, by decide⟩) (g := (mkF m 111 #[.val (.int u1), .val (.int u2), .val (.int u3), .val (.int u4), .val (.int (3 : Int32)), .val (.int v0), .val (.int v1), .val (.int v2), .val (.int v0), .val (.int v1), .val (.int v2), .unset, .unset, .unset, .unset] [(.int v2), (.int (2 : Int32)), (.ref b39), (.ref b39)])) rfl rfl (hb hby at_111)
        have V42 := Arv.set Ar42 q42 S42 M42 H42 G42 (fits_nar_char _) W42 2 rfl (Nat.le_of_ble_eq_true rfl)
        have N42 := Fr.snoc X42 N41 fr_b39
        have Z42 : n0 ≤ h42.size := Nat.le_trans Z41 (Keep.of_wr W42).1
        have Od42 : Old Z n0 h42 := Od41.wr W42 fr_b39
        have V42q : Arv Z h42 b39 k39 .char (3 : Int32) [(.int v0), (.int v1), (.int v2)] (.int (0 : Int32)) := by rw [own_cc v2 q2] at V42; exact V42
        obtain ⟨T43, h43, X43, e43, E43, A43, D43, -, st43⟩ := newO X42 hx hZ hown (own_w hw 5 rfl) (own_w hw 6 rfl) (own_w hw 7 rfl) e42 (g := (mkF m 114 #[.val (.int u1), .val (.int u2), .val (.int u3), .val (.int u4), .val (.int (3 : Int32)), .val (.int v0), .val (.int v1), .val (.int v2), .val (.int v0), .val (.int v1), .val (.int v2), .val (.ref b39), .unset, .unset, .unset] [])) rfl (hb hby at_114) (by decide) (by decide)
        obtain ⟨b43, g43⟩ : ∃ z, z = h42.size := ⟨_, rfl⟩
        rw [← g43] at A43 D43 st43
        have fr_b43 : n0 ≤ b43 := Nat.le_trans Z42 (Nat.le_of_eq g43.symm)
        have ne_b39_b43 : b39 ≠ b43 := Nat.ne_of_lt (Nat.lt_of_lt_of_le V42q.lt (Nat.le_of_eq g43.symm))
        have Z43 : n0 ≤ h43.size := Nat.le_trans Z42 E43.1
        have Od43 : Old Z n0 h43 := Od42.ext E43
        have F_coder_b43 : Fld Z h43 b43 "java/lang/String" "coder" "B" (.int (0 : Int32)) := D43 (Or.inr (own_w hw 31 rfl)) (ty := .byte) (by decide)
        have F_value_b43 : Fld Z h43 b43 "java/lang/String" "value" "[B" .null := D43 (Or.inr (own_w hw 33 rfl)) (ty := (.array .byte)) (by decide)
        obtain ⟨_, _, ⟨T44, L44, k44, n44⟩, -, X44, ⟨Lc44, hQ44, l44, y44, z44⟩, st44⟩ := X43.specialBack hx (y := (⟨"java/lang/String", "<init>", "([C)V"⟩ : MethodName)) rfl hown (mvT hZ (own_w hw 8 rfl)) (mvT hZ (own_w hw 9 rfl)) (mvT hZ (own_w hw 10 rfl)) (by decide) (backOf (W := 1) (rm_s3 l Z a0 hw [] b43 b39 zc k39 v0 v1 v2 h43 n0 Z43 ⟨rfl, Od43.2⟩ O5 O6 O7 q0 q1 q2 O2 hz F_value_b43 F_coder_b43 A43 fr_b43 (V42q.ext E43) (Ne.symm ne_b39_b43)) hZ (own_w hw 10 rfl) (own_w hw 7 rfl) (by decide) (by decide)) (g := (mkF m 120 #[.val (.int u1), .val (.int u2), .val (.int u3), .val (.int u4), .val (.int (3 : Int32)), .val (.int v0), .val (.int v1), .val (.int v2), .val (.int v0), .val (.int v1), .val (.int v2), .val (.ref b39), .unset, .unset, .unset] [(.ref b39), (.ref b43), (.ref b43)])) rfl (by rw [hml]; rfl) (Steps.refl _) (a := b43) (argsL := [(.ref b39)]) (rest := [(.ref b43)]) (lenOf pd_692410 rfl) rfl (by show 2 * 0 + _ ≤ _; exact Nat.le_of_eq rfl) (hb hby at_120) (fun _ _ => ⟨rfl, e43, (by decide : 2 + 2 ≤ _), (by decide : 7 + 9 ≤ _)⟩)
        dsimp only [Pt.U, Pt.locs, Pt.cells, Pt.slots] at X44 l44 y44 z44 st44 hQ44
        replace y44 : k44 = 4 := y44
        replace z44 : n44 = 16 := z44
        subst y44 z44
        obtain ⟨rfl, Nq44, Kq44, hs44⟩ := hQ44
        have N44 : Fr n0 L44 := by rw [l44]; exact Fr.app N42 Nq44
        have Z44 : n0 ≤ T44.heap.size := Nat.le_trans Z43 Kq44.1
        have Od44 : Old Z n0 T44.heap := Od43.keep Kq44 (allS fr_b43 all0)
        obtain ⟨Es, cd, ts, kbs, Ns, ys, Fc, Fv, Vs, cod⟩ := hs44
        obtain ⟨_, _, ⟨T45, L45, k45, n45⟩, -, X45, ⟨Lc45, hQ45, l45, y45, z45⟩, st45⟩ := Jvm.LawKit.callS X44 hx (y := (⟨"com/example/sonde/sonde/store/CurrentVersions", "kept", "(Ljava/lang/String;)[B"⟩ : MethodName)) hown (mvT hZ (own_w hw 34 rfl)) (mvT hZ (own_w hw 35 rfl)) (mvT hZ (own_w hw 36 rfl)) (mvT hZ (own_w hw 37 rfl)) (by decide) (backOf (W := 0) (rm_kept3 l Z a0 hw [] b43 zc fm cd ts kbs Ns ys v0 v1 v2 T44.heap n0 Z44 ⟨rfl, Od44.2⟩ O2 hz O4 rf O5 O6 O7 Es Fc Fv Vs cod q0 q1 q2) hZ (own_w hw 37 rfl) (own_w hw 36 rfl) (by decide) (by decide)) (g := (mkF m 127 #[.val (.int u1), .val (.int u2), .val (.int u3), .val (.int u4), .val (.int (3 : Int32)), .val (.int v0), .val (.int v1), .val (.int v2), .val (.int v0), .val (.int v1), .val (.int v2), .val (.ref b39), .val (.ref b43), .unset, .unset] [(.ref b43)])) rfl (by rw [hml]; rfl) (argsL := [(.ref b43)]) (rest := []) (lenOf pd_386298 rfl) rfl (by show 2 * 0 + _ ≤ _; exact Nat.le_of_eq rfl) (hb hby at_127) (fun _ _ => ⟨rfl, rfl, (by decide : 4 + 1 ≤ _), (by decide : 16 + 9 ≤ _)⟩)
        dsimp only [Pt.U, Pt.locs, Pt.cells, Pt.slots] at X45 l45 y45 z45 st45 hQ45
        replace y45 : k45 = 5 := y45
        replace z45 : n45 = 25 := z45
        subst y45 z45
        obtain ⟨ob, kob, rfl, Nq45, Kq45, gob, Vob⟩ := hQ45
        have N45 : Fr n0 L45 := by rw [l45]; exact Fr.app N44 Nq45
        have Z45 : n0 ≤ T45.heap.size := Nat.le_trans Z44 Kq45.1
        have Od45 : Old Z n0 T45.heap := Od44.keep Kq45 all0
        obtain ⟨_, _, ⟨T46, L46, k46, n46⟩, -, X46, ⟨Lc46, hQ46, l46, y46, z46⟩, st46⟩ := Jvm.LawKit.callS X45 hx (y := (⟨"com/example/sonde/sonde/store/CurrentVersionsKeptPinLaw", "step", "([BII)I"⟩ : MethodName)) hown (mvT hZ (own_w hw 70 rfl)) (mvT hZ (own_w hw 71 rfl)) (mvT hZ (own_w hw 2 rfl)) (mvT hZ (own_w hw 72 rfl)) (by decide) (backOf (W := 0) (rm_step l Z a0 hw [] ob (0 : Int32) v0 kob ((((0 : Int32) + (own_sz v0)) + (own_sz v1)) + (own_sz v2)) (own_wr (own_wr (own_wr ([(0 : Int32), (0 : Int32), (0 : Int32), (0 : Int32), (0 : Int32), (0 : Int32), (0 : Int32), (0 : Int32), (0 : Int32)] : List Int32) (0 : Int32) v0) ((0 : Int32) + (own_sz v0)) v1) (((0 : Int32) + (own_sz v0)) + (own_sz v1)) v2) T45.heap n0 Z45 Vob (own_szx3_0 v0 v1 v2) (own_szf3_0 v0 v1 v2) (own_mt3_0 v0 v1 v2 q0)) hZ (own_w hw 72 rfl) (own_w hw 2 rfl) (by decide) (by decide)) (g := (mkF m 154 #[.val (.int u1), .val (.int u2), .val (.int u3), .val (.int u4), .val (.int (3 : Int32)), .val (.int v0), .val (.int v1), .val (.int v2), .val (.int v0), .val (.int v1), .val (.int v2), .val (.ref b39), .val (.ref b43), .val (.ref ob), .val (.int (0 : Int32))] [(.int v0), (.int (0 : Int32)), (.ref ob)])) rfl (by rw [hml]; rfl) (argsL := [(.ref ob), (.int (0 : Int32)), (.int v0)]) (rest := []) (lenOf pd_634375 rfl) rfl (by show 2 * 0 + _ ≤ _; exact Nat.le_of_eq rfl) (hb hby at_154) (fun _ _ => ⟨rfl, rfl, (by decide : 5 + 0 ≤ _), (by decide : 25 + 0 ≤ _)⟩)
        dsimp only [Pt.U, Pt.locs, Pt.cells, Pt.slots] at X46 l46 y46 z46 st46 hQ46
        replace y46 : k46 = 5 := y46
        replace z46 : n46 = 25 := z46
        subst y46 z46
        obtain ⟨rfl, Nq46, eq46⟩ := hQ46
        have N46 : Fr n0 L46 := by rw [l46]; exact Fr.app N45 Nq46
        obtain ⟨_, _, ⟨T47, L47, k47, n47⟩, -, X47, ⟨Lc47, hQ47, l47, y47, z47⟩, st47⟩ := Jvm.LawKit.callS X46 hx (y := (⟨"com/example/sonde/sonde/store/CurrentVersionsKeptPinLaw", "step", "([BII)I"⟩ : MethodName)) hown (mvT hZ (own_w hw 70 rfl)) (mvT hZ (own_w hw 71 rfl)) (mvT hZ (own_w hw 2 rfl)) (mvT hZ (own_w hw 72 rfl)) (by decide) (backOf (W := 0) (rm_step l Z a0 hw [] ob ((0 : Int32) + (own_sz v0)) v1 kob ((((0 : Int32) + (own_sz v0)) + (own_sz v1)) + (own_sz v2)) (own_wr (own_wr (own_wr ([(0 : Int32), (0 : Int32), (0 : Int32), (0 : Int32), (0 : Int32), (0 : Int32), (0 : Int32), (0 : Int32), (0 : Int32)] : List Int32) (0 : Int32) v0) ((0 : Int32) + (own_sz v0)) v1) (((0 : Int32) + (own_sz v0)) + (own_sz v1)) v2) T45.heap n0 Z45 Vob (own_szx3_1 v0 v1 v2) (own_szf3_1 v0 v1 v2) (own_mt3_1 v0 v1 v2 q1)) hZ (own_w hw 72 rfl) (own_w hw 2 rfl) (by decide) (by decide)) (g := (mkF m 171 #[.val (.int u1), .val (.int u2), .val (.int u3), .val (.int u4), .val (.int (3 : Int32)), .val (.int v0), .val (.int v1), .val (.int v2), .val (.int v0), .val (.int v1), .val (.int v2), .val (.ref b39), .val (.ref b43), .val (.ref ob), .val (.int ((0 : Int32) + (own_sz v0)))] [(.int v1), (.int ((0 : Int32) + (own_sz v0))), (.ref ob)])) rfl (by rw [hml]; rfl) (argsL := [(.ref ob), (.int ((0 : Int32) + (own_sz v0))), (.int v1)]) (rest := []) (lenOf pd_634375 rfl) rfl (by show 2 * 0 + _ ≤ _; exact Nat.le_of_eq rfl) (hb hby at_171) (fun _ _ => ⟨rfl, eq46, (by decide : 5 + 0 ≤ _), (by decide : 25 + 0 ≤ _)⟩)
        dsimp only [Pt.U, Pt.locs, Pt.cells, Pt.slots] at X47 l47 y47 z47 st47 hQ47
        replace y47 : k47 = 5 := y47
        replace z47 : n47 = 25 := z47
        subst y47 z47
        obtain ⟨rfl, Nq47, eq47⟩ := hQ47
        have N47 : Fr n0 L47 := by rw [l47]; exact Fr.app N46 Nq47
        obtain ⟨_, _, ⟨T48, L48, k48, n48⟩, -, X48, ⟨Lc48, hQ48, l48, y48, z48⟩, st48⟩ := Jvm.LawKit.callS X47 hx (y := (⟨"com/example/sonde/sonde/store/CurrentVersionsKeptPinLaw", "step", "([BII)I"⟩ : MethodName)) hown (mvT hZ (own_w hw 70 rfl)) (mvT hZ (own_w hw 71 rfl)) (mvT hZ (own_w hw 2 rfl)) (mvT hZ (own_w hw 72 rfl)) (by decide) (backOf (W := 0) (rm_step l Z a0 hw [] ob (((0 : Int32) + (own_sz v0)) + (own_sz v1)) v2 kob ((((0 : Int32) + (own_sz v0)) + (own_sz v1)) + (own_sz v2)) (own_wr (own_wr (own_wr ([(0 : Int32), (0 : Int32), (0 : Int32), (0 : Int32), (0 : Int32), (0 : Int32), (0 : Int32), (0 : Int32), (0 : Int32)] : List Int32) (0 : Int32) v0) ((0 : Int32) + (own_sz v0)) v1) (((0 : Int32) + (own_sz v0)) + (own_sz v1)) v2) T45.heap n0 Z45 Vob (own_szx3_2 v0 v1 v2) (own_szf3_2 v0 v1 v2) (own_mt3_2 v0 v1 v2 q2)) hZ (own_w hw 72 rfl) (own_w hw 2 rfl) (by decide) (by decide)) (g := (mkF m 188 #[.val (.int u1), .val (.int u2), .val (.int u3), .val (.int u4), .val (.int (3 : Int32)), .val (.int v0), .val (.int v1), .val (.int v2), .val (.int v0), .val (.int v1), .val (.int v2), .val (.ref b39), .val (.ref b43), .val (.ref ob), .val (.int (((0 : Int32) + (own_sz v0)) + (own_sz v1)))] [(.int v2), (.int (((0 : Int32) + (own_sz v0)) + (own_sz v1))), (.ref ob)])) rfl (by rw [hml]; rfl) (argsL := [(.ref ob), (.int (((0 : Int32) + (own_sz v0)) + (own_sz v1))), (.int v2)]) (rest := []) (lenOf pd_634375 rfl) rfl (by show 2 * 0 + _ ≤ _; exact Nat.le_of_eq rfl) (hb hby at_188) (fun _ _ => ⟨rfl, eq47, (by decide : 5 + 0 ≤ _), (by decide : 25 + 0 ≤ _)⟩)
        dsimp only [Pt.U, Pt.locs, Pt.cells, Pt.slots] at X48 l48 y48 z48 st48 hQ48
        replace y48 : k48 = 5 := y48
        replace z48 : n48 = 25 := z48
        subst y48 z48
        obtain ⟨rfl, Nq48, eq48⟩ := hQ48
        have N48 : Fr n0 L48 := by rw [l48]; exact Fr.app N47 Nq48
        obtain ⟨cl49, Ar49, -, S49, M49, -, -⟩ := id Vob
        obtain ⟨fs, hr, hrun, hended, hW, hsame⟩ := X48.leave (v := some (.int (1 : Int32))) (fun h => by rw [Bd.returns] at h; cases h)
        have hEnd := ReturnedEndW.of_narrow (o := .returned (some (.int (1 : Int32)))) ⟨_, rfl⟩ hW hsame
        refine ⟨_, _, pre38 _ ?_, hrun, hended, _, _, rfl, ?_, hEnd.1, hEnd.2.1, hEnd.2.2.1, hEnd.2.2.2.mono (by decide) (by decide)⟩
        · show Steps p.tables e below (T33.setTop (mkF m 94 #[.val (.int u1), .val (.int u2), .val (.int u3), .val (.int u4), .val (.int (3 : Int32)), .val (.int v0), .val (.int v1), .val (.int v2), .val (.int v0), .val (.int v1), .val (.int v2), .unset, .unset, .unset, .unset] [])) _
          refine XS.iconst X33.here hx rfl (hb hby at_94) ?_
          refine st39 _ ?_
          show Steps p.tables e below (T39.setTop (mkF m 97 #[.val (.int u1), .val (.int u2), .val (.int u3), .val (.int u4), .val (.int (3 : Int32)), .val (.int v0), .val (.int v1), .val (.int v2), .val (.int v0), .val (.int v1), .val (.int v2), .unset, .unset, .unset, .unset] [(.ref b39)])) _
          refine XS.dup X39.here hx rfl (hb hby at_97) rfl rfl ?_
          refine XS.iconst X39.here hx rfl (hb hby at_98) ?_
          refine XS.iload X39.here hx rfl (hb hby at_99) rfl ?_
          refine st40 _ ?_
          refine XS.dup X40.here hx rfl (hb hby at_102) rfl rfl ?_
          refine XS.iconst X40.here hx rfl (hb hby at_103) ?_
          refine XS.iload X40.here hx rfl (hb hby at_104) rfl ?_
          refine st41 _ ?_
          show Steps p.tables e below (T41.setTop (mkF m 107 #[.val (.int u1), .val (.int u2), .val (.int u3), .val (.int u4), .val (.int (3 : Int32)), .val (.int v0), .val (.int v1), .val (.int v2), .val (.int v0), .val (.int v1), .val (.int v2), .unset, .unset, .unset, .unset] [(.ref b39)])) _
          refine XS.dup X41.here hx rfl (hb hby at_107) rfl rfl ?_
          refine XS.iconst X41.here hx rfl (hb hby at_108) ?_
          refine XS.iload X41.here hx rfl (hb hby at_109) rfl ?_
          refine st42 _ ?_
          refine XS.astore X42.here hx rfl (hb hby at_112) rfl rfl (l' := #[.val (.int u1), .val (.int u2), .val (.int u3), .val (.int u4), .val (.int (3 : Int32)), .val (.int v0), .val (.int v1), .val (.int v2), .val (.int v0), .val (.int v1), .val (.int v2), .val (.ref b39), .unset, .unset, .unset]) rfl ?_
          refine st43 _ ?_
          refine XS.dup X43.here hx rfl (hb hby at_117) rfl rfl ?_
          refine XS.aload X43.here hx rfl (hb hby at_118) rfl rfl ?_
          show Steps p.tables e below (T43.setTop (mkF m 120 #[.val (.int u1), .val (.int u2), .val (.int u3), .val (.int u4), .val (.int (3 : Int32)), .val (.int v0), .val (.int v1), .val (.int v2), .val (.int v0), .val (.int v1), .val (.int v2), .val (.ref b39), .unset, .unset, .unset] [(.ref b39), (.ref b43), (.ref b43)])) _
          refine st44.trans ?_
          refine XS.astore X44.here hx rfl (hb hby at_123) rfl rfl (l' := #[.val (.int u1), .val (.int u2), .val (.int u3), .val (.int u4), .val (.int (3 : Int32)), .val (.int v0), .val (.int v1), .val (.int v2), .val (.int v0), .val (.int v1), .val (.int v2), .val (.ref b39), .val (.ref b43), .unset, .unset]) rfl ?_
          refine XS.aload X44.here hx rfl (hb hby at_125) rfl rfl ?_
          refine st45 _ ?_
          refine XS.astore X45.here hx rfl (hb hby at_130) rfl rfl (l' := #[.val (.int u1), .val (.int u2), .val (.int u3), .val (.int u4), .val (.int (3 : Int32)), .val (.int v0), .val (.int v1), .val (.int v2), .val (.int v0), .val (.int v1), .val (.int v2), .val (.ref b39), .val (.ref b43), .val (.ref ob), .unset]) rfl ?_
          refine XS.aload X45.here hx rfl (hb hby at_132) rfl rfl ?_
          refine XS.ifnonnullYes X45.here hx rfl (pc0 := 134) (pc' := 139) rfl (hb hby at_134) rfl (by decide) (by decide) ?_
          refine XS.iconst X45.here hx rfl (hb hby at_139) ?_
          show Steps p.tables e below (T45.setTop (mkF m 140 #[.val (.int u1), .val (.int u2), .val (.int u3), .val (.int u4), .val (.int (3 : Int32)), .val (.int v0), .val (.int v1), .val (.int v2), .val (.int v0), .val (.int v1), .val (.int v2), .val (.ref b39), .val (.ref b43), .val (.ref ob), .unset] [(.int (0 : Int32))])) _
          refine XS.istore X45.here hx rfl (hb hby at_140) rfl (l' := #[.val (.int u1), .val (.int u2), .val (.int u3), .val (.int u4), .val (.int (3 : Int32)), .val (.int v0), .val (.int v1), .val (.int v2), .val (.int v0), .val (.int v1), .val (.int v2), .val (.ref b39), .val (.ref b43), .val (.ref ob), .val (.int (0 : Int32))]) rfl ?_
          refine XS.iload X45.here hx rfl (hb hby at_142) rfl ?_
          refine XS.iconst X45.here hx rfl (hb hby at_144) ?_
          refine XS.icmpNo X45.here hx rfl (hb hby at_145) rfl (by decide) ?_
          refine XS.aload X45.here hx rfl (hb hby at_148) rfl rfl ?_
          refine XS.iload X45.here hx rfl (hb hby at_150) rfl ?_
          refine XS.iload X45.here hx rfl (hb hby at_152) rfl ?_
          refine st46 _ ?_
          show Steps p.tables e below (T46.setTop (mkF m 157 #[.val (.int u1), .val (.int u2), .val (.int u3), .val (.int u4), .val (.int (3 : Int32)), .val (.int v0), .val (.int v1), .val (.int v2), .val (.int v0), .val (.int v1), .val (.int v2), .val (.ref b39), .val (.ref b43), .val (.ref ob), .val (.int (0 : Int32))] [(.int ((0 : Int32) + (own_sz v0)))])) _
          refine XS.istore X46.here hx rfl (hb hby at_157) rfl (l' := #[.val (.int u1), .val (.int u2), .val (.int u3), .val (.int u4), .val (.int (3 : Int32)), .val (.int v0), .val (.int v1), .val (.int v2), .val (.int v0), .val (.int v1), .val (.int v2), .val (.ref b39), .val (.ref b43), .val (.ref ob), .val (.int ((0 : Int32) + (own_sz v0)))]) rfl ?_
          refine XS.iload X46.here hx rfl (hb hby at_159) rfl ?_
          refine XS.iconst X46.here hx rfl (hb hby at_161) ?_
          refine XS.icmpNo X46.here hx rfl (hb hby at_162) rfl (by decide) ?_
          refine XS.aload X46.here hx rfl (hb hby at_165) rfl rfl ?_
          refine XS.iload X46.here hx rfl (hb hby at_167) rfl ?_
          refine XS.iload X46.here hx rfl (hb hby at_169) rfl ?_
          refine st47 _ ?_
          show Steps p.tables e below (T47.setTop (mkF m 174 #[.val (.int u1), .val (.int u2), .val (.int u3), .val (.int u4), .val (.int (3 : Int32)), .val (.int v0), .val (.int v1), .val (.int v2), .val (.int v0), .val (.int v1), .val (.int v2), .val (.ref b39), .val (.ref b43), .val (.ref ob), .val (.int ((0 : Int32) + (own_sz v0)))] [(.int (((0 : Int32) + (own_sz v0)) + (own_sz v1)))])) _
          refine XS.istore X47.here hx rfl (hb hby at_174) rfl (l' := #[.val (.int u1), .val (.int u2), .val (.int u3), .val (.int u4), .val (.int (3 : Int32)), .val (.int v0), .val (.int v1), .val (.int v2), .val (.int v0), .val (.int v1), .val (.int v2), .val (.ref b39), .val (.ref b43), .val (.ref ob), .val (.int (((0 : Int32) + (own_sz v0)) + (own_sz v1)))]) rfl ?_
          refine XS.iload X47.here hx rfl (hb hby at_176) rfl ?_
          refine XS.iconst X47.here hx rfl (hb hby at_178) ?_
          refine XS.icmpNo X47.here hx rfl (hb hby at_179) rfl (by decide) ?_
          refine XS.aload X47.here hx rfl (hb hby at_182) rfl rfl ?_
          refine XS.iload X47.here hx rfl (hb hby at_184) rfl ?_
          refine XS.iload X47.here hx rfl (hb hby at_186) rfl ?_
          refine st48 _ ?_
          show Steps p.tables e below (T48.setTop (mkF m 191 #[.val (.int u1), .val (.int u2), .val (.int u3), .val (.int u4), .val (.int (3 : Int32)), .val (.int v0), .val (.int v1), .val (.int v2), .val (.int v0), .val (.int v1), .val (.int v2), .val (.ref b39), .val (.ref b43), .val (.ref ob), .val (.int (((0 : Int32) + (own_sz v0)) + (own_sz v1)))] [(.int ((((0 : Int32) + (own_sz v0)) + (own_sz v1)) + (own_sz v2)))])) _
          refine XS.istore X48.here hx rfl (hb hby at_191) rfl (l' := #[.val (.int u1), .val (.int u2), .val (.int u3), .val (.int u4), .val (.int (3 : Int32)), .val (.int v0), .val (.int v1), .val (.int v2), .val (.int v0), .val (.int v1), .val (.int v2), .val (.ref b39), .val (.ref b43), .val (.ref ob), .val (.int ((((0 : Int32) + (own_sz v0)) + (own_sz v1)) + (own_sz v2)))]) rfl ?_
          refine XS.iload X48.here hx rfl (hb hby at_193) rfl ?_
          refine XS.aload X48.here hx rfl (hb hby at_195) rfl rfl ?_
          refine X48.arraylength hx (by rw [eq48]; exact Ar49.1) (State.isArrayOf_alike hZ.alike Ar49.2.1) (g := (mkF m 197 #[.val (.int u1), .val (.int u2), .val (.int u3), .val (.int u4), .val (.int (3 : Int32)), .val (.int v0), .val (.int v1), .val (.int v2), .val (.int v0), .val (.int v1), .val (.int v2), .val (.ref b39), .val (.ref b43), .val (.ref ob), .val (.int ((((0 : Int32) + (own_sz v0)) + (own_sz v1)) + (own_sz v2)))] [(.ref ob), (.int ((((0 : Int32) + (own_sz v0)) + (own_sz v1)) + (own_sz v2)))])) rfl rfl (hb hby at_197) _ ?_
          rw [len_of S49 M49]
          refine XS.icmpNo X48.here hx rfl (hb hby at_198) rfl (own_same _) ?_
          refine XS.iconst X48.here hx rfl (hb hby at_201) ?_
          refine XS.goto X48.here hx rfl (pc0 := 202) (pc' := 206) rfl (hb hby at_202) (by decide) (by decide) ?_
          show Steps p.tables e below (T48.setTop (mkF m 206 #[.val (.int u1), .val (.int u2), .val (.int u3), .val (.int u4), .val (.int (3 : Int32)), .val (.int v0), .val (.int v1), .val (.int v2), .val (.int v0), .val (.int v1), .val (.int v2), .val (.ref b39), .val (.ref b43), .val (.ref ob), .val (.int ((((0 : Int32) + (own_sz v0)) + (own_sz v1)) + (own_sz v2)))] [(.int (1 : Int32))])) _
          exact retN X48 hx (t := .boolean) Bd.returns (by simp) (hb hby at_206) hr
        · show Q_rm_law Z _ _ _ _ _ _ h0 n0 _ T48.heap _
          rw [eq48]
          exact ⟨rfl, N48⟩
      · have pre50 : ∀ t, Steps p.tables e below (T33.setTop (mkF m 76 #[.val (.int u1), .val (.int u2), .val (.int u3), .val (.int u4), .val (.int (u4 &&& (3 : Int32))), .val (.int v0), .val (.int v1), .val (.int v2), .val (.int v0), .val (.int v1), .val (.int v2), .unset, .unset, .unset, .unset] [])) t → Steps p.tables e below (s₁.setTop (entryFrame m #[(.int u1), (.int u2), (.int u3), (.int u4)] maxLocals)) t := by
          intro t k
          refine pre37 t ?_
          show Steps p.tables e below (T33.setTop (mkF m 73 #[.val (.int u1), .val (.int u2), .val (.int u3), .val (.int u4), .val (.int (u4 &&& (3 : Int32))), .val (.int v0), .val (.int v1), .val (.int v2), .val (.int v0), .val (.int v1), .val (.int v2), .unset, .unset, .unset, .unset] [(.int (2 : Int32)), (.int (u4 &&& (3 : Int32)))])) _
          refine XS.icmpNo X33.here hx rfl (hb hby at_73) rfl hb73 ?_
          exact k
        have hL : (u4 &&& (3 : Int32)) = (2 : Int32) := own_k hb73
        rw [hL] at pre50
        obtain ⟨T51, h51, k51, X51, e51, E51, A51, st51⟩ := newP X33 hx hZ (own_w hw 4 rfl) eq33 (g := (mkF m 77 #[.val (.int u1), .val (.int u2), .val (.int u3), .val (.int u4), .val (.int (2 : Int32)), .val (.int v0), .val (.int v1), .val (.int v2), .val (.int v0), .val (.int v1), .val (.int v2), .unset, .unset, .unset, .unset] [(.int (2 : Int32))])) rfl (hb hby at_77) rfl (by decide) (cap := 2) (by decide) (by decide) (by decide) (by decide)
        obtain ⟨b51, g51⟩ : ∃ z, z = h0.size := ⟨_, rfl⟩
        rw [← g51] at A51 st51
        have fr_b51 : n0 ≤ b51 := Nat.le_trans Z0 (Nat.le_of_eq g51.symm)
        have Z51 : n0 ≤ h51.size := Nat.le_trans Z0 E51.1
        have Od51 : Old Z n0 h51 := X00.ext E51
        have V51 := Arv.new A51 (by decide)
        have V51p : Arv Z h51 b51 k51 .char (2 : Int32) [(.int (0 : Int32)), (.int (0 : Int32))] (.int (0 : Int32)) := V51.pad (pad_rep [] (.int (0 : Int32)) 2)
        obtain ⟨cl52, Ar52, q52, S52, M52, H52, G52⟩ := id V51p
        obtain ⟨T52, h52, X52, e52, W52, st52⟩ := stC X51 hx hZ e51 Ar52 (j := (0 : Int32)) (inb_of S52 ⟨by decide, by decide⟩) (g := (mkF m 83 #[.val (.int u1), .val (.int u2), .val (.int u3), .val (.int u4), .val (.int (2 : Int32)), .val (.int v0), .val (.int v1), .val (.int v2), .val (.int v0), .val (.int v1), .val (.int v2), .unset, .unset, .unset, .unset] [(.int v0), (.int (0 : Int32)), (.ref b51), (.ref b51)])) rfl rfl (hb hby at_83)
        have V52 := Arv.set Ar52 q52 S52 M52 H52 G52 (fits_nar_char _) W52 0 rfl (Nat.le_of_ble_eq_true rfl)
        have N52 := Fr.snoc X52 N33 fr_b51
        have Z52 : n0 ≤ h52.size := Nat.le_trans Z51 (Keep.of_wr W52).1
        have Od52 : Old Z n0 h52 := Od51.wr W52 fr_b51
        have V52q : Arv Z h52 b51 k51 .char (2 : Int32) [(.int v0), (.int (0 : Int32))] (.int (0 : Int32)) := by rw [own_cc v0 q0] at V52; exact V52
        obtain ⟨cl53, Ar53, q53, S53, M53, H53, G53⟩ := id V52q
        obtain ⟨T53, h53, X53, e53, W53, st53⟩ := stC X52 hx hZ e52 Ar53 (j := (1 : Int32)) (inb_of S53 ⟨by decide, by decide⟩) (g := (mkF m 88 #[.val (.int u1), .val (.int u2), .val (.int u3), .val (.int u4), .val (.int (2 : Int32)), .val (.int v0), .val (.int v1), .val (.int v2), .val (.int v0), .val (.int v1), .val (.int v2), .unset, .unset, .unset, .unset] [(.int v1), (.int (1 : Int32)), (.ref b51), (.ref b51)])) rfl rfl (hb hby at_88)
        have V53 := Arv.set Ar53 q53 S53 M53 H53 G53 (fits_nar_char _) W53 1 rfl (Nat.le_of_ble_eq_true rfl)
        have N53 := Fr.snoc X53 N52 fr_b51
        have Z53 : n0 ≤ h53.size := Nat.le_trans Z52 (Keep.of_wr W53).1
        have Od53 : Old Z n0 h53 := Od52.wr W53 fr_b51
        have V53q : Arv Z h53 b51 k51 .char (2 : Int32) [(.int v0), (.int v1)] (.int (0 : Int32)) := by rw [own_cc v1 q1] at V53; exact V53
        obtain ⟨T54, h54, X54, e54, E54, A54, D54, -, st54⟩ := newO X53 hx hZ hown (own_w hw 5 rfl) (own_w hw 6 rfl) (own_w hw 7 rfl) e53 (g := (mkF m 114 #[.val (.int u1), .val (.int u2), .val (.int u3), .val (.int u4), .val (.int (2 : Int32)), .val (.int v0), .val (.int v1), .val (.int v2), .val (.int v0), .val (.int v1), .val (.int v2), .val (.ref b51), .unset, .unset, .unset] [])) rfl (hb hby at_114) (by decide) (by decide)
        obtain ⟨b54, g54⟩ : ∃ z, z = h53.size := ⟨_, rfl⟩
        rw [← g54] at A54 D54 st54
        have fr_b54 : n0 ≤ b54 := Nat.le_trans Z53 (Nat.le_of_eq g54.symm)
        have ne_b51_b54 : b51 ≠ b54 := Nat.ne_of_lt (Nat.lt_of_lt_of_le V53q.lt (Nat.le_of_eq g54.symm))
        have Z54 : n0 ≤ h54.size := Nat.le_trans Z53 E54.1
        have Od54 : Old Z n0 h54 := Od53.ext E54
        have F_coder_b54 : Fld Z h54 b54 "java/lang/String" "coder" "B" (.int (0 : Int32)) := D54 (Or.inr (own_w hw 31 rfl)) (ty := .byte) (by decide)
        have F_value_b54 : Fld Z h54 b54 "java/lang/String" "value" "[B" .null := D54 (Or.inr (own_w hw 33 rfl)) (ty := (.array .byte)) (by decide)
        obtain ⟨_, _, ⟨T55, L55, k55, n55⟩, -, X55, ⟨Lc55, hQ55, l55, y55, z55⟩, st55⟩ := X54.specialBack hx (y := (⟨"java/lang/String", "<init>", "([C)V"⟩ : MethodName)) rfl hown (mvT hZ (own_w hw 8 rfl)) (mvT hZ (own_w hw 9 rfl)) (mvT hZ (own_w hw 10 rfl)) (by decide) (backOf (W := 1) (rm_s2 l Z a0 hw [] b54 b51 zc k51 v0 v1 h54 n0 Z54 ⟨rfl, Od54.2⟩ O5 O6 O7 q0 q1 O2 hz F_value_b54 F_coder_b54 A54 fr_b54 (V53q.ext E54) (Ne.symm ne_b51_b54)) hZ (own_w hw 10 rfl) (own_w hw 7 rfl) (by decide) (by decide)) (g := (mkF m 120 #[.val (.int u1), .val (.int u2), .val (.int u3), .val (.int u4), .val (.int (2 : Int32)), .val (.int v0), .val (.int v1), .val (.int v2), .val (.int v0), .val (.int v1), .val (.int v2), .val (.ref b51), .unset, .unset, .unset] [(.ref b51), (.ref b54), (.ref b54)])) rfl (by rw [hml]; rfl) (Steps.refl _) (a := b54) (argsL := [(.ref b51)]) (rest := [(.ref b54)]) (lenOf pd_692410 rfl) rfl (by show 2 * 0 + _ ≤ _; exact Nat.le_of_eq rfl) (hb hby at_120) (fun _ _ => ⟨rfl, e54, (by decide : 2 + 2 ≤ _), (by decide : 6 + 6 ≤ _)⟩)
        dsimp only [Pt.U, Pt.locs, Pt.cells, Pt.slots] at X55 l55 y55 z55 st55 hQ55
        replace y55 : k55 = 4 := y55
        replace z55 : n55 = 12 := z55
        subst y55 z55
        obtain ⟨rfl, Nq55, Kq55, hs55⟩ := hQ55
        have N55 : Fr n0 L55 := by rw [l55]; exact Fr.app N53 Nq55
        have Z55 : n0 ≤ T55.heap.size := Nat.le_trans Z54 Kq55.1
        have Od55 : Old Z n0 T55.heap := Od54.keep Kq55 (allS fr_b54 all0)
        obtain ⟨Es, cd, ts, kbs, Ns, ys, Fc, Fv, Vs, cod⟩ := hs55
        obtain ⟨_, _, ⟨T56, L56, k56, n56⟩, -, X56, ⟨Lc56, hQ56, l56, y56, z56⟩, st56⟩ := Jvm.LawKit.callS X55 hx (y := (⟨"com/example/sonde/sonde/store/CurrentVersions", "kept", "(Ljava/lang/String;)[B"⟩ : MethodName)) hown (mvT hZ (own_w hw 34 rfl)) (mvT hZ (own_w hw 35 rfl)) (mvT hZ (own_w hw 36 rfl)) (mvT hZ (own_w hw 37 rfl)) (by decide) (backOf (W := 0) (rm_kept2 l Z a0 hw [] b54 zc fm cd ts kbs Ns ys v0 v1 T55.heap n0 Z55 ⟨rfl, Od55.2⟩ O2 hz O4 rf O5 O6 O7 Es Fc Fv Vs cod q0 q1) hZ (own_w hw 37 rfl) (own_w hw 36 rfl) (by decide) (by decide)) (g := (mkF m 127 #[.val (.int u1), .val (.int u2), .val (.int u3), .val (.int u4), .val (.int (2 : Int32)), .val (.int v0), .val (.int v1), .val (.int v2), .val (.int v0), .val (.int v1), .val (.int v2), .val (.ref b51), .val (.ref b54), .unset, .unset] [(.ref b54)])) rfl (by rw [hml]; rfl) (argsL := [(.ref b54)]) (rest := []) (lenOf pd_386298 rfl) rfl (by show 2 * 0 + _ ≤ _; exact Nat.le_of_eq rfl) (hb hby at_127) (fun _ _ => ⟨rfl, rfl, (by decide : 4 + 1 ≤ _), (by decide : 12 + 9 ≤ _)⟩)
        dsimp only [Pt.U, Pt.locs, Pt.cells, Pt.slots] at X56 l56 y56 z56 st56 hQ56
        replace y56 : k56 = 5 := y56
        replace z56 : n56 = 21 := z56
        subst y56 z56
        obtain ⟨ob, kob, rfl, Nq56, Kq56, gob, Vob⟩ := hQ56
        have N56 : Fr n0 L56 := by rw [l56]; exact Fr.app N55 Nq56
        have Z56 : n0 ≤ T56.heap.size := Nat.le_trans Z55 Kq56.1
        have Od56 : Old Z n0 T56.heap := Od55.keep Kq56 all0
        obtain ⟨_, _, ⟨T57, L57, k57, n57⟩, -, X57, ⟨Lc57, hQ57, l57, y57, z57⟩, st57⟩ := Jvm.LawKit.callS X56 hx (y := (⟨"com/example/sonde/sonde/store/CurrentVersionsKeptPinLaw", "step", "([BII)I"⟩ : MethodName)) hown (mvT hZ (own_w hw 70 rfl)) (mvT hZ (own_w hw 71 rfl)) (mvT hZ (own_w hw 2 rfl)) (mvT hZ (own_w hw 72 rfl)) (by decide) (backOf (W := 0) (rm_step l Z a0 hw [] ob (0 : Int32) v0 kob (((0 : Int32) + (own_sz v0)) + (own_sz v1)) (own_wr (own_wr ([(0 : Int32), (0 : Int32), (0 : Int32), (0 : Int32), (0 : Int32), (0 : Int32), (0 : Int32), (0 : Int32), (0 : Int32)] : List Int32) (0 : Int32) v0) ((0 : Int32) + (own_sz v0)) v1) T56.heap n0 Z56 Vob (own_szx2_0 v0 v1) (own_szf2_0 v0 v1) (own_mt2_0 v0 v1 q0)) hZ (own_w hw 72 rfl) (own_w hw 2 rfl) (by decide) (by decide)) (g := (mkF m 154 #[.val (.int u1), .val (.int u2), .val (.int u3), .val (.int u4), .val (.int (2 : Int32)), .val (.int v0), .val (.int v1), .val (.int v2), .val (.int v0), .val (.int v1), .val (.int v2), .val (.ref b51), .val (.ref b54), .val (.ref ob), .val (.int (0 : Int32))] [(.int v0), (.int (0 : Int32)), (.ref ob)])) rfl (by rw [hml]; rfl) (argsL := [(.ref ob), (.int (0 : Int32)), (.int v0)]) (rest := []) (lenOf pd_634375 rfl) rfl (by show 2 * 0 + _ ≤ _; exact Nat.le_of_eq rfl) (hb hby at_154) (fun _ _ => ⟨rfl, rfl, (by decide : 5 + 0 ≤ _), (by decide : 21 + 0 ≤ _)⟩)
        dsimp only [Pt.U, Pt.locs, Pt.cells, Pt.slots] at X57 l57 y57 z57 st57 hQ57
        replace y57 : k57 = 5 := y57
        replace z57 : n57 = 21 := z57
        subst y57 z57
        obtain ⟨rfl, Nq57, eq57⟩ := hQ57
        have N57 : Fr n0 L57 := by rw [l57]; exact Fr.app N56 Nq57
        obtain ⟨_, _, ⟨T58, L58, k58, n58⟩, -, X58, ⟨Lc58, hQ58, l58, y58, z58⟩, st58⟩ := Jvm.LawKit.callS X57 hx (y := (⟨"com/example/sonde/sonde/store/CurrentVersionsKeptPinLaw", "step", "([BII)I"⟩ : MethodName)) hown (mvT hZ (own_w hw 70 rfl)) (mvT hZ (own_w hw 71 rfl)) (mvT hZ (own_w hw 2 rfl)) (mvT hZ (own_w hw 72 rfl)) (by decide) (backOf (W := 0) (rm_step l Z a0 hw [] ob ((0 : Int32) + (own_sz v0)) v1 kob (((0 : Int32) + (own_sz v0)) + (own_sz v1)) (own_wr (own_wr ([(0 : Int32), (0 : Int32), (0 : Int32), (0 : Int32), (0 : Int32), (0 : Int32), (0 : Int32), (0 : Int32), (0 : Int32)] : List Int32) (0 : Int32) v0) ((0 : Int32) + (own_sz v0)) v1) T56.heap n0 Z56 Vob (own_szx2_1 v0 v1) (own_szf2_1 v0 v1) (own_mt2_1 v0 v1 q1)) hZ (own_w hw 72 rfl) (own_w hw 2 rfl) (by decide) (by decide)) (g := (mkF m 171 #[.val (.int u1), .val (.int u2), .val (.int u3), .val (.int u4), .val (.int (2 : Int32)), .val (.int v0), .val (.int v1), .val (.int v2), .val (.int v0), .val (.int v1), .val (.int v2), .val (.ref b51), .val (.ref b54), .val (.ref ob), .val (.int ((0 : Int32) + (own_sz v0)))] [(.int v1), (.int ((0 : Int32) + (own_sz v0))), (.ref ob)])) rfl (by rw [hml]; rfl) (argsL := [(.ref ob), (.int ((0 : Int32) + (own_sz v0))), (.int v1)]) (rest := []) (lenOf pd_634375 rfl) rfl (by show 2 * 0 + _ ≤ _; exact Nat.le_of_eq rfl) (hb hby at_171) (fun _ _ => ⟨rfl, eq57, (by decide : 5 + 0 ≤ _), (by decide : 21 + 0 ≤ _)⟩)
        dsimp only [Pt.U, Pt.locs, Pt.cells, Pt.slots] at X58 l58 y58 z58 st58 hQ58
        replace y58 : k58 = 5 := y58
        replace z58 : n58 = 21 := z58
        subst y58 z58
        obtain ⟨rfl, Nq58, eq58⟩ := hQ58
        have N58 : Fr n0 L58 := by rw [l58]; exact Fr.app N57 Nq58
        obtain ⟨cl59, Ar59, -, S59, M59, -, -⟩ := id Vob
        obtain ⟨fs, hr, hrun, hended, hW, hsame⟩ := X58.leave (v := some (.int (1 : Int32))) (fun h => by rw [Bd.returns] at h; cases h)
        have hEnd := ReturnedEndW.of_narrow (o := .returned (some (.int (1 : Int32)))) ⟨_, rfl⟩ hW hsame
        refine ⟨_, _, pre50 _ ?_, hrun, hended, _, _, rfl, ?_, hEnd.1, hEnd.2.1, hEnd.2.2.1, hEnd.2.2.2.mono (by decide) (by decide)⟩
        · show Steps p.tables e below (T33.setTop (mkF m 76 #[.val (.int u1), .val (.int u2), .val (.int u3), .val (.int u4), .val (.int (2 : Int32)), .val (.int v0), .val (.int v1), .val (.int v2), .val (.int v0), .val (.int v1), .val (.int v2), .unset, .unset, .unset, .unset] [])) _
          refine XS.iconst X33.here hx rfl (hb hby at_76) ?_
          refine st51 _ ?_
          show Steps p.tables e below (T51.setTop (mkF m 79 #[.val (.int u1), .val (.int u2), .val (.int u3), .val (.int u4), .val (.int (2 : Int32)), .val (.int v0), .val (.int v1), .val (.int v2), .val (.int v0), .val (.int v1), .val (.int v2), .unset, .unset, .unset, .unset] [(.ref b51)])) _
          refine XS.dup X51.here hx rfl (hb hby at_79) rfl rfl ?_
          refine XS.iconst X51.here hx rfl (hb hby at_80) ?_
          refine XS.iload X51.here hx rfl (hb hby at_81) rfl ?_
          refine st52 _ ?_
          refine XS.dup X52.here hx rfl (hb hby at_84) rfl rfl ?_
          refine XS.iconst X52.here hx rfl (hb hby at_85) ?_
          refine XS.iload X52.here hx rfl (hb hby at_86) rfl ?_
          refine st53 _ ?_
          show Steps p.tables e below (T53.setTop (mkF m 89 #[.val (.int u1), .val (.int u2), .val (.int u3), .val (.int u4), .val (.int (2 : Int32)), .val (.int v0), .val (.int v1), .val (.int v2), .val (.int v0), .val (.int v1), .val (.int v2), .unset, .unset, .unset, .unset] [(.ref b51)])) _
          refine XS.astore X53.here hx rfl (hb hby at_89) rfl rfl (l' := #[.val (.int u1), .val (.int u2), .val (.int u3), .val (.int u4), .val (.int (2 : Int32)), .val (.int v0), .val (.int v1), .val (.int v2), .val (.int v0), .val (.int v1), .val (.int v2), .val (.ref b51), .unset, .unset, .unset]) rfl ?_
          refine XS.goto X53.here hx rfl (pc0 := 91) (pc' := 114) rfl (hb hby at_91) (by decide) (by decide) ?_
          refine st54 _ ?_
          refine XS.dup X54.here hx rfl (hb hby at_117) rfl rfl ?_
          refine XS.aload X54.here hx rfl (hb hby at_118) rfl rfl ?_
          refine st55.trans ?_
          refine XS.astore X55.here hx rfl (hb hby at_123) rfl rfl (l' := #[.val (.int u1), .val (.int u2), .val (.int u3), .val (.int u4), .val (.int (2 : Int32)), .val (.int v0), .val (.int v1), .val (.int v2), .val (.int v0), .val (.int v1), .val (.int v2), .val (.ref b51), .val (.ref b54), .unset, .unset]) rfl ?_
          refine XS.aload X55.here hx rfl (hb hby at_125) rfl rfl ?_
          show Steps p.tables e below (T55.setTop (mkF m 127 #[.val (.int u1), .val (.int u2), .val (.int u3), .val (.int u4), .val (.int (2 : Int32)), .val (.int v0), .val (.int v1), .val (.int v2), .val (.int v0), .val (.int v1), .val (.int v2), .val (.ref b51), .val (.ref b54), .unset, .unset] [(.ref b54)])) _
          refine st56 _ ?_
          refine XS.astore X56.here hx rfl (hb hby at_130) rfl rfl (l' := #[.val (.int u1), .val (.int u2), .val (.int u3), .val (.int u4), .val (.int (2 : Int32)), .val (.int v0), .val (.int v1), .val (.int v2), .val (.int v0), .val (.int v1), .val (.int v2), .val (.ref b51), .val (.ref b54), .val (.ref ob), .unset]) rfl ?_
          refine XS.aload X56.here hx rfl (hb hby at_132) rfl rfl ?_
          refine XS.ifnonnullYes X56.here hx rfl (pc0 := 134) (pc' := 139) rfl (hb hby at_134) rfl (by decide) (by decide) ?_
          refine XS.iconst X56.here hx rfl (hb hby at_139) ?_
          refine XS.istore X56.here hx rfl (hb hby at_140) rfl (l' := #[.val (.int u1), .val (.int u2), .val (.int u3), .val (.int u4), .val (.int (2 : Int32)), .val (.int v0), .val (.int v1), .val (.int v2), .val (.int v0), .val (.int v1), .val (.int v2), .val (.ref b51), .val (.ref b54), .val (.ref ob), .val (.int (0 : Int32))]) rfl ?_
          refine XS.iload X56.here hx rfl (hb hby at_142) rfl ?_
          refine XS.iconst X56.here hx rfl (hb hby at_144) ?_
          show Steps p.tables e below (T56.setTop (mkF m 145 #[.val (.int u1), .val (.int u2), .val (.int u3), .val (.int u4), .val (.int (2 : Int32)), .val (.int v0), .val (.int v1), .val (.int v2), .val (.int v0), .val (.int v1), .val (.int v2), .val (.ref b51), .val (.ref b54), .val (.ref ob), .val (.int (0 : Int32))] [(.int (1 : Int32)), (.int (2 : Int32))])) _
          refine XS.icmpNo X56.here hx rfl (hb hby at_145) rfl (by decide) ?_
          refine XS.aload X56.here hx rfl (hb hby at_148) rfl rfl ?_
          refine XS.iload X56.here hx rfl (hb hby at_150) rfl ?_
          refine XS.iload X56.here hx rfl (hb hby at_152) rfl ?_
          refine st57 _ ?_
          refine XS.istore X57.here hx rfl (hb hby at_157) rfl (l' := #[.val (.int u1), .val (.int u2), .val (.int u3), .val (.int u4), .val (.int (2 : Int32)), .val (.int v0), .val (.int v1), .val (.int v2), .val (.int v0), .val (.int v1), .val (.int v2), .val (.ref b51), .val (.ref b54), .val (.ref ob), .val (.int ((0 : Int32) + (own_sz v0)))]) rfl ?_
          refine XS.iload X57.here hx rfl (hb hby at_159) rfl ?_
          refine XS.iconst X57.here hx rfl (hb hby at_161) ?_
          show Steps p.tables e below (T57.setTop (mkF m 162 #[.val (.int u1), .val (.int u2), .val (.int u3), .val (.int u4), .val (.int (2 : Int32)), .val (.int v0), .val (.int v1), .val (.int v2), .val (.int v0), .val (.int v1), .val (.int v2), .val (.ref b51), .val (.ref b54), .val (.ref ob), .val (.int ((0 : Int32) + (own_sz v0)))] [(.int (2 : Int32)), (.int (2 : Int32))])) _
          refine XS.icmpNo X57.here hx rfl (hb hby at_162) rfl (by decide) ?_
          refine XS.aload X57.here hx rfl (hb hby at_165) rfl rfl ?_
          refine XS.iload X57.here hx rfl (hb hby at_167) rfl ?_
          refine XS.iload X57.here hx rfl (hb hby at_169) rfl ?_
          refine st58 _ ?_
          refine XS.istore X58.here hx rfl (hb hby at_174) rfl (l' := #[.val (.int u1), .val (.int u2), .val (.int u3), .val (.int u4), .val (.int (2 : Int32)), .val (.int v0), .val (.int v1), .val (.int v2), .val (.int v0), .val (.int v1), .val (.int v2), .val (.ref b51), .val (.ref b54), .val (.ref ob), .val (.int (((0 : Int32) + (own_sz v0)) + (own_sz v1)))]) rfl ?_
          refine XS.iload X58.here hx rfl (hb hby at_176) rfl ?_
          refine XS.iconst X58.here hx rfl (hb hby at_178) ?_
          show Steps p.tables e below (T58.setTop (mkF m 179 #[.val (.int u1), .val (.int u2), .val (.int u3), .val (.int u4), .val (.int (2 : Int32)), .val (.int v0), .val (.int v1), .val (.int v2), .val (.int v0), .val (.int v1), .val (.int v2), .val (.ref b51), .val (.ref b54), .val (.ref ob), .val (.int (((0 : Int32) + (own_sz v0)) + (own_sz v1)))] [(.int (3 : Int32)), (.int (2 : Int32))])) _
          refine XS.icmpYes X58.here hx rfl (pc0 := 179) (pc' := 193) rfl (hb hby at_179) rfl (by decide) (by decide) (by decide) ?_
          refine XS.iload X58.here hx rfl (hb hby at_193) rfl ?_
          refine XS.aload X58.here hx rfl (hb hby at_195) rfl rfl ?_
          refine X58.arraylength hx (by rw [eq58]; exact Ar59.1) (State.isArrayOf_alike hZ.alike Ar59.2.1) (g := (mkF m 197 #[.val (.int u1), .val (.int u2), .val (.int u3), .val (.int u4), .val (.int (2 : Int32)), .val (.int v0), .val (.int v1), .val (.int v2), .val (.int v0), .val (.int v1), .val (.int v2), .val (.ref b51), .val (.ref b54), .val (.ref ob), .val (.int (((0 : Int32) + (own_sz v0)) + (own_sz v1)))] [(.ref ob), (.int (((0 : Int32) + (own_sz v0)) + (own_sz v1)))])) rfl rfl (hb hby at_197) _ ?_
          rw [len_of S59 M59]
          refine XS.icmpNo X58.here hx rfl (hb hby at_198) rfl (own_same _) ?_
          refine XS.iconst X58.here hx rfl (hb hby at_201) ?_
          refine XS.goto X58.here hx rfl (pc0 := 202) (pc' := 206) rfl (hb hby at_202) (by decide) (by decide) ?_
          show Steps p.tables e below (T58.setTop (mkF m 206 #[.val (.int u1), .val (.int u2), .val (.int u3), .val (.int u4), .val (.int (2 : Int32)), .val (.int v0), .val (.int v1), .val (.int v2), .val (.int v0), .val (.int v1), .val (.int v2), .val (.ref b51), .val (.ref b54), .val (.ref ob), .val (.int (((0 : Int32) + (own_sz v0)) + (own_sz v1)))] [(.int (1 : Int32))])) _
          exact retN X58 hx (t := .boolean) Bd.returns (by simp) (hb hby at_206) hr
        · show Q_rm_law Z _ _ _ _ _ _ h0 n0 _ T58.heap _
          rw [eq58]
          exact ⟨rfl, N58⟩
    · have pre60 : ∀ t, Steps p.tables e below (T33.setTop (mkF m 57 #[.val (.int u1), .val (.int u2), .val (.int u3), .val (.int u4), .val (.int (u4 &&& (3 : Int32))), .val (.int v0), .val (.int v1), .val (.int v2), .val (.int v0), .val (.int v1), .val (.int v2), .unset, .unset, .unset, .unset] [])) t → Steps p.tables e below (s₁.setTop (entryFrame m #[(.int u1), (.int u2), (.int u3), (.int u4)] maxLocals)) t := by
        intro t k
        refine pre36 t ?_
        show Steps p.tables e below (T33.setTop (mkF m 54 #[.val (.int u1), .val (.int u2), .val (.int u3), .val (.int u4), .val (.int (u4 &&& (3 : Int32))), .val (.int v0), .val (.int v1), .val (.int v2), .val (.int v0), .val (.int v1), .val (.int v2), .unset, .unset, .unset, .unset] [(.int (1 : Int32)), (.int (u4 &&& (3 : Int32)))])) _
        refine XS.icmpNo X33.here hx rfl (hb hby at_54) rfl hb54 ?_
        exact k
      have hL : (u4 &&& (3 : Int32)) = (1 : Int32) := own_k hb54
      rw [hL] at pre60
      obtain ⟨T61, h61, k61, X61, e61, E61, A61, st61⟩ := newP X33 hx hZ (own_w hw 4 rfl) eq33 (g := (mkF m 58 #[.val (.int u1), .val (.int u2), .val (.int u3), .val (.int u4), .val (.int (1 : Int32)), .val (.int v0), .val (.int v1), .val (.int v2), .val (.int v0), .val (.int v1), .val (.int v2), .unset, .unset, .unset, .unset] [(.int (1 : Int32))])) rfl (hb hby at_58) rfl (by decide) (cap := 1) (by decide) (by decide) (by decide) (by decide)
      obtain ⟨b61, g61⟩ : ∃ z, z = h0.size := ⟨_, rfl⟩
      rw [← g61] at A61 st61
      have fr_b61 : n0 ≤ b61 := Nat.le_trans Z0 (Nat.le_of_eq g61.symm)
      have Z61 : n0 ≤ h61.size := Nat.le_trans Z0 E61.1
      have Od61 : Old Z n0 h61 := X00.ext E61
      have V61 := Arv.new A61 (by decide)
      have V61p : Arv Z h61 b61 k61 .char (1 : Int32) [(.int (0 : Int32))] (.int (0 : Int32)) := V61.pad (pad_rep [] (.int (0 : Int32)) 1)
      obtain ⟨cl62, Ar62, q62, S62, M62, H62, G62⟩ := id V61p
      obtain ⟨T62, h62, X62, e62, W62, st62⟩ := stC X61 hx hZ e61 Ar62 (j := (0 : Int32)) (inb_of S62 ⟨by decide, by decide⟩) (g := (mkF m 64 #[.val (.int u1), .val (.int u2), .val (.int u3), .val (.int u4), .val (.int (1 : Int32)), .val (.int v0), .val (.int v1), .val (.int v2), .val (.int v0), .val (.int v1), .val (.int v2), .unset, .unset, .unset, .unset] [(.int v0), (.int (0 : Int32)), (.ref b61), (.ref b61)])) rfl rfl (hb hby at_64)
      have V62 := Arv.set Ar62 q62 S62 M62 H62 G62 (fits_nar_char _) W62 0 rfl (Nat.le_of_ble_eq_true rfl)
      have N62 := Fr.snoc X62 N33 fr_b61
      have Z62 : n0 ≤ h62.size := Nat.le_trans Z61 (Keep.of_wr W62).1
      have Od62 : Old Z n0 h62 := Od61.wr W62 fr_b61
      have V62q : Arv Z h62 b61 k61 .char (1 : Int32) [(.int v0)] (.int (0 : Int32)) := by rw [own_cc v0 q0] at V62; exact V62
      obtain ⟨T63, h63, X63, e63, E63, A63, D63, -, st63⟩ := newO X62 hx hZ hown (own_w hw 5 rfl) (own_w hw 6 rfl) (own_w hw 7 rfl) e62 (g := (mkF m 114 #[.val (.int u1), .val (.int u2), .val (.int u3), .val (.int u4), .val (.int (1 : Int32)), .val (.int v0), .val (.int v1), .val (.int v2), .val (.int v0), .val (.int v1), .val (.int v2), .val (.ref b61), .unset, .unset, .unset] [])) rfl (hb hby at_114) (by decide) (by decide)
      obtain ⟨b63, g63⟩ : ∃ z, z = h62.size := ⟨_, rfl⟩
      rw [← g63] at A63 D63 st63
      have fr_b63 : n0 ≤ b63 := Nat.le_trans Z62 (Nat.le_of_eq g63.symm)
      have ne_b61_b63 : b61 ≠ b63 := Nat.ne_of_lt (Nat.lt_of_lt_of_le V62q.lt (Nat.le_of_eq g63.symm))
      have Z63 : n0 ≤ h63.size := Nat.le_trans Z62 E63.1
      have Od63 : Old Z n0 h63 := Od62.ext E63
      have F_coder_b63 : Fld Z h63 b63 "java/lang/String" "coder" "B" (.int (0 : Int32)) := D63 (Or.inr (own_w hw 31 rfl)) (ty := .byte) (by decide)
      have F_value_b63 : Fld Z h63 b63 "java/lang/String" "value" "[B" .null := D63 (Or.inr (own_w hw 33 rfl)) (ty := (.array .byte)) (by decide)
      obtain ⟨_, _, ⟨T64, L64, k64, n64⟩, -, X64, ⟨Lc64, hQ64, l64, y64, z64⟩, st64⟩ := X63.specialBack hx (y := (⟨"java/lang/String", "<init>", "([C)V"⟩ : MethodName)) rfl hown (mvT hZ (own_w hw 8 rfl)) (mvT hZ (own_w hw 9 rfl)) (mvT hZ (own_w hw 10 rfl)) (by decide) (backOf (W := 1) (rm_s1 l Z a0 hw [] b63 b61 zc k61 v0 h63 n0 Z63 ⟨rfl, Od63.2⟩ O5 O6 O7 q0 O2 hz F_value_b63 F_coder_b63 A63 fr_b63 (V62q.ext E63) (Ne.symm ne_b61_b63)) hZ (own_w hw 10 rfl) (own_w hw 7 rfl) (by decide) (by decide)) (g := (mkF m 120 #[.val (.int u1), .val (.int u2), .val (.int u3), .val (.int u4), .val (.int (1 : Int32)), .val (.int v0), .val (.int v1), .val (.int v2), .val (.int v0), .val (.int v1), .val (.int v2), .val (.ref b61), .unset, .unset, .unset] [(.ref b61), (.ref b63), (.ref b63)])) rfl (by rw [hml]; rfl) (Steps.refl _) (a := b63) (argsL := [(.ref b61)]) (rest := [(.ref b63)]) (lenOf pd_692410 rfl) rfl (by show 2 * 0 + _ ≤ _; exact Nat.le_of_eq rfl) (hb hby at_120) (fun _ _ => ⟨rfl, e63, (by decide : 2 + 2 ≤ _), (by decide : 5 + 3 ≤ _)⟩)
      dsimp only [Pt.U, Pt.locs, Pt.cells, Pt.slots] at X64 l64 y64 z64 st64 hQ64
      replace y64 : k64 = 4 := y64
      replace z64 : n64 = 8 := z64
      subst y64 z64
      obtain ⟨rfl, Nq64, Kq64, hs64⟩ := hQ64
      have N64 : Fr n0 L64 := by rw [l64]; exact Fr.app N62 Nq64
      have Z64 : n0 ≤ T64.heap.size := Nat.le_trans Z63 Kq64.1
      have Od64 : Old Z n0 T64.heap := Od63.keep Kq64 (allS fr_b63 all0)
      obtain ⟨Es, cd, ts, kbs, Ns, ys, Fc, Fv, Vs, cod⟩ := hs64
      obtain ⟨_, _, ⟨T65, L65, k65, n65⟩, -, X65, ⟨Lc65, hQ65, l65, y65, z65⟩, st65⟩ := Jvm.LawKit.callS X64 hx (y := (⟨"com/example/sonde/sonde/store/CurrentVersions", "kept", "(Ljava/lang/String;)[B"⟩ : MethodName)) hown (mvT hZ (own_w hw 34 rfl)) (mvT hZ (own_w hw 35 rfl)) (mvT hZ (own_w hw 36 rfl)) (mvT hZ (own_w hw 37 rfl)) (by decide) (backOf (W := 0) (rm_kept1 l Z a0 hw [] b63 zc fm cd ts kbs Ns ys v0 T64.heap n0 Z64 ⟨rfl, Od64.2⟩ O2 hz O4 rf O5 O6 O7 Es Fc Fv Vs cod q0) hZ (own_w hw 37 rfl) (own_w hw 36 rfl) (by decide) (by decide)) (g := (mkF m 127 #[.val (.int u1), .val (.int u2), .val (.int u3), .val (.int u4), .val (.int (1 : Int32)), .val (.int v0), .val (.int v1), .val (.int v2), .val (.int v0), .val (.int v1), .val (.int v2), .val (.ref b61), .val (.ref b63), .unset, .unset] [(.ref b63)])) rfl (by rw [hml]; rfl) (argsL := [(.ref b63)]) (rest := []) (lenOf pd_386298 rfl) rfl (by show 2 * 0 + _ ≤ _; exact Nat.le_of_eq rfl) (hb hby at_127) (fun _ _ => ⟨rfl, rfl, (by decide : 4 + 1 ≤ _), (by decide : 8 + 9 ≤ _)⟩)
      dsimp only [Pt.U, Pt.locs, Pt.cells, Pt.slots] at X65 l65 y65 z65 st65 hQ65
      replace y65 : k65 = 5 := y65
      replace z65 : n65 = 17 := z65
      subst y65 z65
      obtain ⟨ob, kob, rfl, Nq65, Kq65, gob, Vob⟩ := hQ65
      have N65 : Fr n0 L65 := by rw [l65]; exact Fr.app N64 Nq65
      have Z65 : n0 ≤ T65.heap.size := Nat.le_trans Z64 Kq65.1
      have Od65 : Old Z n0 T65.heap := Od64.keep Kq65 all0
      obtain ⟨_, _, ⟨T66, L66, k66, n66⟩, -, X66, ⟨Lc66, hQ66, l66, y66, z66⟩, st66⟩ := Jvm.LawKit.callS X65 hx (y := (⟨"com/example/sonde/sonde/store/CurrentVersionsKeptPinLaw", "step", "([BII)I"⟩ : MethodName)) hown (mvT hZ (own_w hw 70 rfl)) (mvT hZ (own_w hw 71 rfl)) (mvT hZ (own_w hw 2 rfl)) (mvT hZ (own_w hw 72 rfl)) (by decide) (backOf (W := 0) (rm_step l Z a0 hw [] ob (0 : Int32) v0 kob ((0 : Int32) + (own_sz v0)) (own_wr ([(0 : Int32), (0 : Int32), (0 : Int32), (0 : Int32), (0 : Int32), (0 : Int32), (0 : Int32), (0 : Int32), (0 : Int32)] : List Int32) (0 : Int32) v0) T65.heap n0 Z65 Vob (own_szx1_0 v0) (own_szf1_0 v0) (own_mt1_0 v0 q0)) hZ (own_w hw 72 rfl) (own_w hw 2 rfl) (by decide) (by decide)) (g := (mkF m 154 #[.val (.int u1), .val (.int u2), .val (.int u3), .val (.int u4), .val (.int (1 : Int32)), .val (.int v0), .val (.int v1), .val (.int v2), .val (.int v0), .val (.int v1), .val (.int v2), .val (.ref b61), .val (.ref b63), .val (.ref ob), .val (.int (0 : Int32))] [(.int v0), (.int (0 : Int32)), (.ref ob)])) rfl (by rw [hml]; rfl) (argsL := [(.ref ob), (.int (0 : Int32)), (.int v0)]) (rest := []) (lenOf pd_634375 rfl) rfl (by show 2 * 0 + _ ≤ _; exact Nat.le_of_eq rfl) (hb hby at_154) (fun _ _ => ⟨rfl, rfl, (by decide : 5 + 0 ≤ _), (by decide : 17 + 0 ≤ _)⟩)
      dsimp only [Pt.U, Pt.locs, Pt.cells, Pt.slots] at X66 l66 y66 z66 st66 hQ66
      replace y66 : k66 = 5 := y66
      replace z66 : n66 = 17 := z66
      subst y66 z66
      obtain ⟨rfl, Nq66, eq66⟩ := hQ66
      have N66 : Fr n0 L66 := by rw [l66]; exact Fr.app N65 Nq66
      obtain ⟨cl67, Ar67, -, S67, M67, -, -⟩ := id Vob
      obtain ⟨fs, hr, hrun, hended, hW, hsame⟩ := X66.leave (v := some (.int (1 : Int32))) (fun h => by rw [Bd.returns] at h; cases h)
      have hEnd := ReturnedEndW.of_narrow (o := .returned (some (.int (1 : Int32)))) ⟨_, rfl⟩ hW hsame
      refine ⟨_, _, pre60 _ ?_, hrun, hended, _, _, rfl, ?_, hEnd.1, hEnd.2.1, hEnd.2.2.1, hEnd.2.2.2.mono (by decide) (by decide)⟩
      · show Steps p.tables e below (T33.setTop (mkF m 57 #[.val (.int u1), .val (.int u2), .val (.int u3), .val (.int u4), .val (.int (1 : Int32)), .val (.int v0), .val (.int v1), .val (.int v2), .val (.int v0), .val (.int v1), .val (.int v2), .unset, .unset, .unset, .unset] [])) _
        refine XS.iconst X33.here hx rfl (hb hby at_57) ?_
        refine st61 _ ?_
        refine XS.dup X61.here hx rfl (hb hby at_60) rfl rfl ?_
        refine XS.iconst X61.here hx rfl (hb hby at_61) ?_
        refine XS.iload X61.here hx rfl (hb hby at_62) rfl ?_
        show Steps p.tables e below (T61.setTop (mkF m 64 #[.val (.int u1), .val (.int u2), .val (.int u3), .val (.int u4), .val (.int (1 : Int32)), .val (.int v0), .val (.int v1), .val (.int v2), .val (.int v0), .val (.int v1), .val (.int v2), .unset, .unset, .unset, .unset] [(.int v0), (.int (0 : Int32)), (.ref b61), (.ref b61)])) _
        refine st62 _ ?_
        refine XS.astore X62.here hx rfl (hb hby at_65) rfl rfl (l' := #[.val (.int u1), .val (.int u2), .val (.int u3), .val (.int u4), .val (.int (1 : Int32)), .val (.int v0), .val (.int v1), .val (.int v2), .val (.int v0), .val (.int v1), .val (.int v2), .val (.ref b61), .unset, .unset, .unset]) rfl ?_
        refine XS.goto X62.here hx rfl (pc0 := 67) (pc' := 114) rfl (hb hby at_67) (by decide) (by decide) ?_
        refine st63 _ ?_
        refine XS.dup X63.here hx rfl (hb hby at_117) rfl rfl ?_
        refine XS.aload X63.here hx rfl (hb hby at_118) rfl rfl ?_
        refine st64.trans ?_
        refine XS.astore X64.here hx rfl (hb hby at_123) rfl rfl (l' := #[.val (.int u1), .val (.int u2), .val (.int u3), .val (.int u4), .val (.int (1 : Int32)), .val (.int v0), .val (.int v1), .val (.int v2), .val (.int v0), .val (.int v1), .val (.int v2), .val (.ref b61), .val (.ref b63), .unset, .unset]) rfl ?_
        show Steps p.tables e below (T64.setTop (mkF m 125 #[.val (.int u1), .val (.int u2), .val (.int u3), .val (.int u4), .val (.int (1 : Int32)), .val (.int v0), .val (.int v1), .val (.int v2), .val (.int v0), .val (.int v1), .val (.int v2), .val (.ref b61), .val (.ref b63), .unset, .unset] [])) _
        refine XS.aload X64.here hx rfl (hb hby at_125) rfl rfl ?_
        refine st65 _ ?_
        refine XS.astore X65.here hx rfl (hb hby at_130) rfl rfl (l' := #[.val (.int u1), .val (.int u2), .val (.int u3), .val (.int u4), .val (.int (1 : Int32)), .val (.int v0), .val (.int v1), .val (.int v2), .val (.int v0), .val (.int v1), .val (.int v2), .val (.ref b61), .val (.ref b63), .val (.ref ob), .unset]) rfl ?_
        refine XS.aload X65.here hx rfl (hb hby at_132) rfl rfl ?_
        refine XS.ifnonnullYes X65.here hx rfl (pc0 := 134) (pc' := 139) rfl (hb hby at_134) rfl (by decide) (by decide) ?_
        refine XS.iconst X65.here hx rfl (hb hby at_139) ?_
        refine XS.istore X65.here hx rfl (hb hby at_140) rfl (l' := #[.val (.int u1), .val (.int u2), .val (.int u3), .val (.int u4), .val (.int (1 : Int32)), .val (.int v0), .val (.int v1), .val (.int v2), .val (.int v0), .val (.int v1), .val (.int v2), .val (.ref b61), .val (.ref b63), .val (.ref ob), .val (.int (0 : Int32))]) rfl ?_
        refine XS.iload X65.here hx rfl (hb hby at_142) rfl ?_
        show Steps p.tables e below (T65.setTop (mkF m 144 #[.val (.int u1), .val (.int u2), .val (.int u3), .val (.int u4), .val (.int (1 : Int32)), .val (.int v0), .val (.int v1), .val (.int v2), .val (.int v0), .val (.int v1), .val (.int v2), .val (.ref b61), .val (.ref b63), .val (.ref ob), .val (.int (0 : Int32))] [(.int (1 : Int32))])) _
        refine XS.iconst X65.here hx rfl (hb hby at_144) ?_
        refine XS.icmpNo X65.here hx rfl (hb hby at_145) rfl (by decide) ?_
        refine XS.aload X65.here hx rfl (hb hby at_148) rfl rfl ?_
        refine XS.iload X65.here hx rfl (hb hby at_150) rfl ?_
        refine XS.iload X65.here hx rfl (hb hby at_152) rfl ?_
        refine st66 _ ?_
        refine XS.istore X66.here hx rfl (hb hby at_157) rfl (l' := #[.val (.int u1), .val (.int u2), .val (.int u3), .val (.int u4), .val (.int (1 : Int32)), .val (.int v0), .val (.int v1), .val (.int v2), .val (.int v0), .val (.int v1), .val (.int v2), .val (.ref b61), .val (.ref b63), .val (.ref ob), .val (.int ((0 : Int32) + (own_sz v0)))]) rfl ?_
        refine XS.iload X66.here hx rfl (hb hby at_159) rfl ?_
        show Steps p.tables e below (T66.setTop (mkF m 161 #[.val (.int u1), .val (.int u2), .val (.int u3), .val (.int u4), .val (.int (1 : Int32)), .val (.int v0), .val (.int v1), .val (.int v2), .val (.int v0), .val (.int v1), .val (.int v2), .val (.ref b61), .val (.ref b63), .val (.ref ob), .val (.int ((0 : Int32) + (own_sz v0)))] [(.int (1 : Int32))])) _
        refine XS.iconst X66.here hx rfl (hb hby at_161) ?_
        refine XS.icmpYes X66.here hx rfl (pc0 := 162) (pc' := 176) rfl (hb hby at_162) rfl (by decide) (by decide) (by decide) ?_
        refine XS.iload X66.here hx rfl (hb hby at_176) rfl ?_
        refine XS.iconst X66.here hx rfl (hb hby at_178) ?_
        refine XS.icmpYes X66.here hx rfl (pc0 := 179) (pc' := 193) rfl (hb hby at_179) rfl (by decide) (by decide) (by decide) ?_
        refine XS.iload X66.here hx rfl (hb hby at_193) rfl ?_
        refine XS.aload X66.here hx rfl (hb hby at_195) rfl rfl ?_
        refine X66.arraylength hx (by rw [eq66]; exact Ar67.1) (State.isArrayOf_alike hZ.alike Ar67.2.1) (g := (mkF m 197 #[.val (.int u1), .val (.int u2), .val (.int u3), .val (.int u4), .val (.int (1 : Int32)), .val (.int v0), .val (.int v1), .val (.int v2), .val (.int v0), .val (.int v1), .val (.int v2), .val (.ref b61), .val (.ref b63), .val (.ref ob), .val (.int ((0 : Int32) + (own_sz v0)))] [(.ref ob), (.int ((0 : Int32) + (own_sz v0)))])) rfl rfl (hb hby at_197) _ ?_
        rw [len_of S67 M67]
        show Steps p.tables e below (T66.setTop (mkF m 198 #[.val (.int u1), .val (.int u2), .val (.int u3), .val (.int u4), .val (.int (1 : Int32)), .val (.int v0), .val (.int v1), .val (.int v2), .val (.int v0), .val (.int v1), .val (.int v2), .val (.ref b61), .val (.ref b63), .val (.ref ob), .val (.int ((0 : Int32) + (own_sz v0)))] [(.int ((0 : Int32) + (own_sz v0))), (.int ((0 : Int32) + (own_sz v0)))])) _
        refine XS.icmpNo X66.here hx rfl (hb hby at_198) rfl (own_same _) ?_
        refine XS.iconst X66.here hx rfl (hb hby at_201) ?_
        refine XS.goto X66.here hx rfl (pc0 := 202) (pc' := 206) rfl (hb hby at_202) (by decide) (by decide) ?_
        show Steps p.tables e below (T66.setTop (mkF m 206 #[.val (.int u1), .val (.int u2), .val (.int u3), .val (.int u4), .val (.int (1 : Int32)), .val (.int v0), .val (.int v1), .val (.int v2), .val (.int v0), .val (.int v1), .val (.int v2), .val (.ref b61), .val (.ref b63), .val (.ref ob), .val (.int ((0 : Int32) + (own_sz v0)))] [(.int (1 : Int32))])) _
        exact retN X66 hx (t := .boolean) Bd.returns (by simp) (hb hby at_206) hr
      · show Q_rm_law Z _ _ _ _ _ _ h0 n0 _ T66.heap _
        rw [eq66]
        exact ⟨rfl, N66⟩
  · have pre68 : ∀ t, Steps p.tables e below (T33.setTop (mkF m 43 #[.val (.int u1), .val (.int u2), .val (.int u3), .val (.int u4), .val (.int (u4 &&& (3 : Int32))), .val (.int v0), .val (.int v1), .val (.int v2), .val (.int v0), .val (.int v1), .val (.int v2), .unset, .unset, .unset, .unset] [])) t → Steps p.tables e below (s₁.setTop (entryFrame m #[(.int u1), (.int u2), (.int u3), (.int u4)] maxLocals)) t := by
      intro t k
      refine pre35 t ?_
      show Steps p.tables e below (T33.setTop (mkF m 40 #[.val (.int u1), .val (.int u2), .val (.int u3), .val (.int u4), .val (.int (u4 &&& (3 : Int32))), .val (.int v0), .val (.int v1), .val (.int v2), .val (.int v0), .val (.int v1), .val (.int v2), .unset, .unset, .unset, .unset] [(.int (u4 &&& (3 : Int32)))])) _
      refine XS.ifNo X33.here hx rfl (hb hby at_40) rfl hb40 ?_
      exact k
    have hL : (u4 &&& (3 : Int32)) = (0 : Int32) := own_z hb40
    rw [hL] at pre68
    obtain ⟨T69, h69, k69, X69, e69, E69, A69, st69⟩ := newP X33 hx hZ (own_w hw 4 rfl) eq33 (g := (mkF m 44 #[.val (.int u1), .val (.int u2), .val (.int u3), .val (.int u4), .val (.int (0 : Int32)), .val (.int v0), .val (.int v1), .val (.int v2), .val (.int v0), .val (.int v1), .val (.int v2), .unset, .unset, .unset, .unset] [(.int (0 : Int32))])) rfl (hb hby at_44) rfl (by decide) (cap := 0) (by decide) (by decide) (by decide) (by decide)
    obtain ⟨b69, g69⟩ : ∃ z, z = h0.size := ⟨_, rfl⟩
    rw [← g69] at A69 st69
    have fr_b69 : n0 ≤ b69 := Nat.le_trans Z0 (Nat.le_of_eq g69.symm)
    have Z69 : n0 ≤ h69.size := Nat.le_trans Z0 E69.1
    have Od69 : Old Z n0 h69 := X00.ext E69
    have V69 := Arv.new A69 (by decide)
    obtain ⟨T70, h70, X70, e70, E70, A70, D70, -, st70⟩ := newO X69 hx hZ hown (own_w hw 5 rfl) (own_w hw 6 rfl) (own_w hw 7 rfl) e69 (g := (mkF m 114 #[.val (.int u1), .val (.int u2), .val (.int u3), .val (.int u4), .val (.int (0 : Int32)), .val (.int v0), .val (.int v1), .val (.int v2), .val (.int v0), .val (.int v1), .val (.int v2), .val (.ref b69), .unset, .unset, .unset] [])) rfl (hb hby at_114) (by decide) (by decide)
    obtain ⟨b70, g70⟩ : ∃ z, z = h69.size := ⟨_, rfl⟩
    rw [← g70] at A70 D70 st70
    have fr_b70 : n0 ≤ b70 := Nat.le_trans Z69 (Nat.le_of_eq g70.symm)
    have ne_b69_b70 : b69 ≠ b70 := Nat.ne_of_lt (Nat.lt_of_lt_of_le V69.lt (Nat.le_of_eq g70.symm))
    have Z70 : n0 ≤ h70.size := Nat.le_trans Z69 E70.1
    have Od70 : Old Z n0 h70 := Od69.ext E70
    have F_coder_b70 : Fld Z h70 b70 "java/lang/String" "coder" "B" (.int (0 : Int32)) := D70 (Or.inr (own_w hw 31 rfl)) (ty := .byte) (by decide)
    have F_value_b70 : Fld Z h70 b70 "java/lang/String" "value" "[B" .null := D70 (Or.inr (own_w hw 33 rfl)) (ty := (.array .byte)) (by decide)
    have pre71 : ∀ t, Steps p.tables e below (T70.setTop (mkF m 120 #[.val (.int u1), .val (.int u2), .val (.int u3), .val (.int u4), .val (.int (0 : Int32)), .val (.int v0), .val (.int v1), .val (.int v2), .val (.int v0), .val (.int v1), .val (.int v2), .val (.ref b69), .unset, .unset, .unset] [(.ref b69), (.ref b70), (.ref b70)])) t → Steps p.tables e below (s₁.setTop (entryFrame m #[(.int u1), (.int u2), (.int u3), (.int u4)] maxLocals)) t := by
      intro t k
      refine pre68 t ?_
      show Steps p.tables e below (T33.setTop (mkF m 43 #[.val (.int u1), .val (.int u2), .val (.int u3), .val (.int u4), .val (.int (0 : Int32)), .val (.int v0), .val (.int v1), .val (.int v2), .val (.int v0), .val (.int v1), .val (.int v2), .unset, .unset, .unset, .unset] [])) _
      refine XS.iconst X33.here hx rfl (hb hby at_43) ?_
      refine st69 _ ?_
      refine XS.astore X69.here hx rfl (hb hby at_46) rfl rfl (l' := #[.val (.int u1), .val (.int u2), .val (.int u3), .val (.int u4), .val (.int (0 : Int32)), .val (.int v0), .val (.int v1), .val (.int v2), .val (.int v0), .val (.int v1), .val (.int v2), .val (.ref b69), .unset, .unset, .unset]) rfl ?_
      refine XS.goto X69.here hx rfl (pc0 := 48) (pc' := 114) rfl (hb hby at_48) (by decide) (by decide) ?_
      refine st70 _ ?_
      refine XS.dup X70.here hx rfl (hb hby at_117) rfl rfl ?_
      refine XS.aload X70.here hx rfl (hb hby at_118) rfl rfl ?_
      exact k
    obtain ⟨_, _, ⟨T72, L72, k72, n72⟩, -, X72, hSx72, hgr72, ⟨Lc72, hQ72, l72, y72, z72⟩, st72⟩ := X70.specialBackS hx (y := (⟨"java/lang/String", "<init>", "([C)V"⟩ : MethodName)) rfl hown (mvT hZ (own_w hw 8 rfl)) (mvT hZ (own_w hw 9 rfl)) (mvT hZ (own_w hw 10 rfl)) (by decide) (own_backT (W := 1) (rm_s0 l Z a0 hw [] b70 b69 k69 h70 n0 Z70 ⟨rfl, Od70.2⟩ hh7 hcw F_value_b70 F_coder_b70 A70 fr_b70 (V69.ext E70)) hZ hti (own_w hw 10 rfl) (own_w hw 7 rfl) (by decide) (by decide)) (g := (mkF m 120 #[.val (.int u1), .val (.int u2), .val (.int u3), .val (.int u4), .val (.int (0 : Int32)), .val (.int v0), .val (.int v1), .val (.int v2), .val (.int v0), .val (.int v1), .val (.int v2), .val (.ref b69), .unset, .unset, .unset] [(.ref b69), (.ref b70), (.ref b70)])) rfl (by rw [hml]; rfl) (Steps.refl _) (a := b70) (argsL := [(.ref b69)]) (rest := [(.ref b70)]) (lenOf pd_692410 rfl) rfl (by show 2 * 0 + _ ≤ _; exact Nat.le_of_eq rfl) (hb hby at_120) (fun _ _ => ⟨rfl, e70, (by decide : 2 + 2 ≤ _), (by decide : 4 + 4 ≤ _)⟩)
    dsimp only [Pt.U, Pt.locs, Pt.cells, Pt.slots] at X72 l72 y72 z72 st72 hQ72 hSx72 hgr72
    replace y72 : k72 = 4 := y72
    replace z72 : n72 = 8 := z72
    subst y72 z72
    obtain ⟨rfl, Nq72, Kq72, Es, Fc, ts, kbs, Fv, Vs⟩ := hQ72
    have N72 : Fr n0 L72 := by rw [l72]; exact Fr.app N33 Nq72
    have hZ : Z.Warmed39 (s.setVm T72.vm).vm := State.Warmed39.trans hZ hSx72.1
    have hown : (s.setVm T72.vm).vm.findClass "com/example/sonde/sonde/store/CurrentVersionsKeptPinLaw" = some m.cls := (hSx72.1.alike.findClass _ _).trans hown
    have Z72 : n0 ≤ T72.heap.size := Nat.le_trans Z70 Kq72.1
    have Od72 : Old Z n0 T72.heap := Od70.keep Kq72 (allS fr_b70 all0)
    obtain ⟨_, _, ⟨T73, L73, k73, n73⟩, -, X73, ⟨Lc73, hQ73, l73, y73, z73⟩, st73⟩ := Jvm.LawKit.callS X72 hx (y := (⟨"com/example/sonde/sonde/store/CurrentVersions", "kept", "(Ljava/lang/String;)[B"⟩ : MethodName)) hown (mvT hZ (own_w hw 34 rfl)) (mvT hZ (own_w hw 35 rfl)) (mvT hZ (own_w hw 36 rfl)) (mvT hZ (own_w hw 37 rfl)) (by decide) (backOf (W := 0) (rm_kept0 l Z a0 hw [] b70 zc fm (0 : Int32) ts kbs (0 : Int32) [] T72.heap n0 Z72 ⟨rfl, Od72.2⟩ O2 hz O4 rf O5 O6 O7 Es Fc Fv Vs (by decide)) hZ (own_w hw 37 rfl) (own_w hw 36 rfl) (by decide) (by decide)) (g := (mkF m 127 #[.val (.int u1), .val (.int u2), .val (.int u3), .val (.int u4), .val (.int (0 : Int32)), .val (.int v0), .val (.int v1), .val (.int v2), .val (.int v0), .val (.int v1), .val (.int v2), .val (.ref b69), .val (.ref b70), .unset, .unset] [(.ref b70)])) rfl (by rw [hml]; rfl) (argsL := [(.ref b70)]) (rest := []) (lenOf pd_386298 rfl) rfl (by show 2 * 0 + _ ≤ _; exact Nat.le_of_eq rfl) (hb hby at_127) (fun _ _ => ⟨rfl, rfl, (by decide : 4 + 1 ≤ _), (by decide : 8 + 9 ≤ _)⟩)
    dsimp only [Pt.U, Pt.locs, Pt.cells, Pt.slots] at X73 l73 y73 z73 st73 hQ73
    replace y73 : k73 = 5 := y73
    replace z73 : n73 = 17 := z73
    subst y73 z73
    obtain ⟨ob, kob, rfl, Nq73, Kq73, gob, Vob⟩ := hQ73
    have N73 : Fr n0 L73 := by rw [l73]; exact Fr.app N72 Nq73
    have Z73 : n0 ≤ T73.heap.size := Nat.le_trans Z72 Kq73.1
    have kk73 : T72.heap.size ≤ T73.heap.size := Nat.le_trans (Nat.le_refl _) Kq73.1
    have Od73 : Old Z n0 T73.heap := Od72.keep Kq73 all0
    obtain ⟨cl74, Ar74, -, S74, M74, -, -⟩ := id Vob
    obtain ⟨fs, hr, hrun, hended, hEnd⟩ := Stand.leaveW (s := s) X73 hSx72 kk73 (v := some (.int (1 : Int32))) (fun h => by rw [Bd.returns] at h; cases h)
    refine ⟨_, _, pre71 _ ?_, hrun, hended, _, _, rfl, ?_, hEnd.1, hEnd.2.1, hEnd.2.2.1, hEnd.2.2.2.mono (by decide) (by decide)⟩
    · show Steps p.tables e below (T70.setTop (mkF m 120 #[.val (.int u1), .val (.int u2), .val (.int u3), .val (.int u4), .val (.int (0 : Int32)), .val (.int v0), .val (.int v1), .val (.int v2), .val (.int v0), .val (.int v1), .val (.int v2), .val (.ref b69), .unset, .unset, .unset] [(.ref b69), (.ref b70), (.ref b70)])) _
      refine st72.trans ?_
      show Steps p.tables e below (T72.setTop (mkF m 123 #[.val (.int u1), .val (.int u2), .val (.int u3), .val (.int u4), .val (.int (0 : Int32)), .val (.int v0), .val (.int v1), .val (.int v2), .val (.int v0), .val (.int v1), .val (.int v2), .val (.ref b69), .unset, .unset, .unset] [(.ref b70)])) _
      refine XS.astore X72.here hx rfl (hb hby at_123) rfl rfl (l' := #[.val (.int u1), .val (.int u2), .val (.int u3), .val (.int u4), .val (.int (0 : Int32)), .val (.int v0), .val (.int v1), .val (.int v2), .val (.int v0), .val (.int v1), .val (.int v2), .val (.ref b69), .val (.ref b70), .unset, .unset]) rfl ?_
      refine XS.aload X72.here hx rfl (hb hby at_125) rfl rfl ?_
      refine st73 _ ?_
      refine XS.astore X73.here hx rfl (hb hby at_130) rfl rfl (l' := #[.val (.int u1), .val (.int u2), .val (.int u3), .val (.int u4), .val (.int (0 : Int32)), .val (.int v0), .val (.int v1), .val (.int v2), .val (.int v0), .val (.int v1), .val (.int v2), .val (.ref b69), .val (.ref b70), .val (.ref ob), .unset]) rfl ?_
      refine XS.aload X73.here hx rfl (hb hby at_132) rfl rfl ?_
      refine XS.ifnonnullYes X73.here hx rfl (pc0 := 134) (pc' := 139) rfl (hb hby at_134) rfl (by decide) (by decide) ?_
      refine XS.iconst X73.here hx rfl (hb hby at_139) ?_
      refine XS.istore X73.here hx rfl (hb hby at_140) rfl (l' := #[.val (.int u1), .val (.int u2), .val (.int u3), .val (.int u4), .val (.int (0 : Int32)), .val (.int v0), .val (.int v1), .val (.int v2), .val (.int v0), .val (.int v1), .val (.int v2), .val (.ref b69), .val (.ref b70), .val (.ref ob), .val (.int (0 : Int32))]) rfl ?_
      show Steps p.tables e below (T73.setTop (mkF m 142 #[.val (.int u1), .val (.int u2), .val (.int u3), .val (.int u4), .val (.int (0 : Int32)), .val (.int v0), .val (.int v1), .val (.int v2), .val (.int v0), .val (.int v1), .val (.int v2), .val (.ref b69), .val (.ref b70), .val (.ref ob), .val (.int (0 : Int32))] [])) _
      refine XS.iload X73.here hx rfl (hb hby at_142) rfl ?_
      refine XS.iconst X73.here hx rfl (hb hby at_144) ?_
      refine XS.icmpYes X73.here hx rfl (pc0 := 145) (pc' := 159) rfl (hb hby at_145) rfl (by decide) (by decide) (by decide) ?_
      refine XS.iload X73.here hx rfl (hb hby at_159) rfl ?_
      refine XS.iconst X73.here hx rfl (hb hby at_161) ?_
      refine XS.icmpYes X73.here hx rfl (pc0 := 162) (pc' := 176) rfl (hb hby at_162) rfl (by decide) (by decide) (by decide) ?_
      refine XS.iload X73.here hx rfl (hb hby at_176) rfl ?_
      refine XS.iconst X73.here hx rfl (hb hby at_178) ?_
      show Steps p.tables e below (T73.setTop (mkF m 179 #[.val (.int u1), .val (.int u2), .val (.int u3), .val (.int u4), .val (.int (0 : Int32)), .val (.int v0), .val (.int v1), .val (.int v2), .val (.int v0), .val (.int v1), .val (.int v2), .val (.ref b69), .val (.ref b70), .val (.ref ob), .val (.int (0 : Int32))] [(.int (3 : Int32)), (.int (0 : Int32))])) _
      refine XS.icmpYes X73.here hx rfl (pc0 := 179) (pc' := 193) rfl (hb hby at_179) rfl (by decide) (by decide) (by decide) ?_
      refine XS.iload X73.here hx rfl (hb hby at_193) rfl ?_
      refine XS.aload X73.here hx rfl (hb hby at_195) rfl rfl ?_
      refine X73.arraylength hx Ar74.1 (State.isArrayOf_alike hZ.alike Ar74.2.1) (g := (mkF m 197 #[.val (.int u1), .val (.int u2), .val (.int u3), .val (.int u4), .val (.int (0 : Int32)), .val (.int v0), .val (.int v1), .val (.int v2), .val (.int v0), .val (.int v1), .val (.int v2), .val (.ref b69), .val (.ref b70), .val (.ref ob), .val (.int (0 : Int32))] [(.ref ob), (.int (0 : Int32))])) rfl rfl (hb hby at_197) _ ?_
      rw [len_of S74 M74]
      refine XS.icmpNo X73.here hx rfl (hb hby at_198) rfl (own_same _) ?_
      refine XS.iconst X73.here hx rfl (hb hby at_201) ?_
      refine XS.goto X73.here hx rfl (pc0 := 202) (pc' := 206) rfl (hb hby at_202) (by decide) (by decide) ?_
      show Steps p.tables e below (T73.setTop (mkF m 206 #[.val (.int u1), .val (.int u2), .val (.int u3), .val (.int u4), .val (.int (0 : Int32)), .val (.int v0), .val (.int v1), .val (.int v2), .val (.int v0), .val (.int v1), .val (.int v2), .val (.ref b69), .val (.ref b70), .val (.ref ob), .val (.int (0 : Int32))] [(.int (1 : Int32))])) _
      exact retN X73 hx (t := .boolean) Bd.returns (by simp) (hb hby at_206) hr
    · show Q_rm_law Z _ _ _ _ _ _ h0 n0 _ T73.heap _
      exact ⟨rfl, N73⟩
set_option maxRecDepth 65536 in
set_option maxHeartbeats 40000000 in
theorem comes_1 {Post : Tables → Env → Array Value → State → Outcome → State → Prop} (hpost : ∀ tb e args s v u, (limb_1_1.after args s (.returned v) u = true ∧ limb_1_2.after args s (.returned v) u = true ∧ True) → ReturnedEndW s (.returned v) u (Jvm.fieldLocs frame_1_writes args s ++ Jvm.arrayLocs frame_1_arrays args s ++ Jvm.staticLocs frame_1_statics s) 24 1152 → Post tb e args s (.returned v) u) :
    ArmFor flags0 classFile x code maxLocals ret World_1 tables_1 room_1 Calls_1 rest_1 Pre_1 Post := by
  intro l hfl _ _ p e ha hc hk s m args below hf hA hF happ hP
  obtain ⟨hcalls, hrest, hpre⟩ := hP
  obtain ⟨-, -, -, hnamed, -, -, -, hat⟩ := (Spec.applies_iff hf).mp happ
  obtain ⟨hg, hn⟩ := and_e (Cond.before_iff.mp (show (Jvm.Cond.and given_1 narrow_1).before args s = true from hpre))
  obtain ⟨ha0, hb0⟩ := and_e hg
  obtain ⟨ha1, hb1⟩ := and_e hb0
  obtain ⟨ha2, hb2⟩ := and_e hb1
  obtain ⟨ha3, hb3⟩ := and_e hb2
  obtain ⟨w0, w1, w2, w3, rfl⟩ : ∃ w0 w1 w2 w3 : Value, args = #[w0, w1, w2, w3] := by
    have hs : args.size = 4 := by simpa [Cond.value, given_1] using ha0
    obtain ⟨L⟩ := args
    match L, hs with
    | [w0, w1, w2, w3], _ => exact ⟨w0, w1, w2, w3, rfl⟩
  have hw := fun d (hd : d ∈ tables_1) => atoms_spec (ws := Jvm.Cond.code x code maxLocals ret :: tables_1) hat d (List.mem_cons_of_mem _ hd)
  have hfit : Fit s := fun {y c} hc i hi => by
    obtain ⟨ha, rfl⟩ := Array.getElem?_eq_some_iff.mp hc
    have q := List.all_eq_true.mp ((Array.all_eq_true_iff_forall_mem.mp hF) _ (Array.getElem_mem ha)) i (List.mem_range.mpr hi)
    simpa [Array.getElem?_eq_getElem hi] using q
  obtain ⟨hsets, hown0⟩ := atoms_of _ (rest_1_c_eq ▸ (show rest_1_c.before _ s = true from hrest))
  have hr0 := Cond.before_iff.mp hown0
  obtain ⟨i0, ei0⟩ := is_v ha1
  obtain rfl : w0 = (.int i0) := Option.some.inj ei0
  obtain ⟨i1, ei1⟩ := is_v ha2
  obtain rfl : w1 = (.int i1) := Option.some.inj ei1
  obtain ⟨i2, ei2⟩ := is_v ha3
  obtain rfl : w2 = (.int i2) := Option.some.inj ei2
  obtain ⟨i3, ei3⟩ := is_v hb3
  obtain rfl : w3 = (.int i3) := Option.some.inj ei3
  have n5 := not_v (Cond.before_iff.mp (hsets _ (List.mem_of_getElem? (i := 2) rfl)))
  obtain ⟨zc, e10⟩ := is_v (Cond.before_iff.mp (hsets _ (List.mem_of_getElem? (i := 1) rfl)))
  have S12 : Sta s s.heap "java/lang/String" "COMPACT_STRINGS" "Z" (.int zc) := Sta.start e10 (Or.inl (hsets _ (List.mem_of_getElem? (i := 0) rfl)))
  obtain ⟨fm, e14, r15⟩ := isR_v (Cond.before_iff.mp (hsets _ (List.mem_of_getElem? (i := 8) rfl)))
  have S16 : Sta s s.heap "jdk/internal/util/Preconditions" "SIOOBE_FORMATTER" "Ljava/util/function/BiFunction;" fm := Sta.start e14 (Or.inl (hsets _ (List.mem_of_getElem? (i := 7) rfl)))
  have c17 : ¬ (zc = (0 : Int32)) := gotF (Cond.eq_ints e10 (Term.int_eval (0))) n5
  have S5 : Sta s s.heap "java/lang/StringUTF16" "$assertionsDisabled" "Z" (.int (1 : Int32)) := Sta.start (eqv_i (Term.int_eval (1 : Int32)) (Cond.before_iff.mp (hsets _ (List.mem_of_getElem? (i := 12) rfl)))) (Or.inl (hsets _ (List.mem_of_getElem? (i := 11) rfl)))
  have S6 : Sta s s.heap "java/lang/StringUTF16" "HI_BYTE_SHIFT" "I" (.int (0 : Int32)) := Sta.start (eqv_i (Term.int_eval (0 : Int32)) (Cond.before_iff.mp (hsets _ (List.mem_of_getElem? (i := 15) rfl)))) (Or.inl (hsets _ (List.mem_of_getElem? (i := 14) rfl)))
  have S7 : Sta s s.heap "java/lang/StringUTF16" "LO_BYTE_SHIFT" "I" (.int (8 : Int32)) := Sta.start (eqv_i (Term.int_eval (8 : Int32)) (Cond.before_iff.mp (hsets _ (List.mem_of_getElem? (i := 18) rfl)))) (Or.inl (hsets _ (List.mem_of_getElem? (i := 17) rfl)))
  have k7 : Jvm.Lit.constHeld s "java/lang/String" 7 := hcalls.1 ("java/lang/String", 7) (by simp [consts_1])
  obtain ⟨n, o, h1, h2, h3, _, L, rfl, ⟨rfl, N⟩, hq⟩ := rm_law l s _ hw tables_1 i0 i1 i2 i3 zc fm s.heap s.heap.size (Nat.le_refl _) rfl (Old.start s) S12 c17 S16 r15 S5 S6 S7 k7 (hsets _ (List.mem_of_getElem? (i := 2) rfl)) p e ha hc hk s m _ below hf ((Spec.applies_iff_loose hf).mp happ).1 ⟨rfl, rfl⟩ trivial
  refine ⟨n, _, h1, h2, h3, hpost _ _ _ _ _ _ ⟨Cond.after_iff.mpr rfl, Cond.after_iff.mpr (eq_i res_at (Term.int_eval (1)) rfl), trivial⟩ ⟨hq.1, hq.2.1, hq.2.2.1, (hq.2.2.2.sift fun y hy => Or.inr (N y hy)).mono (by decide) (by decide)⟩⟩
theorem main_1_1 : Claimed_1_1 := comes_1 fun _ _ _ _ _ _ h hF => ⟨h.1, hF⟩
theorem main_1_2 : Claimed_1_2 := comes_1 fun _ _ _ _ _ _ h hF => ⟨h.2.1, hF⟩
end Jvm.Pilot.@@N@@
namespace Jvm.Pilot.@@N@@
open Jvm Jvm.ClassFile Sem Op Lib Jvm.Free Jvm.Stand Jvm.Pilot.@@N@@.Jvm.D
/-! MADE BY PROGRAM (witnessworld.py) out of the Statement's table words and the real class files: 20 classes; the members and pool entries that the words name. The judged class is class 1, her method 3. -/
namespace start1
open Jvm.ClassFile
def u (s : String) : CpInfo := .utf8 (stringToUtf16 s)
/-- a pool by its gaps: so many unusable entries, then the entry; so many at the end -/
def gap : Nat → List CpInfo → List CpInfo
  | 0, r => r
  | n + 1, r => .unusable :: gap n r
def poolList (es : List (Nat × CpInfo)) (last : Nat) : List CpInfo := es.foldr (fun e r => gap e.1 (e.2 :: r)) (gap last [])
def pool (es : List (Nat × CpInfo)) (last : Nat) : Array CpInfo := ⟨poolList es last⟩
def fileOf (pool : Array CpInfo) (this : Nat) (attrs : Array Attribute := #[]) (ms : Array MethodInfo := #[]) (fl : Nat := 33) (sup : Nat := 0) (ifs : Array Nat := #[]) (fds : Array FieldInfo := #[]) : ClassFile where
  minorVersion := 0
  majorVersion := 65
  constantPool := pool
  accessFlags := fl
  thisClass := this
  superClass := sup
  interfaces := ifs
  fields := fds
  methods := ms
  attributes := attrs
def plain (name : String) (sup : Option ClassId) : Class where
  name := name
  kind := .ordinary
  loader := none
  accessFlags := 33
  super := sup
  interfaces := #[]
  cf := none
  fields := #[]
  methods := #[]
  instanceTypes := #[]
  staticTypes := #[]
  resolved := #[]
  callSites := []
  init := .initialized
  statics := none
  mirror := none

def pool0 : Array CpInfo := pool [(5, u "<init>"), (0, u "()V"), (1, .class_ 10), (1, u "java/lang/Object")] 113

def k0c0 : Code := { maxStack := 0, maxLocals := 1, code := object_method_1_code, exceptionTable := #[], attributes := #[] }
def k0m0 : Method := { name := "<init>", desc := "()V", sig := { parameters := [], returnType := none }, accessFlags := 1, code := some k0c0 }
/-- java/lang/Object -/
def k0 : Class := { plain "java/lang/Object" none with
  accessFlags := 33
  interfaces := #[]
  cf := some (fileOf pool0 8 #[] #[{ accessFlags := 1, nameIndex := 5, descriptorIndex := 6, attributes := #[] }] 33 0 #[] #[])
  fields := #[]
  methods := #[k0m0]
  instanceTypes := #[]
  staticTypes := #[]
  resolved := Array.replicate 124 none
  statics := none }

def pool1 : Array CpInfo := pool [(2, .class_ 4), (1, u "java/lang/Object"), (0, u "<init>"), (0, u "()V"), (0, .integer 65535), (0, .methodref 9 10), (0, .class_ 11), (0, .nameAndType 12 13), (0, u "com/example/sonde/sonde/store/CurrentVersionsKeptPinLaw"), (0, u "unit"), (0, u "(I)I"), (0, .class_ 15), (0, u "java/lang/String"), (0, .methodref 14 17), (0, .nameAndType 5 18), (0, u "([C)V"), (0, .methodref 20 21), (0, .class_ 22), (0, .nameAndType 23 24), (0, u "com/example/sonde/sonde/store/CurrentVersions"), (0, u "kept"), (0, u "(Ljava/lang/String;)[B"), (0, .methodref 9 26), (0, .nameAndType 27 28), (0, u "step"), (0, u "([BII)I"), (3, u "law"), (0, u "(IIII)Z")] 6

def k1m0 : Method := { name := "<init>", desc := "()V", sig := { parameters := [], returnType := none }, accessFlags := 2, code := none }
def k1c1 : Code := { maxStack := 2, maxLocals := 2, code := method_2_code, exceptionTable := #[], attributes := #[] }
def k1m1 : Method := { name := "unit", desc := "(I)I", sig := { parameters := [.int], returnType := some .int }, accessFlags := 10, code := some k1c1 }
def k1c2 : Code := { maxStack := 3, maxLocals := 8, code := method_3_code, exceptionTable := #[], attributes := #[] }
def k1m2 : Method := { name := "step", desc := "([BII)I", sig := { parameters := [(.array .byte), .int, .int], returnType := some .int }, accessFlags := 10, code := some k1c2 }
def k1c3 : Code := { maxStack := 4, maxLocals := 15, code := code, exceptionTable := #[], attributes := #[] }
def k1m3 : Method := { name := "law", desc := "(IIII)Z", sig := { parameters := [.int, .int, .int, .int], returnType := some .boolean }, accessFlags := 9, code := some k1c3 }
/-- com/example/sonde/sonde/store/CurrentVersionsKeptPinLaw -/
def k1 : Class := { plain "com/example/sonde/sonde/store/CurrentVersionsKeptPinLaw" (some 0) with
  accessFlags := 49
  interfaces := #[]
  cf := some (fileOf pool1 9 #[] #[{ accessFlags := 2, nameIndex := 5, descriptorIndex := 6, attributes := #[] }, { accessFlags := 10, nameIndex := 12, descriptorIndex := 13, attributes := #[] }, { accessFlags := 10, nameIndex := 27, descriptorIndex := 28, attributes := #[] }, { accessFlags := 9, nameIndex := 32, descriptorIndex := 33, attributes := #[] }] 49 2 #[] #[])
  fields := #[]
  methods := #[k1m0, k1m1, k1m2, k1m3]
  instanceTypes := #[]
  staticTypes := #[]
  resolved := Array.replicate 40 none
  statics := none }

def pool2 : Array CpInfo := pool [(1, .class_ 2), (0, u "java/io/Serializable"), (0, .class_ 4), (0, u "java/lang/Object")] 2

/-- java/io/Serializable -/
def k2 : Class := { plain "java/io/Serializable" (some 0) with
  accessFlags := 1537
  interfaces := #[]
  cf := some (fileOf pool2 1 #[] #[] 1537 3 #[] #[])
  fields := #[]
  methods := #[]
  instanceTypes := #[]
  staticTypes := #[]
  resolved := Array.replicate 7 none
  statics := none }

def pool3 : Array CpInfo := pool [(1, .class_ 2), (0, u "java/lang/Comparable"), (0, .class_ 4), (0, u "java/lang/Object")] 7

/-- java/lang/Comparable -/
def k3 : Class := { plain "java/lang/Comparable" (some 0) with
  accessFlags := 1537
  interfaces := #[]
  cf := some (fileOf pool3 1 #[] #[] 1537 3 #[] #[])
  fields := #[]
  methods := #[]
  instanceTypes := #[]
  staticTypes := #[]
  resolved := Array.replicate 12 none
  statics := none }

def pool4 : Array CpInfo := pool [(2, .class_ 4), (1, u "java/lang/CharSequence"), (42, .class_ 48), (0, u "java/lang/CharSequence$1CodePointIterator"), (10, .class_ 60), (0, u "java/lang/CharSequence$1CharIterator"), (5, .class_ 67), (0, u "java/lang/Object")] 63

/-- java/lang/CharSequence -/
def k4 : Class := { plain "java/lang/CharSequence" (some 0) with
  accessFlags := 1537
  interfaces := #[]
  cf := some (fileOf pool4 2 #[.nestMembers #[47, 59]] #[] 1537 66 #[] #[])
  fields := #[]
  methods := #[]
  instanceTypes := #[]
  staticTypes := #[]
  resolved := Array.replicate 131 none
  statics := none }

def pool5 : Array CpInfo := pool [(1, .class_ 2), (0, u "java/lang/constant/Constable"), (0, .class_ 4), (0, u "java/lang/Object")] 6

/-- java/lang/constant/Constable -/
def k5 : Class := { plain "java/lang/constant/Constable" (some 0) with
  accessFlags := 1537
  interfaces := #[]
  cf := some (fileOf pool5 1 #[] #[] 1537 3 #[] #[])
  fields := #[]
  methods := #[]
  instanceTypes := #[]
  staticTypes := #[]
  resolved := Array.replicate 11 none
  statics := none }

def pool6 : Array CpInfo := pool [(1, .class_ 2), (0, u "java/lang/constant/ConstantDesc"), (0, .class_ 4), (0, u "java/lang/Object")] 32

/-- java/lang/constant/ConstantDesc -/
def k6 : Class := { plain "java/lang/constant/ConstantDesc" (some 0) with
  accessFlags := 1537
  interfaces := #[]
  cf := some (fileOf pool6 1 #[] #[] 1537 3 #[] #[])
  fields := #[]
  methods := #[]
  instanceTypes := #[]
  staticTypes := #[]
  resolved := Array.replicate 37 none
  statics := none }

def pool7 : Array CpInfo := pool [(1, .methodref 2 3), (0, .class_ 4), (0, .nameAndType 5 6), (0, u "java/lang/Object"), (0, u "<init>"), (0, u "()V"), (0, .string 8), (0, u ""), (0, .fieldref 10 11), (0, .class_ 12), (0, .nameAndType 13 14), (0, u "java/lang/String"), (0, u "value"), (0, u "[B"), (0, .fieldref 10 16), (0, .nameAndType 17 18), (0, u "coder"), (0, u "B"), (2, u "hash"), (0, u "I"), (2, u "hashIsZero"), (0, u "Z"), (0, .methodref 10 28), (0, .nameAndType 5 29), (0, u "([CIILjava/lang/Void;)V"), (8, .fieldref 10 39), (0, .nameAndType 40 26), (0, u "COMPACT_STRINGS"), (1, .class_ 44), (1, u "java/lang/StringUTF16"), (0, u "compress"), (1, .methodref 42 48), (0, .nameAndType 49 50), (0, u "coderFromArrayLen"), (0, u "([BI)B"), (56, .class_ 109), (1, u "java/lang/StringLatin1"), (32, u "()Z"), (34, .methodref 42 178), (0, .nameAndType 45 179), (0, u "([CII)[B"), (154, u "()I"), (0, .methodref 10 336), (0, .nameAndType 17 337), (0, u "()B"), (25, u "([BI)C"), (27, u "(II)V"), (35, u "(I)C"), (64, .methodref 10 493), (0, .nameAndType 494 142), (0, u "isLatin1"), (0, .methodref 107 496), (0, .nameAndType 497 363), (0, u "charAt"), (0, .methodref 42 496), (2, u "checkIndex"), (5, u "length"), (67, .class_ 576), (0, u "java/lang/CharSequence"), (22, u "CASE_INSENSITIVE_ORDER"), (0, u "Ljava/util/Comparator;"), (409, u "([C)V"), (42, .fieldref 1054 1055), (0, .class_ 1056), (0, .nameAndType 1057 1058), (0, u "jdk/internal/util/Preconditions"), (0, u "SIOOBE_FORMATTER"), (0, u "Ljava/util/function/BiFunction;"), (0, .methodref 1054 1060), (0, .nameAndType 501 1061), (0, u "(IILjava/util/function/BiFunction;)I"), (39, u "serialPersistentFields"), (0, u "[Ljava/io/ObjectStreamField;"), (0, .class_ 1104), (0, u "java/lang/String$CaseInsensitiveComparator"), (1, .class_ 1107), (0, u "java/io/Serializable"), (0, .class_ 1109), (0, u "java/lang/Comparable"), (0, .class_ 1111), (0, u "java/lang/constant/Constable"), (0, .class_ 1113), (0, u "java/lang/constant/ConstantDesc"), (2, u "serialVersionUID"), (0, u "J"), (3, u "REPL"), (0, u "C"), (2, u "LATIN1"), (1, u "UTF16")] 323

def k7m0 : Method := { name := "<init>", desc := "()V", sig := { parameters := [], returnType := none }, accessFlags := 1, code := none }
def k7c1 : Code := { maxStack := 5, maxLocals := 2, code := jdk_42_method_3_code, exceptionTable := #[], attributes := #[] }
def k7m1 : Method := { name := "<init>", desc := "([C)V", sig := { parameters := [(.array .char)], returnType := none }, accessFlags := 1, code := some k7c1 }
def k7c2 : Code := { maxStack := 2, maxLocals := 1, code := jdk_42_method_54_code, exceptionTable := #[], attributes := #[] }
def k7m2 : Method := { name := "length", desc := "()I", sig := { parameters := [], returnType := some .int }, accessFlags := 1, code := some k7c2 }
def k7c3 : Code := { maxStack := 2, maxLocals := 2, code := jdk_42_method_56_code, exceptionTable := #[], attributes := #[] }
def k7m3 : Method := { name := "charAt", desc := "(I)C", sig := { parameters := [.int], returnType := some .char }, accessFlags := 1, code := some k7c3 }
def k7c4 : Code := { maxStack := 4, maxLocals := 6, code := jdk_42_method_149_code, exceptionTable := #[], attributes := #[] }
def k7m4 : Method := { name := "<init>", desc := "([CIILjava/lang/Void;)V", sig := { parameters := [(.array .char), .int, .int, (.object "java/lang/Void")], returnType := none }, accessFlags := 2, code := some k7c4 }
def k7c5 : Code := { maxStack := 1, maxLocals := 1, code := jdk_42_method_152_code, exceptionTable := #[], attributes := #[] }
def k7m5 : Method := { name := "coder", desc := "()B", sig := { parameters := [], returnType := some .byte }, accessFlags := 0, code := some k7c5 }
def k7c6 : Code := { maxStack := 1, maxLocals := 1, code := jdk_42_method_154_code, exceptionTable := #[], attributes := #[] }
def k7m6 : Method := { name := "isLatin1", desc := "()Z", sig := { parameters := [], returnType := some .boolean }, accessFlags := 0, code := some k7c6 }
def k7c7 : Code := { maxStack := 3, maxLocals := 2, code := jdk_42_method_155_code, exceptionTable := #[], attributes := #[] }
def k7m7 : Method := { name := "checkIndex", desc := "(II)V", sig := { parameters := [.int, .int], returnType := none }, accessFlags := 8, code := some k7c7 }
/-- java/lang/String -/
def k7 : Class := { plain "java/lang/String" (some 0) with
  accessFlags := 49
  interfaces := #[2, 3, 4, 5, 6]
  cf := some (fileOf pool7 10 #[.nestMembers #[1103]] #[{ accessFlags := 1, nameIndex := 5, descriptorIndex := 6, attributes := #[] }, { accessFlags := 1, nameIndex := 5, descriptorIndex := 1010, attributes := #[] }, { accessFlags := 1, nameIndex := 507, descriptorIndex := 334, attributes := #[] }, { accessFlags := 1, nameIndex := 497, descriptorIndex := 427, attributes := #[] }, { accessFlags := 2, nameIndex := 5, descriptorIndex := 29, attributes := #[] }, { accessFlags := 0, nameIndex := 17, descriptorIndex := 337, attributes := #[] }, { accessFlags := 0, nameIndex := 494, descriptorIndex := 142, attributes := #[] }, { accessFlags := 8, nameIndex := 501, descriptorIndex := 391, attributes := #[] }] 49 2 #[1106, 1108, 575, 1110, 1112] #[{ accessFlags := 18, nameIndex := 13, descriptorIndex := 14, attributes := #[] }, { accessFlags := 18, nameIndex := 17, descriptorIndex := 18, attributes := #[] }, { accessFlags := 2, nameIndex := 21, descriptorIndex := 22, attributes := #[] }, { accessFlags := 2, nameIndex := 25, descriptorIndex := 26, attributes := #[] }, { accessFlags := 26, nameIndex := 1116, descriptorIndex := 1117, attributes := #[] }, { accessFlags := 24, nameIndex := 40, descriptorIndex := 26, attributes := #[] }, { accessFlags := 26, nameIndex := 1101, descriptorIndex := 1102, attributes := #[] }, { accessFlags := 26, nameIndex := 1121, descriptorIndex := 1122, attributes := #[] }, { accessFlags := 25, nameIndex := 599, descriptorIndex := 600, attributes := #[] }, { accessFlags := 24, nameIndex := 1125, descriptorIndex := 18, attributes := #[] }, { accessFlags := 24, nameIndex := 1127, descriptorIndex := 18, attributes := #[] }])
  fields := #[{ name := "value", type := (.array .byte), accessFlags := 18, slot := 0, constantValue := 0 }, { name := "coder", type := .byte, accessFlags := 18, slot := 1, constantValue := 0 }, { name := "hash", type := .int, accessFlags := 2, slot := 2, constantValue := 0 }, { name := "hashIsZero", type := .boolean, accessFlags := 2, slot := 3, constantValue := 0 }, { name := "serialVersionUID", type := .long, accessFlags := 26, slot := 0, constantValue := 0 }, { name := "COMPACT_STRINGS", type := .boolean, accessFlags := 24, slot := 1, constantValue := 0 }, { name := "serialPersistentFields", type := (.array (.object "java/io/ObjectStreamField")), accessFlags := 26, slot := 2, constantValue := 0 }, { name := "REPL", type := .char, accessFlags := 26, slot := 3, constantValue := 0 }, { name := "CASE_INSENSITIVE_ORDER", type := (.object "java/util/Comparator"), accessFlags := 25, slot := 4, constantValue := 0 }, { name := "LATIN1", type := .byte, accessFlags := 24, slot := 5, constantValue := 0 }, { name := "UTF16", type := .byte, accessFlags := 24, slot := 6, constantValue := 0 }]
  methods := #[k7m0, k7m1, k7m2, k7m3, k7m4, k7m5, k7m6, k7m7]
  instanceTypes := #[(.array .byte), .byte, .int, .boolean]
  staticTypes := #[.long, .boolean, (.array (.object "java/io/ObjectStreamField")), .char, (.object "java/util/Comparator"), .byte, .byte]
  resolved := Array.replicate 1451 none
  statics := some 0 }

def pool8 : Array CpInfo := pool [(3, .class_ 4), (0, u "java/lang/String"), (1, .class_ 8), (1, u "java/lang/Object"), (0, u "<init>"), (0, u "()V"), (0, .methodref 12 13), (0, .class_ 14), (0, .nameAndType 15 16), (0, u "java/lang/StringUTF16"), (0, u "newBytesLength"), (0, u "(I)I"), (3, .integer 1073741823), (23, .fieldref 12 45), (0, .nameAndType 46 47), (0, u "$assertionsDisabled"), (0, u "Z"), (0, .methodref 12 49), (0, .nameAndType 50 51), (0, u "length"), (0, u "([B)I"), (7, .fieldref 12 60), (0, .nameAndType 61 62), (0, u "HI_BYTE_SHIFT"), (0, u "I"), (0, .fieldref 12 64), (0, .nameAndType 65 62), (0, u "LO_BYTE_SHIFT"), (1, .methodref 12 68), (0, .nameAndType 69 70), (0, u "checkIndex"), (0, u "(I[B)V"), (0, .methodref 12 72), (0, .nameAndType 73 74), (0, u "getChar"), (0, u "([BI)C"), (32, .methodref 12 108), (0, .nameAndType 109 110), (0, u "newBytesFor"), (0, u "(I)[B"), (0, .methodref 12 112), (0, .nameAndType 113 114), (0, u "putChar"), (0, u "([BII)V"), (0, .methodref 12 116), (0, .nameAndType 117 118), (0, u "compress"), (0, u "([CI[BII)I"), (0, .methodref 12 120), (0, .nameAndType 121 122), (0, u "toBytes"), (0, u "([CII)[B"), (138, u "coderFromArrayLen"), (0, u "([BI)B"), (106, .class_ 371), (1, u "java/lang/StringUTF16$LinesSpliterator"), (20, u "charAt"), (21, .methodref 3 415), (0, .nameAndType 69 416), (0, u "(II)V"), (13, u "MAX_LENGTH"), (196, .class_ 628), (0, u "java/lang/StringUTF16$CodePointsSpliterator"), (0, .class_ 630), (0, u "java/lang/StringUTF16$CharsSpliterator")] 4

def k8m0 : Method := { name := "<init>", desc := "()V", sig := { parameters := [], returnType := none }, accessFlags := 0, code := none }
def k8c1 : Code := { maxStack := 1, maxLocals := 1, code := jdk_52_method_2_code, exceptionTable := #[], attributes := #[] }
def k8m1 : Method := { name := "newBytesFor", desc := "(I)[B", sig := { parameters := [.int], returnType := some (.array .byte) }, accessFlags := 9, code := some k8c1 }
def k8c2 : Code := { maxStack := 4, maxLocals := 1, code := jdk_52_method_3_code, exceptionTable := #[], attributes := #[] }
def k8m2 : Method := { name := "newBytesLength", desc := "(I)I", sig := { parameters := [.int], returnType := some .int }, accessFlags := 9, code := some k8c2 }
def k8c3 : Code := { maxStack := 4, maxLocals := 3, code := jdk_52_method_4_code, exceptionTable := #[], attributes := #[] }
def k8m3 : Method := { name := "putChar", desc := "([BII)V", sig := { parameters := [(.array .byte), .int, .int], returnType := none }, accessFlags := 8, code := some k8c3 }
def k8c4 : Code := { maxStack := 3, maxLocals := 2, code := jdk_52_method_5_code, exceptionTable := #[], attributes := #[] }
def k8m4 : Method := { name := "getChar", desc := "([BI)C", sig := { parameters := [(.array .byte), .int], returnType := some .char }, accessFlags := 8, code := some k8c4 }
def k8c5 : Code := { maxStack := 2, maxLocals := 1, code := jdk_52_method_6_code, exceptionTable := #[], attributes := #[] }
def k8m5 : Method := { name := "length", desc := "([B)I", sig := { parameters := [(.array .byte)], returnType := some .int }, accessFlags := 9, code := some k8c5 }
def k8c6 : Code := { maxStack := 4, maxLocals := 5, code := jdk_52_method_14_code, exceptionTable := #[], attributes := #[] }
def k8m6 : Method := { name := "toBytes", desc := "([CII)[B", sig := { parameters := [(.array .char), .int, .int], returnType := some (.array .byte) }, accessFlags := 9, code := some k8c6 }
def k8c7 : Code := { maxStack := 2, maxLocals := 2, code := jdk_52_method_15_code, exceptionTable := #[], attributes := #[] }
def k8m7 : Method := { name := "coderFromArrayLen", desc := "([BI)B", sig := { parameters := [(.array .byte), .int], returnType := some .byte }, accessFlags := 8, code := some k8c7 }
def k8c8 : Code := { maxStack := 5, maxLocals := 6, code := jdk_52_method_16_code, exceptionTable := #[], attributes := #[] }
def k8m8 : Method := { name := "compress", desc := "([CII)[B", sig := { parameters := [(.array .char), .int, .int], returnType := some (.array .byte) }, accessFlags := 9, code := some k8c8 }
def k8c9 : Code := { maxStack := 3, maxLocals := 7, code := jdk_52_method_21_code, exceptionTable := #[], attributes := #[] }
def k8m9 : Method := { name := "compress", desc := "([CI[BII)I", sig := { parameters := [(.array .char), .int, (.array .byte), .int, .int], returnType := some .int }, accessFlags := 9, code := some k8c9 }
def k8c10 : Code := { maxStack := 2, maxLocals := 2, code := jdk_52_method_83_code, exceptionTable := #[], attributes := #[] }
def k8m10 : Method := { name := "charAt", desc := "([BI)C", sig := { parameters := [(.array .byte), .int], returnType := some .char }, accessFlags := 9, code := some k8c10 }
def k8c11 : Code := { maxStack := 2, maxLocals := 2, code := jdk_52_method_91_code, exceptionTable := #[], attributes := #[] }
def k8m11 : Method := { name := "checkIndex", desc := "(I[B)V", sig := { parameters := [.int, (.array .byte)], returnType := none }, accessFlags := 9, code := some k8c11 }
/-- java/lang/StringUTF16 -/
def k8 : Class := { plain "java/lang/StringUTF16" (some 0) with
  accessFlags := 48
  interfaces := #[]
  cf := some (fileOf pool8 12 #[.nestMembers #[627, 629, 369]] #[{ accessFlags := 0, nameIndex := 9, descriptorIndex := 10, attributes := #[] }, { accessFlags := 9, nameIndex := 109, descriptorIndex := 110, attributes := #[] }, { accessFlags := 9, nameIndex := 15, descriptorIndex := 16, attributes := #[] }, { accessFlags := 8, nameIndex := 113, descriptorIndex := 114, attributes := #[] }, { accessFlags := 8, nameIndex := 73, descriptorIndex := 74, attributes := #[] }, { accessFlags := 9, nameIndex := 50, descriptorIndex := 51, attributes := #[] }, { accessFlags := 9, nameIndex := 121, descriptorIndex := 122, attributes := #[] }, { accessFlags := 8, nameIndex := 261, descriptorIndex := 262, attributes := #[] }, { accessFlags := 9, nameIndex := 117, descriptorIndex := 122, attributes := #[] }, { accessFlags := 9, nameIndex := 117, descriptorIndex := 118, attributes := #[] }, { accessFlags := 9, nameIndex := 392, descriptorIndex := 74, attributes := #[] }, { accessFlags := 9, nameIndex := 69, descriptorIndex := 70, attributes := #[] }] 48 6 #[] #[{ accessFlags := 26, nameIndex := 61, descriptorIndex := 62, attributes := #[] }, { accessFlags := 26, nameIndex := 65, descriptorIndex := 62, attributes := #[] }, { accessFlags := 24, nameIndex := 430, descriptorIndex := 62, attributes := #[] }, { accessFlags := 4120, nameIndex := 46, descriptorIndex := 47, attributes := #[] }])
  fields := #[{ name := "HI_BYTE_SHIFT", type := .int, accessFlags := 26, slot := 0, constantValue := 0 }, { name := "LO_BYTE_SHIFT", type := .int, accessFlags := 26, slot := 1, constantValue := 0 }, { name := "MAX_LENGTH", type := .int, accessFlags := 24, slot := 2, constantValue := 0 }, { name := "$assertionsDisabled", type := .boolean, accessFlags := 4120, slot := 3, constantValue := 0 }]
  methods := #[k8m0, k8m1, k8m2, k8m3, k8m4, k8m5, k8m6, k8m7, k8m8, k8m9, k8m10, k8m11]
  instanceTypes := #[]
  staticTypes := #[.int, .int, .int, .boolean]
  resolved := Array.replicate 635 none
  statics := some 1 }

def pool9 : Array CpInfo := pool [(2, .class_ 4), (1, u "java/lang/Object"), (3, .class_ 10), (1, u "com/example/sonde/sonde/store/CurrentVersions"), (0, u "types"), (0, u "Lcom/example/sonde/sonde/store/PersistentHashMap;"), (2, u "nextPosition"), (0, u "J"), (13, .class_ 31), (0, u "com/example/sonde/sonde/store/CurrentVersions$OfType"), (3, .class_ 36), (0, u "com/example/sonde/sonde/store/CurrentVersions$Version"), (10, .class_ 48), (0, u "com/example/sonde/sonde/store/CurrentVersions$Live"), (12, .class_ 62), (0, u "com/example/sonde/sonde/store/CurrentVersions$LiveIds"), (5, u "kept"), (0, u "(Ljava/lang/String;)[B"), (43, u "Ljava/util/Comparator;"), (4, .class_ 119), (0, u "com/example/sonde/sonde/store/CurrentVersions$Changes"), (8, .methodref 129 130), (0, .class_ 131), (0, .nameAndType 132 133), (0, u "java/lang/String"), (0, u "length"), (0, u "()I"), (0, .methodref 129 135), (0, .nameAndType 136 137), (0, u "charAt"), (0, u "(I)C"), (6, u "KEY_ORDER"), (39, .class_ 185), (0, u "com/example/sonde/sonde/store/CurrentVersions$LiveIds$1"), (0, .class_ 187), (0, u "com/example/sonde/sonde/store/CurrentVersions$Entries"), (0, .class_ 189), (0, u "com/example/sonde/sonde/store/CurrentVersions$Slot"), (0, .class_ 191), (0, u "com/example/sonde/sonde/store/CurrentVersions$ManyPostings"), (0, .class_ 193), (0, u "com/example/sonde/sonde/store/CurrentVersions$Postings")] 33

def k9c0 : Code := { maxStack := 5, maxLocals := 6, code := prog_30_method_12_code, exceptionTable := #[], attributes := #[] }
def k9m0 : Method := { name := "kept", desc := "(Ljava/lang/String;)[B", sig := { parameters := [(.object "java/lang/String")], returnType := some (.array .byte) }, accessFlags := 8, code := some k9c0 }
/-- com/example/sonde/sonde/store/CurrentVersions -/
def k9 : Class := { plain "com/example/sonde/sonde/store/CurrentVersions" (some 0) with
  accessFlags := 48
  interfaces := #[]
  cf := some (fileOf pool9 8 #[.nestMembers #[61, 184, 47, 118, 186, 30, 188, 190, 192, 35]] #[{ accessFlags := 8, nameIndex := 68, descriptorIndex := 69, attributes := #[] }] 48 2 #[] #[{ accessFlags := 18, nameIndex := 11, descriptorIndex := 12, attributes := #[] }, { accessFlags := 18, nameIndex := 15, descriptorIndex := 16, attributes := #[] }, { accessFlags := 26, nameIndex := 144, descriptorIndex := 113, attributes := #[] }])
  fields := #[{ name := "types", type := (.object "com/example/sonde/sonde/store/PersistentHashMap"), accessFlags := 18, slot := 0, constantValue := 0 }, { name := "nextPosition", type := .long, accessFlags := 18, slot := 1, constantValue := 0 }, { name := "KEY_ORDER", type := (.object "java/util/Comparator"), accessFlags := 26, slot := 0, constantValue := 0 }]
  methods := #[k9m0]
  instanceTypes := #[(.object "com/example/sonde/sonde/store/PersistentHashMap"), .long]
  staticTypes := #[(.object "java/util/Comparator")]
  resolved := Array.replicate 227 none
  statics := none }

def pool10 : Array CpInfo := pool [(1, .class_ 2), (0, u "java/lang/String"), (1, .class_ 6), (1, u "java/lang/Object"), (0, u "<init>"), (0, u "()V"), (0, .methodref 1 10), (0, .nameAndType 11 12), (0, u "checkIndex"), (0, u "(II)V"), (1, .class_ 16), (1, u "java/lang/StringLatin1"), (36, u "([BI)C"), (67, u "$assertionsDisabled"), (0, u "Z"), (98, .class_ 223), (1, u "java/lang/StringLatin1$LinesSpliterator"), (28, u "charAt"), (137, .class_ 391), (0, u "java/lang/StringLatin1$CharsSpliterator")] 3

def k10m0 : Method := { name := "<init>", desc := "()V", sig := { parameters := [], returnType := none }, accessFlags := 0, code := none }
def k10c1 : Code := { maxStack := 2, maxLocals := 2, code := jdk_43_method_2_code, exceptionTable := #[], attributes := #[] }
def k10m1 : Method := { name := "charAt", desc := "([BI)C", sig := { parameters := [(.array .byte), .int], returnType := some .char }, accessFlags := 9, code := some k10c1 }
/-- java/lang/StringLatin1 -/
def k10 : Class := { plain "java/lang/StringLatin1" (some 0) with
  accessFlags := 48
  interfaces := #[]
  cf := some (fileOf pool10 14 #[.nestMembers #[390, 221]] #[{ accessFlags := 0, nameIndex := 7, descriptorIndex := 8, attributes := #[] }, { accessFlags := 9, nameIndex := 252, descriptorIndex := 53, attributes := #[] }] 48 4 #[] #[{ accessFlags := 4120, nameIndex := 121, descriptorIndex := 122, attributes := #[] }])
  fields := #[{ name := "$assertionsDisabled", type := .boolean, accessFlags := 4120, slot := 0, constantValue := 0 }]
  methods := #[k10m0, k10m1]
  instanceTypes := #[]
  staticTypes := #[.boolean]
  resolved := Array.replicate 395 none
  statics := none }

def pool11 : Array CpInfo := pool [(2, .class_ 4), (1, u "java/lang/Object"), (0, u "<init>"), (0, u "()V"), (17, .class_ 26), (1, u "jdk/internal/util/Preconditions"), (6, u "checkIndex"), (21, .class_ 56), (0, u "jdk/internal/util/Preconditions$4"), (57, .class_ 115), (0, u "jdk/internal/util/Preconditions$1"), (7, u "SIOOBE_FORMATTER"), (0, u "Ljava/util/function/BiFunction;"), (0, .class_ 126), (0, u "jdk/internal/util/Preconditions$2"), (3, u "AIOOBE_FORMATTER"), (0, .class_ 132), (0, u "jdk/internal/util/Preconditions$3"), (3, u "IOOBE_FORMATTER"), (41, u "(IILjava/util/function/BiFunction;)I")] 15

def k11m0 : Method := { name := "<init>", desc := "()V", sig := { parameters := [], returnType := none }, accessFlags := 1, code := none }
def k11c1 : Code := { maxStack := 3, maxLocals := 3, code := jdk_41_method_11_code, exceptionTable := #[], attributes := #[] }
def k11m1 : Method := { name := "checkIndex", desc := "(IILjava/util/function/BiFunction;)I", sig := { parameters := [.int, .int, (.object "java/util/function/BiFunction")], returnType := some .int }, accessFlags := 9, code := some k11c1 }
/-- jdk/internal/util/Preconditions -/
def k11 : Class := { plain "jdk/internal/util/Preconditions" (some 0) with
  accessFlags := 33
  interfaces := #[]
  cf := some (fileOf pool11 24 #[.nestMembers #[55, 131, 125, 114]] #[{ accessFlags := 1, nameIndex := 5, descriptorIndex := 6, attributes := #[] }, { accessFlags := 9, nameIndex := 33, descriptorIndex := 178, attributes := #[] }] 33 2 #[] #[{ accessFlags := 25, nameIndex := 123, descriptorIndex := 124, attributes := #[] }, { accessFlags := 25, nameIndex := 130, descriptorIndex := 124, attributes := #[] }, { accessFlags := 25, nameIndex := 136, descriptorIndex := 124, attributes := #[] }])
  fields := #[{ name := "SIOOBE_FORMATTER", type := (.object "java/util/function/BiFunction"), accessFlags := 25, slot := 0, constantValue := 0 }, { name := "AIOOBE_FORMATTER", type := (.object "java/util/function/BiFunction"), accessFlags := 25, slot := 1, constantValue := 0 }, { name := "IOOBE_FORMATTER", type := (.object "java/util/function/BiFunction"), accessFlags := 25, slot := 2, constantValue := 0 }]
  methods := #[k11m0, k11m1]
  instanceTypes := #[]
  staticTypes := #[(.object "java/util/function/BiFunction"), (.object "java/util/function/BiFunction"), (.object "java/util/function/BiFunction")]
  resolved := Array.replicate 194 none
  statics := some 2 }

def pool12 : Array CpInfo := pool [(9, u "<init>"), (6, .class_ 18), (1, u "java/lang/Object"), (0, u "()V"), (1, .class_ 23), (1, u "jdk/internal/util/ArraysSupport"), (0, u "LOG2_ARRAY_LONG_INDEX_SCALE"), (0, u "I"), (2, u "U"), (0, u "Ljdk/internal/misc/Unsafe;"), (8, u "BIG_ENDIAN"), (0, u "Z"), (8, u "LOG2_BYTE_BIT_SIZE"), (4, u "LOG2_ARRAY_INT_INDEX_SCALE"), (54, u "JLA"), (0, u "Ljdk/internal/access/JavaLangAccess;"), (11, u "LOG2_ARRAY_BOOLEAN_INDEX_SCALE"), (9, u "LOG2_ARRAY_BYTE_INDEX_SCALE"), (5, u "LOG2_ARRAY_CHAR_INDEX_SCALE"), (5, u "LOG2_ARRAY_SHORT_INDEX_SCALE"), (18, u "LOG2_ARRAY_FLOAT_INDEX_SCALE"), (24, u "LOG2_ARRAY_DOUBLE_INDEX_SCALE"), (89, u "T_BOOLEAN"), (2, u "T_CHAR"), (1, u "T_FLOAT"), (1, u "T_DOUBLE"), (1, u "T_BYTE"), (1, u "T_SHORT"), (1, u "T_INT"), (1, u "T_LONG"), (1, u "SOFT_MAX_ARRAY_LENGTH")] 83

def k12m0 : Method := { name := "<init>", desc := "()V", sig := { parameters := [], returnType := none }, accessFlags := 2, code := none }
/-- jdk/internal/util/ArraysSupport -/
def k12 : Class := { plain "jdk/internal/util/ArraysSupport" (some 0) with
  accessFlags := 33
  interfaces := #[]
  cf := some (fileOf pool12 21 #[] #[{ accessFlags := 2, nameIndex := 9, descriptorIndex := 19, attributes := #[] }] 33 16 #[] #[{ accessFlags := 24, nameIndex := 28, descriptorIndex := 29, attributes := #[] }, { accessFlags := 26, nameIndex := 38, descriptorIndex := 39, attributes := #[] }, { accessFlags := 25, nameIndex := 121, descriptorIndex := 25, attributes := #[] }, { accessFlags := 25, nameIndex := 131, descriptorIndex := 25, attributes := #[] }, { accessFlags := 25, nameIndex := 137, descriptorIndex := 25, attributes := #[] }, { accessFlags := 25, nameIndex := 143, descriptorIndex := 25, attributes := #[] }, { accessFlags := 25, nameIndex := 53, descriptorIndex := 25, attributes := #[] }, { accessFlags := 25, nameIndex := 24, descriptorIndex := 25, attributes := #[] }, { accessFlags := 25, nameIndex := 162, descriptorIndex := 25, attributes := #[] }, { accessFlags := 25, nameIndex := 187, descriptorIndex := 25, attributes := #[] }, { accessFlags := 26, nameIndex := 48, descriptorIndex := 25, attributes := #[] }, { accessFlags := 25, nameIndex := 277, descriptorIndex := 25, attributes := #[] }, { accessFlags := 25, nameIndex := 280, descriptorIndex := 25, attributes := #[] }, { accessFlags := 25, nameIndex := 282, descriptorIndex := 25, attributes := #[] }, { accessFlags := 25, nameIndex := 284, descriptorIndex := 25, attributes := #[] }, { accessFlags := 25, nameIndex := 286, descriptorIndex := 25, attributes := #[] }, { accessFlags := 25, nameIndex := 288, descriptorIndex := 25, attributes := #[] }, { accessFlags := 25, nameIndex := 290, descriptorIndex := 25, attributes := #[] }, { accessFlags := 25, nameIndex := 292, descriptorIndex := 25, attributes := #[] }, { accessFlags := 26, nameIndex := 108, descriptorIndex := 109, attributes := #[] }, { accessFlags := 25, nameIndex := 294, descriptorIndex := 25, attributes := #[] }])
  fields := #[{ name := "U", type := (.object "jdk/internal/misc/Unsafe"), accessFlags := 24, slot := 0, constantValue := 0 }, { name := "BIG_ENDIAN", type := .boolean, accessFlags := 26, slot := 1, constantValue := 0 }, { name := "LOG2_ARRAY_BOOLEAN_INDEX_SCALE", type := .int, accessFlags := 25, slot := 2, constantValue := 0 }, { name := "LOG2_ARRAY_BYTE_INDEX_SCALE", type := .int, accessFlags := 25, slot := 3, constantValue := 0 }, { name := "LOG2_ARRAY_CHAR_INDEX_SCALE", type := .int, accessFlags := 25, slot := 4, constantValue := 0 }, { name := "LOG2_ARRAY_SHORT_INDEX_SCALE", type := .int, accessFlags := 25, slot := 5, constantValue := 0 }, { name := "LOG2_ARRAY_INT_INDEX_SCALE", type := .int, accessFlags := 25, slot := 6, constantValue := 0 }, { name := "LOG2_ARRAY_LONG_INDEX_SCALE", type := .int, accessFlags := 25, slot := 7, constantValue := 0 }, { name := "LOG2_ARRAY_FLOAT_INDEX_SCALE", type := .int, accessFlags := 25, slot := 8, constantValue := 0 }, { name := "LOG2_ARRAY_DOUBLE_INDEX_SCALE", type := .int, accessFlags := 25, slot := 9, constantValue := 0 }, { name := "LOG2_BYTE_BIT_SIZE", type := .int, accessFlags := 26, slot := 10, constantValue := 0 }, { name := "T_BOOLEAN", type := .int, accessFlags := 25, slot := 11, constantValue := 0 }, { name := "T_CHAR", type := .int, accessFlags := 25, slot := 12, constantValue := 0 }, { name := "T_FLOAT", type := .int, accessFlags := 25, slot := 13, constantValue := 0 }, { name := "T_DOUBLE", type := .int, accessFlags := 25, slot := 14, constantValue := 0 }, { name := "T_BYTE", type := .int, accessFlags := 25, slot := 15, constantValue := 0 }, { name := "T_SHORT", type := .int, accessFlags := 25, slot := 16, constantValue := 0 }, { name := "T_INT", type := .int, accessFlags := 25, slot := 17, constantValue := 0 }, { name := "T_LONG", type := .int, accessFlags := 25, slot := 18, constantValue := 0 }, { name := "JLA", type := (.object "jdk/internal/access/JavaLangAccess"), accessFlags := 26, slot := 19, constantValue := 0 }, { name := "SOFT_MAX_ARRAY_LENGTH", type := .int, accessFlags := 25, slot := 20, constantValue := 0 }]
  methods := #[k12m0]
  instanceTypes := #[]
  staticTypes := #[(.object "jdk/internal/misc/Unsafe"), .boolean, .int, .int, .int, .int, .int, .int, .int, .int, .int, .int, .int, .int, .int, .int, .int, .int, .int, (.object "jdk/internal/access/JavaLangAccess"), .int]
  resolved := Array.replicate 378 none
  statics := none }

def pool13 : Array CpInfo := pool [(1, u "java/lang/Cloneable"), (0, .class_ 1), (0, u "java/lang/Object"), (0, .class_ 3)] 3

/-- java/lang/Cloneable -/
def k13 : Class := { plain "java/lang/Cloneable" (some 0) with
  accessFlags := 1537
  interfaces := #[]
  cf := some (fileOf pool13 2 #[] #[] 1537 4 #[] #[])
  fields := #[]
  methods := #[]
  instanceTypes := #[]
  staticTypes := #[]
  resolved := Array.replicate 8 none
  statics := none }

/-- the primitive byte -/
def k14 : Class := { plain "byte" none with kind := .primitive 'B', accessFlags := 0x411 }
/-- [B -/
def k15 : Class := { plain "[B" (some 0) with kind := .array 14 .byte, interfaces := #[13, 2], accessFlags := 1041 }

/-- the primitive char -/
def k16 : Class := { plain "char" none with kind := .primitive 'C', accessFlags := 0x411 }
/-- [C -/
def k17 : Class := { plain "[C" (some 0) with kind := .array 16 .char, interfaces := #[13, 2], accessFlags := 1041 }

/-- the primitive int -/
def k18 : Class := { plain "int" none with kind := .primitive 'I', accessFlags := 0x411 }
/-- [I -/
def k19 : Class := { plain "[I" (some 0) with kind := .array 18 .int, interfaces := #[13, 2], accessFlags := 1041 }

def heap : Heap := #[{ cls := 7, slots := #[.long 0, .int 1, .null, .int 0, .null, .int 0, .int 0], vm := .statics 7 },
  { cls := 8, slots := #[.int 0, .int 8, .int 0, .int 1], vm := .statics 8 },
  { cls := 11, slots := #[.null, .null, .null], vm := .statics 11 }]
def classes : Array Class := #[k0, k1, k2, k3, k4, k5, k6, k7, k8, k9, k10, k11, k12, k13, k14, k15, k16, k17, k18, k19]
def interned : List (Array UInt16 × Addr) := []
def slotsUsed : Nat := 14
def theMethod : MethodId := ⟨1, 3⟩
def args0 : Array Value := #[.int 65, .int 66, .int 67, .int 2]
def aboutOver (below : List Frame) : State where
  vm := { classes := classes, interned := interned.toArray }
  heap := heap
  slotsUsed := slotsUsed
  threads := #[{ frames := .invoking theMethod args0 :: below }]
def below0 : List Frame := [.native { method := ⟨0, 0⟩, args := #[] }]
def about1 : State := aboutOver below0
def p0 : Program := .bare "" "" ""
def e0 : Env := launch0.env 0 0 0
theorem w_frames : about1.frames = Frame.invoking theMethod args0 :: below0 := rfl
set_option maxRecDepth 65536 in
theorem w_args : argsFit about1.vm theMethod args0 = true := by decide +kernel
set_option maxRecDepth 65536 in
theorem w_heap : heapFits about1 = true := by decide +kernel
set_option maxRecDepth 65536 in
theorem w_runnable : about1.curStatus? = some .runnable := by decide +kernel
set_option maxRecDepth 65536 in
theorem w_alone : about1.alone = true := by decide +kernel
set_option maxRecDepth 65536 in
theorem w_named : about1.methodNamed? x = some theMethod := by decide +kernel
set_option maxRecDepth 65536 in
theorem w_hears : about1.hears theMethod below0 = true := by decide +kernel
set_option maxRecDepth 65536 in
theorem w_ripe : about1.ripe theMethod args0 below0 = true := by decide +kernel
theorem w_running : about1.status = .running := rfl
set_option maxRecDepth 65536 in
theorem w_room : about1.hasRoom e0.platform room_1 = true :=
  launch0.hasRoom_least _ room_1 (by decide +kernel) (by decide +kernel) (by decide +kernel) (by decide +kernel) (by decide +kernel) (by decide +kernel)
theorem allAtoms_all (ts : List Jvm.Cond) (a : Array Jvm.Value) (st : Jvm.State) : (allAtoms ts).before a st = ts.all (fun c => c.before a st) := by
  induction ts with
  | nil => rfl
  | cons c t ih =>
    show (Jvm.Cond.and c (allAtoms t)).before a st = _
    rw [Jvm.Cond.before_and, ih, List.all_cons]
def words1 : List Jvm.Cond := Jvm.Cond.code x code maxLocals ret :: tables_1
/-- a 'code' word, met by the world's own term for the bytes: nothing is compared byte by byte -/
theorem code_word {y : MethodName} {bytes : ByteArray} {mx : Nat} {rt : Option FieldType} {a : Array Value} {s : State} {m : MethodId} {meth : Method} {c : Code} (h1 : s.methodNamed? y = some m) (h2 : s.vm.method? m = some meth) (h3 : meth.code = some c) (h4 : c.code = bytes)
    (h5 : (c.maxLocals == mx && c.exceptionTable.isEmpty && decide (c.maxStack ≤ mostOperands) && decide (meth.sig.returnType = rt) && !meth.locks && decide (parseMethodDescriptor y.desc = some meth.sig)) = true) : (Jvm.Cond.code y bytes mx rt).before a s = true := by
  simp only [Bool.and_eq_true, beq_iff_eq, Bool.not_eq_true', decide_eq_true_eq] at h5
  obtain ⟨⟨⟨⟨⟨g1, g2⟩, g3⟩, g4⟩, g5⟩, g6⟩ := h5
  simp [Cond.before, Cond.holds, Cond.value, h1, h2, h3, h4, g1, g2, g3, g4, g5, g6]
def isCode : Jvm.Cond → Bool
  | .code _ _ _ _ => true
  | _ => false
theorem all_split {L : List Jvm.Cond} {P : Jvm.Cond → Bool} (h1 : L.all (fun c => isCode c || P c) = true) (h2 : ∀ c ∈ L.filter isCode, P c = true) : L.all P = true := by
  refine List.all_eq_true.mpr fun c hc => ?_
  have h := List.all_eq_true.mp h1 c hc
  rcases Bool.eq_false_or_eq_true (isCode c) with hi | hi
  · exact h2 c (List.mem_filter.mpr ⟨hc, hi⟩)
  · simpa [hi] using h
set_option maxRecDepth 65536 in
theorem w_c0 : (Jvm.Cond.code x code maxLocals ret).before args0 about1 = true := code_word (m := ⟨1, 3⟩) (meth := k1m3) (c := k1c3) (by decide +kernel) rfl rfl rfl (by decide +kernel)
set_option maxRecDepth 65536 in
theorem w_c1 : (Jvm.Cond.code ({ cls := "com/example/sonde/sonde/store/CurrentVersionsKeptPinLaw", name := "unit", desc := "(I)I" } : Jvm.MethodName) method_2_code (2 : Nat) (Option.some Jvm.ClassFile.FieldType.int)).before args0 about1 = true := code_word (m := ⟨1, 1⟩) (meth := k1m1) (c := k1c1) (by decide +kernel) rfl rfl rfl (by decide +kernel)
set_option maxRecDepth 65536 in
theorem w_c2 : (Jvm.Cond.code ({ cls := "java/lang/String", name := "<init>", desc := "([C)V" } : Jvm.MethodName) jdk_42_method_3_code (2 : Nat) (Option.none : Option Jvm.ClassFile.FieldType)).before args0 about1 = true := code_word (m := ⟨7, 1⟩) (meth := k7m1) (c := k7c1) (by decide +kernel) rfl rfl rfl (by decide +kernel)
set_option maxRecDepth 65536 in
theorem w_c3 : (Jvm.Cond.code ({ cls := "java/lang/String", name := "<init>", desc := "([CIILjava/lang/Void;)V" } : Jvm.MethodName) jdk_42_method_149_code (6 : Nat) (Option.none : Option Jvm.ClassFile.FieldType)).before args0 about1 = true := code_word (m := ⟨7, 4⟩) (meth := k7m4) (c := k7c4) (by decide +kernel) rfl rfl rfl (by decide +kernel)
set_option maxRecDepth 65536 in
theorem w_c4 : (Jvm.Cond.code ({ cls := "java/lang/Object", name := "<init>", desc := "()V" } : Jvm.MethodName) object_method_1_code (1 : Nat) (Option.none : Option Jvm.ClassFile.FieldType)).before args0 about1 = true := code_word (m := ⟨0, 0⟩) (meth := k0m0) (c := k0c0) (by decide +kernel) rfl rfl rfl (by decide +kernel)
set_option maxRecDepth 65536 in
theorem w_c5 : (Jvm.Cond.code ({ cls := "java/lang/StringUTF16", name := "compress", desc := "([CII)[B" } : Jvm.MethodName) jdk_52_method_16_code (6 : Nat) (Option.some (Jvm.ClassFile.FieldType.array Jvm.ClassFile.FieldType.byte))).before args0 about1 = true := code_word (m := ⟨8, 8⟩) (meth := k8m8) (c := k8c8) (by decide +kernel) rfl rfl rfl (by decide +kernel)
set_option maxRecDepth 65536 in
theorem w_c6 : (Jvm.Cond.code ({ cls := "java/lang/StringUTF16", name := "compress", desc := "([CI[BII)I" } : Jvm.MethodName) jdk_52_method_21_code (7 : Nat) (Option.some Jvm.ClassFile.FieldType.int)).before args0 about1 = true := code_word (m := ⟨8, 9⟩) (meth := k8m9) (c := k8c9) (by decide +kernel) rfl rfl rfl (by decide +kernel)
set_option maxRecDepth 65536 in
theorem w_c7 : (Jvm.Cond.code ({ cls := "java/lang/StringUTF16", name := "coderFromArrayLen", desc := "([BI)B" } : Jvm.MethodName) jdk_52_method_15_code (2 : Nat) (Option.some Jvm.ClassFile.FieldType.byte)).before args0 about1 = true := code_word (m := ⟨8, 7⟩) (meth := k8m7) (c := k8c7) (by decide +kernel) rfl rfl rfl (by decide +kernel)
set_option maxRecDepth 65536 in
theorem w_c8 : (Jvm.Cond.code ({ cls := "com/example/sonde/sonde/store/CurrentVersions", name := "kept", desc := "(Ljava/lang/String;)[B" } : Jvm.MethodName) prog_30_method_12_code (6 : Nat) (Option.some (Jvm.ClassFile.FieldType.array Jvm.ClassFile.FieldType.byte))).before args0 about1 = true := code_word (m := ⟨9, 0⟩) (meth := k9m0) (c := k9c0) (by decide +kernel) rfl rfl rfl (by decide +kernel)
set_option maxRecDepth 65536 in
theorem w_c9 : (Jvm.Cond.code ({ cls := "java/lang/String", name := "length", desc := "()I" } : Jvm.MethodName) jdk_42_method_54_code (1 : Nat) (Option.some Jvm.ClassFile.FieldType.int)).before args0 about1 = true := code_word (m := ⟨7, 2⟩) (meth := k7m2) (c := k7c2) (by decide +kernel) rfl rfl rfl (by decide +kernel)
set_option maxRecDepth 65536 in
theorem w_c10 : (Jvm.Cond.code ({ cls := "java/lang/String", name := "coder", desc := "()B" } : Jvm.MethodName) jdk_42_method_152_code (1 : Nat) (Option.some Jvm.ClassFile.FieldType.byte)).before args0 about1 = true := code_word (m := ⟨7, 5⟩) (meth := k7m5) (c := k7c5) (by decide +kernel) rfl rfl rfl (by decide +kernel)
set_option maxRecDepth 65536 in
theorem w_c11 : (Jvm.Cond.code ({ cls := "java/lang/String", name := "charAt", desc := "(I)C" } : Jvm.MethodName) jdk_42_method_56_code (2 : Nat) (Option.some Jvm.ClassFile.FieldType.char)).before args0 about1 = true := code_word (m := ⟨7, 3⟩) (meth := k7m3) (c := k7c3) (by decide +kernel) rfl rfl rfl (by decide +kernel)
set_option maxRecDepth 65536 in
theorem w_c12 : (Jvm.Cond.code ({ cls := "java/lang/String", name := "isLatin1", desc := "()Z" } : Jvm.MethodName) jdk_42_method_154_code (1 : Nat) (Option.some Jvm.ClassFile.FieldType.boolean)).before args0 about1 = true := code_word (m := ⟨7, 6⟩) (meth := k7m6) (c := k7c6) (by decide +kernel) rfl rfl rfl (by decide +kernel)
set_option maxRecDepth 65536 in
theorem w_c13 : (Jvm.Cond.code ({ cls := "java/lang/StringLatin1", name := "charAt", desc := "([BI)C" } : Jvm.MethodName) jdk_43_method_2_code (2 : Nat) (Option.some Jvm.ClassFile.FieldType.char)).before args0 about1 = true := code_word (m := ⟨10, 1⟩) (meth := k10m1) (c := k10c1) (by decide +kernel) rfl rfl rfl (by decide +kernel)
set_option maxRecDepth 65536 in
theorem w_c14 : (Jvm.Cond.code ({ cls := "java/lang/String", name := "checkIndex", desc := "(II)V" } : Jvm.MethodName) jdk_42_method_155_code (2 : Nat) (Option.none : Option Jvm.ClassFile.FieldType)).before args0 about1 = true := code_word (m := ⟨7, 7⟩) (meth := k7m7) (c := k7c7) (by decide +kernel) rfl rfl rfl (by decide +kernel)
set_option maxRecDepth 65536 in
theorem w_c15 : (Jvm.Cond.code ({ cls := "jdk/internal/util/Preconditions", name := "checkIndex", desc := "(IILjava/util/function/BiFunction;)I" } : Jvm.MethodName) jdk_41_method_11_code (3 : Nat) (Option.some Jvm.ClassFile.FieldType.int)).before args0 about1 = true := code_word (m := ⟨11, 1⟩) (meth := k11m1) (c := k11c1) (by decide +kernel) rfl rfl rfl (by decide +kernel)
set_option maxRecDepth 65536 in
theorem w_c16 : (Jvm.Cond.code ({ cls := "com/example/sonde/sonde/store/CurrentVersionsKeptPinLaw", name := "step", desc := "([BII)I" } : Jvm.MethodName) method_3_code (8 : Nat) (Option.some Jvm.ClassFile.FieldType.int)).before args0 about1 = true := code_word (m := ⟨1, 2⟩) (meth := k1m2) (c := k1c2) (by decide +kernel) rfl rfl rfl (by decide +kernel)
set_option maxRecDepth 65536 in
theorem w_c17 : (Jvm.Cond.code ({ cls := "java/lang/StringUTF16", name := "toBytes", desc := "([CII)[B" } : Jvm.MethodName) jdk_52_method_14_code (5 : Nat) (Option.some (Jvm.ClassFile.FieldType.array Jvm.ClassFile.FieldType.byte))).before args0 about1 = true := code_word (m := ⟨8, 6⟩) (meth := k8m6) (c := k8c6) (by decide +kernel) rfl rfl rfl (by decide +kernel)
set_option maxRecDepth 65536 in
theorem w_c18 : (Jvm.Cond.code ({ cls := "java/lang/StringUTF16", name := "newBytesFor", desc := "(I)[B" } : Jvm.MethodName) jdk_52_method_2_code (1 : Nat) (Option.some (Jvm.ClassFile.FieldType.array Jvm.ClassFile.FieldType.byte))).before args0 about1 = true := code_word (m := ⟨8, 1⟩) (meth := k8m1) (c := k8c1) (by decide +kernel) rfl rfl rfl (by decide +kernel)
set_option maxRecDepth 65536 in
theorem w_c19 : (Jvm.Cond.code ({ cls := "java/lang/StringUTF16", name := "newBytesLength", desc := "(I)I" } : Jvm.MethodName) jdk_52_method_3_code (1 : Nat) (Option.some Jvm.ClassFile.FieldType.int)).before args0 about1 = true := code_word (m := ⟨8, 2⟩) (meth := k8m2) (c := k8c2) (by decide +kernel) rfl rfl rfl (by decide +kernel)
set_option maxRecDepth 65536 in
theorem w_c20 : (Jvm.Cond.code ({ cls := "java/lang/StringUTF16", name := "putChar", desc := "([BII)V" } : Jvm.MethodName) jdk_52_method_4_code (3 : Nat) (Option.none : Option Jvm.ClassFile.FieldType)).before args0 about1 = true := code_word (m := ⟨8, 3⟩) (meth := k8m3) (c := k8c3) (by decide +kernel) rfl rfl rfl (by decide +kernel)
set_option maxRecDepth 65536 in
theorem w_c21 : (Jvm.Cond.code ({ cls := "java/lang/StringUTF16", name := "getChar", desc := "([BI)C" } : Jvm.MethodName) jdk_52_method_5_code (2 : Nat) (Option.some Jvm.ClassFile.FieldType.char)).before args0 about1 = true := code_word (m := ⟨8, 4⟩) (meth := k8m4) (c := k8c4) (by decide +kernel) rfl rfl rfl (by decide +kernel)
set_option maxRecDepth 65536 in
theorem w_c22 : (Jvm.Cond.code ({ cls := "java/lang/StringUTF16", name := "charAt", desc := "([BI)C" } : Jvm.MethodName) jdk_52_method_83_code (2 : Nat) (Option.some Jvm.ClassFile.FieldType.char)).before args0 about1 = true := code_word (m := ⟨8, 10⟩) (meth := k8m10) (c := k8c10) (by decide +kernel) rfl rfl rfl (by decide +kernel)
set_option maxRecDepth 65536 in
theorem w_c23 : (Jvm.Cond.code ({ cls := "java/lang/StringUTF16", name := "checkIndex", desc := "(I[B)V" } : Jvm.MethodName) jdk_52_method_91_code (2 : Nat) (Option.none : Option Jvm.ClassFile.FieldType)).before args0 about1 = true := code_word (m := ⟨8, 11⟩) (meth := k8m11) (c := k8c11) (by decide +kernel) rfl rfl rfl (by decide +kernel)
set_option maxRecDepth 65536 in
theorem w_c24 : (Jvm.Cond.code ({ cls := "java/lang/StringUTF16", name := "length", desc := "([B)I" } : Jvm.MethodName) jdk_52_method_6_code (1 : Nat) (Option.some Jvm.ClassFile.FieldType.int)).before args0 about1 = true := code_word (m := ⟨8, 5⟩) (meth := k8m5) (c := k8c5) (by decide +kernel) rfl rfl rfl (by decide +kernel)
def codes1 : List Jvm.Cond := [Jvm.Cond.code x code maxLocals ret, Jvm.Cond.code ({ cls := "com/example/sonde/sonde/store/CurrentVersionsKeptPinLaw", name := "unit", desc := "(I)I" } : Jvm.MethodName) method_2_code (2 : Nat) (Option.some Jvm.ClassFile.FieldType.int), Jvm.Cond.code ({ cls := "java/lang/String", name := "<init>", desc := "([C)V" } : Jvm.MethodName) jdk_42_method_3_code (2 : Nat) (Option.none : Option Jvm.ClassFile.FieldType), Jvm.Cond.code ({ cls := "java/lang/String", name := "<init>", desc := "([CIILjava/lang/Void;)V" } : Jvm.MethodName) jdk_42_method_149_code (6 : Nat) (Option.none : Option Jvm.ClassFile.FieldType), Jvm.Cond.code ({ cls := "java/lang/Object", name := "<init>", desc := "()V" } : Jvm.MethodName) object_method_1_code (1 : Nat) (Option.none : Option Jvm.ClassFile.FieldType), Jvm.Cond.code ({ cls := "java/lang/StringUTF16", name := "compress", desc := "([CII)[B" } : Jvm.MethodName) jdk_52_method_16_code (6 : Nat) (Option.some (Jvm.ClassFile.FieldType.array Jvm.ClassFile.FieldType.byte)), Jvm.Cond.code ({ cls := "java/lang/StringUTF16", name := "compress", desc := "([CI[BII)I" } : Jvm.MethodName) jdk_52_method_21_code (7 : Nat) (Option.some Jvm.ClassFile.FieldType.int), Jvm.Cond.code ({ cls := "java/lang/StringUTF16", name := "coderFromArrayLen", desc := "([BI)B" } : Jvm.MethodName) jdk_52_method_15_code (2 : Nat) (Option.some Jvm.ClassFile.FieldType.byte), Jvm.Cond.code ({ cls := "com/example/sonde/sonde/store/CurrentVersions", name := "kept", desc := "(Ljava/lang/String;)[B" } : Jvm.MethodName) prog_30_method_12_code (6 : Nat) (Option.some (Jvm.ClassFile.FieldType.array Jvm.ClassFile.FieldType.byte)), Jvm.Cond.code ({ cls := "java/lang/String", name := "length", desc := "()I" } : Jvm.MethodName) jdk_42_method_54_code (1 : Nat) (Option.some Jvm.ClassFile.FieldType.int), Jvm.Cond.code ({ cls := "java/lang/String", name := "coder", desc := "()B" } : Jvm.MethodName) jdk_42_method_152_code (1 : Nat) (Option.some Jvm.ClassFile.FieldType.byte), Jvm.Cond.code ({ cls := "java/lang/String", name := "charAt", desc := "(I)C" } : Jvm.MethodName) jdk_42_method_56_code (2 : Nat) (Option.some Jvm.ClassFile.FieldType.char), Jvm.Cond.code ({ cls := "java/lang/String", name := "isLatin1", desc := "()Z" } : Jvm.MethodName) jdk_42_method_154_code (1 : Nat) (Option.some Jvm.ClassFile.FieldType.boolean), Jvm.Cond.code ({ cls := "java/lang/StringLatin1", name := "charAt", desc := "([BI)C" } : Jvm.MethodName) jdk_43_method_2_code (2 : Nat) (Option.some Jvm.ClassFile.FieldType.char), Jvm.Cond.code ({ cls := "java/lang/String", name := "checkIndex", desc := "(II)V" } : Jvm.MethodName) jdk_42_method_155_code (2 : Nat) (Option.none : Option Jvm.ClassFile.FieldType), Jvm.Cond.code ({ cls := "jdk/internal/util/Preconditions", name := "checkIndex", desc := "(IILjava/util/function/BiFunction;)I" } : Jvm.MethodName) jdk_41_method_11_code (3 : Nat) (Option.some Jvm.ClassFile.FieldType.int), Jvm.Cond.code ({ cls := "com/example/sonde/sonde/store/CurrentVersionsKeptPinLaw", name := "step", desc := "([BII)I" } : Jvm.MethodName) method_3_code (8 : Nat) (Option.some Jvm.ClassFile.FieldType.int), Jvm.Cond.code ({ cls := "java/lang/StringUTF16", name := "toBytes", desc := "([CII)[B" } : Jvm.MethodName) jdk_52_method_14_code (5 : Nat) (Option.some (Jvm.ClassFile.FieldType.array Jvm.ClassFile.FieldType.byte)), Jvm.Cond.code ({ cls := "java/lang/StringUTF16", name := "newBytesFor", desc := "(I)[B" } : Jvm.MethodName) jdk_52_method_2_code (1 : Nat) (Option.some (Jvm.ClassFile.FieldType.array Jvm.ClassFile.FieldType.byte)), Jvm.Cond.code ({ cls := "java/lang/StringUTF16", name := "newBytesLength", desc := "(I)I" } : Jvm.MethodName) jdk_52_method_3_code (1 : Nat) (Option.some Jvm.ClassFile.FieldType.int), Jvm.Cond.code ({ cls := "java/lang/StringUTF16", name := "putChar", desc := "([BII)V" } : Jvm.MethodName) jdk_52_method_4_code (3 : Nat) (Option.none : Option Jvm.ClassFile.FieldType), Jvm.Cond.code ({ cls := "java/lang/StringUTF16", name := "getChar", desc := "([BI)C" } : Jvm.MethodName) jdk_52_method_5_code (2 : Nat) (Option.some Jvm.ClassFile.FieldType.char), Jvm.Cond.code ({ cls := "java/lang/StringUTF16", name := "charAt", desc := "([BI)C" } : Jvm.MethodName) jdk_52_method_83_code (2 : Nat) (Option.some Jvm.ClassFile.FieldType.char), Jvm.Cond.code ({ cls := "java/lang/StringUTF16", name := "checkIndex", desc := "(I[B)V" } : Jvm.MethodName) jdk_52_method_91_code (2 : Nat) (Option.none : Option Jvm.ClassFile.FieldType), Jvm.Cond.code ({ cls := "java/lang/StringUTF16", name := "length", desc := "([B)I" } : Jvm.MethodName) jdk_52_method_6_code (1 : Nat) (Option.some Jvm.ClassFile.FieldType.int)]
set_option maxRecDepth 65536 in
theorem codes_eq : words1.filter isCode = codes1 := rfl
theorem w_codes : ∀ c ∈ words1.filter isCode, c.before args0 about1 = true := by
  rw [codes_eq]
  intro c hc
  simp only [codes1, List.mem_cons, List.not_mem_nil, or_false] at hc
  rcases hc with rfl | rfl | rfl | rfl | rfl | rfl | rfl | rfl | rfl | rfl | rfl | rfl | rfl | rfl | rfl | rfl | rfl | rfl | rfl | rfl | rfl | rfl | rfl | rfl | rfl
  · exact w_c0
  · exact w_c1
  · exact w_c2
  · exact w_c3
  · exact w_c4
  · exact w_c5
  · exact w_c6
  · exact w_c7
  · exact w_c8
  · exact w_c9
  · exact w_c10
  · exact w_c11
  · exact w_c12
  · exact w_c13
  · exact w_c14
  · exact w_c15
  · exact w_c16
  · exact w_c17
  · exact w_c18
  · exact w_c19
  · exact w_c20
  · exact w_c21
  · exact w_c22
  · exact w_c23
  · exact w_c24
set_option maxRecDepth 65536 in
theorem w_t1 : (words1.take 24).all (fun c => isCode c || c.before args0 about1) = true := by decide +kernel
set_option maxRecDepth 65536 in
theorem w_t2 : ((words1.drop 24).take 24).all (fun c => isCode c || c.before args0 about1) = true := by decide +kernel
set_option maxRecDepth 65536 in
theorem w_t3 : (((words1.drop 24).drop 24).take 24).all (fun c => isCode c || c.before args0 about1) = true := by decide +kernel
set_option maxRecDepth 65536 in
theorem w_t4 : ((((words1.drop 24).drop 24).drop 24).take 24).all (fun c => isCode c || c.before args0 about1) = true := by decide +kernel
set_option maxRecDepth 65536 in
theorem w_t5 : ((((words1.drop 24).drop 24).drop 24).drop 24).all (fun c => isCode c || c.before args0 about1) = true := by decide +kernel
theorem w_tables : (allAtoms (Jvm.Cond.code x code maxLocals ret :: tables_1)).before args0 about1 = true := by
  rw [allAtoms_all]
  show words1.all (fun c => c.before args0 about1) = true
  refine all_split ?_ w_codes
  rw [← List.take_append_drop 24 words1, List.all_append, w_t1, ← List.take_append_drop 24 (words1.drop 24), List.all_append, w_t2, ← List.take_append_drop 24 ((words1.drop 24).drop 24), List.all_append, w_t3, ← List.take_append_drop 24 (((words1.drop 24).drop 24).drop 24), List.all_append, w_t4, w_t5]
  rfl
set_option maxRecDepth 65536 in
theorem w_rest : rest_1_c.before args0 about1 = true := by decide +kernel
set_option maxRecDepth 65536 in
theorem w_case : (Jvm.Cond.and given_1 narrow_1).before args0 about1 = true := by decide +kernel
set_option maxRecDepth 65536 in
theorem w_consts : constsHeld consts_1 about1 := Jvm.Lit.constsHeldB_iff.mp (by decide +kernel)
theorem w_applies : (headSpec (Jvm.Cond.code x code maxLocals ret :: tables_1) room_1).applies x e0.platform about1 = true :=
  (Spec.applies_iff w_frames).mpr ⟨w_running, w_runnable, w_alone, w_named, w_hears, w_ripe, w_room, w_tables⟩
theorem atStart : AtStart classFile x code maxLocals ret World_1 tables_1 room_1 Calls_1 rest_1 Pre_1 launch0 p0 e0 about1 theMethod args0 below0 :=
  ⟨lists_1, trivial, launch0.admits_env _ _ _, launch0.least_env, fairChoices_fair.cas, fairChoices_fair.clock, w_frames, w_args, w_heap, w_applies, ⟨w_consts, trivial⟩, w_rest, w_case⟩
end start1
theorem witness_1 : WitnessClaimed_1 := ⟨start1.p0, start1.e0, start1.about1, start1.theMethod, start1.args0, start1.below0, start1.atStart⟩
end Jvm.Pilot.@@N@@
