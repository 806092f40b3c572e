import JvmDerived
import JvmDerived.Pilot.@@N@@Statement
import JvmDerived.Pilot.@@N@@Code
set_option linter.unusedVariables false
set_option linter.unusedSimpArgs false
namespace Jvm.RoadKit
open Sem ClassFile Op Lib Jvm.Stand Jvm.Free Jvm.LawKit
section New
variable {p : Program} {l : Launch} {e : Env} {R : Room} {s : State} {m : MethodId} {args : Array Value} {below : List Frame} {meth : Method} {c : Code} {T : State} {locs : List Loc} {cells slots : Nat}
theorem retI (X : Stand p l e R s m args below meth c T locs cells slots) (hx : p.tables.exec = Jvm.exec) {pc : Nat} {Ls : Array Slot} {z : Int32} {rest : List Value} (hret : meth.sig.returnType = some .int) (hd : decode c.code pc = .ok (.ireturn, 1)) {fs : List Frame}
    (hl : ∀ (f : JFrame) (acts : List Action), f.method = m → f.locked = none → f.entered = [] → (doReturn e (T.setTop f) acts (some (.int z))).1 = T.setFrames fs) : Steps p.tables e below (T.setTop (mkF m pc Ls (.int z :: rest))) (T.setFrames fs) := by
  have hm' : T.vm.method? m = some meth := X.method'
  have hn : narrow .int (.int z) = .int z := rfl
  show Steps p.tables e below (T.setTop { method := m, pc := pc, locals := Ls, stack := _ :: rest, locked := none }) _
  jvm_step X.here [X.here.top, hx, hd, hm', hret, hn]
  first | (intro acts; rw [hl _ acts rfl rfl rfl]) | rw [hl _ _ rfl rfl rfl]
  exact Steps.refl _
end New
end Jvm.RoadKit
namespace Jvm.Pilot.@@N@@
open Jvm Jvm.ClassFile Sem Op Lib Jvm.Free Jvm.Stand Jvm.LawKit Jvm.RoadKit Bundle Jvm.Pilot.@@N@@.Jvm.D
/-! the comparisons, as plain decisions -/
theorem own_w {a0 : Array Value} {Z : State} (hw : ∀ d ∈ tables_1, d.before a0 Z = true) (i : Nat) {d : Jvm.Cond} (h : tables_1[i]? = some d) : d.before a0 Z = true := hw d (List.mem_of_getElem? h)
theorem own_ilt (x y : Int32) : if_icmp.holds .lt x y = decide (x < y) := rfl
theorem own_ile (x y : Int32) : if_icmp.holds .le x y = decide (x ≤ y) := rfl
theorem own_igt (x y : Int32) : if_icmp.holds .gt x y = decide (y < x) := rfl
theorem own_ige (x y : Int32) : if_icmp.holds .ge x y = decide (y ≤ x) := rfl
theorem own_ieq (x y : Int32) : if_icmp.holds .eq x y = decide (x = y) := rfl
theorem own_ine (x y : Int32) : if_icmp.holds .ne x y = decide (x ≠ y) := by
  by_cases h : x = y
  · rw [(teq h).2]; exact (decide_eq_false (not_not_intro h)).symm
  · rw [(feq h).2]; exact (decide_eq_true h).symm
theorem own_smono {s : State} {vm : Vm} {n n' : Nat} (h : s.Since vm n) (hn : n ≤ n') : s.Since vm n' := ⟨h.1, fun j p hj hp => ⟨(h.2 j p hj hp).1, Nat.lt_of_lt_of_le (h.2 j p hj hp).2 hn⟩⟩
theorem own_d0 : FP.dconst0 = FP.l2d (0 : Int64) := by rw [l2d_zero]; rfl
theorem own_lgt (x y : Int64) : ifCond.holds .gt (lcmpW x y) = decide (y < x) := by rw [if0, own_igt]; exact decide_eq_decide.mpr (lw_gt x y)
theorem own_llt (x y : Int64) : ifCond.holds .lt (lcmpW x y) = decide (x < y) := by rw [if0, own_ilt]; exact decide_eq_decide.mpr (lw_lt x y)
theorem own_leq (x y : Int64) : ifCond.holds .eq (lcmpW x y) = decide (x = y) := by rw [if0, own_ieq]; exact decide_eq_decide.mpr (lw_eq x y)
theorem own_lne (x y : Int64) : ifCond.holds .ne (lcmpW x y) = decide (x ≠ y) := by rw [if0, own_ine]; exact decide_eq_decide.mpr (not_congr (lw_eq x y))
theorem own_lle (x y : Int64) : ifCond.holds .le (lcmpW x y) = decide (x ≤ y) := by rw [if0, own_ile]; exact decide_eq_decide.mpr (by rw [← Int32.not_lt, lw_gt, Int64.not_lt])
theorem own_lge (x y : Int64) : ifCond.holds .ge (lcmpW x y) = decide (y ≤ x) := by rw [if0, own_ige]; exact decide_eq_decide.mpr (by rw [← Int32.not_lt, lw_lt, Int64.not_lt])
theorem own_nn {x : Int32} (h : ¬ x < 0) : ifCond.holds .lt x = false := by rw [if0, own_ilt]; exact decide_eq_false h
theorem own_lt {x y : Int32} (h : x < y) : if_icmp.holds .lt x y = true := by rw [own_ilt]; exact decide_eq_true h
theorem own_nz {x : Int32} (h : ¬ x = 0) : ifCond.holds .eq x = false := by rw [if0, own_ieq]; exact decide_eq_false h
def own_EL : List (String × Nat) := [("com/example/guided_sim/guidedsim/model/RelationOppositePinLaw", 14), ("com/example/guided_sim/guidedsim/model/RelationOppositePinLaw", 22), ("com/example/guided_sim/guidedsim/model/Relation", 54), ("com/example/guided_sim/guidedsim/model/Relation", 62)]
theorem d3_0 : decode jdk_43_method_13_code 0 = .ok (.aload_n 0, 1) := by decide +kernel
theorem d3_1 : decode jdk_43_method_13_code 1 = .ok (.arraylength, 1) := by decide +kernel
theorem d3_2 : decode jdk_43_method_13_code 2 = .ok (.aload_n 1, 1) := by decide +kernel
theorem d3_3 : decode jdk_43_method_13_code 3 = .ok (.arraylength, 1) := by decide +kernel
theorem d3_4 : decode jdk_43_method_13_code 4 = .ok (.if_icmp .ne 30, 3) := by decide +kernel
theorem d3_7 : decode jdk_43_method_13_code 7 = .ok (.iconst 0, 1) := by decide +kernel
theorem d3_8 : decode jdk_43_method_13_code 8 = .ok (.istore_n 2, 1) := by decide +kernel
theorem d3_9 : decode jdk_43_method_13_code 9 = .ok (.iload_n 2, 1) := by decide +kernel
theorem d3_10 : decode jdk_43_method_13_code 10 = .ok (.aload_n 0, 1) := by decide +kernel
theorem d3_11 : decode jdk_43_method_13_code 11 = .ok (.arraylength, 1) := by decide +kernel
theorem d3_12 : decode jdk_43_method_13_code 12 = .ok (.if_icmp .ge 20, 3) := by decide +kernel
theorem d3_15 : decode jdk_43_method_13_code 15 = .ok (.aload_n 0, 1) := by decide +kernel
theorem d3_16 : decode jdk_43_method_13_code 16 = .ok (.iload_n 2, 1) := by decide +kernel
theorem d3_17 : decode jdk_43_method_13_code 17 = .ok (.baload, 1) := by decide +kernel
theorem d3_18 : decode jdk_43_method_13_code 18 = .ok (.aload_n 1, 1) := by decide +kernel
theorem d3_19 : decode jdk_43_method_13_code 19 = .ok (.iload_n 2, 1) := by decide +kernel
theorem d3_20 : decode jdk_43_method_13_code 20 = .ok (.baload, 1) := by decide +kernel
theorem d3_21 : decode jdk_43_method_13_code 21 = .ok (.if_icmp .eq 5, 3) := by decide +kernel
theorem d3_26 : decode jdk_43_method_13_code 26 = .ok (.iinc 2 1, 3) := by decide +kernel
theorem d3_29 : decode jdk_43_method_13_code 29 = .ok (.goto (-20), 3) := by decide +kernel
theorem d3_32 : decode jdk_43_method_13_code 32 = .ok (.iconst 1, 1) := by decide +kernel
theorem d3_33 : decode jdk_43_method_13_code 33 = .ok (.ireturn, 1) := by decide +kernel
theorem ef_rm_le_ss (m : MethodId) (x0 : Addr) (x1 : Addr) : entryFrame m #[(.ref x0), (.ref x1)] 3 = mkF m 0 #[.val (.ref x0), .val (.ref x1), .unset] [] := by first | (simp [entryFrame, mkF, argsToLocals, Value.category]; done) | rfl
def Q_rm_le_ss (Z : State) (u1 : Addr) (u2 : Addr) (k1 : ClassId) (k2 : ClassId) (h0 : Heap) (n0 : Nat) (v : Option Value) (h : Heap) (L : List Loc) : Prop := v = some (.int (1 : Int32)) ∧ Fr n0 L ∧ h = h0
theorem pn_173701 : plainName "java/lang/StringLatin1" = true := by first | (simp [plainName, overriddenIn]; done) | decide +kernel
set_option maxRecDepth 65536 in
set_option maxHeartbeats 40000000 in
theorem rm_le_ss (l : Launch) (Z : State) (a0 : Array Value) (hw : ∀ d ∈ tables_1, d.before a0 Z = true) (ws : List Jvm.Cond) (u1 : Addr) (u2 : Addr) (k1 : ClassId) (k2 : ClassId) (h0 : Heap) (n0 : Nat) (Z0 : n0 ≤ h0.size) (V1 : Arv Z h0 u1 k1 .byte (7 : Int32) [(.int (115 : Int32)), (.int (117 : Int32)), (.int (99 : Int32)), (.int (99 : Int32)), (.int (101 : Int32)), (.int (115 : Int32)), (.int (115 : Int32))] (.int (0 : Int32))) (V2 : Arv Z h0 u2 k2 .byte (7 : Int32) [(.int (115 : Int32)), (.int (117 : Int32)), (.int (99 : Int32)), (.int (99 : Int32)), (.int (101 : Int32)), (.int (115 : Int32)), (.int (115 : Int32))] (.int (0 : Int32))) :
    MetFree l (⟨"java/lang/StringLatin1", "equals", "([B[B)Z"⟩ : MethodName) (head1 (Jvm.Cond.code (⟨"java/lang/StringLatin1", "equals", "([B[B)Z"⟩ : MethodName) jdk_43_method_13_code 3 (some .boolean) :: ws) ({ frames := 0, cells := 0, slots := 0, locals := 0 } : Room)) (fun a U => a = #[(.ref u1), (.ref u2)] ∧ Z.Warmed39 U.vm ∧ U.heap = h0) (fun _ _ _ _ _ => True) (fun _ U o U' => ∃ v L, o = .returned v ∧ Q_rm_le_ss Z u1 u2 k1 k2 h0 n0 v U'.heap L ∧ FrameEnd U o U' L ({ frames := 0, cells := 0, slots := 0, locals := 0 } : Room).cells ({ frames := 0, cells := 0, slots := 0, locals := 0 } : Room).slots) := by
  refine MetFree.of_bodySF (plainFor_of_name pn_173701) hisR ?_
  intro p e s m args below meth c s₁ Bd hml0 hP hK
  obtain ⟨rfl, hZ, hh⟩ := hP
  have hx := Bd.exec
  have hby := Bd.bytes
  have hml : c.maxLocals = 3 := hml0
  have hown : s.vm.findClass "java/lang/StringLatin1" = some m.cls := findClass_of_methodNamed Bd.named
  have hnm := (name_of_methodNamed Bd.named Bd.method).1
  have X0 : Stand p l e ({ frames := 0, cells := 0, slots := 0, locals := 0 } : Room) s m #[(.ref u1), (.ref u2)] below meth c s₁ [] 0 0 := Stand.of_body Bd
  have e0 : s₁.heap = h0 := by rw [← hh, Bd.state]; rfl
  have N0 := Fr.nil n0
  have pre0 : ∀ t, Steps p.tables e below (s₁.setTop (mkF m 0 #[.val (.ref u1), .val (.ref u2), .unset] [])) t → Steps p.tables e below (s₁.setTop (entryFrame m #[(.ref u1), (.ref u2)] 3)) t := fun t k => castTop (ef_rm_le_ss m u1 u2) k
  obtain ⟨cl1, Ar1, -, S1, M1, H1, -⟩ := id V1
  obtain ⟨cl2, Ar2, -, S2, M2, H2, -⟩ := id V2
  obtain ⟨fs, hr, hrun, hended, hW, hsame⟩ := X0.leave (v := some (.int (1 : Int32))) (fun h => by rw [Bd.returns] at h; cases h)
  refine ⟨_, _, pre0 _ ?_, hrun, hended, _, _, rfl, ?_, ⟨_, rfl⟩, hW, hsame.mono (by decide) (by decide)⟩
  · show Steps p.tables e below (s₁.setTop (mkF m 0 #[.val (.ref u1), .val (.ref u2), .unset] [])) _
    refine XS.aloadN X0.here hx rfl (hb hby d3_0) rfl rfl ?_
    show Steps p.tables e below (s₁.setTop (mkF m 1 #[.val (.ref u1), .val (.ref u2), .unset] [(.ref u1)])) _
    refine X0.arraylength hx (by rw [e0]; exact Ar1.1) (State.isArrayOf_alike hZ.alike Ar1.2.1) (g := (mkF m 1 #[.val (.ref u1), .val (.ref u2), .unset] [(.ref u1)])) rfl rfl (hb hby d3_1) _ ?_
    rw [len_of S1 M1]
    show Steps p.tables e below (s₁.setTop (mkF m 2 #[.val (.ref u1), .val (.ref u2), .unset] [(.int (7 : Int32))])) _
    refine XS.aloadN X0.here hx rfl (hb hby d3_2) rfl rfl ?_
    show Steps p.tables e below (s₁.setTop (mkF m 3 #[.val (.ref u1), .val (.ref u2), .unset] [(.ref u2), (.int (7 : Int32))])) _
    refine X0.arraylength hx (by rw [e0]; exact Ar2.1) (State.isArrayOf_alike hZ.alike Ar2.2.1) (g := (mkF m 3 #[.val (.ref u1), .val (.ref u2), .unset] [(.ref u2), (.int (7 : Int32))])) rfl rfl (hb hby d3_3) _ ?_
    rw [len_of S2 M2]
    show Steps p.tables e below (s₁.setTop (mkF m 4 #[.val (.ref u1), .val (.ref u2), .unset] [(.int (7 : Int32)), (.int (7 : Int32))])) _
    refine XS.icmpNo X0.here hx rfl (hb hby d3_4) rfl (by decide) ?_
    show Steps p.tables e below (s₁.setTop (mkF m 7 #[.val (.ref u1), .val (.ref u2), .unset] [])) _
    refine XS.iconst X0.here hx rfl (hb hby d3_7) ?_
    show Steps p.tables e below (s₁.setTop (mkF m 8 #[.val (.ref u1), .val (.ref u2), .unset] [(.int (0 : Int32))])) _
    refine XS.istoreN X0.here hx rfl (hb hby d3_8) rfl (l' := #[.val (.ref u1), .val (.ref u2), .val (.int (0 : Int32))]) rfl ?_
    show Steps p.tables e below (s₁.setTop (mkF m 9 #[.val (.ref u1), .val (.ref u2), .val (.int (0 : Int32))] [])) _
    refine XS.iloadN X0.here hx rfl (hb hby d3_9) rfl ?_
    show Steps p.tables e below (s₁.setTop (mkF m 10 #[.val (.ref u1), .val (.ref u2), .val (.int (0 : Int32))] [(.int (0 : Int32))])) _
    refine XS.aloadN X0.here hx rfl (hb hby d3_10) rfl rfl ?_
    show Steps p.tables e below (s₁.setTop (mkF m 11 #[.val (.ref u1), .val (.ref u2), .val (.int (0 : Int32))] [(.ref u1), (.int (0 : Int32))])) _
    refine X0.arraylength hx (by rw [e0]; exact Ar1.1) (State.isArrayOf_alike hZ.alike Ar1.2.1) (g := (mkF m 11 #[.val (.ref u1), .val (.ref u2), .val (.int (0 : Int32))] [(.ref u1), (.int (0 : Int32))])) rfl rfl (hb hby d3_11) _ ?_
    rw [len_of S1 M1]
    show Steps p.tables e below (s₁.setTop (mkF m 12 #[.val (.ref u1), .val (.ref u2), .val (.int (0 : Int32))] [(.int (7 : Int32)), (.int (0 : Int32))])) _
    refine XS.icmpNo X0.here hx rfl (hb hby d3_12) rfl (by decide) ?_
    show Steps p.tables e below (s₁.setTop (mkF m 15 #[.val (.ref u1), .val (.ref u2), .val (.int (0 : Int32))] [])) _
    refine XS.aloadN X0.here hx rfl (hb hby d3_15) rfl rfl ?_
    show Steps p.tables e below (s₁.setTop (mkF m 16 #[.val (.ref u1), .val (.ref u2), .val (.int (0 : Int32))] [(.ref u1)])) _
    refine XS.iloadN X0.here hx rfl (hb hby d3_16) rfl ?_
    show Steps p.tables e below (s₁.setTop (mkF m 17 #[.val (.ref u1), .val (.ref u2), .val (.int (0 : Int32))] [(.int (0 : Int32)), (.ref u1)])) _
    refine X0.baloadBytes hx (j := (0 : Int32)) (v := (.int (115 : Int32))) (by rw [e0]; exact Ar1.1) (State.isArrayOf_alike hZ.alike Ar1.2.1) Ar1.2.2 (inb_of S1 ⟨by decide, by decide⟩) (H1.at (inb_of S1 ⟨by decide, by decide⟩) rfl) (g := (mkF m 17 #[.val (.ref u1), .val (.ref u2), .val (.int (0 : Int32))] [(.int (0 : Int32)), (.ref u1)])) rfl rfl (hb hby d3_17) _ ?_
    show Steps p.tables e below (s₁.setTop (mkF m 18 #[.val (.ref u1), .val (.ref u2), .val (.int (0 : Int32))] [(.int (115 : Int32))])) _
    refine XS.aloadN X0.here hx rfl (hb hby d3_18) rfl rfl ?_
    show Steps p.tables e below (s₁.setTop (mkF m 19 #[.val (.ref u1), .val (.ref u2), .val (.int (0 : Int32))] [(.ref u2), (.int (115 : Int32))])) _
    refine XS.iloadN X0.here hx rfl (hb hby d3_19) rfl ?_
    show Steps p.tables e below (s₁.setTop (mkF m 20 #[.val (.ref u1), .val (.ref u2), .val (.int (0 : Int32))] [(.int (0 : Int32)), (.ref u2), (.int (115 : Int32))])) _
    refine X0.baloadBytes hx (j := (0 : Int32)) (v := (.int (115 : Int32))) (by rw [e0]; exact Ar2.1) (State.isArrayOf_alike hZ.alike Ar2.2.1) Ar2.2.2 (inb_of S2 ⟨by decide, by decide⟩) (H2.at (inb_of S2 ⟨by decide, by decide⟩) rfl) (g := (mkF m 20 #[.val (.ref u1), .val (.ref u2), .val (.int (0 : Int32))] [(.int (0 : Int32)), (.ref u2), (.int (115 : Int32))])) rfl rfl (hb hby d3_20) _ ?_
    show Steps p.tables e below (s₁.setTop (mkF m 21 #[.val (.ref u1), .val (.ref u2), .val (.int (0 : Int32))] [(.int (115 : Int32)), (.int (115 : Int32))])) _
    refine XS.icmpYes X0.here hx rfl (pc0 := 21) (pc' := 26) rfl (hb hby d3_21) rfl (by decide) (by decide) (by decide) ?_
    show Steps p.tables e below (s₁.setTop (mkF m 26 #[.val (.ref u1), .val (.ref u2), .val (.int (0 : Int32))] [])) _
    refine XS.iinc X0.here hx rfl (hb hby d3_26) rfl (l' := #[.val (.ref u1), .val (.ref u2), .val (.int (1 : Int32))]) rfl ?_
    show Steps p.tables e below (s₁.setTop (mkF m 29 #[.val (.ref u1), .val (.ref u2), .val (.int (1 : Int32))] [])) _
    refine XS.goto X0.here hx rfl (pc0 := 29) (pc' := 9) rfl (hb hby d3_29) (by decide) (by decide) ?_
    show Steps p.tables e below (s₁.setTop (mkF m 9 #[.val (.ref u1), .val (.ref u2), .val (.int (1 : Int32))] [])) _
    refine XS.iloadN X0.here hx rfl (hb hby d3_9) rfl ?_
    show Steps p.tables e below (s₁.setTop (mkF m 10 #[.val (.ref u1), .val (.ref u2), .val (.int (1 : Int32))] [(.int (1 : Int32))])) _
    refine XS.aloadN X0.here hx rfl (hb hby d3_10) rfl rfl ?_
    show Steps p.tables e below (s₁.setTop (mkF m 11 #[.val (.ref u1), .val (.ref u2), .val (.int (1 : Int32))] [(.ref u1), (.int (1 : Int32))])) _
    refine X0.arraylength hx (by rw [e0]; exact Ar1.1) (State.isArrayOf_alike hZ.alike Ar1.2.1) (g := (mkF m 11 #[.val (.ref u1), .val (.ref u2), .val (.int (1 : Int32))] [(.ref u1), (.int (1 : Int32))])) rfl rfl (hb hby d3_11) _ ?_
    rw [len_of S1 M1]
    show Steps p.tables e below (s₁.setTop (mkF m 12 #[.val (.ref u1), .val (.ref u2), .val (.int (1 : Int32))] [(.int (7 : Int32)), (.int (1 : Int32))])) _
    refine XS.icmpNo X0.here hx rfl (hb hby d3_12) rfl (by decide) ?_
    show Steps p.tables e below (s₁.setTop (mkF m 15 #[.val (.ref u1), .val (.ref u2), .val (.int (1 : Int32))] [])) _
    refine XS.aloadN X0.here hx rfl (hb hby d3_15) rfl rfl ?_
    show Steps p.tables e below (s₁.setTop (mkF m 16 #[.val (.ref u1), .val (.ref u2), .val (.int (1 : Int32))] [(.ref u1)])) _
    refine XS.iloadN X0.here hx rfl (hb hby d3_16) rfl ?_
    show Steps p.tables e below (s₁.setTop (mkF m 17 #[.val (.ref u1), .val (.ref u2), .val (.int (1 : Int32))] [(.int (1 : Int32)), (.ref u1)])) _
    refine X0.baloadBytes hx (j := (1 : Int32)) (v := (.int (117 : Int32))) (by rw [e0]; exact Ar1.1) (State.isArrayOf_alike hZ.alike Ar1.2.1) Ar1.2.2 (inb_of S1 ⟨by decide, by decide⟩) (H1.at (inb_of S1 ⟨by decide, by decide⟩) rfl) (g := (mkF m 17 #[.val (.ref u1), .val (.ref u2), .val (.int (1 : Int32))] [(.int (1 : Int32)), (.ref u1)])) rfl rfl (hb hby d3_17) _ ?_
    show Steps p.tables e below (s₁.setTop (mkF m 18 #[.val (.ref u1), .val (.ref u2), .val (.int (1 : Int32))] [(.int (117 : Int32))])) _
    refine XS.aloadN X0.here hx rfl (hb hby d3_18) rfl rfl ?_
    show Steps p.tables e below (s₁.setTop (mkF m 19 #[.val (.ref u1), .val (.ref u2), .val (.int (1 : Int32))] [(.ref u2), (.int (117 : Int32))])) _
    refine XS.iloadN X0.here hx rfl (hb hby d3_19) rfl ?_
    show Steps p.tables e below (s₁.setTop (mkF m 20 #[.val (.ref u1), .val (.ref u2), .val (.int (1 : Int32))] [(.int (1 : Int32)), (.ref u2), (.int (117 : Int32))])) _
    refine X0.baloadBytes hx (j := (1 : Int32)) (v := (.int (117 : Int32))) (by rw [e0]; exact Ar2.1) (State.isArrayOf_alike hZ.alike Ar2.2.1) Ar2.2.2 (inb_of S2 ⟨by decide, by decide⟩) (H2.at (inb_of S2 ⟨by decide, by decide⟩) rfl) (g := (mkF m 20 #[.val (.ref u1), .val (.ref u2), .val (.int (1 : Int32))] [(.int (1 : Int32)), (.ref u2), (.int (117 : Int32))])) rfl rfl (hb hby d3_20) _ ?_
    show Steps p.tables e below (s₁.setTop (mkF m 21 #[.val (.ref u1), .val (.ref u2), .val (.int (1 : Int32))] [(.int (117 : Int32)), (.int (117 : Int32))])) _
    refine XS.icmpYes X0.here hx rfl (pc0 := 21) (pc' := 26) rfl (hb hby d3_21) rfl (by decide) (by decide) (by decide) ?_
    show Steps p.tables e below (s₁.setTop (mkF m 26 #[.val (.ref u1), .val (.ref u2), .val (.int (1 : Int32))] [])) _
    refine XS.iinc X0.here hx rfl (hb hby d3_26) rfl (l' := #[.val (.ref u1), .val (.ref u2), .val (.int (2 : Int32))]) rfl ?_
    show Steps p.tables e below (s₁.setTop (mkF m 29 #[.val (.ref u1), .val (.ref u2), .val (.int (2 : Int32))] [])) _
    refine XS.goto X0.here hx rfl (pc0 := 29) (pc' := 9) rfl (hb hby d3_29) (by decide) (by decide) ?_
    show Steps p.tables e below (s₁.setTop (mkF m 9 #[.val (.ref u1), .val (.ref u2), .val (.int (2 : Int32))] [])) _
    refine XS.iloadN X0.here hx rfl (hb hby d3_9) rfl ?_
    show Steps p.tables e below (s₁.setTop (mkF m 10 #[.val (.ref u1), .val (.ref u2), .val (.int (2 : Int32))] [(.int (2 : Int32))])) _
    refine XS.aloadN X0.here hx rfl (hb hby d3_10) rfl rfl ?_
    show Steps p.tables e below (s₁.setTop (mkF m 11 #[.val (.ref u1), .val (.ref u2), .val (.int (2 : Int32))] [(.ref u1), (.int (2 : Int32))])) _
    refine X0.arraylength hx (by rw [e0]; exact Ar1.1) (State.isArrayOf_alike hZ.alike Ar1.2.1) (g := (mkF m 11 #[.val (.ref u1), .val (.ref u2), .val (.int (2 : Int32))] [(.ref u1), (.int (2 : Int32))])) rfl rfl (hb hby d3_11) _ ?_
    rw [len_of S1 M1]
    show Steps p.tables e below (s₁.setTop (mkF m 12 #[.val (.ref u1), .val (.ref u2), .val (.int (2 : Int32))] [(.int (7 : Int32)), (.int (2 : Int32))])) _
    refine XS.icmpNo X0.here hx rfl (hb hby d3_12) rfl (by decide) ?_
    show Steps p.tables e below (s₁.setTop (mkF m 15 #[.val (.ref u1), .val (.ref u2), .val (.int (2 : Int32))] [])) _
    refine XS.aloadN X0.here hx rfl (hb hby d3_15) rfl rfl ?_
    show Steps p.tables e below (s₁.setTop (mkF m 16 #[.val (.ref u1), .val (.ref u2), .val (.int (2 : Int32))] [(.ref u1)])) _
    refine XS.iloadN X0.here hx rfl (hb hby d3_16) rfl ?_
    show Steps p.tables e below (s₁.setTop (mkF m 17 #[.val (.ref u1), .val (.ref u2), .val (.int (2 : Int32))] [(.int (2 : Int32)), (.ref u1)])) _
    refine X0.baloadBytes hx (j := (2 : Int32)) (v := (.int (99 : Int32))) (by rw [e0]; exact Ar1.1) (State.isArrayOf_alike hZ.alike Ar1.2.1) Ar1.2.2 (inb_of S1 ⟨by decide, by decide⟩) (H1.at (inb_of S1 ⟨by decide, by decide⟩) rfl) (g := (mkF m 17 #[.val (.ref u1), .val (.ref u2), .val (.int (2 : Int32))] [(.int (2 : Int32)), (.ref u1)])) rfl rfl (hb hby d3_17) _ ?_
    show Steps p.tables e below (s₁.setTop (mkF m 18 #[.val (.ref u1), .val (.ref u2), .val (.int (2 : Int32))] [(.int (99 : Int32))])) _
    refine XS.aloadN X0.here hx rfl (hb hby d3_18) rfl rfl ?_
    show Steps p.tables e below (s₁.setTop (mkF m 19 #[.val (.ref u1), .val (.ref u2), .val (.int (2 : Int32))] [(.ref u2), (.int (99 : Int32))])) _
    refine XS.iloadN X0.here hx rfl (hb hby d3_19) rfl ?_
    show Steps p.tables e below (s₁.setTop (mkF m 20 #[.val (.ref u1), .val (.ref u2), .val (.int (2 : Int32))] [(.int (2 : Int32)), (.ref u2), (.int (99 : Int32))])) _
    refine X0.baloadBytes hx (j := (2 : Int32)) (v := (.int (99 : Int32))) (by rw [e0]; exact Ar2.1) (State.isArrayOf_alike hZ.alike Ar2.2.1) Ar2.2.2 (inb_of S2 ⟨by decide, by decide⟩) (H2.at (inb_of S2 ⟨by decide, by decide⟩) rfl) (g := (mkF m 20 #[.val (.ref u1), .val (.ref u2), .val (.int (2 : Int32))] [(.int (2 : Int32)), (.ref u2), (.int (99 : Int32))])) rfl rfl (hb hby d3_20) _ ?_
    show Steps p.tables e below (s₁.setTop (mkF m 21 #[.val (.ref u1), .val (.ref u2), .val (.int (2 : Int32))] [(.int (99 : Int32)), (.int (99 : Int32))])) _
    refine XS.icmpYes X0.here hx rfl (pc0 := 21) (pc' := 26) rfl (hb hby d3_21) rfl (by decide) (by decide) (by decide) ?_
    show Steps p.tables e below (s₁.setTop (mkF m 26 #[.val (.ref u1), .val (.ref u2), .val (.int (2 : Int32))] [])) _
    refine XS.iinc X0.here hx rfl (hb hby d3_26) rfl (l' := #[.val (.ref u1), .val (.ref u2), .val (.int (3 : Int32))]) rfl ?_
    show Steps p.tables e below (s₁.setTop (mkF m 29 #[.val (.ref u1), .val (.ref u2), .val (.int (3 : Int32))] [])) _
    refine XS.goto X0.here hx rfl (pc0 := 29) (pc' := 9) rfl (hb hby d3_29) (by decide) (by decide) ?_
    show Steps p.tables e below (s₁.setTop (mkF m 9 #[.val (.ref u1), .val (.ref u2), .val (.int (3 : Int32))] [])) _
    refine XS.iloadN X0.here hx rfl (hb hby d3_9) rfl ?_
    show Steps p.tables e below (s₁.setTop (mkF m 10 #[.val (.ref u1), .val (.ref u2), .val (.int (3 : Int32))] [(.int (3 : Int32))])) _
    refine XS.aloadN X0.here hx rfl (hb hby d3_10) rfl rfl ?_
    show Steps p.tables e below (s₁.setTop (mkF m 11 #[.val (.ref u1), .val (.ref u2), .val (.int (3 : Int32))] [(.ref u1), (.int (3 : Int32))])) _
    refine X0.arraylength hx (by rw [e0]; exact Ar1.1) (State.isArrayOf_alike hZ.alike Ar1.2.1) (g := (mkF m 11 #[.val (.ref u1), .val (.ref u2), .val (.int (3 : Int32))] [(.ref u1), (.int (3 : Int32))])) rfl rfl (hb hby d3_11) _ ?_
    rw [len_of S1 M1]
    show Steps p.tables e below (s₁.setTop (mkF m 12 #[.val (.ref u1), .val (.ref u2), .val (.int (3 : Int32))] [(.int (7 : Int32)), (.int (3 : Int32))])) _
    refine XS.icmpNo X0.here hx rfl (hb hby d3_12) rfl (by decide) ?_
    show Steps p.tables e below (s₁.setTop (mkF m 15 #[.val (.ref u1), .val (.ref u2), .val (.int (3 : Int32))] [])) _
    refine XS.aloadN X0.here hx rfl (hb hby d3_15) rfl rfl ?_
    show Steps p.tables e below (s₁.setTop (mkF m 16 #[.val (.ref u1), .val (.ref u2), .val (.int (3 : Int32))] [(.ref u1)])) _
    refine XS.iloadN X0.here hx rfl (hb hby d3_16) rfl ?_
    show Steps p.tables e below (s₁.setTop (mkF m 17 #[.val (.ref u1), .val (.ref u2), .val (.int (3 : Int32))] [(.int (3 : Int32)), (.ref u1)])) _
    refine X0.baloadBytes hx (j := (3 : Int32)) (v := (.int (99 : Int32))) (by rw [e0]; exact Ar1.1) (State.isArrayOf_alike hZ.alike Ar1.2.1) Ar1.2.2 (inb_of S1 ⟨by decide, by decide⟩) (H1.at (inb_of S1 ⟨by decide, by decide⟩) rfl) (g := (mkF m 17 #[.val (.ref u1), .val (.ref u2), .val (.int (3 : Int32))] [(.int (3 : Int32)), (.ref u1)])) rfl rfl (hb hby d3_17) _ ?_
    show Steps p.tables e below (s₁.setTop (mkF m 18 #[.val (.ref u1), .val (.ref u2), .val (.int (3 : Int32))] [(.int (99 : Int32))])) _
    refine XS.aloadN X0.here hx rfl (hb hby d3_18) rfl rfl ?_
    show Steps p.tables e below (s₁.setTop (mkF m 19 #[.val (.ref u1), .val (.ref u2), .val (.int (3 : Int32))] [(.ref u2), (.int (99 : Int32))])) _
    refine XS.iloadN X0.here hx rfl (hb hby d3_19) rfl ?_
    show Steps p.tables e below (s₁.setTop (mkF m 20 #[.val (.ref u1), .val (.ref u2), .val (.int (3 : Int32))] [(.int (3 : Int32)), (.ref u2), (.int (99 : Int32))])) _
    refine X0.baloadBytes hx (j := (3 : Int32)) (v := (.int (99 : Int32))) (by rw [e0]; exact Ar2.1) (State.isArrayOf_alike hZ.alike Ar2.2.1) Ar2.2.2 (inb_of S2 ⟨by decide, by decide⟩) (H2.at (inb_of S2 ⟨by decide, by decide⟩) rfl) (g := (mkF m 20 #[.val (.ref u1), .val (.ref u2), .val (.int (3 : Int32))] [(.int (3 : Int32)), (.ref u2), (.int (99 : Int32))])) rfl rfl (hb hby d3_20) _ ?_
    show Steps p.tables e below (s₁.setTop (mkF m 21 #[.val (.ref u1), .val (.ref u2), .val (.int (3 : Int32))] [(.int (99 : Int32)), (.int (99 : Int32))])) _
    refine XS.icmpYes X0.here hx rfl (pc0 := 21) (pc' := 26) rfl (hb hby d3_21) rfl (by decide) (by decide) (by decide) ?_
    show Steps p.tables e below (s₁.setTop (mkF m 26 #[.val (.ref u1), .val (.ref u2), .val (.int (3 : Int32))] [])) _
    refine XS.iinc X0.here hx rfl (hb hby d3_26) rfl (l' := #[.val (.ref u1), .val (.ref u2), .val (.int (4 : Int32))]) rfl ?_
    show Steps p.tables e below (s₁.setTop (mkF m 29 #[.val (.ref u1), .val (.ref u2), .val (.int (4 : Int32))] [])) _
    refine XS.goto X0.here hx rfl (pc0 := 29) (pc' := 9) rfl (hb hby d3_29) (by decide) (by decide) ?_
    show Steps p.tables e below (s₁.setTop (mkF m 9 #[.val (.ref u1), .val (.ref u2), .val (.int (4 : Int32))] [])) _
    refine XS.iloadN X0.here hx rfl (hb hby d3_9) rfl ?_
    show Steps p.tables e below (s₁.setTop (mkF m 10 #[.val (.ref u1), .val (.ref u2), .val (.int (4 : Int32))] [(.int (4 : Int32))])) _
    refine XS.aloadN X0.here hx rfl (hb hby d3_10) rfl rfl ?_
    show Steps p.tables e below (s₁.setTop (mkF m 11 #[.val (.ref u1), .val (.ref u2), .val (.int (4 : Int32))] [(.ref u1), (.int (4 : Int32))])) _
    refine X0.arraylength hx (by rw [e0]; exact Ar1.1) (State.isArrayOf_alike hZ.alike Ar1.2.1) (g := (mkF m 11 #[.val (.ref u1), .val (.ref u2), .val (.int (4 : Int32))] [(.ref u1), (.int (4 : Int32))])) rfl rfl (hb hby d3_11) _ ?_
    rw [len_of S1 M1]
    show Steps p.tables e below (s₁.setTop (mkF m 12 #[.val (.ref u1), .val (.ref u2), .val (.int (4 : Int32))] [(.int (7 : Int32)), (.int (4 : Int32))])) _
    refine XS.icmpNo X0.here hx rfl (hb hby d3_12) rfl (by decide) ?_
    show Steps p.tables e below (s₁.setTop (mkF m 15 #[.val (.ref u1), .val (.ref u2), .val (.int (4 : Int32))] [])) _
    refine XS.aloadN X0.here hx rfl (hb hby d3_15) rfl rfl ?_
    show Steps p.tables e below (s₁.setTop (mkF m 16 #[.val (.ref u1), .val (.ref u2), .val (.int (4 : Int32))] [(.ref u1)])) _
    refine XS.iloadN X0.here hx rfl (hb hby d3_16) rfl ?_
    show Steps p.tables e below (s₁.setTop (mkF m 17 #[.val (.ref u1), .val (.ref u2), .val (.int (4 : Int32))] [(.int (4 : Int32)), (.ref u1)])) _
    refine X0.baloadBytes hx (j := (4 : Int32)) (v := (.int (101 : Int32))) (by rw [e0]; exact Ar1.1) (State.isArrayOf_alike hZ.alike Ar1.2.1) Ar1.2.2 (inb_of S1 ⟨by decide, by decide⟩) (H1.at (inb_of S1 ⟨by decide, by decide⟩) rfl) (g := (mkF m 17 #[.val (.ref u1), .val (.ref u2), .val (.int (4 : Int32))] [(.int (4 : Int32)), (.ref u1)])) rfl rfl (hb hby d3_17) _ ?_
    show Steps p.tables e below (s₁.setTop (mkF m 18 #[.val (.ref u1), .val (.ref u2), .val (.int (4 : Int32))] [(.int (101 : Int32))])) _
    refine XS.aloadN X0.here hx rfl (hb hby d3_18) rfl rfl ?_
    show Steps p.tables e below (s₁.setTop (mkF m 19 #[.val (.ref u1), .val (.ref u2), .val (.int (4 : Int32))] [(.ref u2), (.int (101 : Int32))])) _
    refine XS.iloadN X0.here hx rfl (hb hby d3_19) rfl ?_
    show Steps p.tables e below (s₁.setTop (mkF m 20 #[.val (.ref u1), .val (.ref u2), .val (.int (4 : Int32))] [(.int (4 : Int32)), (.ref u2), (.int (101 : Int32))])) _
    refine X0.baloadBytes hx (j := (4 : Int32)) (v := (.int (101 : Int32))) (by rw [e0]; exact Ar2.1) (State.isArrayOf_alike hZ.alike Ar2.2.1) Ar2.2.2 (inb_of S2 ⟨by decide, by decide⟩) (H2.at (inb_of S2 ⟨by decide, by decide⟩) rfl) (g := (mkF m 20 #[.val (.ref u1), .val (.ref u2), .val (.int (4 : Int32))] [(.int (4 : Int32)), (.ref u2), (.int (101 : Int32))])) rfl rfl (hb hby d3_20) _ ?_
    show Steps p.tables e below (s₁.setTop (mkF m 21 #[.val (.ref u1), .val (.ref u2), .val (.int (4 : Int32))] [(.int (101 : Int32)), (.int (101 : Int32))])) _
    refine XS.icmpYes X0.here hx rfl (pc0 := 21) (pc' := 26) rfl (hb hby d3_21) rfl (by decide) (by decide) (by decide) ?_
    show Steps p.tables e below (s₁.setTop (mkF m 26 #[.val (.ref u1), .val (.ref u2), .val (.int (4 : Int32))] [])) _
    refine XS.iinc X0.here hx rfl (hb hby d3_26) rfl (l' := #[.val (.ref u1), .val (.ref u2), .val (.int (5 : Int32))]) rfl ?_
    show Steps p.tables e below (s₁.setTop (mkF m 29 #[.val (.ref u1), .val (.ref u2), .val (.int (5 : Int32))] [])) _
    refine XS.goto X0.here hx rfl (pc0 := 29) (pc' := 9) rfl (hb hby d3_29) (by decide) (by decide) ?_
    show Steps p.tables e below (s₁.setTop (mkF m 9 #[.val (.ref u1), .val (.ref u2), .val (.int (5 : Int32))] [])) _
    refine XS.iloadN X0.here hx rfl (hb hby d3_9) rfl ?_
    show Steps p.tables e below (s₁.setTop (mkF m 10 #[.val (.ref u1), .val (.ref u2), .val (.int (5 : Int32))] [(.int (5 : Int32))])) _
    refine XS.aloadN X0.here hx rfl (hb hby d3_10) rfl rfl ?_
    show Steps p.tables e below (s₁.setTop (mkF m 11 #[.val (.ref u1), .val (.ref u2), .val (.int (5 : Int32))] [(.ref u1), (.int (5 : Int32))])) _
    refine X0.arraylength hx (by rw [e0]; exact Ar1.1) (State.isArrayOf_alike hZ.alike Ar1.2.1) (g := (mkF m 11 #[.val (.ref u1), .val (.ref u2), .val (.int (5 : Int32))] [(.ref u1), (.int (5 : Int32))])) rfl rfl (hb hby d3_11) _ ?_
    rw [len_of S1 M1]
    show Steps p.tables e below (s₁.setTop (mkF m 12 #[.val (.ref u1), .val (.ref u2), .val (.int (5 : Int32))] [(.int (7 : Int32)), (.int (5 : Int32))])) _
    refine XS.icmpNo X0.here hx rfl (hb hby d3_12) rfl (by decide) ?_
    show Steps p.tables e below (s₁.setTop (mkF m 15 #[.val (.ref u1), .val (.ref u2), .val (.int (5 : Int32))] [])) _
    refine XS.aloadN X0.here hx rfl (hb hby d3_15) rfl rfl ?_
    show Steps p.tables e below (s₁.setTop (mkF m 16 #[.val (.ref u1), .val (.ref u2), .val (.int (5 : Int32))] [(.ref u1)])) _
    refine XS.iloadN X0.here hx rfl (hb hby d3_16) rfl ?_
    show Steps p.tables e below (s₁.setTop (mkF m 17 #[.val (.ref u1), .val (.ref u2), .val (.int (5 : Int32))] [(.int (5 : Int32)), (.ref u1)])) _
    refine X0.baloadBytes hx (j := (5 : Int32)) (v := (.int (115 : Int32))) (by rw [e0]; exact Ar1.1) (State.isArrayOf_alike hZ.alike Ar1.2.1) Ar1.2.2 (inb_of S1 ⟨by decide, by decide⟩) (H1.at (inb_of S1 ⟨by decide, by decide⟩) rfl) (g := (mkF m 17 #[.val (.ref u1), .val (.ref u2), .val (.int (5 : Int32))] [(.int (5 : Int32)), (.ref u1)])) rfl rfl (hb hby d3_17) _ ?_
    show Steps p.tables e below (s₁.setTop (mkF m 18 #[.val (.ref u1), .val (.ref u2), .val (.int (5 : Int32))] [(.int (115 : Int32))])) _
    refine XS.aloadN X0.here hx rfl (hb hby d3_18) rfl rfl ?_
    show Steps p.tables e below (s₁.setTop (mkF m 19 #[.val (.ref u1), .val (.ref u2), .val (.int (5 : Int32))] [(.ref u2), (.int (115 : Int32))])) _
    refine XS.iloadN X0.here hx rfl (hb hby d3_19) rfl ?_
    show Steps p.tables e below (s₁.setTop (mkF m 20 #[.val (.ref u1), .val (.ref u2), .val (.int (5 : Int32))] [(.int (5 : Int32)), (.ref u2), (.int (115 : Int32))])) _
    refine X0.baloadBytes hx (j := (5 : Int32)) (v := (.int (115 : Int32))) (by rw [e0]; exact Ar2.1) (State.isArrayOf_alike hZ.alike Ar2.2.1) Ar2.2.2 (inb_of S2 ⟨by decide, by decide⟩) (H2.at (inb_of S2 ⟨by decide, by decide⟩) rfl) (g := (mkF m 20 #[.val (.ref u1), .val (.ref u2), .val (.int (5 : Int32))] [(.int (5 : Int32)), (.ref u2), (.int (115 : Int32))])) rfl rfl (hb hby d3_20) _ ?_
    show Steps p.tables e below (s₁.setTop (mkF m 21 #[.val (.ref u1), .val (.ref u2), .val (.int (5 : Int32))] [(.int (115 : Int32)), (.int (115 : Int32))])) _
    refine XS.icmpYes X0.here hx rfl (pc0 := 21) (pc' := 26) rfl (hb hby d3_21) rfl (by decide) (by decide) (by decide) ?_
    show Steps p.tables e below (s₁.setTop (mkF m 26 #[.val (.ref u1), .val (.ref u2), .val (.int (5 : Int32))] [])) _
    refine XS.iinc X0.here hx rfl (hb hby d3_26) rfl (l' := #[.val (.ref u1), .val (.ref u2), .val (.int (6 : Int32))]) rfl ?_
    show Steps p.tables e below (s₁.setTop (mkF m 29 #[.val (.ref u1), .val (.ref u2), .val (.int (6 : Int32))] [])) _
    refine XS.goto X0.here hx rfl (pc0 := 29) (pc' := 9) rfl (hb hby d3_29) (by decide) (by decide) ?_
    show Steps p.tables e below (s₁.setTop (mkF m 9 #[.val (.ref u1), .val (.ref u2), .val (.int (6 : Int32))] [])) _
    refine XS.iloadN X0.here hx rfl (hb hby d3_9) rfl ?_
    show Steps p.tables e below (s₁.setTop (mkF m 10 #[.val (.ref u1), .val (.ref u2), .val (.int (6 : Int32))] [(.int (6 : Int32))])) _
    refine XS.aloadN X0.here hx rfl (hb hby d3_10) rfl rfl ?_
    show Steps p.tables e below (s₁.setTop (mkF m 11 #[.val (.ref u1), .val (.ref u2), .val (.int (6 : Int32))] [(.ref u1), (.int (6 : Int32))])) _
    refine X0.arraylength hx (by rw [e0]; exact Ar1.1) (State.isArrayOf_alike hZ.alike Ar1.2.1) (g := (mkF m 11 #[.val (.ref u1), .val (.ref u2), .val (.int (6 : Int32))] [(.ref u1), (.int (6 : Int32))])) rfl rfl (hb hby d3_11) _ ?_
    rw [len_of S1 M1]
    show Steps p.tables e below (s₁.setTop (mkF m 12 #[.val (.ref u1), .val (.ref u2), .val (.int (6 : Int32))] [(.int (7 : Int32)), (.int (6 : Int32))])) _
    refine XS.icmpNo X0.here hx rfl (hb hby d3_12) rfl (by decide) ?_
    show Steps p.tables e below (s₁.setTop (mkF m 15 #[.val (.ref u1), .val (.ref u2), .val (.int (6 : Int32))] [])) _
    refine XS.aloadN X0.here hx rfl (hb hby d3_15) rfl rfl ?_
    show Steps p.tables e below (s₁.setTop (mkF m 16 #[.val (.ref u1), .val (.ref u2), .val (.int (6 : Int32))] [(.ref u1)])) _
    refine XS.iloadN X0.here hx rfl (hb hby d3_16) rfl ?_
    show Steps p.tables e below (s₁.setTop (mkF m 17 #[.val (.ref u1), .val (.ref u2), .val (.int (6 : Int32))] [(.int (6 : Int32)), (.ref u1)])) _
    refine X0.baloadBytes hx (j := (6 : Int32)) (v := (.int (115 : Int32))) (by rw [e0]; exact Ar1.1) (State.isArrayOf_alike hZ.alike Ar1.2.1) Ar1.2.2 (inb_of S1 ⟨by decide, by decide⟩) (H1.at (inb_of S1 ⟨by decide, by decide⟩) rfl) (g := (mkF m 17 #[.val (.ref u1), .val (.ref u2), .val (.int (6 : Int32))] [(.int (6 : Int32)), (.ref u1)])) rfl rfl (hb hby d3_17) _ ?_
    show Steps p.tables e below (s₁.setTop (mkF m 18 #[.val (.ref u1), .val (.ref u2), .val (.int (6 : Int32))] [(.int (115 : Int32))])) _
    refine XS.aloadN X0.here hx rfl (hb hby d3_18) rfl rfl ?_
    show Steps p.tables e below (s₁.setTop (mkF m 19 #[.val (.ref u1), .val (.ref u2), .val (.int (6 : Int32))] [(.ref u2), (.int (115 : Int32))])) _
    refine XS.iloadN X0.here hx rfl (hb hby d3_19) rfl ?_
    show Steps p.tables e below (s₁.setTop (mkF m 20 #[.val (.ref u1), .val (.ref u2), .val (.int (6 : Int32))] [(.int (6 : Int32)), (.ref u2), (.int (115 : Int32))])) _
    refine X0.baloadBytes hx (j := (6 : Int32)) (v := (.int (115 : Int32))) (by rw [e0]; exact Ar2.1) (State.isArrayOf_alike hZ.alike Ar2.2.1) Ar2.2.2 (inb_of S2 ⟨by decide, by decide⟩) (H2.at (inb_of S2 ⟨by decide, by decide⟩) rfl) (g := (mkF m 20 #[.val (.ref u1), .val (.ref u2), .val (.int (6 : Int32))] [(.int (6 : Int32)), (.ref u2), (.int (115 : Int32))])) rfl rfl (hb hby d3_20) _ ?_
    show Steps p.tables e below (s₁.setTop (mkF m 21 #[.val (.ref u1), .val (.ref u2), .val (.int (6 : Int32))] [(.int (115 : Int32)), (.int (115 : Int32))])) _
    refine XS.icmpYes X0.here hx rfl (pc0 := 21) (pc' := 26) rfl (hb hby d3_21) rfl (by decide) (by decide) (by decide) ?_
    show Steps p.tables e below (s₁.setTop (mkF m 26 #[.val (.ref u1), .val (.ref u2), .val (.int (6 : Int32))] [])) _
    refine XS.iinc X0.here hx rfl (hb hby d3_26) rfl (l' := #[.val (.ref u1), .val (.ref u2), .val (.int (7 : Int32))]) rfl ?_
    show Steps p.tables e below (s₁.setTop (mkF m 29 #[.val (.ref u1), .val (.ref u2), .val (.int (7 : Int32))] [])) _
    refine XS.goto X0.here hx rfl (pc0 := 29) (pc' := 9) rfl (hb hby d3_29) (by decide) (by decide) ?_
    show Steps p.tables e below (s₁.setTop (mkF m 9 #[.val (.ref u1), .val (.ref u2), .val (.int (7 : Int32))] [])) _
    refine XS.iloadN X0.here hx rfl (hb hby d3_9) rfl ?_
    show Steps p.tables e below (s₁.setTop (mkF m 10 #[.val (.ref u1), .val (.ref u2), .val (.int (7 : Int32))] [(.int (7 : Int32))])) _
    refine XS.aloadN X0.here hx rfl (hb hby d3_10) rfl rfl ?_
    show Steps p.tables e below (s₁.setTop (mkF m 11 #[.val (.ref u1), .val (.ref u2), .val (.int (7 : Int32))] [(.ref u1), (.int (7 : Int32))])) _
    refine X0.arraylength hx (by rw [e0]; exact Ar1.1) (State.isArrayOf_alike hZ.alike Ar1.2.1) (g := (mkF m 11 #[.val (.ref u1), .val (.ref u2), .val (.int (7 : Int32))] [(.ref u1), (.int (7 : Int32))])) rfl rfl (hb hby d3_11) _ ?_
    rw [len_of S1 M1]
    show Steps p.tables e below (s₁.setTop (mkF m 12 #[.val (.ref u1), .val (.ref u2), .val (.int (7 : Int32))] [(.int (7 : Int32)), (.int (7 : Int32))])) _
    refine XS.icmpYes X0.here hx rfl (pc0 := 12) (pc' := 32) rfl (hb hby d3_12) rfl (by decide) (by decide) (by decide) ?_
    show Steps p.tables e below (s₁.setTop (mkF m 32 #[.val (.ref u1), .val (.ref u2), .val (.int (7 : Int32))] [])) _
    refine XS.iconst X0.here hx rfl (hb hby d3_32) ?_
    show Steps p.tables e below (s₁.setTop (mkF m 33 #[.val (.ref u1), .val (.ref u2), .val (.int (7 : Int32))] [(.int (1 : Int32))])) _
    exact retN X0 hx (t := .boolean) Bd.returns (by simp) (hb hby d3_33) hr
  · show Q_rm_le_ss Z _ _ _ _ h0 n0 _ s₁.heap _
    rw [e0]
    exact ⟨rfl, N0, rfl⟩
theorem d3_24 : decode jdk_43_method_13_code 24 = .ok (.iconst 0, 1) := by decide +kernel
theorem d3_25 : decode jdk_43_method_13_code 25 = .ok (.ireturn, 1) := by decide +kernel
theorem ef_rm_le_sf (m : MethodId) (x0 : Addr) (x1 : Addr) : entryFrame m #[(.ref x0), (.ref x1)] 3 = mkF m 0 #[.val (.ref x0), .val (.ref x1), .unset] [] := by first | (simp [entryFrame, mkF, argsToLocals, Value.category]; done) | rfl
def Q_rm_le_sf (Z : State) (u1 : Addr) (u2 : Addr) (k1 : ClassId) (k2 : ClassId) (h0 : Heap) (n0 : Nat) (v : Option Value) (h : Heap) (L : List Loc) : Prop := v = some (.int (0 : Int32)) ∧ Fr n0 L ∧ h = h0
set_option maxRecDepth 65536 in
set_option maxHeartbeats 40000000 in
theorem rm_le_sf (l : Launch) (Z : State) (a0 : Array Value) (hw : ∀ d ∈ tables_1, d.before a0 Z = true) (ws : List Jvm.Cond) (u1 : Addr) (u2 : Addr) (k1 : ClassId) (k2 : ClassId) (h0 : Heap) (n0 : Nat) (Z0 : n0 ≤ h0.size) (V1 : Arv Z h0 u1 k1 .byte (7 : Int32) [(.int (115 : Int32)), (.int (117 : Int32)), (.int (99 : Int32)), (.int (99 : Int32)), (.int (101 : Int32)), (.int (115 : Int32)), (.int (115 : Int32))] (.int (0 : Int32))) (V2 : Arv Z h0 u2 k2 .byte (7 : Int32) [(.int (102 : Int32)), (.int (97 : Int32)), (.int (105 : Int32)), (.int (108 : Int32)), (.int (117 : Int32)), (.int (114 : Int32)), (.int (101 : Int32))] (.int (0 : Int32))) :
    MetFree l (⟨"java/lang/StringLatin1", "equals", "([B[B)Z"⟩ : MethodName) (head1 (Jvm.Cond.code (⟨"java/lang/StringLatin1", "equals", "([B[B)Z"⟩ : MethodName) jdk_43_method_13_code 3 (some .boolean) :: ws) ({ frames := 0, cells := 0, slots := 0, locals := 0 } : Room)) (fun a U => a = #[(.ref u1), (.ref u2)] ∧ Z.Warmed39 U.vm ∧ U.heap = h0) (fun _ _ _ _ _ => True) (fun _ U o U' => ∃ v L, o = .returned v ∧ Q_rm_le_sf Z u1 u2 k1 k2 h0 n0 v U'.heap L ∧ FrameEnd U o U' L ({ frames := 0, cells := 0, slots := 0, locals := 0 } : Room).cells ({ frames := 0, cells := 0, slots := 0, locals := 0 } : Room).slots) := by
  refine MetFree.of_bodySF (plainFor_of_name pn_173701) hisR ?_
  intro p e s m args below meth c s₁ Bd hml0 hP hK
  obtain ⟨rfl, hZ, hh⟩ := hP
  have hx := Bd.exec
  have hby := Bd.bytes
  have hml : c.maxLocals = 3 := hml0
  have hown : s.vm.findClass "java/lang/StringLatin1" = some m.cls := findClass_of_methodNamed Bd.named
  have hnm := (name_of_methodNamed Bd.named Bd.method).1
  have X0 : Stand p l e ({ frames := 0, cells := 0, slots := 0, locals := 0 } : Room) s m #[(.ref u1), (.ref u2)] below meth c s₁ [] 0 0 := Stand.of_body Bd
  have e0 : s₁.heap = h0 := by rw [← hh, Bd.state]; rfl
  have N0 := Fr.nil n0
  have pre0 : ∀ t, Steps p.tables e below (s₁.setTop (mkF m 0 #[.val (.ref u1), .val (.ref u2), .unset] [])) t → Steps p.tables e below (s₁.setTop (entryFrame m #[(.ref u1), (.ref u2)] 3)) t := fun t k => castTop (ef_rm_le_sf m u1 u2) k
  obtain ⟨cl1, Ar1, -, S1, M1, H1, -⟩ := id V1
  obtain ⟨cl2, Ar2, -, S2, M2, H2, -⟩ := id V2
  obtain ⟨fs, hr, hrun, hended, hW, hsame⟩ := X0.leave (v := some (.int (0 : Int32))) (fun h => by rw [Bd.returns] at h; cases h)
  refine ⟨_, _, pre0 _ ?_, hrun, hended, _, _, rfl, ?_, ⟨_, rfl⟩, hW, hsame.mono (by decide) (by decide)⟩
  · show Steps p.tables e below (s₁.setTop (mkF m 0 #[.val (.ref u1), .val (.ref u2), .unset] [])) _
    refine XS.aloadN X0.here hx rfl (hb hby d3_0) rfl rfl ?_
    show Steps p.tables e below (s₁.setTop (mkF m 1 #[.val (.ref u1), .val (.ref u2), .unset] [(.ref u1)])) _
    refine X0.arraylength hx (by rw [e0]; exact Ar1.1) (State.isArrayOf_alike hZ.alike Ar1.2.1) (g := (mkF m 1 #[.val (.ref u1), .val (.ref u2), .unset] [(.ref u1)])) rfl rfl (hb hby d3_1) _ ?_
    rw [len_of S1 M1]
    show Steps p.tables e below (s₁.setTop (mkF m 2 #[.val (.ref u1), .val (.ref u2), .unset] [(.int (7 : Int32))])) _
    refine XS.aloadN X0.here hx rfl (hb hby d3_2) rfl rfl ?_
    show Steps p.tables e below (s₁.setTop (mkF m 3 #[.val (.ref u1), .val (.ref u2), .unset] [(.ref u2), (.int (7 : Int32))])) _
    refine X0.arraylength hx (by rw [e0]; exact Ar2.1) (State.isArrayOf_alike hZ.alike Ar2.2.1) (g := (mkF m 3 #[.val (.ref u1), .val (.ref u2), .unset] [(.ref u2), (.int (7 : Int32))])) rfl rfl (hb hby d3_3) _ ?_
    rw [len_of S2 M2]
    show Steps p.tables e below (s₁.setTop (mkF m 4 #[.val (.ref u1), .val (.ref u2), .unset] [(.int (7 : Int32)), (.int (7 : Int32))])) _
    refine XS.icmpNo X0.here hx rfl (hb hby d3_4) rfl (by decide) ?_
    show Steps p.tables e below (s₁.setTop (mkF m 7 #[.val (.ref u1), .val (.ref u2), .unset] [])) _
    refine XS.iconst X0.here hx rfl (hb hby d3_7) ?_
    show Steps p.tables e below (s₁.setTop (mkF m 8 #[.val (.ref u1), .val (.ref u2), .unset] [(.int (0 : Int32))])) _
    refine XS.istoreN X0.here hx rfl (hb hby d3_8) rfl (l' := #[.val (.ref u1), .val (.ref u2), .val (.int (0 : Int32))]) rfl ?_
    show Steps p.tables e below (s₁.setTop (mkF m 9 #[.val (.ref u1), .val (.ref u2), .val (.int (0 : Int32))] [])) _
    refine XS.iloadN X0.here hx rfl (hb hby d3_9) rfl ?_
    show Steps p.tables e below (s₁.setTop (mkF m 10 #[.val (.ref u1), .val (.ref u2), .val (.int (0 : Int32))] [(.int (0 : Int32))])) _
    refine XS.aloadN X0.here hx rfl (hb hby d3_10) rfl rfl ?_
    show Steps p.tables e below (s₁.setTop (mkF m 11 #[.val (.ref u1), .val (.ref u2), .val (.int (0 : Int32))] [(.ref u1), (.int (0 : Int32))])) _
    refine X0.arraylength hx (by rw [e0]; exact Ar1.1) (State.isArrayOf_alike hZ.alike Ar1.2.1) (g := (mkF m 11 #[.val (.ref u1), .val (.ref u2), .val (.int (0 : Int32))] [(.ref u1), (.int (0 : Int32))])) rfl rfl (hb hby d3_11) _ ?_
    rw [len_of S1 M1]
    show Steps p.tables e below (s₁.setTop (mkF m 12 #[.val (.ref u1), .val (.ref u2), .val (.int (0 : Int32))] [(.int (7 : Int32)), (.int (0 : Int32))])) _
    refine XS.icmpNo X0.here hx rfl (hb hby d3_12) rfl (by decide) ?_
    show Steps p.tables e below (s₁.setTop (mkF m 15 #[.val (.ref u1), .val (.ref u2), .val (.int (0 : Int32))] [])) _
    refine XS.aloadN X0.here hx rfl (hb hby d3_15) rfl rfl ?_
    show Steps p.tables e below (s₁.setTop (mkF m 16 #[.val (.ref u1), .val (.ref u2), .val (.int (0 : Int32))] [(.ref u1)])) _
    refine XS.iloadN X0.here hx rfl (hb hby d3_16) rfl ?_
    show Steps p.tables e below (s₁.setTop (mkF m 17 #[.val (.ref u1), .val (.ref u2), .val (.int (0 : Int32))] [(.int (0 : Int32)), (.ref u1)])) _
    refine X0.baloadBytes hx (j := (0 : Int32)) (v := (.int (115 : Int32))) (by rw [e0]; exact Ar1.1) (State.isArrayOf_alike hZ.alike Ar1.2.1) Ar1.2.2 (inb_of S1 ⟨by decide, by decide⟩) (H1.at (inb_of S1 ⟨by decide, by decide⟩) rfl) (g := (mkF m 17 #[.val (.ref u1), .val (.ref u2), .val (.int (0 : Int32))] [(.int (0 : Int32)), (.ref u1)])) rfl rfl (hb hby d3_17) _ ?_
    show Steps p.tables e below (s₁.setTop (mkF m 18 #[.val (.ref u1), .val (.ref u2), .val (.int (0 : Int32))] [(.int (115 : Int32))])) _
    refine XS.aloadN X0.here hx rfl (hb hby d3_18) rfl rfl ?_
    show Steps p.tables e below (s₁.setTop (mkF m 19 #[.val (.ref u1), .val (.ref u2), .val (.int (0 : Int32))] [(.ref u2), (.int (115 : Int32))])) _
    refine XS.iloadN X0.here hx rfl (hb hby d3_19) rfl ?_
    show Steps p.tables e below (s₁.setTop (mkF m 20 #[.val (.ref u1), .val (.ref u2), .val (.int (0 : Int32))] [(.int (0 : Int32)), (.ref u2), (.int (115 : Int32))])) _
    refine X0.baloadBytes hx (j := (0 : Int32)) (v := (.int (102 : Int32))) (by rw [e0]; exact Ar2.1) (State.isArrayOf_alike hZ.alike Ar2.2.1) Ar2.2.2 (inb_of S2 ⟨by decide, by decide⟩) (H2.at (inb_of S2 ⟨by decide, by decide⟩) rfl) (g := (mkF m 20 #[.val (.ref u1), .val (.ref u2), .val (.int (0 : Int32))] [(.int (0 : Int32)), (.ref u2), (.int (115 : Int32))])) rfl rfl (hb hby d3_20) _ ?_
    show Steps p.tables e below (s₁.setTop (mkF m 21 #[.val (.ref u1), .val (.ref u2), .val (.int (0 : Int32))] [(.int (102 : Int32)), (.int (115 : Int32))])) _
    refine XS.icmpNo X0.here hx rfl (hb hby d3_21) rfl (by decide) ?_
    show Steps p.tables e below (s₁.setTop (mkF m 24 #[.val (.ref u1), .val (.ref u2), .val (.int (0 : Int32))] [])) _
    refine XS.iconst X0.here hx rfl (hb hby d3_24) ?_
    show Steps p.tables e below (s₁.setTop (mkF m 25 #[.val (.ref u1), .val (.ref u2), .val (.int (0 : Int32))] [(.int (0 : Int32))])) _
    exact retN X0 hx (t := .boolean) Bd.returns (by simp) (hb hby d3_25) hr
  · show Q_rm_le_sf Z _ _ _ _ h0 n0 _ s₁.heap _
    rw [e0]
    exact ⟨rfl, N0, rfl⟩
theorem ef_rm_le_fs (m : MethodId) (x0 : Addr) (x1 : Addr) : entryFrame m #[(.ref x0), (.ref x1)] 3 = mkF m 0 #[.val (.ref x0), .val (.ref x1), .unset] [] := by first | (simp [entryFrame, mkF, argsToLocals, Value.category]; done) | rfl
def Q_rm_le_fs (Z : State) (u1 : Addr) (u2 : Addr) (k1 : ClassId) (k2 : ClassId) (h0 : Heap) (n0 : Nat) (v : Option Value) (h : Heap) (L : List Loc) : Prop := v = some (.int (0 : Int32)) ∧ Fr n0 L ∧ h = h0
set_option maxRecDepth 65536 in
set_option maxHeartbeats 40000000 in
theorem rm_le_fs (l : Launch) (Z : State) (a0 : Array Value) (hw : ∀ d ∈ tables_1, d.before a0 Z = true) (ws : List Jvm.Cond) (u1 : Addr) (u2 : Addr) (k1 : ClassId) (k2 : ClassId) (h0 : Heap) (n0 : Nat) (Z0 : n0 ≤ h0.size) (V1 : Arv Z h0 u1 k1 .byte (7 : Int32) [(.int (102 : Int32)), (.int (97 : Int32)), (.int (105 : Int32)), (.int (108 : Int32)), (.int (117 : Int32)), (.int (114 : Int32)), (.int (101 : Int32))] (.int (0 : Int32))) (V2 : Arv Z h0 u2 k2 .byte (7 : Int32) [(.int (115 : Int32)), (.int (117 : Int32)), (.int (99 : Int32)), (.int (99 : Int32)), (.int (101 : Int32)), (.int (115 : Int32)), (.int (115 : Int32))] (.int (0 : Int32))) :
    MetFree l (⟨"java/lang/StringLatin1", "equals", "([B[B)Z"⟩ : MethodName) (head1 (Jvm.Cond.code (⟨"java/lang/StringLatin1", "equals", "([B[B)Z"⟩ : MethodName) jdk_43_method_13_code 3 (some .boolean) :: ws) ({ frames := 0, cells := 0, slots := 0, locals := 0 } : Room)) (fun a U => a = #[(.ref u1), (.ref u2)] ∧ Z.Warmed39 U.vm ∧ U.heap = h0) (fun _ _ _ _ _ => True) (fun _ U o U' => ∃ v L, o = .returned v ∧ Q_rm_le_fs Z u1 u2 k1 k2 h0 n0 v U'.heap L ∧ FrameEnd U o U' L ({ frames := 0, cells := 0, slots := 0, locals := 0 } : Room).cells ({ frames := 0, cells := 0, slots := 0, locals := 0 } : Room).slots) := by
  refine MetFree.of_bodySF (plainFor_of_name pn_173701) hisR ?_
  intro p e s m args below meth c s₁ Bd hml0 hP hK
  obtain ⟨rfl, hZ, hh⟩ := hP
  have hx := Bd.exec
  have hby := Bd.bytes
  have hml : c.maxLocals = 3 := hml0
  have hown : s.vm.findClass "java/lang/StringLatin1" = some m.cls := findClass_of_methodNamed Bd.named
  have hnm := (name_of_methodNamed Bd.named Bd.method).1
  have X0 : Stand p l e ({ frames := 0, cells := 0, slots := 0, locals := 0 } : Room) s m #[(.ref u1), (.ref u2)] below meth c s₁ [] 0 0 := Stand.of_body Bd
  have e0 : s₁.heap = h0 := by rw [← hh, Bd.state]; rfl
  have N0 := Fr.nil n0
  have pre0 : ∀ t, Steps p.tables e below (s₁.setTop (mkF m 0 #[.val (.ref u1), .val (.ref u2), .unset] [])) t → Steps p.tables e below (s₁.setTop (entryFrame m #[(.ref u1), (.ref u2)] 3)) t := fun t k => castTop (ef_rm_le_fs m u1 u2) k
  obtain ⟨cl1, Ar1, -, S1, M1, H1, -⟩ := id V1
  obtain ⟨cl2, Ar2, -, S2, M2, H2, -⟩ := id V2
  obtain ⟨fs, hr, hrun, hended, hW, hsame⟩ := X0.leave (v := some (.int (0 : Int32))) (fun h => by rw [Bd.returns] at h; cases h)
  refine ⟨_, _, pre0 _ ?_, hrun, hended, _, _, rfl, ?_, ⟨_, rfl⟩, hW, hsame.mono (by decide) (by decide)⟩
  · show Steps p.tables e below (s₁.setTop (mkF m 0 #[.val (.ref u1), .val (.ref u2), .unset] [])) _
    refine XS.aloadN X0.here hx rfl (hb hby d3_0) rfl rfl ?_
    show Steps p.tables e below (s₁.setTop (mkF m 1 #[.val (.ref u1), .val (.ref u2), .unset] [(.ref u1)])) _
    refine X0.arraylength hx (by rw [e0]; exact Ar1.1) (State.isArrayOf_alike hZ.alike Ar1.2.1) (g := (mkF m 1 #[.val (.ref u1), .val (.ref u2), .unset] [(.ref u1)])) rfl rfl (hb hby d3_1) _ ?_
    rw [len_of S1 M1]
    show Steps p.tables e below (s₁.setTop (mkF m 2 #[.val (.ref u1), .val (.ref u2), .unset] [(.int (7 : Int32))])) _
    refine XS.aloadN X0.here hx rfl (hb hby d3_2) rfl rfl ?_
    show Steps p.tables e below (s₁.setTop (mkF m 3 #[.val (.ref u1), .val (.ref u2), .unset] [(.ref u2), (.int (7 : Int32))])) _
    refine X0.arraylength hx (by rw [e0]; exact Ar2.1) (State.isArrayOf_alike hZ.alike Ar2.2.1) (g := (mkF m 3 #[.val (.ref u1), .val (.ref u2), .unset] [(.ref u2), (.int (7 : Int32))])) rfl rfl (hb hby d3_3) _ ?_
    rw [len_of S2 M2]
    show Steps p.tables e below (s₁.setTop (mkF m 4 #[.val (.ref u1), .val (.ref u2), .unset] [(.int (7 : Int32)), (.int (7 : Int32))])) _
    refine XS.icmpNo X0.here hx rfl (hb hby d3_4) rfl (by decide) ?_
    show Steps p.tables e below (s₁.setTop (mkF m 7 #[.val (.ref u1), .val (.ref u2), .unset] [])) _
    refine XS.iconst X0.here hx rfl (hb hby d3_7) ?_
    show Steps p.tables e below (s₁.setTop (mkF m 8 #[.val (.ref u1), .val (.ref u2), .unset] [(.int (0 : Int32))])) _
    refine XS.istoreN X0.here hx rfl (hb hby d3_8) rfl (l' := #[.val (.ref u1), .val (.ref u2), .val (.int (0 : Int32))]) rfl ?_
    show Steps p.tables e below (s₁.setTop (mkF m 9 #[.val (.ref u1), .val (.ref u2), .val (.int (0 : Int32))] [])) _
    refine XS.iloadN X0.here hx rfl (hb hby d3_9) rfl ?_
    show Steps p.tables e below (s₁.setTop (mkF m 10 #[.val (.ref u1), .val (.ref u2), .val (.int (0 : Int32))] [(.int (0 : Int32))])) _
    refine XS.aloadN X0.here hx rfl (hb hby d3_10) rfl rfl ?_
    show Steps p.tables e below (s₁.setTop (mkF m 11 #[.val (.ref u1), .val (.ref u2), .val (.int (0 : Int32))] [(.ref u1), (.int (0 : Int32))])) _
    refine X0.arraylength hx (by rw [e0]; exact Ar1.1) (State.isArrayOf_alike hZ.alike Ar1.2.1) (g := (mkF m 11 #[.val (.ref u1), .val (.ref u2), .val (.int (0 : Int32))] [(.ref u1), (.int (0 : Int32))])) rfl rfl (hb hby d3_11) _ ?_
    rw [len_of S1 M1]
    show Steps p.tables e below (s₁.setTop (mkF m 12 #[.val (.ref u1), .val (.ref u2), .val (.int (0 : Int32))] [(.int (7 : Int32)), (.int (0 : Int32))])) _
    refine XS.icmpNo X0.here hx rfl (hb hby d3_12) rfl (by decide) ?_
    show Steps p.tables e below (s₁.setTop (mkF m 15 #[.val (.ref u1), .val (.ref u2), .val (.int (0 : Int32))] [])) _
    refine XS.aloadN X0.here hx rfl (hb hby d3_15) rfl rfl ?_
    show Steps p.tables e below (s₁.setTop (mkF m 16 #[.val (.ref u1), .val (.ref u2), .val (.int (0 : Int32))] [(.ref u1)])) _
    refine XS.iloadN X0.here hx rfl (hb hby d3_16) rfl ?_
    show Steps p.tables e below (s₁.setTop (mkF m 17 #[.val (.ref u1), .val (.ref u2), .val (.int (0 : Int32))] [(.int (0 : Int32)), (.ref u1)])) _
    refine X0.baloadBytes hx (j := (0 : Int32)) (v := (.int (102 : Int32))) (by rw [e0]; exact Ar1.1) (State.isArrayOf_alike hZ.alike Ar1.2.1) Ar1.2.2 (inb_of S1 ⟨by decide, by decide⟩) (H1.at (inb_of S1 ⟨by decide, by decide⟩) rfl) (g := (mkF m 17 #[.val (.ref u1), .val (.ref u2), .val (.int (0 : Int32))] [(.int (0 : Int32)), (.ref u1)])) rfl rfl (hb hby d3_17) _ ?_
    show Steps p.tables e below (s₁.setTop (mkF m 18 #[.val (.ref u1), .val (.ref u2), .val (.int (0 : Int32))] [(.int (102 : Int32))])) _
    refine XS.aloadN X0.here hx rfl (hb hby d3_18) rfl rfl ?_
    show Steps p.tables e below (s₁.setTop (mkF m 19 #[.val (.ref u1), .val (.ref u2), .val (.int (0 : Int32))] [(.ref u2), (.int (102 : Int32))])) _
    refine XS.iloadN X0.here hx rfl (hb hby d3_19) rfl ?_
    show Steps p.tables e below (s₁.setTop (mkF m 20 #[.val (.ref u1), .val (.ref u2), .val (.int (0 : Int32))] [(.int (0 : Int32)), (.ref u2), (.int (102 : Int32))])) _
    refine X0.baloadBytes hx (j := (0 : Int32)) (v := (.int (115 : Int32))) (by rw [e0]; exact Ar2.1) (State.isArrayOf_alike hZ.alike Ar2.2.1) Ar2.2.2 (inb_of S2 ⟨by decide, by decide⟩) (H2.at (inb_of S2 ⟨by decide, by decide⟩) rfl) (g := (mkF m 20 #[.val (.ref u1), .val (.ref u2), .val (.int (0 : Int32))] [(.int (0 : Int32)), (.ref u2), (.int (102 : Int32))])) rfl rfl (hb hby d3_20) _ ?_
    show Steps p.tables e below (s₁.setTop (mkF m 21 #[.val (.ref u1), .val (.ref u2), .val (.int (0 : Int32))] [(.int (115 : Int32)), (.int (102 : Int32))])) _
    refine XS.icmpNo X0.here hx rfl (hb hby d3_21) rfl (by decide) ?_
    show Steps p.tables e below (s₁.setTop (mkF m 24 #[.val (.ref u1), .val (.ref u2), .val (.int (0 : Int32))] [])) _
    refine XS.iconst X0.here hx rfl (hb hby d3_24) ?_
    show Steps p.tables e below (s₁.setTop (mkF m 25 #[.val (.ref u1), .val (.ref u2), .val (.int (0 : Int32))] [(.int (0 : Int32))])) _
    exact retN X0 hx (t := .boolean) Bd.returns (by simp) (hb hby d3_25) hr
  · show Q_rm_le_fs Z _ _ _ _ h0 n0 _ s₁.heap _
    rw [e0]
    exact ⟨rfl, N0, rfl⟩
theorem ef_rm_le_ff (m : MethodId) (x0 : Addr) (x1 : Addr) : entryFrame m #[(.ref x0), (.ref x1)] 3 = mkF m 0 #[.val (.ref x0), .val (.ref x1), .unset] [] := by first | (simp [entryFrame, mkF, argsToLocals, Value.category]; done) | rfl
def Q_rm_le_ff (Z : State) (u1 : Addr) (u2 : Addr) (k1 : ClassId) (k2 : ClassId) (h0 : Heap) (n0 : Nat) (v : Option Value) (h : Heap) (L : List Loc) : Prop := v = some (.int (1 : Int32)) ∧ Fr n0 L ∧ h = h0
set_option maxRecDepth 65536 in
set_option maxHeartbeats 40000000 in
theorem rm_le_ff (l : Launch) (Z : State) (a0 : Array Value) (hw : ∀ d ∈ tables_1, d.before a0 Z = true) (ws : List Jvm.Cond) (u1 : Addr) (u2 : Addr) (k1 : ClassId) (k2 : ClassId) (h0 : Heap) (n0 : Nat) (Z0 : n0 ≤ h0.size) (V1 : Arv Z h0 u1 k1 .byte (7 : Int32) [(.int (102 : Int32)), (.int (97 : Int32)), (.int (105 : Int32)), (.int (108 : Int32)), (.int (117 : Int32)), (.int (114 : Int32)), (.int (101 : Int32))] (.int (0 : Int32))) (V2 : Arv Z h0 u2 k2 .byte (7 : Int32) [(.int (102 : Int32)), (.int (97 : Int32)), (.int (105 : Int32)), (.int (108 : Int32)), (.int (117 : Int32)), (.int (114 : Int32)), (.int (101 : Int32))] (.int (0 : Int32))) :
    MetFree l (⟨"java/lang/StringLatin1", "equals", "([B[B)Z"⟩ : MethodName) (head1 (Jvm.Cond.code (⟨"java/lang/StringLatin1", "equals", "([B[B)Z"⟩ : MethodName) jdk_43_method_13_code 3 (some .boolean) :: ws) ({ frames := 0, cells := 0, slots := 0, locals := 0 } : Room)) (fun a U => a = #[(.ref u1), (.ref u2)] ∧ Z.Warmed39 U.vm ∧ U.heap = h0) (fun _ _ _ _ _ => True) (fun _ U o U' => ∃ v L, o = .returned v ∧ Q_rm_le_ff Z u1 u2 k1 k2 h0 n0 v U'.heap L ∧ FrameEnd U o U' L ({ frames := 0, cells := 0, slots := 0, locals := 0 } : Room).cells ({ frames := 0, cells := 0, slots := 0, locals := 0 } : Room).slots) := by
  refine MetFree.of_bodySF (plainFor_of_name pn_173701) hisR ?_
  intro p e s m args below meth c s₁ Bd hml0 hP hK
  obtain ⟨rfl, hZ, hh⟩ := hP
  have hx := Bd.exec
  have hby := Bd.bytes
  have hml : c.maxLocals = 3 := hml0
  have hown : s.vm.findClass "java/lang/StringLatin1" = some m.cls := findClass_of_methodNamed Bd.named
  have hnm := (name_of_methodNamed Bd.named Bd.method).1
  have X0 : Stand p l e ({ frames := 0, cells := 0, slots := 0, locals := 0 } : Room) s m #[(.ref u1), (.ref u2)] below meth c s₁ [] 0 0 := Stand.of_body Bd
  have e0 : s₁.heap = h0 := by rw [← hh, Bd.state]; rfl
  have N0 := Fr.nil n0
  have pre0 : ∀ t, Steps p.tables e below (s₁.setTop (mkF m 0 #[.val (.ref u1), .val (.ref u2), .unset] [])) t → Steps p.tables e below (s₁.setTop (entryFrame m #[(.ref u1), (.ref u2)] 3)) t := fun t k => castTop (ef_rm_le_ff m u1 u2) k
  obtain ⟨cl1, Ar1, -, S1, M1, H1, -⟩ := id V1
  obtain ⟨cl2, Ar2, -, S2, M2, H2, -⟩ := id V2
  obtain ⟨fs, hr, hrun, hended, hW, hsame⟩ := X0.leave (v := some (.int (1 : Int32))) (fun h => by rw [Bd.returns] at h; cases h)
  refine ⟨_, _, pre0 _ ?_, hrun, hended, _, _, rfl, ?_, ⟨_, rfl⟩, hW, hsame.mono (by decide) (by decide)⟩
  · show Steps p.tables e below (s₁.setTop (mkF m 0 #[.val (.ref u1), .val (.ref u2), .unset] [])) _
    refine XS.aloadN X0.here hx rfl (hb hby d3_0) rfl rfl ?_
    show Steps p.tables e below (s₁.setTop (mkF m 1 #[.val (.ref u1), .val (.ref u2), .unset] [(.ref u1)])) _
    refine X0.arraylength hx (by rw [e0]; exact Ar1.1) (State.isArrayOf_alike hZ.alike Ar1.2.1) (g := (mkF m 1 #[.val (.ref u1), .val (.ref u2), .unset] [(.ref u1)])) rfl rfl (hb hby d3_1) _ ?_
    rw [len_of S1 M1]
    show Steps p.tables e below (s₁.setTop (mkF m 2 #[.val (.ref u1), .val (.ref u2), .unset] [(.int (7 : Int32))])) _
    refine XS.aloadN X0.here hx rfl (hb hby d3_2) rfl rfl ?_
    show Steps p.tables e below (s₁.setTop (mkF m 3 #[.val (.ref u1), .val (.ref u2), .unset] [(.ref u2), (.int (7 : Int32))])) _
    refine X0.arraylength hx (by rw [e0]; exact Ar2.1) (State.isArrayOf_alike hZ.alike Ar2.2.1) (g := (mkF m 3 #[.val (.ref u1), .val (.ref u2), .unset] [(.ref u2), (.int (7 : Int32))])) rfl rfl (hb hby d3_3) _ ?_
    rw [len_of S2 M2]
    show Steps p.tables e below (s₁.setTop (mkF m 4 #[.val (.ref u1), .val (.ref u2), .unset] [(.int (7 : Int32)), (.int (7 : Int32))])) _
    refine XS.icmpNo X0.here hx rfl (hb hby d3_4) rfl (by decide) ?_
    show Steps p.tables e below (s₁.setTop (mkF m 7 #[.val (.ref u1), .val (.ref u2), .unset] [])) _
    refine XS.iconst X0.here hx rfl (hb hby d3_7) ?_
    show Steps p.tables e below (s₁.setTop (mkF m 8 #[.val (.ref u1), .val (.ref u2), .unset] [(.int (0 : Int32))])) _
    refine XS.istoreN X0.here hx rfl (hb hby d3_8) rfl (l' := #[.val (.ref u1), .val (.ref u2), .val (.int (0 : Int32))]) rfl ?_
    show Steps p.tables e below (s₁.setTop (mkF m 9 #[.val (.ref u1), .val (.ref u2), .val (.int (0 : Int32))] [])) _
    refine XS.iloadN X0.here hx rfl (hb hby d3_9) rfl ?_
    show Steps p.tables e below (s₁.setTop (mkF m 10 #[.val (.ref u1), .val (.ref u2), .val (.int (0 : Int32))] [(.int (0 : Int32))])) _
    refine XS.aloadN X0.here hx rfl (hb hby d3_10) rfl rfl ?_
    show Steps p.tables e below (s₁.setTop (mkF m 11 #[.val (.ref u1), .val (.ref u2), .val (.int (0 : Int32))] [(.ref u1), (.int (0 : Int32))])) _
    refine X0.arraylength hx (by rw [e0]; exact Ar1.1) (State.isArrayOf_alike hZ.alike Ar1.2.1) (g := (mkF m 11 #[.val (.ref u1), .val (.ref u2), .val (.int (0 : Int32))] [(.ref u1), (.int (0 : Int32))])) rfl rfl (hb hby d3_11) _ ?_
    rw [len_of S1 M1]
    show Steps p.tables e below (s₁.setTop (mkF m 12 #[.val (.ref u1), .val (.ref u2), .val (.int (0 : Int32))] [(.int (7 : Int32)), (.int (0 : Int32))])) _
    refine XS.icmpNo X0.here hx rfl (hb hby d3_12) rfl (by decide) ?_
    show Steps p.tables e below (s₁.setTop (mkF m 15 #[.val (.ref u1), .val (.ref u2), .val (.int (0 : Int32))] [])) _
    refine XS.aloadN X0.here hx rfl (hb hby d3_15) rfl rfl ?_
    show Steps p.tables e below (s₁.setTop (mkF m 16 #[.val (.ref u1), .val (.ref u2), .val (.int (0 : Int32))] [(.ref u1)])) _
    refine XS.iloadN X0.here hx rfl (hb hby d3_16) rfl ?_
    show Steps p.tables e below (s₁.setTop (mkF m 17 #[.val (.ref u1), .val (.ref u2), .val (.int (0 : Int32))] [(.int (0 : Int32)), (.ref u1)])) _
    refine X0.baloadBytes hx (j := (0 : Int32)) (v := (.int (102 : Int32))) (by rw [e0]; exact Ar1.1) (State.isArrayOf_alike hZ.alike Ar1.2.1) Ar1.2.2 (inb_of S1 ⟨by decide, by decide⟩) (H1.at (inb_of S1 ⟨by decide, by decide⟩) rfl) (g := (mkF m 17 #[.val (.ref u1), .val (.ref u2), .val (.int (0 : Int32))] [(.int (0 : Int32)), (.ref u1)])) rfl rfl (hb hby d3_17) _ ?_
    show Steps p.tables e below (s₁.setTop (mkF m 18 #[.val (.ref u1), .val (.ref u2), .val (.int (0 : Int32))] [(.int (102 : Int32))])) _
    refine XS.aloadN X0.here hx rfl (hb hby d3_18) rfl rfl ?_
    show Steps p.tables e below (s₁.setTop (mkF m 19 #[.val (.ref u1), .val (.ref u2), .val (.int (0 : Int32))] [(.ref u2), (.int (102 : Int32))])) _
    refine XS.iloadN X0.here hx rfl (hb hby d3_19) rfl ?_
    show Steps p.tables e below (s₁.setTop (mkF m 20 #[.val (.ref u1), .val (.ref u2), .val (.int (0 : Int32))] [(.int (0 : Int32)), (.ref u2), (.int (102 : Int32))])) _
    refine X0.baloadBytes hx (j := (0 : Int32)) (v := (.int (102 : Int32))) (by rw [e0]; exact Ar2.1) (State.isArrayOf_alike hZ.alike Ar2.2.1) Ar2.2.2 (inb_of S2 ⟨by decide, by decide⟩) (H2.at (inb_of S2 ⟨by decide, by decide⟩) rfl) (g := (mkF m 20 #[.val (.ref u1), .val (.ref u2), .val (.int (0 : Int32))] [(.int (0 : Int32)), (.ref u2), (.int (102 : Int32))])) rfl rfl (hb hby d3_20) _ ?_
    show Steps p.tables e below (s₁.setTop (mkF m 21 #[.val (.ref u1), .val (.ref u2), .val (.int (0 : Int32))] [(.int (102 : Int32)), (.int (102 : Int32))])) _
    refine XS.icmpYes X0.here hx rfl (pc0 := 21) (pc' := 26) rfl (hb hby d3_21) rfl (by decide) (by decide) (by decide) ?_
    show Steps p.tables e below (s₁.setTop (mkF m 26 #[.val (.ref u1), .val (.ref u2), .val (.int (0 : Int32))] [])) _
    refine XS.iinc X0.here hx rfl (hb hby d3_26) rfl (l' := #[.val (.ref u1), .val (.ref u2), .val (.int (1 : Int32))]) rfl ?_
    show Steps p.tables e below (s₁.setTop (mkF m 29 #[.val (.ref u1), .val (.ref u2), .val (.int (1 : Int32))] [])) _
    refine XS.goto X0.here hx rfl (pc0 := 29) (pc' := 9) rfl (hb hby d3_29) (by decide) (by decide) ?_
    show Steps p.tables e below (s₁.setTop (mkF m 9 #[.val (.ref u1), .val (.ref u2), .val (.int (1 : Int32))] [])) _
    refine XS.iloadN X0.here hx rfl (hb hby d3_9) rfl ?_
    show Steps p.tables e below (s₁.setTop (mkF m 10 #[.val (.ref u1), .val (.ref u2), .val (.int (1 : Int32))] [(.int (1 : Int32))])) _
    refine XS.aloadN X0.here hx rfl (hb hby d3_10) rfl rfl ?_
    show Steps p.tables e below (s₁.setTop (mkF m 11 #[.val (.ref u1), .val (.ref u2), .val (.int (1 : Int32))] [(.ref u1), (.int (1 : Int32))])) _
    refine X0.arraylength hx (by rw [e0]; exact Ar1.1) (State.isArrayOf_alike hZ.alike Ar1.2.1) (g := (mkF m 11 #[.val (.ref u1), .val (.ref u2), .val (.int (1 : Int32))] [(.ref u1), (.int (1 : Int32))])) rfl rfl (hb hby d3_11) _ ?_
    rw [len_of S1 M1]
    show Steps p.tables e below (s₁.setTop (mkF m 12 #[.val (.ref u1), .val (.ref u2), .val (.int (1 : Int32))] [(.int (7 : Int32)), (.int (1 : Int32))])) _
    refine XS.icmpNo X0.here hx rfl (hb hby d3_12) rfl (by decide) ?_
    show Steps p.tables e below (s₁.setTop (mkF m 15 #[.val (.ref u1), .val (.ref u2), .val (.int (1 : Int32))] [])) _
    refine XS.aloadN X0.here hx rfl (hb hby d3_15) rfl rfl ?_
    show Steps p.tables e below (s₁.setTop (mkF m 16 #[.val (.ref u1), .val (.ref u2), .val (.int (1 : Int32))] [(.ref u1)])) _
    refine XS.iloadN X0.here hx rfl (hb hby d3_16) rfl ?_
    show Steps p.tables e below (s₁.setTop (mkF m 17 #[.val (.ref u1), .val (.ref u2), .val (.int (1 : Int32))] [(.int (1 : Int32)), (.ref u1)])) _
    refine X0.baloadBytes hx (j := (1 : Int32)) (v := (.int (97 : Int32))) (by rw [e0]; exact Ar1.1) (State.isArrayOf_alike hZ.alike Ar1.2.1) Ar1.2.2 (inb_of S1 ⟨by decide, by decide⟩) (H1.at (inb_of S1 ⟨by decide, by decide⟩) rfl) (g := (mkF m 17 #[.val (.ref u1), .val (.ref u2), .val (.int (1 : Int32))] [(.int (1 : Int32)), (.ref u1)])) rfl rfl (hb hby d3_17) _ ?_
    show Steps p.tables e below (s₁.setTop (mkF m 18 #[.val (.ref u1), .val (.ref u2), .val (.int (1 : Int32))] [(.int (97 : Int32))])) _
    refine XS.aloadN X0.here hx rfl (hb hby d3_18) rfl rfl ?_
    show Steps p.tables e below (s₁.setTop (mkF m 19 #[.val (.ref u1), .val (.ref u2), .val (.int (1 : Int32))] [(.ref u2), (.int (97 : Int32))])) _
    refine XS.iloadN X0.here hx rfl (hb hby d3_19) rfl ?_
    show Steps p.tables e below (s₁.setTop (mkF m 20 #[.val (.ref u1), .val (.ref u2), .val (.int (1 : Int32))] [(.int (1 : Int32)), (.ref u2), (.int (97 : Int32))])) _
    refine X0.baloadBytes hx (j := (1 : Int32)) (v := (.int (97 : Int32))) (by rw [e0]; exact Ar2.1) (State.isArrayOf_alike hZ.alike Ar2.2.1) Ar2.2.2 (inb_of S2 ⟨by decide, by decide⟩) (H2.at (inb_of S2 ⟨by decide, by decide⟩) rfl) (g := (mkF m 20 #[.val (.ref u1), .val (.ref u2), .val (.int (1 : Int32))] [(.int (1 : Int32)), (.ref u2), (.int (97 : Int32))])) rfl rfl (hb hby d3_20) _ ?_
    show Steps p.tables e below (s₁.setTop (mkF m 21 #[.val (.ref u1), .val (.ref u2), .val (.int (1 : Int32))] [(.int (97 : Int32)), (.int (97 : Int32))])) _
    refine XS.icmpYes X0.here hx rfl (pc0 := 21) (pc' := 26) rfl (hb hby d3_21) rfl (by decide) (by decide) (by decide) ?_
    show Steps p.tables e below (s₁.setTop (mkF m 26 #[.val (.ref u1), .val (.ref u2), .val (.int (1 : Int32))] [])) _
    refine XS.iinc X0.here hx rfl (hb hby d3_26) rfl (l' := #[.val (.ref u1), .val (.ref u2), .val (.int (2 : Int32))]) rfl ?_
    show Steps p.tables e below (s₁.setTop (mkF m 29 #[.val (.ref u1), .val (.ref u2), .val (.int (2 : Int32))] [])) _
    refine XS.goto X0.here hx rfl (pc0 := 29) (pc' := 9) rfl (hb hby d3_29) (by decide) (by decide) ?_
    show Steps p.tables e below (s₁.setTop (mkF m 9 #[.val (.ref u1), .val (.ref u2), .val (.int (2 : Int32))] [])) _
    refine XS.iloadN X0.here hx rfl (hb hby d3_9) rfl ?_
    show Steps p.tables e below (s₁.setTop (mkF m 10 #[.val (.ref u1), .val (.ref u2), .val (.int (2 : Int32))] [(.int (2 : Int32))])) _
    refine XS.aloadN X0.here hx rfl (hb hby d3_10) rfl rfl ?_
    show Steps p.tables e below (s₁.setTop (mkF m 11 #[.val (.ref u1), .val (.ref u2), .val (.int (2 : Int32))] [(.ref u1), (.int (2 : Int32))])) _
    refine X0.arraylength hx (by rw [e0]; exact Ar1.1) (State.isArrayOf_alike hZ.alike Ar1.2.1) (g := (mkF m 11 #[.val (.ref u1), .val (.ref u2), .val (.int (2 : Int32))] [(.ref u1), (.int (2 : Int32))])) rfl rfl (hb hby d3_11) _ ?_
    rw [len_of S1 M1]
    show Steps p.tables e below (s₁.setTop (mkF m 12 #[.val (.ref u1), .val (.ref u2), .val (.int (2 : Int32))] [(.int (7 : Int32)), (.int (2 : Int32))])) _
    refine XS.icmpNo X0.here hx rfl (hb hby d3_12) rfl (by decide) ?_
    show Steps p.tables e below (s₁.setTop (mkF m 15 #[.val (.ref u1), .val (.ref u2), .val (.int (2 : Int32))] [])) _
    refine XS.aloadN X0.here hx rfl (hb hby d3_15) rfl rfl ?_
    show Steps p.tables e below (s₁.setTop (mkF m 16 #[.val (.ref u1), .val (.ref u2), .val (.int (2 : Int32))] [(.ref u1)])) _
    refine XS.iloadN X0.here hx rfl (hb hby d3_16) rfl ?_
    show Steps p.tables e below (s₁.setTop (mkF m 17 #[.val (.ref u1), .val (.ref u2), .val (.int (2 : Int32))] [(.int (2 : Int32)), (.ref u1)])) _
    refine X0.baloadBytes hx (j := (2 : Int32)) (v := (.int (105 : Int32))) (by rw [e0]; exact Ar1.1) (State.isArrayOf_alike hZ.alike Ar1.2.1) Ar1.2.2 (inb_of S1 ⟨by decide, by decide⟩) (H1.at (inb_of S1 ⟨by decide, by decide⟩) rfl) (g := (mkF m 17 #[.val (.ref u1), .val (.ref u2), .val (.int (2 : Int32))] [(.int (2 : Int32)), (.ref u1)])) rfl rfl (hb hby d3_17) _ ?_
    show Steps p.tables e below (s₁.setTop (mkF m 18 #[.val (.ref u1), .val (.ref u2), .val (.int (2 : Int32))] [(.int (105 : Int32))])) _
    refine XS.aloadN X0.here hx rfl (hb hby d3_18) rfl rfl ?_
    show Steps p.tables e below (s₁.setTop (mkF m 19 #[.val (.ref u1), .val (.ref u2), .val (.int (2 : Int32))] [(.ref u2), (.int (105 : Int32))])) _
    refine XS.iloadN X0.here hx rfl (hb hby d3_19) rfl ?_
    show Steps p.tables e below (s₁.setTop (mkF m 20 #[.val (.ref u1), .val (.ref u2), .val (.int (2 : Int32))] [(.int (2 : Int32)), (.ref u2), (.int (105 : Int32))])) _
    refine X0.baloadBytes hx (j := (2 : Int32)) (v := (.int (105 : Int32))) (by rw [e0]; exact Ar2.1) (State.isArrayOf_alike hZ.alike Ar2.2.1) Ar2.2.2 (inb_of S2 ⟨by decide, by decide⟩) (H2.at (inb_of S2 ⟨by decide, by decide⟩) rfl) (g := (mkF m 20 #[.val (.ref u1), .val (.ref u2), .val (.int (2 : Int32))] [(.int (2 : Int32)), (.ref u2), (.int (105 : Int32))])) rfl rfl (hb hby d3_20) _ ?_
    show Steps p.tables e below (s₁.setTop (mkF m 21 #[.val (.ref u1), .val (.ref u2), .val (.int (2 : Int32))] [(.int (105 : Int32)), (.int (105 : Int32))])) _
    refine XS.icmpYes X0.here hx rfl (pc0 := 21) (pc' := 26) rfl (hb hby d3_21) rfl (by decide) (by decide) (by decide) ?_
    show Steps p.tables e below (s₁.setTop (mkF m 26 #[.val (.ref u1), .val (.ref u2), .val (.int (2 : Int32))] [])) _
    refine XS.iinc X0.here hx rfl (hb hby d3_26) rfl (l' := #[.val (.ref u1), .val (.ref u2), .val (.int (3 : Int32))]) rfl ?_
    show Steps p.tables e below (s₁.setTop (mkF m 29 #[.val (.ref u1), .val (.ref u2), .val (.int (3 : Int32))] [])) _
    refine XS.goto X0.here hx rfl (pc0 := 29) (pc' := 9) rfl (hb hby d3_29) (by decide) (by decide) ?_
    show Steps p.tables e below (s₁.setTop (mkF m 9 #[.val (.ref u1), .val (.ref u2), .val (.int (3 : Int32))] [])) _
    refine XS.iloadN X0.here hx rfl (hb hby d3_9) rfl ?_
    show Steps p.tables e below (s₁.setTop (mkF m 10 #[.val (.ref u1), .val (.ref u2), .val (.int (3 : Int32))] [(.int (3 : Int32))])) _
    refine XS.aloadN X0.here hx rfl (hb hby d3_10) rfl rfl ?_
    show Steps p.tables e below (s₁.setTop (mkF m 11 #[.val (.ref u1), .val (.ref u2), .val (.int (3 : Int32))] [(.ref u1), (.int (3 : Int32))])) _
    refine X0.arraylength hx (by rw [e0]; exact Ar1.1) (State.isArrayOf_alike hZ.alike Ar1.2.1) (g := (mkF m 11 #[.val (.ref u1), .val (.ref u2), .val (.int (3 : Int32))] [(.ref u1), (.int (3 : Int32))])) rfl rfl (hb hby d3_11) _ ?_
    rw [len_of S1 M1]
    show Steps p.tables e below (s₁.setTop (mkF m 12 #[.val (.ref u1), .val (.ref u2), .val (.int (3 : Int32))] [(.int (7 : Int32)), (.int (3 : Int32))])) _
    refine XS.icmpNo X0.here hx rfl (hb hby d3_12) rfl (by decide) ?_
    show Steps p.tables e below (s₁.setTop (mkF m 15 #[.val (.ref u1), .val (.ref u2), .val (.int (3 : Int32))] [])) _
    refine XS.aloadN X0.here hx rfl (hb hby d3_15) rfl rfl ?_
    show Steps p.tables e below (s₁.setTop (mkF m 16 #[.val (.ref u1), .val (.ref u2), .val (.int (3 : Int32))] [(.ref u1)])) _
    refine XS.iloadN X0.here hx rfl (hb hby d3_16) rfl ?_
    show Steps p.tables e below (s₁.setTop (mkF m 17 #[.val (.ref u1), .val (.ref u2), .val (.int (3 : Int32))] [(.int (3 : Int32)), (.ref u1)])) _
    refine X0.baloadBytes hx (j := (3 : Int32)) (v := (.int (108 : Int32))) (by rw [e0]; exact Ar1.1) (State.isArrayOf_alike hZ.alike Ar1.2.1) Ar1.2.2 (inb_of S1 ⟨by decide, by decide⟩) (H1.at (inb_of S1 ⟨by decide, by decide⟩) rfl) (g := (mkF m 17 #[.val (.ref u1), .val (.ref u2), .val (.int (3 : Int32))] [(.int (3 : Int32)), (.ref u1)])) rfl rfl (hb hby d3_17) _ ?_
    show Steps p.tables e below (s₁.setTop (mkF m 18 #[.val (.ref u1), .val (.ref u2), .val (.int (3 : Int32))] [(.int (108 : Int32))])) _
    refine XS.aloadN X0.here hx rfl (hb hby d3_18) rfl rfl ?_
    show Steps p.tables e below (s₁.setTop (mkF m 19 #[.val (.ref u1), .val (.ref u2), .val (.int (3 : Int32))] [(.ref u2), (.int (108 : Int32))])) _
    refine XS.iloadN X0.here hx rfl (hb hby d3_19) rfl ?_
    show Steps p.tables e below (s₁.setTop (mkF m 20 #[.val (.ref u1), .val (.ref u2), .val (.int (3 : Int32))] [(.int (3 : Int32)), (.ref u2), (.int (108 : Int32))])) _
    refine X0.baloadBytes hx (j := (3 : Int32)) (v := (.int (108 : Int32))) (by rw [e0]; exact Ar2.1) (State.isArrayOf_alike hZ.alike Ar2.2.1) Ar2.2.2 (inb_of S2 ⟨by decide, by decide⟩) (H2.at (inb_of S2 ⟨by decide, by decide⟩) rfl) (g := (mkF m 20 #[.val (.ref u1), .val (.ref u2), .val (.int (3 : Int32))] [(.int (3 : Int32)), (.ref u2), (.int (108 : Int32))])) rfl rfl (hb hby d3_20) _ ?_
    show Steps p.tables e below (s₁.setTop (mkF m 21 #[.val (.ref u1), .val (.ref u2), .val (.int (3 : Int32))] [(.int (108 : Int32)), (.int (108 : Int32))])) _
    refine XS.icmpYes X0.here hx rfl (pc0 := 21) (pc' := 26) rfl (hb hby d3_21) rfl (by decide) (by decide) (by decide) ?_
    show Steps p.tables e below (s₁.setTop (mkF m 26 #[.val (.ref u1), .val (.ref u2), .val (.int (3 : Int32))] [])) _
    refine XS.iinc X0.here hx rfl (hb hby d3_26) rfl (l' := #[.val (.ref u1), .val (.ref u2), .val (.int (4 : Int32))]) rfl ?_
    show Steps p.tables e below (s₁.setTop (mkF m 29 #[.val (.ref u1), .val (.ref u2), .val (.int (4 : Int32))] [])) _
    refine XS.goto X0.here hx rfl (pc0 := 29) (pc' := 9) rfl (hb hby d3_29) (by decide) (by decide) ?_
    show Steps p.tables e below (s₁.setTop (mkF m 9 #[.val (.ref u1), .val (.ref u2), .val (.int (4 : Int32))] [])) _
    refine XS.iloadN X0.here hx rfl (hb hby d3_9) rfl ?_
    show Steps p.tables e below (s₁.setTop (mkF m 10 #[.val (.ref u1), .val (.ref u2), .val (.int (4 : Int32))] [(.int (4 : Int32))])) _
    refine XS.aloadN X0.here hx rfl (hb hby d3_10) rfl rfl ?_
    show Steps p.tables e below (s₁.setTop (mkF m 11 #[.val (.ref u1), .val (.ref u2), .val (.int (4 : Int32))] [(.ref u1), (.int (4 : Int32))])) _
    refine X0.arraylength hx (by rw [e0]; exact Ar1.1) (State.isArrayOf_alike hZ.alike Ar1.2.1) (g := (mkF m 11 #[.val (.ref u1), .val (.ref u2), .val (.int (4 : Int32))] [(.ref u1), (.int (4 : Int32))])) rfl rfl (hb hby d3_11) _ ?_
    rw [len_of S1 M1]
    show Steps p.tables e below (s₁.setTop (mkF m 12 #[.val (.ref u1), .val (.ref u2), .val (.int (4 : Int32))] [(.int (7 : Int32)), (.int (4 : Int32))])) _
    refine XS.icmpNo X0.here hx rfl (hb hby d3_12) rfl (by decide) ?_
    show Steps p.tables e below (s₁.setTop (mkF m 15 #[.val (.ref u1), .val (.ref u2), .val (.int (4 : Int32))] [])) _
    refine XS.aloadN X0.here hx rfl (hb hby d3_15) rfl rfl ?_
    show Steps p.tables e below (s₁.setTop (mkF m 16 #[.val (.ref u1), .val (.ref u2), .val (.int (4 : Int32))] [(.ref u1)])) _
    refine XS.iloadN X0.here hx rfl (hb hby d3_16) rfl ?_
    show Steps p.tables e below (s₁.setTop (mkF m 17 #[.val (.ref u1), .val (.ref u2), .val (.int (4 : Int32))] [(.int (4 : Int32)), (.ref u1)])) _
    refine X0.baloadBytes hx (j := (4 : Int32)) (v := (.int (117 : Int32))) (by rw [e0]; exact Ar1.1) (State.isArrayOf_alike hZ.alike Ar1.2.1) Ar1.2.2 (inb_of S1 ⟨by decide, by decide⟩) (H1.at (inb_of S1 ⟨by decide, by decide⟩) rfl) (g := (mkF m 17 #[.val (.ref u1), .val (.ref u2), .val (.int (4 : Int32))] [(.int (4 : Int32)), (.ref u1)])) rfl rfl (hb hby d3_17) _ ?_
    show Steps p.tables e below (s₁.setTop (mkF m 18 #[.val (.ref u1), .val (.ref u2), .val (.int (4 : Int32))] [(.int (117 : Int32))])) _
    refine XS.aloadN X0.here hx rfl (hb hby d3_18) rfl rfl ?_
    show Steps p.tables e below (s₁.setTop (mkF m 19 #[.val (.ref u1), .val (.ref u2), .val (.int (4 : Int32))] [(.ref u2), (.int (117 : Int32))])) _
    refine XS.iloadN X0.here hx rfl (hb hby d3_19) rfl ?_
    show Steps p.tables e below (s₁.setTop (mkF m 20 #[.val (.ref u1), .val (.ref u2), .val (.int (4 : Int32))] [(.int (4 : Int32)), (.ref u2), (.int (117 : Int32))])) _
    refine X0.baloadBytes hx (j := (4 : Int32)) (v := (.int (117 : Int32))) (by rw [e0]; exact Ar2.1) (State.isArrayOf_alike hZ.alike Ar2.2.1) Ar2.2.2 (inb_of S2 ⟨by decide, by decide⟩) (H2.at (inb_of S2 ⟨by decide, by decide⟩) rfl) (g := (mkF m 20 #[.val (.ref u1), .val (.ref u2), .val (.int (4 : Int32))] [(.int (4 : Int32)), (.ref u2), (.int (117 : Int32))])) rfl rfl (hb hby d3_20) _ ?_
    show Steps p.tables e below (s₁.setTop (mkF m 21 #[.val (.ref u1), .val (.ref u2), .val (.int (4 : Int32))] [(.int (117 : Int32)), (.int (117 : Int32))])) _
    refine XS.icmpYes X0.here hx rfl (pc0 := 21) (pc' := 26) rfl (hb hby d3_21) rfl (by decide) (by decide) (by decide) ?_
    show Steps p.tables e below (s₁.setTop (mkF m 26 #[.val (.ref u1), .val (.ref u2), .val (.int (4 : Int32))] [])) _
    refine XS.iinc X0.here hx rfl (hb hby d3_26) rfl (l' := #[.val (.ref u1), .val (.ref u2), .val (.int (5 : Int32))]) rfl ?_
    show Steps p.tables e below (s₁.setTop (mkF m 29 #[.val (.ref u1), .val (.ref u2), .val (.int (5 : Int32))] [])) _
    refine XS.goto X0.here hx rfl (pc0 := 29) (pc' := 9) rfl (hb hby d3_29) (by decide) (by decide) ?_
    show Steps p.tables e below (s₁.setTop (mkF m 9 #[.val (.ref u1), .val (.ref u2), .val (.int (5 : Int32))] [])) _
    refine XS.iloadN X0.here hx rfl (hb hby d3_9) rfl ?_
    show Steps p.tables e below (s₁.setTop (mkF m 10 #[.val (.ref u1), .val (.ref u2), .val (.int (5 : Int32))] [(.int (5 : Int32))])) _
    refine XS.aloadN X0.here hx rfl (hb hby d3_10) rfl rfl ?_
    show Steps p.tables e below (s₁.setTop (mkF m 11 #[.val (.ref u1), .val (.ref u2), .val (.int (5 : Int32))] [(.ref u1), (.int (5 : Int32))])) _
    refine X0.arraylength hx (by rw [e0]; exact Ar1.1) (State.isArrayOf_alike hZ.alike Ar1.2.1) (g := (mkF m 11 #[.val (.ref u1), .val (.ref u2), .val (.int (5 : Int32))] [(.ref u1), (.int (5 : Int32))])) rfl rfl (hb hby d3_11) _ ?_
    rw [len_of S1 M1]
    show Steps p.tables e below (s₁.setTop (mkF m 12 #[.val (.ref u1), .val (.ref u2), .val (.int (5 : Int32))] [(.int (7 : Int32)), (.int (5 : Int32))])) _
    refine XS.icmpNo X0.here hx rfl (hb hby d3_12) rfl (by decide) ?_
    show Steps p.tables e below (s₁.setTop (mkF m 15 #[.val (.ref u1), .val (.ref u2), .val (.int (5 : Int32))] [])) _
    refine XS.aloadN X0.here hx rfl (hb hby d3_15) rfl rfl ?_
    show Steps p.tables e below (s₁.setTop (mkF m 16 #[.val (.ref u1), .val (.ref u2), .val (.int (5 : Int32))] [(.ref u1)])) _
    refine XS.iloadN X0.here hx rfl (hb hby d3_16) rfl ?_
    show Steps p.tables e below (s₁.setTop (mkF m 17 #[.val (.ref u1), .val (.ref u2), .val (.int (5 : Int32))] [(.int (5 : Int32)), (.ref u1)])) _
    refine X0.baloadBytes hx (j := (5 : Int32)) (v := (.int (114 : Int32))) (by rw [e0]; exact Ar1.1) (State.isArrayOf_alike hZ.alike Ar1.2.1) Ar1.2.2 (inb_of S1 ⟨by decide, by decide⟩) (H1.at (inb_of S1 ⟨by decide, by decide⟩) rfl) (g := (mkF m 17 #[.val (.ref u1), .val (.ref u2), .val (.int (5 : Int32))] [(.int (5 : Int32)), (.ref u1)])) rfl rfl (hb hby d3_17) _ ?_
    show Steps p.tables e below (s₁.setTop (mkF m 18 #[.val (.ref u1), .val (.ref u2), .val (.int (5 : Int32))] [(.int (114 : Int32))])) _
    refine XS.aloadN X0.here hx rfl (hb hby d3_18) rfl rfl ?_
    show Steps p.tables e below (s₁.setTop (mkF m 19 #[.val (.ref u1), .val (.ref u2), .val (.int (5 : Int32))] [(.ref u2), (.int (114 : Int32))])) _
    refine XS.iloadN X0.here hx rfl (hb hby d3_19) rfl ?_
    show Steps p.tables e below (s₁.setTop (mkF m 20 #[.val (.ref u1), .val (.ref u2), .val (.int (5 : Int32))] [(.int (5 : Int32)), (.ref u2), (.int (114 : Int32))])) _
    refine X0.baloadBytes hx (j := (5 : Int32)) (v := (.int (114 : Int32))) (by rw [e0]; exact Ar2.1) (State.isArrayOf_alike hZ.alike Ar2.2.1) Ar2.2.2 (inb_of S2 ⟨by decide, by decide⟩) (H2.at (inb_of S2 ⟨by decide, by decide⟩) rfl) (g := (mkF m 20 #[.val (.ref u1), .val (.ref u2), .val (.int (5 : Int32))] [(.int (5 : Int32)), (.ref u2), (.int (114 : Int32))])) rfl rfl (hb hby d3_20) _ ?_
    show Steps p.tables e below (s₁.setTop (mkF m 21 #[.val (.ref u1), .val (.ref u2), .val (.int (5 : Int32))] [(.int (114 : Int32)), (.int (114 : Int32))])) _
    refine XS.icmpYes X0.here hx rfl (pc0 := 21) (pc' := 26) rfl (hb hby d3_21) rfl (by decide) (by decide) (by decide) ?_
    show Steps p.tables e below (s₁.setTop (mkF m 26 #[.val (.ref u1), .val (.ref u2), .val (.int (5 : Int32))] [])) _
    refine XS.iinc X0.here hx rfl (hb hby d3_26) rfl (l' := #[.val (.ref u1), .val (.ref u2), .val (.int (6 : Int32))]) rfl ?_
    show Steps p.tables e below (s₁.setTop (mkF m 29 #[.val (.ref u1), .val (.ref u2), .val (.int (6 : Int32))] [])) _
    refine XS.goto X0.here hx rfl (pc0 := 29) (pc' := 9) rfl (hb hby d3_29) (by decide) (by decide) ?_
    show Steps p.tables e below (s₁.setTop (mkF m 9 #[.val (.ref u1), .val (.ref u2), .val (.int (6 : Int32))] [])) _
    refine XS.iloadN X0.here hx rfl (hb hby d3_9) rfl ?_
    show Steps p.tables e below (s₁.setTop (mkF m 10 #[.val (.ref u1), .val (.ref u2), .val (.int (6 : Int32))] [(.int (6 : Int32))])) _
    refine XS.aloadN X0.here hx rfl (hb hby d3_10) rfl rfl ?_
    show Steps p.tables e below (s₁.setTop (mkF m 11 #[.val (.ref u1), .val (.ref u2), .val (.int (6 : Int32))] [(.ref u1), (.int (6 : Int32))])) _
    refine X0.arraylength hx (by rw [e0]; exact Ar1.1) (State.isArrayOf_alike hZ.alike Ar1.2.1) (g := (mkF m 11 #[.val (.ref u1), .val (.ref u2), .val (.int (6 : Int32))] [(.ref u1), (.int (6 : Int32))])) rfl rfl (hb hby d3_11) _ ?_
    rw [len_of S1 M1]
    show Steps p.tables e below (s₁.setTop (mkF m 12 #[.val (.ref u1), .val (.ref u2), .val (.int (6 : Int32))] [(.int (7 : Int32)), (.int (6 : Int32))])) _
    refine XS.icmpNo X0.here hx rfl (hb hby d3_12) rfl (by decide) ?_
    show Steps p.tables e below (s₁.setTop (mkF m 15 #[.val (.ref u1), .val (.ref u2), .val (.int (6 : Int32))] [])) _
    refine XS.aloadN X0.here hx rfl (hb hby d3_15) rfl rfl ?_
    show Steps p.tables e below (s₁.setTop (mkF m 16 #[.val (.ref u1), .val (.ref u2), .val (.int (6 : Int32))] [(.ref u1)])) _
    refine XS.iloadN X0.here hx rfl (hb hby d3_16) rfl ?_
    show Steps p.tables e below (s₁.setTop (mkF m 17 #[.val (.ref u1), .val (.ref u2), .val (.int (6 : Int32))] [(.int (6 : Int32)), (.ref u1)])) _
    refine X0.baloadBytes hx (j := (6 : Int32)) (v := (.int (101 : Int32))) (by rw [e0]; exact Ar1.1) (State.isArrayOf_alike hZ.alike Ar1.2.1) Ar1.2.2 (inb_of S1 ⟨by decide, by decide⟩) (H1.at (inb_of S1 ⟨by decide, by decide⟩) rfl) (g := (mkF m 17 #[.val (.ref u1), .val (.ref u2), .val (.int (6 : Int32))] [(.int (6 : Int32)), (.ref u1)])) rfl rfl (hb hby d3_17) _ ?_
    show Steps p.tables e below (s₁.setTop (mkF m 18 #[.val (.ref u1), .val (.ref u2), .val (.int (6 : Int32))] [(.int (101 : Int32))])) _
    refine XS.aloadN X0.here hx rfl (hb hby d3_18) rfl rfl ?_
    show Steps p.tables e below (s₁.setTop (mkF m 19 #[.val (.ref u1), .val (.ref u2), .val (.int (6 : Int32))] [(.ref u2), (.int (101 : Int32))])) _
    refine XS.iloadN X0.here hx rfl (hb hby d3_19) rfl ?_
    show Steps p.tables e below (s₁.setTop (mkF m 20 #[.val (.ref u1), .val (.ref u2), .val (.int (6 : Int32))] [(.int (6 : Int32)), (.ref u2), (.int (101 : Int32))])) _
    refine X0.baloadBytes hx (j := (6 : Int32)) (v := (.int (101 : Int32))) (by rw [e0]; exact Ar2.1) (State.isArrayOf_alike hZ.alike Ar2.2.1) Ar2.2.2 (inb_of S2 ⟨by decide, by decide⟩) (H2.at (inb_of S2 ⟨by decide, by decide⟩) rfl) (g := (mkF m 20 #[.val (.ref u1), .val (.ref u2), .val (.int (6 : Int32))] [(.int (6 : Int32)), (.ref u2), (.int (101 : Int32))])) rfl rfl (hb hby d3_20) _ ?_
    show Steps p.tables e below (s₁.setTop (mkF m 21 #[.val (.ref u1), .val (.ref u2), .val (.int (6 : Int32))] [(.int (101 : Int32)), (.int (101 : Int32))])) _
    refine XS.icmpYes X0.here hx rfl (pc0 := 21) (pc' := 26) rfl (hb hby d3_21) rfl (by decide) (by decide) (by decide) ?_
    show Steps p.tables e below (s₁.setTop (mkF m 26 #[.val (.ref u1), .val (.ref u2), .val (.int (6 : Int32))] [])) _
    refine XS.iinc X0.here hx rfl (hb hby d3_26) rfl (l' := #[.val (.ref u1), .val (.ref u2), .val (.int (7 : Int32))]) rfl ?_
    show Steps p.tables e below (s₁.setTop (mkF m 29 #[.val (.ref u1), .val (.ref u2), .val (.int (7 : Int32))] [])) _
    refine XS.goto X0.here hx rfl (pc0 := 29) (pc' := 9) rfl (hb hby d3_29) (by decide) (by decide) ?_
    show Steps p.tables e below (s₁.setTop (mkF m 9 #[.val (.ref u1), .val (.ref u2), .val (.int (7 : Int32))] [])) _
    refine XS.iloadN X0.here hx rfl (hb hby d3_9) rfl ?_
    show Steps p.tables e below (s₁.setTop (mkF m 10 #[.val (.ref u1), .val (.ref u2), .val (.int (7 : Int32))] [(.int (7 : Int32))])) _
    refine XS.aloadN X0.here hx rfl (hb hby d3_10) rfl rfl ?_
    show Steps p.tables e below (s₁.setTop (mkF m 11 #[.val (.ref u1), .val (.ref u2), .val (.int (7 : Int32))] [(.ref u1), (.int (7 : Int32))])) _
    refine X0.arraylength hx (by rw [e0]; exact Ar1.1) (State.isArrayOf_alike hZ.alike Ar1.2.1) (g := (mkF m 11 #[.val (.ref u1), .val (.ref u2), .val (.int (7 : Int32))] [(.ref u1), (.int (7 : Int32))])) rfl rfl (hb hby d3_11) _ ?_
    rw [len_of S1 M1]
    show Steps p.tables e below (s₁.setTop (mkF m 12 #[.val (.ref u1), .val (.ref u2), .val (.int (7 : Int32))] [(.int (7 : Int32)), (.int (7 : Int32))])) _
    refine XS.icmpYes X0.here hx rfl (pc0 := 12) (pc' := 32) rfl (hb hby d3_12) rfl (by decide) (by decide) (by decide) ?_
    show Steps p.tables e below (s₁.setTop (mkF m 32 #[.val (.ref u1), .val (.ref u2), .val (.int (7 : Int32))] [])) _
    refine XS.iconst X0.here hx rfl (hb hby d3_32) ?_
    show Steps p.tables e below (s₁.setTop (mkF m 33 #[.val (.ref u1), .val (.ref u2), .val (.int (7 : Int32))] [(.int (1 : Int32))])) _
    exact retN X0 hx (t := .boolean) Bd.returns (by simp) (hb hby d3_33) hr
  · show Q_rm_le_ff Z _ _ _ _ h0 n0 _ s₁.heap _
    rw [e0]
    exact ⟨rfl, N0, rfl⟩
theorem d2_0 : decode jdk_42_method_66_code 0 = .ok (.aload_n 0, 1) := by decide +kernel
theorem d2_1 : decode jdk_42_method_66_code 1 = .ok (.aload_n 1, 1) := by decide +kernel
theorem d2_2 : decode jdk_42_method_66_code 2 = .ok (.if_acmp .ne 5, 3) := by decide +kernel
theorem d2_7 : decode jdk_42_method_66_code 7 = .ok (.aload_n 1, 1) := by decide +kernel
theorem d2_8 : decode jdk_42_method_66_code 8 = .ok (.instanceof 10, 3) := by decide +kernel
theorem d2_11 : decode jdk_42_method_66_code 11 = .ok (.ifCond .eq 43, 3) := by decide +kernel
theorem d2_14 : decode jdk_42_method_66_code 14 = .ok (.aload_n 1, 1) := by decide +kernel
theorem d2_15 : decode jdk_42_method_66_code 15 = .ok (.checkcast 10, 3) := by decide +kernel
theorem d2_18 : decode jdk_42_method_66_code 18 = .ok (.astore_n 2, 1) := by decide +kernel
theorem d2_19 : decode jdk_42_method_66_code 19 = .ok (.getstatic 38, 3) := by decide +kernel
theorem d2_22 : decode jdk_42_method_66_code 22 = .ok (.ifCond .eq 14, 3) := by decide +kernel
theorem d2_25 : decode jdk_42_method_66_code 25 = .ok (.aload_n 0, 1) := by decide +kernel
theorem d2_26 : decode jdk_42_method_66_code 26 = .ok (.getfield 15, 3) := by decide +kernel
theorem d2_29 : decode jdk_42_method_66_code 29 = .ok (.aload_n 2, 1) := by decide +kernel
theorem d2_30 : decode jdk_42_method_66_code 30 = .ok (.getfield 15, 3) := by decide +kernel
theorem d2_33 : decode jdk_42_method_66_code 33 = .ok (.if_icmp .ne 21, 3) := by decide +kernel
theorem d2_36 : decode jdk_42_method_66_code 36 = .ok (.aload_n 0, 1) := by decide +kernel
theorem d2_37 : decode jdk_42_method_66_code 37 = .ok (.getfield 9, 3) := by decide +kernel
theorem d2_40 : decode jdk_42_method_66_code 40 = .ok (.aload_n 2, 1) := by decide +kernel
theorem d2_41 : decode jdk_42_method_66_code 41 = .ok (.getfield 9, 3) := by decide +kernel
theorem d2_44 : decode jdk_42_method_66_code 44 = .ok (.invokestatic 541, 3) := by decide +kernel
theorem pd_979783 : parseMethodDescriptor "([B[B)Z" = some ⟨[(.array .byte), (.array .byte)], some .boolean⟩ := by decide +kernel
theorem d2_47 : decode jdk_42_method_66_code 47 = .ok (.ifCond .eq 7, 3) := by decide +kernel
theorem d2_50 : decode jdk_42_method_66_code 50 = .ok (.iconst 1, 1) := by decide +kernel
theorem d2_51 : decode jdk_42_method_66_code 51 = .ok (.goto 4, 3) := by decide +kernel
theorem d2_55 : decode jdk_42_method_66_code 55 = .ok (.ireturn, 1) := by decide +kernel
theorem d2_5 : decode jdk_42_method_66_code 5 = .ok (.iconst 1, 1) := by decide +kernel
theorem d2_6 : decode jdk_42_method_66_code 6 = .ok (.ireturn, 1) := by decide +kernel
theorem ef_rm_eq_ss (m : MethodId) (x0 : Addr) (x1 : Addr) : entryFrame m #[(.ref x0), (.ref x1)] 3 = mkF m 0 #[.val (.ref x0), .val (.ref x1), .unset] [] := by first | (simp [entryFrame, mkF, argsToLocals, Value.category]; done) | rfl
def Q_rm_eq_ss (Z : State) (u1 : Addr) (u2 : Addr) (zc : Int32) (t1 : Addr) (k1 : ClassId) (t2 : Addr) (k2 : ClassId) (h0 : Heap) (n0 : Nat) (v : Option Value) (h : Heap) (L : List Loc) : Prop := v = some (.int (1 : Int32)) ∧ Fr n0 L ∧ h = h0
theorem pn_453642 : plainName "java/lang/String" = true := by first | (simp [plainName, overriddenIn]; done) | decide +kernel
set_option maxRecDepth 65536 in
set_option maxHeartbeats 40000000 in
theorem rm_eq_ss (l : Launch) (Z : State) (a0 : Array Value) (hw : ∀ d ∈ tables_1, d.before a0 Z = true) (ws : List Jvm.Cond) (u1 : Addr) (u2 : Addr) (zc : Int32) (t1 : Addr) (k1 : ClassId) (t2 : Addr) (k2 : ClassId) (h0 : Heap) (n0 : Nat) (Z0 : n0 ≤ h0.size) (S1 : Sta Z h0 "java/lang/String" "COMPACT_STRINGS" "Z" (.int zc)) (hz : ¬ zc = 0) (E2 : Exa Z h0 u2 "java/lang/String") (F1 : Fld Z h0 u1 "java/lang/String" "coder" "B" (.int (0 : Int32))) (F2 : Fld Z h0 u2 "java/lang/String" "coder" "B" (.int (0 : Int32))) (G1 : Fld Z h0 u1 "java/lang/String" "value" "[B" (.ref t1)) (G2 : Fld Z h0 u2 "java/lang/String" "value" "[B" (.ref t2)) (V1 : Arv Z h0 t1 k1 .byte (7 : Int32) [(.int (115 : Int32)), (.int (117 : Int32)), (.int (99 : Int32)), (.int (99 : Int32)), (.int (101 : Int32)), (.int (115 : Int32)), (.int (115 : Int32))] (.int (0 : Int32))) (V2 : Arv Z h0 t2 k2 .byte (7 : Int32) [(.int (115 : Int32)), (.int (117 : Int32)), (.int (99 : Int32)), (.int (99 : Int32)), (.int (101 : Int32)), (.int (115 : Int32)), (.int (115 : Int32))] (.int (0 : Int32))) :
    MetFree l (⟨"java/lang/String", "equals", "(Ljava/lang/Object;)Z"⟩ : MethodName) (head1 (Jvm.Cond.code (⟨"java/lang/String", "equals", "(Ljava/lang/Object;)Z"⟩ : MethodName) jdk_42_method_66_code 3 (some .boolean) :: ws) ({ frames := 1, cells := 0, slots := 0, locals := 14 } : Room)) (fun a U => a = #[(.ref u1), (.ref u2)] ∧ Z.Warmed39 U.vm ∧ U.heap = h0) (fun _ _ _ _ _ => True) (fun _ U o U' => ∃ v L, o = .returned v ∧ Q_rm_eq_ss Z u1 u2 zc t1 k1 t2 k2 h0 n0 v U'.heap L ∧ FrameEnd U o U' L ({ frames := 1, cells := 0, slots := 0, locals := 14 } : Room).cells ({ frames := 1, cells := 0, slots := 0, locals := 14 } : Room).slots) := by
  refine MetFree.of_bodySF (plainFor_of_name pn_453642) hisR ?_
  intro p e s m args below meth c s₁ Bd hml0 hP hK
  obtain ⟨rfl, hZ, hh⟩ := hP
  have hx := Bd.exec
  have hby := Bd.bytes
  have hml : c.maxLocals = 3 := hml0
  have hown : s.vm.findClass "java/lang/String" = some m.cls := findClass_of_methodNamed Bd.named
  have hnm := (name_of_methodNamed Bd.named Bd.method).1
  have X0 : Stand p l e ({ frames := 1, cells := 0, slots := 0, locals := 14 } : Room) s m #[(.ref u1), (.ref u2)] below meth c s₁ [] 0 0 := Stand.of_body Bd
  have e0 : s₁.heap = h0 := by rw [← hh, Bd.state]; rfl
  have N0 := Fr.nil n0
  have pre0 : ∀ t, Steps p.tables e below (s₁.setTop (mkF m 0 #[.val (.ref u1), .val (.ref u2), .unset] [])) t → Steps p.tables e below (s₁.setTop (entryFrame m #[(.ref u1), (.ref u2)] 3)) t := fun t k => castTop (ef_rm_eq_ss m u1 u2) k
  have pre1 : ∀ t, Steps p.tables e below (s₁.setTop (mkF m 2 #[.val (.ref u1), .val (.ref u2), .unset] [(.ref u2), (.ref u1)])) t → Steps p.tables e below (s₁.setTop (entryFrame m #[(.ref u1), (.ref u2)] 3)) t := by
    intro t k
    refine pre0 t ?_
    show Steps p.tables e below (s₁.setTop (mkF m 0 #[.val (.ref u1), .val (.ref u2), .unset] [])) _
    refine XS.aloadN X0.here hx rfl (hb hby d2_0) rfl rfl ?_
    show Steps p.tables e below (s₁.setTop (mkF m 1 #[.val (.ref u1), .val (.ref u2), .unset] [(.ref u1)])) _
    refine XS.aloadN X0.here hx rfl (hb hby d2_1) rfl rfl ?_
    exact k
  rcases Bool.eq_false_or_eq_true (if_acmp.holds .ne (some u1) (some u2)) with hb2 | hb2
  · obtain ⟨T2, X2, e2, st2⟩ := instY X0 hx hZ hown (own_w hw 25 rfl) e0 (Ins.self E2) (g := (mkF m 8 #[.val (.ref u1), .val (.ref u2), .unset] [(.ref u2)])) rfl rfl (hb hby d2_8)
    obtain ⟨T3, X3, e3, st3⟩ := castY X2 hx hZ hown (own_w hw 25 rfl) e2 (Ins.self E2) (g := (mkF m 15 #[.val (.ref u1), .val (.ref u2), .unset] [(.ref u2)])) rfl rfl (hb hby d2_15)
    obtain ⟨T4, X4, e4, st4⟩ := getS2 X3 hx hZ hown (host := "") (Or.inl (own_w hw 27 rfl)) Via.refl e3 S1 (g := (mkF m 19 #[.val (.ref u1), .val (.ref u2), .val (.ref u2)] [])) rfl (hb hby d2_19)
    obtain ⟨T5, X5, e5, st5⟩ := getF X4 hx hZ hown (host := "") (Or.inl (own_w hw 28 rfl)) Via.refl e4 F1 (g := (mkF m 26 #[.val (.ref u1), .val (.ref u2), .val (.ref u2)] [(.ref u1)])) rfl rfl (hb hby d2_26)
    obtain ⟨T6, X6, e6, st6⟩ := getF X5 hx hZ hown (host := "") (Or.inl (own_w hw 28 rfl)) Via.refl e5 F2 (g := (mkF m 30 #[.val (.ref u1), .val (.ref u2), .val (.ref u2)] [(.ref u2), (.int (0 : Int32))])) rfl rfl (hb hby d2_30)
    obtain ⟨T7, X7, e7, st7⟩ := getF X6 hx hZ hown (host := "") (Or.inl (own_w hw 29 rfl)) Via.refl e6 G1 (g := (mkF m 37 #[.val (.ref u1), .val (.ref u2), .val (.ref u2)] [(.ref u1)])) rfl rfl (hb hby d2_37)
    obtain ⟨T8, X8, e8, st8⟩ := getF X7 hx hZ hown (host := "") (Or.inl (own_w hw 29 rfl)) Via.refl e7 G2 (g := (mkF m 41 #[.val (.ref u1), .val (.ref u2), .val (.ref u2)] [(.ref u2), (.ref t1)])) rfl rfl (hb hby d2_41)
    obtain ⟨_, _, ⟨T9, L9, k9, n9⟩, -, X9, ⟨Lc9, hQ9, l9, y9, z9⟩, st9⟩ := Jvm.LawKit.callS X8 hx (y := (⟨"java/lang/StringLatin1", "equals", "([B[B)Z"⟩ : MethodName)) hown (mvT hZ (own_w hw 30 rfl)) (mvT hZ (own_w hw 31 rfl)) (mvT hZ (own_w hw 32 rfl)) (mvT hZ (own_w hw 33 rfl)) (by decide) (backOf (W := 0) (rm_le_ss l Z a0 hw [] t1 t2 k1 k2 h0 n0 Z0 V1 V2) hZ (own_w hw 33 rfl) (own_w hw 32 rfl) (by decide) (by decide)) (g := (mkF m 44 #[.val (.ref u1), .val (.ref u2), .val (.ref u2)] [(.ref t2), (.ref t1)])) rfl (by rw [hml]; rfl) (argsL := [(.ref t1), (.ref t2)]) (rest := []) (lenOf pd_979783 rfl) rfl (by show 2 * 0 + _ ≤ _; exact Nat.le_of_eq rfl) (hb hby d2_44) (fun _ _ => ⟨rfl, e8, (by decide : 0 + 0 ≤ _), (by decide : 0 + 0 ≤ _)⟩)
    dsimp only [Pt.U, Pt.locs, Pt.cells, Pt.slots] at X9 l9 y9 z9 st9 hQ9
    subst l9 y9 z9
    obtain ⟨rfl, Nq9, eq9⟩ := hQ9
    have N9 := Fr.app N0 Nq9
    obtain ⟨fs, hr, hrun, hended, hW, hsame⟩ := X9.leave (v := some (.int (1 : Int32))) (fun h => by rw [Bd.returns] at h; cases h)
    refine ⟨_, _, pre1 _ ?_, hrun, hended, _, _, rfl, ?_, ⟨_, rfl⟩, hW, hsame.mono (by decide) (by decide)⟩
    · show Steps p.tables e below (s₁.setTop (mkF m 2 #[.val (.ref u1), .val (.ref u2), .unset] [(.ref u2), (.ref u1)])) _
      refine XS.acmpYes X0.here hx rfl (pc0 := 2) (pc' := 7) rfl (hb hby d2_2) rfl hb2 (by decide) (by decide) ?_
      show Steps p.tables e below (s₁.setTop (mkF m 7 #[.val (.ref u1), .val (.ref u2), .unset] [])) _
      refine XS.aloadN X0.here hx rfl (hb hby d2_7) rfl rfl ?_
      show Steps p.tables e below (s₁.setTop (mkF m 8 #[.val (.ref u1), .val (.ref u2), .unset] [(.ref u2)])) _
      refine st2 _ ?_
      show Steps p.tables e below (T2.setTop (mkF m 11 #[.val (.ref u1), .val (.ref u2), .unset] [(.int (1 : Int32))])) _
      refine XS.ifNo X2.here hx rfl (hb hby d2_11) rfl (by decide) ?_
      show Steps p.tables e below (T2.setTop (mkF m 14 #[.val (.ref u1), .val (.ref u2), .unset] [])) _
      refine XS.aloadN X2.here hx rfl (hb hby d2_14) rfl rfl ?_
      show Steps p.tables e below (T2.setTop (mkF m 15 #[.val (.ref u1), .val (.ref u2), .unset] [(.ref u2)])) _
      refine st3 _ ?_
      show Steps p.tables e below (T3.setTop (mkF m 18 #[.val (.ref u1), .val (.ref u2), .unset] [(.ref u2)])) _
      refine XS.astoreN X3.here hx rfl (hb hby d2_18) rfl rfl (l' := #[.val (.ref u1), .val (.ref u2), .val (.ref u2)]) rfl ?_
      show Steps p.tables e below (T3.setTop (mkF m 19 #[.val (.ref u1), .val (.ref u2), .val (.ref u2)] [])) _
      refine st4 _ ?_
      show Steps p.tables e below (T4.setTop (mkF m 22 #[.val (.ref u1), .val (.ref u2), .val (.ref u2)] [(.int zc)])) _
      refine XS.ifNo X4.here hx rfl (hb hby d2_22) rfl (own_nz hz) ?_
      show Steps p.tables e below (T4.setTop (mkF m 25 #[.val (.ref u1), .val (.ref u2), .val (.ref u2)] [])) _
      refine XS.aloadN X4.here hx rfl (hb hby d2_25) rfl rfl ?_
      show Steps p.tables e below (T4.setTop (mkF m 26 #[.val (.ref u1), .val (.ref u2), .val (.ref u2)] [(.ref u1)])) _
      refine st5 _ ?_
      show Steps p.tables e below (T5.setTop (mkF m 29 #[.val (.ref u1), .val (.ref u2), .val (.ref u2)] [(.int (0 : Int32))])) _
      refine XS.aloadN X5.here hx rfl (hb hby d2_29) rfl rfl ?_
      show Steps p.tables e below (T5.setTop (mkF m 30 #[.val (.ref u1), .val (.ref u2), .val (.ref u2)] [(.ref u2), (.int (0 : Int32))])) _
      refine st6 _ ?_
      show Steps p.tables e below (T6.setTop (mkF m 33 #[.val (.ref u1), .val (.ref u2), .val (.ref u2)] [(.int (0 : Int32)), (.int (0 : Int32))])) _
      refine XS.icmpNo X6.here hx rfl (hb hby d2_33) rfl (by decide) ?_
      show Steps p.tables e below (T6.setTop (mkF m 36 #[.val (.ref u1), .val (.ref u2), .val (.ref u2)] [])) _
      refine XS.aloadN X6.here hx rfl (hb hby d2_36) rfl rfl ?_
      show Steps p.tables e below (T6.setTop (mkF m 37 #[.val (.ref u1), .val (.ref u2), .val (.ref u2)] [(.ref u1)])) _
      refine st7 _ ?_
      show Steps p.tables e below (T7.setTop (mkF m 40 #[.val (.ref u1), .val (.ref u2), .val (.ref u2)] [(.ref t1)])) _
      refine XS.aloadN X7.here hx rfl (hb hby d2_40) rfl rfl ?_
      show Steps p.tables e below (T7.setTop (mkF m 41 #[.val (.ref u1), .val (.ref u2), .val (.ref u2)] [(.ref u2), (.ref t1)])) _
      refine st8 _ ?_
      show Steps p.tables e below (T8.setTop (mkF m 44 #[.val (.ref u1), .val (.ref u2), .val (.ref u2)] [(.ref t2), (.ref t1)])) _
      refine st9 _ ?_
      show Steps p.tables e below (T9.setTop (mkF m 47 #[.val (.ref u1), .val (.ref u2), .val (.ref u2)] [(.int (1 : Int32))])) _
      refine XS.ifNo X9.here hx rfl (hb hby d2_47) rfl (by decide) ?_
      show Steps p.tables e below (T9.setTop (mkF m 50 #[.val (.ref u1), .val (.ref u2), .val (.ref u2)] [])) _
      refine XS.iconst X9.here hx rfl (hb hby d2_50) ?_
      show Steps p.tables e below (T9.setTop (mkF m 51 #[.val (.ref u1), .val (.ref u2), .val (.ref u2)] [(.int (1 : Int32))])) _
      refine XS.goto X9.here hx rfl (pc0 := 51) (pc' := 55) rfl (hb hby d2_51) (by decide) (by decide) ?_
      show Steps p.tables e below (T9.setTop (mkF m 55 #[.val (.ref u1), .val (.ref u2), .val (.ref u2)] [(.int (1 : Int32))])) _
      exact retN X9 hx (t := .boolean) Bd.returns (by simp) (hb hby d2_55) hr
    · show Q_rm_eq_ss Z _ _ _ _ _ _ _ h0 n0 _ T9.heap _
      rw [eq9]
      exact ⟨rfl, N9, rfl⟩
  · obtain ⟨fs, hr, hrun, hended, hW, hsame⟩ := X0.leave (v := some (.int (1 : Int32))) (fun h => by rw [Bd.returns] at h; cases h)
    refine ⟨_, _, pre1 _ ?_, hrun, hended, _, _, rfl, ?_, ⟨_, rfl⟩, hW, hsame.mono (by decide) (by decide)⟩
    · show Steps p.tables e below (s₁.setTop (mkF m 2 #[.val (.ref u1), .val (.ref u2), .unset] [(.ref u2), (.ref u1)])) _
      refine XS.acmpNo X0.here hx rfl (hb hby d2_2) rfl hb2 ?_
      show Steps p.tables e below (s₁.setTop (mkF m 5 #[.val (.ref u1), .val (.ref u2), .unset] [])) _
      refine XS.iconst X0.here hx rfl (hb hby d2_5) ?_
      show Steps p.tables e below (s₁.setTop (mkF m 6 #[.val (.ref u1), .val (.ref u2), .unset] [(.int (1 : Int32))])) _
      exact retN X0 hx (t := .boolean) Bd.returns (by simp) (hb hby d2_6) hr
    · show Q_rm_eq_ss Z _ _ _ _ _ _ _ h0 n0 _ s₁.heap _
      rw [e0]
      exact ⟨rfl, N0, rfl⟩
theorem d2_54 : decode jdk_42_method_66_code 54 = .ok (.iconst 0, 1) := by decide +kernel
theorem ef_rm_eq_sf (m : MethodId) (x0 : Addr) (x1 : Addr) : entryFrame m #[(.ref x0), (.ref x1)] 3 = mkF m 0 #[.val (.ref x0), .val (.ref x1), .unset] [] := by first | (simp [entryFrame, mkF, argsToLocals, Value.category]; done) | rfl
def Q_rm_eq_sf (Z : State) (u1 : Addr) (u2 : Addr) (zc : Int32) (t1 : Addr) (k1 : ClassId) (t2 : Addr) (k2 : ClassId) (h0 : Heap) (n0 : Nat) (v : Option Value) (h : Heap) (L : List Loc) : Prop := v = some (.int (0 : Int32)) ∧ Fr n0 L ∧ h = h0
set_option maxRecDepth 65536 in
set_option maxHeartbeats 40000000 in
theorem rm_eq_sf (l : Launch) (Z : State) (a0 : Array Value) (hw : ∀ d ∈ tables_1, d.before a0 Z = true) (ws : List Jvm.Cond) (u1 : Addr) (u2 : Addr) (zc : Int32) (t1 : Addr) (k1 : ClassId) (t2 : Addr) (k2 : ClassId) (h0 : Heap) (n0 : Nat) (Z0 : n0 ≤ h0.size) (S1 : Sta Z h0 "java/lang/String" "COMPACT_STRINGS" "Z" (.int zc)) (hz : ¬ zc = 0) (E2 : Exa Z h0 u2 "java/lang/String") (F1 : Fld Z h0 u1 "java/lang/String" "coder" "B" (.int (0 : Int32))) (F2 : Fld Z h0 u2 "java/lang/String" "coder" "B" (.int (0 : Int32))) (G1 : Fld Z h0 u1 "java/lang/String" "value" "[B" (.ref t1)) (G2 : Fld Z h0 u2 "java/lang/String" "value" "[B" (.ref t2)) (V1 : Arv Z h0 t1 k1 .byte (7 : Int32) [(.int (115 : Int32)), (.int (117 : Int32)), (.int (99 : Int32)), (.int (99 : Int32)), (.int (101 : Int32)), (.int (115 : Int32)), (.int (115 : Int32))] (.int (0 : Int32))) (V2 : Arv Z h0 t2 k2 .byte (7 : Int32) [(.int (102 : Int32)), (.int (97 : Int32)), (.int (105 : Int32)), (.int (108 : Int32)), (.int (117 : Int32)), (.int (114 : Int32)), (.int (101 : Int32))] (.int (0 : Int32))) :
    MetFree l (⟨"java/lang/String", "equals", "(Ljava/lang/Object;)Z"⟩ : MethodName) (head1 (Jvm.Cond.code (⟨"java/lang/String", "equals", "(Ljava/lang/Object;)Z"⟩ : MethodName) jdk_42_method_66_code 3 (some .boolean) :: ws) ({ frames := 1, cells := 0, slots := 0, locals := 14 } : Room)) (fun a U => a = #[(.ref u1), (.ref u2)] ∧ Z.Warmed39 U.vm ∧ U.heap = h0) (fun _ _ _ _ _ => True) (fun _ U o U' => ∃ v L, o = .returned v ∧ Q_rm_eq_sf Z u1 u2 zc t1 k1 t2 k2 h0 n0 v U'.heap L ∧ FrameEnd U o U' L ({ frames := 1, cells := 0, slots := 0, locals := 14 } : Room).cells ({ frames := 1, cells := 0, slots := 0, locals := 14 } : Room).slots) := by
  refine MetFree.of_bodySF (plainFor_of_name pn_453642) hisR ?_
  intro p e s m args below meth c s₁ Bd hml0 hP hK
  obtain ⟨rfl, hZ, hh⟩ := hP
  have hx := Bd.exec
  have hby := Bd.bytes
  have hml : c.maxLocals = 3 := hml0
  have hown : s.vm.findClass "java/lang/String" = some m.cls := findClass_of_methodNamed Bd.named
  have hnm := (name_of_methodNamed Bd.named Bd.method).1
  have X0 : Stand p l e ({ frames := 1, cells := 0, slots := 0, locals := 14 } : Room) s m #[(.ref u1), (.ref u2)] below meth c s₁ [] 0 0 := Stand.of_body Bd
  have e0 : s₁.heap = h0 := by rw [← hh, Bd.state]; rfl
  have N0 := Fr.nil n0
  have pre0 : ∀ t, Steps p.tables e below (s₁.setTop (mkF m 0 #[.val (.ref u1), .val (.ref u2), .unset] [])) t → Steps p.tables e below (s₁.setTop (entryFrame m #[(.ref u1), (.ref u2)] 3)) t := fun t k => castTop (ef_rm_eq_sf m u1 u2) k
  obtain ⟨T1, X1, e1, st1⟩ := instY X0 hx hZ hown (own_w hw 25 rfl) e0 (Ins.self E2) (g := (mkF m 8 #[.val (.ref u1), .val (.ref u2), .unset] [(.ref u2)])) rfl rfl (hb hby d2_8)
  obtain ⟨T2, X2, e2, st2⟩ := castY X1 hx hZ hown (own_w hw 25 rfl) e1 (Ins.self E2) (g := (mkF m 15 #[.val (.ref u1), .val (.ref u2), .unset] [(.ref u2)])) rfl rfl (hb hby d2_15)
  obtain ⟨T3, X3, e3, st3⟩ := getS2 X2 hx hZ hown (host := "") (Or.inl (own_w hw 27 rfl)) Via.refl e2 S1 (g := (mkF m 19 #[.val (.ref u1), .val (.ref u2), .val (.ref u2)] [])) rfl (hb hby d2_19)
  obtain ⟨T4, X4, e4, st4⟩ := getF X3 hx hZ hown (host := "") (Or.inl (own_w hw 28 rfl)) Via.refl e3 F1 (g := (mkF m 26 #[.val (.ref u1), .val (.ref u2), .val (.ref u2)] [(.ref u1)])) rfl rfl (hb hby d2_26)
  obtain ⟨T5, X5, e5, st5⟩ := getF X4 hx hZ hown (host := "") (Or.inl (own_w hw 28 rfl)) Via.refl e4 F2 (g := (mkF m 30 #[.val (.ref u1), .val (.ref u2), .val (.ref u2)] [(.ref u2), (.int (0 : Int32))])) rfl rfl (hb hby d2_30)
  obtain ⟨T6, X6, e6, st6⟩ := getF X5 hx hZ hown (host := "") (Or.inl (own_w hw 29 rfl)) Via.refl e5 G1 (g := (mkF m 37 #[.val (.ref u1), .val (.ref u2), .val (.ref u2)] [(.ref u1)])) rfl rfl (hb hby d2_37)
  obtain ⟨T7, X7, e7, st7⟩ := getF X6 hx hZ hown (host := "") (Or.inl (own_w hw 29 rfl)) Via.refl e6 G2 (g := (mkF m 41 #[.val (.ref u1), .val (.ref u2), .val (.ref u2)] [(.ref u2), (.ref t1)])) rfl rfl (hb hby d2_41)
  obtain ⟨_, _, ⟨T8, L8, k8, n8⟩, -, X8, ⟨Lc8, hQ8, l8, y8, z8⟩, st8⟩ := Jvm.LawKit.callS X7 hx (y := (⟨"java/lang/StringLatin1", "equals", "([B[B)Z"⟩ : MethodName)) hown (mvT hZ (own_w hw 30 rfl)) (mvT hZ (own_w hw 31 rfl)) (mvT hZ (own_w hw 32 rfl)) (mvT hZ (own_w hw 33 rfl)) (by decide) (backOf (W := 0) (rm_le_sf l Z a0 hw [] t1 t2 k1 k2 h0 n0 Z0 V1 V2) hZ (own_w hw 33 rfl) (own_w hw 32 rfl) (by decide) (by decide)) (g := (mkF m 44 #[.val (.ref u1), .val (.ref u2), .val (.ref u2)] [(.ref t2), (.ref t1)])) rfl (by rw [hml]; rfl) (argsL := [(.ref t1), (.ref t2)]) (rest := []) (lenOf pd_979783 rfl) rfl (by show 2 * 0 + _ ≤ _; exact Nat.le_of_eq rfl) (hb hby d2_44) (fun _ _ => ⟨rfl, e7, (by decide : 0 + 0 ≤ _), (by decide : 0 + 0 ≤ _)⟩)
  dsimp only [Pt.U, Pt.locs, Pt.cells, Pt.slots] at X8 l8 y8 z8 st8 hQ8
  subst l8 y8 z8
  obtain ⟨rfl, Nq8, eq8⟩ := hQ8
  have N8 := Fr.app N0 Nq8
  obtain ⟨fs, hr, hrun, hended, hW, hsame⟩ := X8.leave (v := some (.int (0 : Int32))) (fun h => by rw [Bd.returns] at h; cases h)
  refine ⟨_, _, pre0 _ ?_, hrun, hended, _, _, rfl, ?_, ⟨_, rfl⟩, hW, hsame.mono (by decide) (by decide)⟩
  · show Steps p.tables e below (s₁.setTop (mkF m 0 #[.val (.ref u1), .val (.ref u2), .unset] [])) _
    refine XS.aloadN X0.here hx rfl (hb hby d2_0) rfl rfl ?_
    show Steps p.tables e below (s₁.setTop (mkF m 1 #[.val (.ref u1), .val (.ref u2), .unset] [(.ref u1)])) _
    refine XS.aloadN X0.here hx rfl (hb hby d2_1) rfl rfl ?_
    show Steps p.tables e below (s₁.setTop (mkF m 2 #[.val (.ref u1), .val (.ref u2), .unset] [(.ref u2), (.ref u1)])) _
    refine XS.acmpYes X0.here hx rfl (pc0 := 2) (pc' := 7) rfl (hb hby d2_2) rfl (by have q : u1 ≠ u2 := Fld.ne G1 G2 (fun z => arv_ne V1 V2 (Or.inr ⟨0, by decide, by simp⟩) (Value.ref.inj z)); simp [if_acmp.holds, q]) (by decide) (by decide) ?_
    show Steps p.tables e below (s₁.setTop (mkF m 7 #[.val (.ref u1), .val (.ref u2), .unset] [])) _
    refine XS.aloadN X0.here hx rfl (hb hby d2_7) rfl rfl ?_
    show Steps p.tables e below (s₁.setTop (mkF m 8 #[.val (.ref u1), .val (.ref u2), .unset] [(.ref u2)])) _
    refine st1 _ ?_
    show Steps p.tables e below (T1.setTop (mkF m 11 #[.val (.ref u1), .val (.ref u2), .unset] [(.int (1 : Int32))])) _
    refine XS.ifNo X1.here hx rfl (hb hby d2_11) rfl (by decide) ?_
    show Steps p.tables e below (T1.setTop (mkF m 14 #[.val (.ref u1), .val (.ref u2), .unset] [])) _
    refine XS.aloadN X1.here hx rfl (hb hby d2_14) rfl rfl ?_
    show Steps p.tables e below (T1.setTop (mkF m 15 #[.val (.ref u1), .val (.ref u2), .unset] [(.ref u2)])) _
    refine st2 _ ?_
    show Steps p.tables e below (T2.setTop (mkF m 18 #[.val (.ref u1), .val (.ref u2), .unset] [(.ref u2)])) _
    refine XS.astoreN X2.here hx rfl (hb hby d2_18) rfl rfl (l' := #[.val (.ref u1), .val (.ref u2), .val (.ref u2)]) rfl ?_
    show Steps p.tables e below (T2.setTop (mkF m 19 #[.val (.ref u1), .val (.ref u2), .val (.ref u2)] [])) _
    refine st3 _ ?_
    show Steps p.tables e below (T3.setTop (mkF m 22 #[.val (.ref u1), .val (.ref u2), .val (.ref u2)] [(.int zc)])) _
    refine XS.ifNo X3.here hx rfl (hb hby d2_22) rfl (own_nz hz) ?_
    show Steps p.tables e below (T3.setTop (mkF m 25 #[.val (.ref u1), .val (.ref u2), .val (.ref u2)] [])) _
    refine XS.aloadN X3.here hx rfl (hb hby d2_25) rfl rfl ?_
    show Steps p.tables e below (T3.setTop (mkF m 26 #[.val (.ref u1), .val (.ref u2), .val (.ref u2)] [(.ref u1)])) _
    refine st4 _ ?_
    show Steps p.tables e below (T4.setTop (mkF m 29 #[.val (.ref u1), .val (.ref u2), .val (.ref u2)] [(.int (0 : Int32))])) _
    refine XS.aloadN X4.here hx rfl (hb hby d2_29) rfl rfl ?_
    show Steps p.tables e below (T4.setTop (mkF m 30 #[.val (.ref u1), .val (.ref u2), .val (.ref u2)] [(.ref u2), (.int (0 : Int32))])) _
    refine st5 _ ?_
    show Steps p.tables e below (T5.setTop (mkF m 33 #[.val (.ref u1), .val (.ref u2), .val (.ref u2)] [(.int (0 : Int32)), (.int (0 : Int32))])) _
    refine XS.icmpNo X5.here hx rfl (hb hby d2_33) rfl (by decide) ?_
    show Steps p.tables e below (T5.setTop (mkF m 36 #[.val (.ref u1), .val (.ref u2), .val (.ref u2)] [])) _
    refine XS.aloadN X5.here hx rfl (hb hby d2_36) rfl rfl ?_
    show Steps p.tables e below (T5.setTop (mkF m 37 #[.val (.ref u1), .val (.ref u2), .val (.ref u2)] [(.ref u1)])) _
    refine st6 _ ?_
    show Steps p.tables e below (T6.setTop (mkF m 40 #[.val (.ref u1), .val (.ref u2), .val (.ref u2)] [(.ref t1)])) _
    refine XS.aloadN X6.here hx rfl (hb hby d2_40) rfl rfl ?_
    show Steps p.tables e below (T6.setTop (mkF m 41 #[.val (.ref u1), .val (.ref u2), .val (.ref u2)] [(.ref u2), (.ref t1)])) _
    refine st7 _ ?_
    show Steps p.tables e below (T7.setTop (mkF m 44 #[.val (.ref u1), .val (.ref u2), .val (.ref u2)] [(.ref t2), (.ref t1)])) _
    refine st8 _ ?_
    show Steps p.tables e below (T8.setTop (mkF m 47 #[.val (.ref u1), .val (.ref u2), .val (.ref u2)] [(.int (0 : Int32))])) _
    refine XS.ifYes X8.here hx rfl (pc0 := 47) (pc' := 54) rfl (hb hby d2_47) rfl (by decide) (by decide) (by decide) ?_
    show Steps p.tables e below (T8.setTop (mkF m 54 #[.val (.ref u1), .val (.ref u2), .val (.ref u2)] [])) _
    refine XS.iconst X8.here hx rfl (hb hby d2_54) ?_
    show Steps p.tables e below (T8.setTop (mkF m 55 #[.val (.ref u1), .val (.ref u2), .val (.ref u2)] [(.int (0 : Int32))])) _
    exact retN X8 hx (t := .boolean) Bd.returns (by simp) (hb hby d2_55) hr
  · show Q_rm_eq_sf Z _ _ _ _ _ _ _ h0 n0 _ T8.heap _
    rw [eq8]
    exact ⟨rfl, N8, rfl⟩
theorem ef_rm_eq_fs (m : MethodId) (x0 : Addr) (x1 : Addr) : entryFrame m #[(.ref x0), (.ref x1)] 3 = mkF m 0 #[.val (.ref x0), .val (.ref x1), .unset] [] := by first | (simp [entryFrame, mkF, argsToLocals, Value.category]; done) | rfl
def Q_rm_eq_fs (Z : State) (u1 : Addr) (u2 : Addr) (zc : Int32) (t1 : Addr) (k1 : ClassId) (t2 : Addr) (k2 : ClassId) (h0 : Heap) (n0 : Nat) (v : Option Value) (h : Heap) (L : List Loc) : Prop := v = some (.int (0 : Int32)) ∧ Fr n0 L ∧ h = h0
set_option maxRecDepth 65536 in
set_option maxHeartbeats 40000000 in
theorem rm_eq_fs (l : Launch) (Z : State) (a0 : Array Value) (hw : ∀ d ∈ tables_1, d.before a0 Z = true) (ws : List Jvm.Cond) (u1 : Addr) (u2 : Addr) (zc : Int32) (t1 : Addr) (k1 : ClassId) (t2 : Addr) (k2 : ClassId) (h0 : Heap) (n0 : Nat) (Z0 : n0 ≤ h0.size) (S1 : Sta Z h0 "java/lang/String" "COMPACT_STRINGS" "Z" (.int zc)) (hz : ¬ zc = 0) (E2 : Exa Z h0 u2 "java/lang/String") (F1 : Fld Z h0 u1 "java/lang/String" "coder" "B" (.int (0 : Int32))) (F2 : Fld Z h0 u2 "java/lang/String" "coder" "B" (.int (0 : Int32))) (G1 : Fld Z h0 u1 "java/lang/String" "value" "[B" (.ref t1)) (G2 : Fld Z h0 u2 "java/lang/String" "value" "[B" (.ref t2)) (V1 : Arv Z h0 t1 k1 .byte (7 : Int32) [(.int (102 : Int32)), (.int (97 : Int32)), (.int (105 : Int32)), (.int (108 : Int32)), (.int (117 : Int32)), (.int (114 : Int32)), (.int (101 : Int32))] (.int (0 : Int32))) (V2 : Arv Z h0 t2 k2 .byte (7 : Int32) [(.int (115 : Int32)), (.int (117 : Int32)), (.int (99 : Int32)), (.int (99 : Int32)), (.int (101 : Int32)), (.int (115 : Int32)), (.int (115 : Int32))] (.int (0 : Int32))) :
    MetFree l (⟨"java/lang/String", "equals", "(Ljava/lang/Object;)Z"⟩ : MethodName) (head1 (Jvm.Cond.code (⟨"java/lang/String", "equals", "(Ljava/lang/Object;)Z"⟩ : MethodName) jdk_42_method_66_code 3 (some .boolean) :: ws) ({ frames := 1, cells := 0, slots := 0, locals := 14 } : Room)) (fun a U => a = #[(.ref u1), (.ref u2)] ∧ Z.Warmed39 U.vm ∧ U.heap = h0) (fun _ _ _ _ _ => True) (fun _ U o U' => ∃ v L, o = .returned v ∧ Q_rm_eq_fs Z u1 u2 zc t1 k1 t2 k2 h0 n0 v U'.heap L ∧ FrameEnd U o U' L ({ frames := 1, cells := 0, slots := 0, locals := 14 } : Room).cells ({ frames := 1, cells := 0, slots := 0, locals := 14 } : Room).slots) := by
  refine MetFree.of_bodySF (plainFor_of_name pn_453642) hisR ?_
  intro p e s m args below meth c s₁ Bd hml0 hP hK
  obtain ⟨rfl, hZ, hh⟩ := hP
  have hx := Bd.exec
  have hby := Bd.bytes
  have hml : c.maxLocals = 3 := hml0
  have hown : s.vm.findClass "java/lang/String" = some m.cls := findClass_of_methodNamed Bd.named
  have hnm := (name_of_methodNamed Bd.named Bd.method).1
  have X0 : Stand p l e ({ frames := 1, cells := 0, slots := 0, locals := 14 } : Room) s m #[(.ref u1), (.ref u2)] below meth c s₁ [] 0 0 := Stand.of_body Bd
  have e0 : s₁.heap = h0 := by rw [← hh, Bd.state]; rfl
  have N0 := Fr.nil n0
  have pre0 : ∀ t, Steps p.tables e below (s₁.setTop (mkF m 0 #[.val (.ref u1), .val (.ref u2), .unset] [])) t → Steps p.tables e below (s₁.setTop (entryFrame m #[(.ref u1), (.ref u2)] 3)) t := fun t k => castTop (ef_rm_eq_fs m u1 u2) k
  obtain ⟨T1, X1, e1, st1⟩ := instY X0 hx hZ hown (own_w hw 25 rfl) e0 (Ins.self E2) (g := (mkF m 8 #[.val (.ref u1), .val (.ref u2), .unset] [(.ref u2)])) rfl rfl (hb hby d2_8)
  obtain ⟨T2, X2, e2, st2⟩ := castY X1 hx hZ hown (own_w hw 25 rfl) e1 (Ins.self E2) (g := (mkF m 15 #[.val (.ref u1), .val (.ref u2), .unset] [(.ref u2)])) rfl rfl (hb hby d2_15)
  obtain ⟨T3, X3, e3, st3⟩ := getS2 X2 hx hZ hown (host := "") (Or.inl (own_w hw 27 rfl)) Via.refl e2 S1 (g := (mkF m 19 #[.val (.ref u1), .val (.ref u2), .val (.ref u2)] [])) rfl (hb hby d2_19)
  obtain ⟨T4, X4, e4, st4⟩ := getF X3 hx hZ hown (host := "") (Or.inl (own_w hw 28 rfl)) Via.refl e3 F1 (g := (mkF m 26 #[.val (.ref u1), .val (.ref u2), .val (.ref u2)] [(.ref u1)])) rfl rfl (hb hby d2_26)
  obtain ⟨T5, X5, e5, st5⟩ := getF X4 hx hZ hown (host := "") (Or.inl (own_w hw 28 rfl)) Via.refl e4 F2 (g := (mkF m 30 #[.val (.ref u1), .val (.ref u2), .val (.ref u2)] [(.ref u2), (.int (0 : Int32))])) rfl rfl (hb hby d2_30)
  obtain ⟨T6, X6, e6, st6⟩ := getF X5 hx hZ hown (host := "") (Or.inl (own_w hw 29 rfl)) Via.refl e5 G1 (g := (mkF m 37 #[.val (.ref u1), .val (.ref u2), .val (.ref u2)] [(.ref u1)])) rfl rfl (hb hby d2_37)
  obtain ⟨T7, X7, e7, st7⟩ := getF X6 hx hZ hown (host := "") (Or.inl (own_w hw 29 rfl)) Via.refl e6 G2 (g := (mkF m 41 #[.val (.ref u1), .val (.ref u2), .val (.ref u2)] [(.ref u2), (.ref t1)])) rfl rfl (hb hby d2_41)
  obtain ⟨_, _, ⟨T8, L8, k8, n8⟩, -, X8, ⟨Lc8, hQ8, l8, y8, z8⟩, st8⟩ := Jvm.LawKit.callS X7 hx (y := (⟨"java/lang/StringLatin1", "equals", "([B[B)Z"⟩ : MethodName)) hown (mvT hZ (own_w hw 30 rfl)) (mvT hZ (own_w hw 31 rfl)) (mvT hZ (own_w hw 32 rfl)) (mvT hZ (own_w hw 33 rfl)) (by decide) (backOf (W := 0) (rm_le_fs l Z a0 hw [] t1 t2 k1 k2 h0 n0 Z0 V1 V2) hZ (own_w hw 33 rfl) (own_w hw 32 rfl) (by decide) (by decide)) (g := (mkF m 44 #[.val (.ref u1), .val (.ref u2), .val (.ref u2)] [(.ref t2), (.ref t1)])) rfl (by rw [hml]; rfl) (argsL := [(.ref t1), (.ref t2)]) (rest := []) (lenOf pd_979783 rfl) rfl (by show 2 * 0 + _ ≤ _; exact Nat.le_of_eq rfl) (hb hby d2_44) (fun _ _ => ⟨rfl, e7, (by decide : 0 + 0 ≤ _), (by decide : 0 + 0 ≤ _)⟩)
  dsimp only [Pt.U, Pt.locs, Pt.cells, Pt.slots] at X8 l8 y8 z8 st8 hQ8
  subst l8 y8 z8
  obtain ⟨rfl, Nq8, eq8⟩ := hQ8
  have N8 := Fr.app N0 Nq8
  obtain ⟨fs, hr, hrun, hended, hW, hsame⟩ := X8.leave (v := some (.int (0 : Int32))) (fun h => by rw [Bd.returns] at h; cases h)
  refine ⟨_, _, pre0 _ ?_, hrun, hended, _, _, rfl, ?_, ⟨_, rfl⟩, hW, hsame.mono (by decide) (by decide)⟩
  · show Steps p.tables e below (s₁.setTop (mkF m 0 #[.val (.ref u1), .val (.ref u2), .unset] [])) _
    refine XS.aloadN X0.here hx rfl (hb hby d2_0) rfl rfl ?_
    show Steps p.tables e below (s₁.setTop (mkF m 1 #[.val (.ref u1), .val (.ref u2), .unset] [(.ref u1)])) _
    refine XS.aloadN X0.here hx rfl (hb hby d2_1) rfl rfl ?_
    show Steps p.tables e below (s₁.setTop (mkF m 2 #[.val (.ref u1), .val (.ref u2), .unset] [(.ref u2), (.ref u1)])) _
    refine XS.acmpYes X0.here hx rfl (pc0 := 2) (pc' := 7) rfl (hb hby d2_2) rfl (by have q : u1 ≠ u2 := Fld.ne G1 G2 (fun z => arv_ne V1 V2 (Or.inr ⟨0, by decide, by simp⟩) (Value.ref.inj z)); simp [if_acmp.holds, q]) (by decide) (by decide) ?_
    show Steps p.tables e below (s₁.setTop (mkF m 7 #[.val (.ref u1), .val (.ref u2), .unset] [])) _
    refine XS.aloadN X0.here hx rfl (hb hby d2_7) rfl rfl ?_
    show Steps p.tables e below (s₁.setTop (mkF m 8 #[.val (.ref u1), .val (.ref u2), .unset] [(.ref u2)])) _
    refine st1 _ ?_
    show Steps p.tables e below (T1.setTop (mkF m 11 #[.val (.ref u1), .val (.ref u2), .unset] [(.int (1 : Int32))])) _
    refine XS.ifNo X1.here hx rfl (hb hby d2_11) rfl (by decide) ?_
    show Steps p.tables e below (T1.setTop (mkF m 14 #[.val (.ref u1), .val (.ref u2), .unset] [])) _
    refine XS.aloadN X1.here hx rfl (hb hby d2_14) rfl rfl ?_
    show Steps p.tables e below (T1.setTop (mkF m 15 #[.val (.ref u1), .val (.ref u2), .unset] [(.ref u2)])) _
    refine st2 _ ?_
    show Steps p.tables e below (T2.setTop (mkF m 18 #[.val (.ref u1), .val (.ref u2), .unset] [(.ref u2)])) _
    refine XS.astoreN X2.here hx rfl (hb hby d2_18) rfl rfl (l' := #[.val (.ref u1), .val (.ref u2), .val (.ref u2)]) rfl ?_
    show Steps p.tables e below (T2.setTop (mkF m 19 #[.val (.ref u1), .val (.ref u2), .val (.ref u2)] [])) _
    refine st3 _ ?_
    show Steps p.tables e below (T3.setTop (mkF m 22 #[.val (.ref u1), .val (.ref u2), .val (.ref u2)] [(.int zc)])) _
    refine XS.ifNo X3.here hx rfl (hb hby d2_22) rfl (own_nz hz) ?_
    show Steps p.tables e below (T3.setTop (mkF m 25 #[.val (.ref u1), .val (.ref u2), .val (.ref u2)] [])) _
    refine XS.aloadN X3.here hx rfl (hb hby d2_25) rfl rfl ?_
    show Steps p.tables e below (T3.setTop (mkF m 26 #[.val (.ref u1), .val (.ref u2), .val (.ref u2)] [(.ref u1)])) _
    refine st4 _ ?_
    show Steps p.tables e below (T4.setTop (mkF m 29 #[.val (.ref u1), .val (.ref u2), .val (.ref u2)] [(.int (0 : Int32))])) _
    refine XS.aloadN X4.here hx rfl (hb hby d2_29) rfl rfl ?_
    show Steps p.tables e below (T4.setTop (mkF m 30 #[.val (.ref u1), .val (.ref u2), .val (.ref u2)] [(.ref u2), (.int (0 : Int32))])) _
    refine st5 _ ?_
    show Steps p.tables e below (T5.setTop (mkF m 33 #[.val (.ref u1), .val (.ref u2), .val (.ref u2)] [(.int (0 : Int32)), (.int (0 : Int32))])) _
    refine XS.icmpNo X5.here hx rfl (hb hby d2_33) rfl (by decide) ?_
    show Steps p.tables e below (T5.setTop (mkF m 36 #[.val (.ref u1), .val (.ref u2), .val (.ref u2)] [])) _
    refine XS.aloadN X5.here hx rfl (hb hby d2_36) rfl rfl ?_
    show Steps p.tables e below (T5.setTop (mkF m 37 #[.val (.ref u1), .val (.ref u2), .val (.ref u2)] [(.ref u1)])) _
    refine st6 _ ?_
    show Steps p.tables e below (T6.setTop (mkF m 40 #[.val (.ref u1), .val (.ref u2), .val (.ref u2)] [(.ref t1)])) _
    refine XS.aloadN X6.here hx rfl (hb hby d2_40) rfl rfl ?_
    show Steps p.tables e below (T6.setTop (mkF m 41 #[.val (.ref u1), .val (.ref u2), .val (.ref u2)] [(.ref u2), (.ref t1)])) _
    refine st7 _ ?_
    show Steps p.tables e below (T7.setTop (mkF m 44 #[.val (.ref u1), .val (.ref u2), .val (.ref u2)] [(.ref t2), (.ref t1)])) _
    refine st8 _ ?_
    show Steps p.tables e below (T8.setTop (mkF m 47 #[.val (.ref u1), .val (.ref u2), .val (.ref u2)] [(.int (0 : Int32))])) _
    refine XS.ifYes X8.here hx rfl (pc0 := 47) (pc' := 54) rfl (hb hby d2_47) rfl (by decide) (by decide) (by decide) ?_
    show Steps p.tables e below (T8.setTop (mkF m 54 #[.val (.ref u1), .val (.ref u2), .val (.ref u2)] [])) _
    refine XS.iconst X8.here hx rfl (hb hby d2_54) ?_
    show Steps p.tables e below (T8.setTop (mkF m 55 #[.val (.ref u1), .val (.ref u2), .val (.ref u2)] [(.int (0 : Int32))])) _
    exact retN X8 hx (t := .boolean) Bd.returns (by simp) (hb hby d2_55) hr
  · show Q_rm_eq_fs Z _ _ _ _ _ _ _ h0 n0 _ T8.heap _
    rw [eq8]
    exact ⟨rfl, N8, rfl⟩
theorem ef_rm_eq_ff (m : MethodId) (x0 : Addr) (x1 : Addr) : entryFrame m #[(.ref x0), (.ref x1)] 3 = mkF m 0 #[.val (.ref x0), .val (.ref x1), .unset] [] := by first | (simp [entryFrame, mkF, argsToLocals, Value.category]; done) | rfl
def Q_rm_eq_ff (Z : State) (u1 : Addr) (u2 : Addr) (zc : Int32) (t1 : Addr) (k1 : ClassId) (t2 : Addr) (k2 : ClassId) (h0 : Heap) (n0 : Nat) (v : Option Value) (h : Heap) (L : List Loc) : Prop := v = some (.int (1 : Int32)) ∧ Fr n0 L ∧ h = h0
set_option maxRecDepth 65536 in
set_option maxHeartbeats 40000000 in
theorem rm_eq_ff (l : Launch) (Z : State) (a0 : Array Value) (hw : ∀ d ∈ tables_1, d.before a0 Z = true) (ws : List Jvm.Cond) (u1 : Addr) (u2 : Addr) (zc : Int32) (t1 : Addr) (k1 : ClassId) (t2 : Addr) (k2 : ClassId) (h0 : Heap) (n0 : Nat) (Z0 : n0 ≤ h0.size) (S1 : Sta Z h0 "java/lang/String" "COMPACT_STRINGS" "Z" (.int zc)) (hz : ¬ zc = 0) (E2 : Exa Z h0 u2 "java/lang/String") (F1 : Fld Z h0 u1 "java/lang/String" "coder" "B" (.int (0 : Int32))) (F2 : Fld Z h0 u2 "java/lang/String" "coder" "B" (.int (0 : Int32))) (G1 : Fld Z h0 u1 "java/lang/String" "value" "[B" (.ref t1)) (G2 : Fld Z h0 u2 "java/lang/String" "value" "[B" (.ref t2)) (V1 : Arv Z h0 t1 k1 .byte (7 : Int32) [(.int (102 : Int32)), (.int (97 : Int32)), (.int (105 : Int32)), (.int (108 : Int32)), (.int (117 : Int32)), (.int (114 : Int32)), (.int (101 : Int32))] (.int (0 : Int32))) (V2 : Arv Z h0 t2 k2 .byte (7 : Int32) [(.int (102 : Int32)), (.int (97 : Int32)), (.int (105 : Int32)), (.int (108 : Int32)), (.int (117 : Int32)), (.int (114 : Int32)), (.int (101 : Int32))] (.int (0 : Int32))) :
    MetFree l (⟨"java/lang/String", "equals", "(Ljava/lang/Object;)Z"⟩ : MethodName) (head1 (Jvm.Cond.code (⟨"java/lang/String", "equals", "(Ljava/lang/Object;)Z"⟩ : MethodName) jdk_42_method_66_code 3 (some .boolean) :: ws) ({ frames := 1, cells := 0, slots := 0, locals := 14 } : Room)) (fun a U => a = #[(.ref u1), (.ref u2)] ∧ Z.Warmed39 U.vm ∧ U.heap = h0) (fun _ _ _ _ _ => True) (fun _ U o U' => ∃ v L, o = .returned v ∧ Q_rm_eq_ff Z u1 u2 zc t1 k1 t2 k2 h0 n0 v U'.heap L ∧ FrameEnd U o U' L ({ frames := 1, cells := 0, slots := 0, locals := 14 } : Room).cells ({ frames := 1, cells := 0, slots := 0, locals := 14 } : Room).slots) := by
  refine MetFree.of_bodySF (plainFor_of_name pn_453642) hisR ?_
  intro p e s m args below meth c s₁ Bd hml0 hP hK
  obtain ⟨rfl, hZ, hh⟩ := hP
  have hx := Bd.exec
  have hby := Bd.bytes
  have hml : c.maxLocals = 3 := hml0
  have hown : s.vm.findClass "java/lang/String" = some m.cls := findClass_of_methodNamed Bd.named
  have hnm := (name_of_methodNamed Bd.named Bd.method).1
  have X0 : Stand p l e ({ frames := 1, cells := 0, slots := 0, locals := 14 } : Room) s m #[(.ref u1), (.ref u2)] below meth c s₁ [] 0 0 := Stand.of_body Bd
  have e0 : s₁.heap = h0 := by rw [← hh, Bd.state]; rfl
  have N0 := Fr.nil n0
  have pre0 : ∀ t, Steps p.tables e below (s₁.setTop (mkF m 0 #[.val (.ref u1), .val (.ref u2), .unset] [])) t → Steps p.tables e below (s₁.setTop (entryFrame m #[(.ref u1), (.ref u2)] 3)) t := fun t k => castTop (ef_rm_eq_ff m u1 u2) k
  have pre1 : ∀ t, Steps p.tables e below (s₁.setTop (mkF m 2 #[.val (.ref u1), .val (.ref u2), .unset] [(.ref u2), (.ref u1)])) t → Steps p.tables e below (s₁.setTop (entryFrame m #[(.ref u1), (.ref u2)] 3)) t := by
    intro t k
    refine pre0 t ?_
    show Steps p.tables e below (s₁.setTop (mkF m 0 #[.val (.ref u1), .val (.ref u2), .unset] [])) _
    refine XS.aloadN X0.here hx rfl (hb hby d2_0) rfl rfl ?_
    show Steps p.tables e below (s₁.setTop (mkF m 1 #[.val (.ref u1), .val (.ref u2), .unset] [(.ref u1)])) _
    refine XS.aloadN X0.here hx rfl (hb hby d2_1) rfl rfl ?_
    exact k
  rcases Bool.eq_false_or_eq_true (if_acmp.holds .ne (some u1) (some u2)) with hb2 | hb2
  · obtain ⟨T2, X2, e2, st2⟩ := instY X0 hx hZ hown (own_w hw 25 rfl) e0 (Ins.self E2) (g := (mkF m 8 #[.val (.ref u1), .val (.ref u2), .unset] [(.ref u2)])) rfl rfl (hb hby d2_8)
    obtain ⟨T3, X3, e3, st3⟩ := castY X2 hx hZ hown (own_w hw 25 rfl) e2 (Ins.self E2) (g := (mkF m 15 #[.val (.ref u1), .val (.ref u2), .unset] [(.ref u2)])) rfl rfl (hb hby d2_15)
    obtain ⟨T4, X4, e4, st4⟩ := getS2 X3 hx hZ hown (host := "") (Or.inl (own_w hw 27 rfl)) Via.refl e3 S1 (g := (mkF m 19 #[.val (.ref u1), .val (.ref u2), .val (.ref u2)] [])) rfl (hb hby d2_19)
    obtain ⟨T5, X5, e5, st5⟩ := getF X4 hx hZ hown (host := "") (Or.inl (own_w hw 28 rfl)) Via.refl e4 F1 (g := (mkF m 26 #[.val (.ref u1), .val (.ref u2), .val (.ref u2)] [(.ref u1)])) rfl rfl (hb hby d2_26)
    obtain ⟨T6, X6, e6, st6⟩ := getF X5 hx hZ hown (host := "") (Or.inl (own_w hw 28 rfl)) Via.refl e5 F2 (g := (mkF m 30 #[.val (.ref u1), .val (.ref u2), .val (.ref u2)] [(.ref u2), (.int (0 : Int32))])) rfl rfl (hb hby d2_30)
    obtain ⟨T7, X7, e7, st7⟩ := getF X6 hx hZ hown (host := "") (Or.inl (own_w hw 29 rfl)) Via.refl e6 G1 (g := (mkF m 37 #[.val (.ref u1), .val (.ref u2), .val (.ref u2)] [(.ref u1)])) rfl rfl (hb hby d2_37)
    obtain ⟨T8, X8, e8, st8⟩ := getF X7 hx hZ hown (host := "") (Or.inl (own_w hw 29 rfl)) Via.refl e7 G2 (g := (mkF m 41 #[.val (.ref u1), .val (.ref u2), .val (.ref u2)] [(.ref u2), (.ref t1)])) rfl rfl (hb hby d2_41)
    obtain ⟨_, _, ⟨T9, L9, k9, n9⟩, -, X9, ⟨Lc9, hQ9, l9, y9, z9⟩, st9⟩ := Jvm.LawKit.callS X8 hx (y := (⟨"java/lang/StringLatin1", "equals", "([B[B)Z"⟩ : MethodName)) hown (mvT hZ (own_w hw 30 rfl)) (mvT hZ (own_w hw 31 rfl)) (mvT hZ (own_w hw 32 rfl)) (mvT hZ (own_w hw 33 rfl)) (by decide) (backOf (W := 0) (rm_le_ff l Z a0 hw [] t1 t2 k1 k2 h0 n0 Z0 V1 V2) hZ (own_w hw 33 rfl) (own_w hw 32 rfl) (by decide) (by decide)) (g := (mkF m 44 #[.val (.ref u1), .val (.ref u2), .val (.ref u2)] [(.ref t2), (.ref t1)])) rfl (by rw [hml]; rfl) (argsL := [(.ref t1), (.ref t2)]) (rest := []) (lenOf pd_979783 rfl) rfl (by show 2 * 0 + _ ≤ _; exact Nat.le_of_eq rfl) (hb hby d2_44) (fun _ _ => ⟨rfl, e8, (by decide : 0 + 0 ≤ _), (by decide : 0 + 0 ≤ _)⟩)
    dsimp only [Pt.U, Pt.locs, Pt.cells, Pt.slots] at X9 l9 y9 z9 st9 hQ9
    subst l9 y9 z9
    obtain ⟨rfl, Nq9, eq9⟩ := hQ9
    have N9 := Fr.app N0 Nq9
    obtain ⟨fs, hr, hrun, hended, hW, hsame⟩ := X9.leave (v := some (.int (1 : Int32))) (fun h => by rw [Bd.returns] at h; cases h)
    refine ⟨_, _, pre1 _ ?_, hrun, hended, _, _, rfl, ?_, ⟨_, rfl⟩, hW, hsame.mono (by decide) (by decide)⟩
    · show Steps p.tables e below (s₁.setTop (mkF m 2 #[.val (.ref u1), .val (.ref u2), .unset] [(.ref u2), (.ref u1)])) _
      refine XS.acmpYes X0.here hx rfl (pc0 := 2) (pc' := 7) rfl (hb hby d2_2) rfl hb2 (by decide) (by decide) ?_
      show Steps p.tables e below (s₁.setTop (mkF m 7 #[.val (.ref u1), .val (.ref u2), .unset] [])) _
      refine XS.aloadN X0.here hx rfl (hb hby d2_7) rfl rfl ?_
      show Steps p.tables e below (s₁.setTop (mkF m 8 #[.val (.ref u1), .val (.ref u2), .unset] [(.ref u2)])) _
      refine st2 _ ?_
      show Steps p.tables e below (T2.setTop (mkF m 11 #[.val (.ref u1), .val (.ref u2), .unset] [(.int (1 : Int32))])) _
      refine XS.ifNo X2.here hx rfl (hb hby d2_11) rfl (by decide) ?_
      show Steps p.tables e below (T2.setTop (mkF m 14 #[.val (.ref u1), .val (.ref u2), .unset] [])) _
      refine XS.aloadN X2.here hx rfl (hb hby d2_14) rfl rfl ?_
      show Steps p.tables e below (T2.setTop (mkF m 15 #[.val (.ref u1), .val (.ref u2), .unset] [(.ref u2)])) _
      refine st3 _ ?_
      show Steps p.tables e below (T3.setTop (mkF m 18 #[.val (.ref u1), .val (.ref u2), .unset] [(.ref u2)])) _
      refine XS.astoreN X3.here hx rfl (hb hby d2_18) rfl rfl (l' := #[.val (.ref u1), .val (.ref u2), .val (.ref u2)]) rfl ?_
      show Steps p.tables e below (T3.setTop (mkF m 19 #[.val (.ref u1), .val (.ref u2), .val (.ref u2)] [])) _
      refine st4 _ ?_
      show Steps p.tables e below (T4.setTop (mkF m 22 #[.val (.ref u1), .val (.ref u2), .val (.ref u2)] [(.int zc)])) _
      refine XS.ifNo X4.here hx rfl (hb hby d2_22) rfl (own_nz hz) ?_
      show Steps p.tables e below (T4.setTop (mkF m 25 #[.val (.ref u1), .val (.ref u2), .val (.ref u2)] [])) _
      refine XS.aloadN X4.here hx rfl (hb hby d2_25) rfl rfl ?_
      show Steps p.tables e below (T4.setTop (mkF m 26 #[.val (.ref u1), .val (.ref u2), .val (.ref u2)] [(.ref u1)])) _
      refine st5 _ ?_
      show Steps p.tables e below (T5.setTop (mkF m 29 #[.val (.ref u1), .val (.ref u2), .val (.ref u2)] [(.int (0 : Int32))])) _
      refine XS.aloadN X5.here hx rfl (hb hby d2_29) rfl rfl ?_
      show Steps p.tables e below (T5.setTop (mkF m 30 #[.val (.ref u1), .val (.ref u2), .val (.ref u2)] [(.ref u2), (.int (0 : Int32))])) _
      refine st6 _ ?_
      show Steps p.tables e below (T6.setTop (mkF m 33 #[.val (.ref u1), .val (.ref u2), .val (.ref u2)] [(.int (0 : Int32)), (.int (0 : Int32))])) _
      refine XS.icmpNo X6.here hx rfl (hb hby d2_33) rfl (by decide) ?_
      show Steps p.tables e below (T6.setTop (mkF m 36 #[.val (.ref u1), .val (.ref u2), .val (.ref u2)] [])) _
      refine XS.aloadN X6.here hx rfl (hb hby d2_36) rfl rfl ?_
      show Steps p.tables e below (T6.setTop (mkF m 37 #[.val (.ref u1), .val (.ref u2), .val (.ref u2)] [(.ref u1)])) _
      refine st7 _ ?_
      show Steps p.tables e below (T7.setTop (mkF m 40 #[.val (.ref u1), .val (.ref u2), .val (.ref u2)] [(.ref t1)])) _
      refine XS.aloadN X7.here hx rfl (hb hby d2_40) rfl rfl ?_
      show Steps p.tables e below (T7.setTop (mkF m 41 #[.val (.ref u1), .val (.ref u2), .val (.ref u2)] [(.ref u2), (.ref t1)])) _
      refine st8 _ ?_
      show Steps p.tables e below (T8.setTop (mkF m 44 #[.val (.ref u1), .val (.ref u2), .val (.ref u2)] [(.ref t2), (.ref t1)])) _
      refine st9 _ ?_
      show Steps p.tables e below (T9.setTop (mkF m 47 #[.val (.ref u1), .val (.ref u2), .val (.ref u2)] [(.int (1 : Int32))])) _
      refine XS.ifNo X9.here hx rfl (hb hby d2_47) rfl (by decide) ?_
      show Steps p.tables e below (T9.setTop (mkF m 50 #[.val (.ref u1), .val (.ref u2), .val (.ref u2)] [])) _
      refine XS.iconst X9.here hx rfl (hb hby d2_50) ?_
      show Steps p.tables e below (T9.setTop (mkF m 51 #[.val (.ref u1), .val (.ref u2), .val (.ref u2)] [(.int (1 : Int32))])) _
      refine XS.goto X9.here hx rfl (pc0 := 51) (pc' := 55) rfl (hb hby d2_51) (by decide) (by decide) ?_
      show Steps p.tables e below (T9.setTop (mkF m 55 #[.val (.ref u1), .val (.ref u2), .val (.ref u2)] [(.int (1 : Int32))])) _
      exact retN X9 hx (t := .boolean) Bd.returns (by simp) (hb hby d2_55) hr
    · show Q_rm_eq_ff Z _ _ _ _ _ _ _ h0 n0 _ T9.heap _
      rw [eq9]
      exact ⟨rfl, N9, rfl⟩
  · obtain ⟨fs, hr, hrun, hended, hW, hsame⟩ := X0.leave (v := some (.int (1 : Int32))) (fun h => by rw [Bd.returns] at h; cases h)
    refine ⟨_, _, pre1 _ ?_, hrun, hended, _, _, rfl, ?_, ⟨_, rfl⟩, hW, hsame.mono (by decide) (by decide)⟩
    · show Steps p.tables e below (s₁.setTop (mkF m 2 #[.val (.ref u1), .val (.ref u2), .unset] [(.ref u2), (.ref u1)])) _
      refine XS.acmpNo X0.here hx rfl (hb hby d2_2) rfl hb2 ?_
      show Steps p.tables e below (s₁.setTop (mkF m 5 #[.val (.ref u1), .val (.ref u2), .unset] [])) _
      refine XS.iconst X0.here hx rfl (hb hby d2_5) ?_
      show Steps p.tables e below (s₁.setTop (mkF m 6 #[.val (.ref u1), .val (.ref u2), .unset] [(.int (1 : Int32))])) _
      exact retN X0 hx (t := .boolean) Bd.returns (by simp) (hb hby d2_6) hr
    · show Q_rm_eq_ff Z _ _ _ _ _ _ _ h0 n0 _ s₁.heap _
      rw [e0]
      exact ⟨rfl, N0, rfl⟩
theorem d1_0 : decode prog_45_method_5_code 0 = .ok (.aload_n 0, 1) := by decide +kernel
theorem d1_1 : decode prog_45_method_5_code 1 = .ok (.getfield 45, 3) := by decide +kernel
theorem d1_4 : decode prog_45_method_5_code 4 = .ok (.ldc 54, 2) := by decide +kernel
theorem d1_6 : decode prog_45_method_5_code 6 = .ok (.invokevirtual 56, 3) := by decide +kernel
theorem pd_782203 : parseMethodDescriptor "(Ljava/lang/Object;)Z" = some ⟨[(.object "java/lang/Object")], some .boolean⟩ := by decide +kernel
theorem d1_9 : decode prog_45_method_5_code 9 = .ok (.ifCond .eq 8, 3) := by decide +kernel
theorem d1_12 : decode prog_45_method_5_code 12 = .ok (.ldc 62, 2) := by decide +kernel
theorem d1_14 : decode prog_45_method_5_code 14 = .ok (.goto 5, 3) := by decide +kernel
theorem d1_19 : decode prog_45_method_5_code 19 = .ok (.areturn, 1) := by decide +kernel
theorem ef_rm_opp_s (m : MethodId) (x0 : Addr) : entryFrame m #[(.ref x0)] 1 = mkF m 0 #[.val (.ref x0)] [] := by first | (simp [entryFrame, mkF, argsToLocals, Value.category]; done) | rfl
def Q_rm_opp_s (Z : State) (u1 : Addr) (g : Addr) (t : Addr) (kb : ClassId) (zc : Int32) (h0 : Heap) (n0 : Nat) (v : Option Value) (h : Heap) (L : List Loc) : Prop := ∃ (a b : Addr) (kb : ClassId), v = some (.ref a) ∧ Fr n0 L ∧ Keep h0 h [] ∧ Exa Z h a "java/lang/String" ∧ Fld Z h a "java/lang/String" "coder" "B" (.int (0 : Int32)) ∧ Fld Z h a "java/lang/String" "value" "[B" (.ref b) ∧ Arv Z h b kb .byte (7 : Int32) [(.int (102 : Int32)), (.int (97 : Int32)), (.int (105 : Int32)), (.int (108 : Int32)), (.int (117 : Int32)), (.int (114 : Int32)), (.int (101 : Int32))] (.int (0 : Int32))
theorem pn_746890 : plainName "com/example/guided_sim/guidedsim/model/Relation" = true := by first | (simp [plainName, overriddenIn]; done) | decide +kernel
set_option maxRecDepth 65536 in
set_option maxHeartbeats 40000000 in
theorem rm_opp_s (l : Launch) (Z : State) (a0 : Array Value) (hw : ∀ d ∈ tables_1, d.before a0 Z = true) (ws : List Jvm.Cond) (u1 : Addr) (g : Addr) (t : Addr) (kb : ClassId) (zc : Int32) (h0 : Heap) (n0 : Nat) (Z0 : n0 ≤ h0.size) (hEL : EW Z a0 own_EL) (X00 : Old Z n0 h0) (O2 : Sta Z Z.heap "java/lang/String" "COMPACT_STRINGS" "Z" (.int zc)) (hz : ¬ zc = 0) (F0 : Fld Z h0 u1 "com/example/guided_sim/guidedsim/model/Relation" "goal" "Ljava/lang/String;" (.ref g)) (E1 : Exa Z h0 g "java/lang/String") (F1 : Fld Z h0 g "java/lang/String" "coder" "B" (.int (0 : Int32))) (F2 : Fld Z h0 g "java/lang/String" "value" "[B" (.ref t)) (V1 : Arv Z h0 t kb .byte (7 : Int32) [(.int (115 : Int32)), (.int (117 : Int32)), (.int (99 : Int32)), (.int (99 : Int32)), (.int (101 : Int32)), (.int (115 : Int32)), (.int (115 : Int32))] (.int (0 : Int32))) :
    MetFree l (⟨"com/example/guided_sim/guidedsim/model/Relation", "opposite", "()Ljava/lang/String;"⟩ : MethodName) (head1 (Jvm.Cond.code (⟨"com/example/guided_sim/guidedsim/model/Relation", "opposite", "()Ljava/lang/String;"⟩ : MethodName) prog_45_method_5_code 1 (some (.object "java/lang/String")) :: ws) ({ frames := 2, cells := 4, slots := 64, locals := 28 } : Room)) (fun a U => a = #[(.ref u1)] ∧ Z.Warmed39 U.vm ∧ U.heap = h0 ∧ CHv Z own_EL U.vm h0) (fun _ _ _ _ _ => True) (fun _ U o U' => ∃ v L, o = .returned v ∧ Q_rm_opp_s Z u1 g t kb zc h0 n0 v U'.heap L ∧ CHr Z own_EL U.vm U.heap U'.vm U'.heap ∧ ReturnedEndW U o U' L ({ frames := 2, cells := 4, slots := 64, locals := 28 } : Room).cells ({ frames := 2, cells := 4, slots := 64, locals := 28 } : Room).slots) := by
  refine MetFree.of_bodySF (plainFor_of_name pn_746890) hisR ?_
  intro p e s m args below meth c s₁ Bd hml0 hP hK
  obtain ⟨rfl, hZ, hh, hC⟩ := hP
  have hS0 : s.Since s.vm h0.size := (State.WarmedH.refl s).since _
  have wS : ∀ a ∈ Bundle.stringAtoms, a.before a0 Z = true := fun d hd => hw d ((by decide +kernel : ∀ d ∈ Bundle.stringAtoms, d ∈ tables_1) d hd)
  have hx := Bd.exec
  have hby := Bd.bytes
  have hml : c.maxLocals = 1 := hml0
  have hown : s.vm.findClass "com/example/guided_sim/guidedsim/model/Relation" = some m.cls := findClass_of_methodNamed Bd.named
  have hnm := (name_of_methodNamed Bd.named Bd.method).1
  have X0 : Stand p l e ({ frames := 2, cells := 4, slots := 64, locals := 28 } : Room) s m #[(.ref u1)] below meth c s₁ [] 0 0 := Stand.of_body Bd
  have e0 : s₁.heap = h0 := by rw [← hh, Bd.state]; rfl
  have N0 := Fr.nil n0
  have K0 : Keep h0 h0 [] := Keep.refl _ _
  have pre0 : ∀ t, Steps p.tables e below (s₁.setTop (mkF m 0 #[.val (.ref u1)] [])) t → Steps p.tables e below (s₁.setTop (entryFrame m #[(.ref u1)] 1)) t := fun t k => castTop (ef_rm_opp_s m u1) k
  obtain ⟨T1, X1, e1, st1⟩ := getF X0 hx hZ hown (host := "") (Or.inl (own_w hw 17 rfl)) Via.refl e0 F0 (g := (mkF m 1 #[.val (.ref u1)] [(.ref u1)])) rfl rfl (hb hby d1_1)
  obtain ⟨sa2, T2, h2, kc2, sb2, kb2, X2, e2, E2, hSx2, kkx2, hZ, hown, Ea2, Fc2, Fv2, Vb2, -, -, CH2, Lt2, SF2, st2⟩ := ldcCH (s := s.setVm s.vm) (vm0 := s.vm) X1 hx hZ hown (own_w hw 19 rfl) wS e1 (k0 := h0.size) ((State.WarmedH.refl (s.setVm s.vm)).since _) (Nat.le_refl _) hEL (by decide) hC (vs := [(.int (115 : Int32)), (.int (117 : Int32)), (.int (99 : Int32)), (.int (99 : Int32)), (.int (101 : Int32)), (.int (115 : Int32)), (.int (115 : Int32))]) (z := (7 : Int32)) (by decide) (by decide) (by decide) (g := (mkF m 4 #[.val (.ref u1)] [(.ref g)])) rfl (hb hby d1_4) (n := 28) (by decide) (by decide) (by decide) (by decide)
  have hS2 : s.Since T2.vm h2.size := State.Since.trans hS0 (own_smono hSx2 kkx2) (Nat.le_trans (Nat.le_refl _) E2.1)
  have Z2 : n0 ≤ h2.size := Nat.le_trans Z0 E2.1
  have Od2 : Old Z n0 h2 := X00.ext E2
  have K2 : Keep h0 h2 [] := K0.ext E2
  obtain ⟨cq3, kq3, q3a, q3b, q3c⟩ := isOf hZ e2 (E1.ext E2)
  obtain ⟨_, _, ⟨T3, L3, k3, n3⟩, -, X3, ⟨Lc3, hQ3, l3, y3, z3⟩, st3⟩ := X2.virtualBack hx (y := (⟨"java/lang/String", "equals", "(Ljava/lang/Object;)Z"⟩ : MethodName)) (z := (⟨"java/lang/String", "equals", "(Ljava/lang/Object;)Z"⟩ : MethodName)) hown (mvT hZ (own_w hw 20 rfl)) (mvT hZ (own_w hw 21 rfl)) (notFace_of_selects (args := #[]) (mvT hZ (own_w hw 23 rfl))) (mvT hZ (own_w hw 23 rfl)) (mvT hZ (own_w hw 22 rfl)) (by decide) (backOf (W := 0) (rm_eq_ss l Z a0 hw [] g sa2 zc t kb sb2 kb2 h2 n0 Z2 (O2.ext Od2.2) hz Ea2 (F1.ext E2) Fc2 (F2.ext E2) Fv2 (V1.ext E2) Vb2) hZ (own_w hw 24 rfl) (own_w hw 5 rfl) (by decide) (by decide)) q3a q3c (g := (mkF m 6 #[.val (.ref u1)] [(.ref sa2), (.ref g)])) rfl (by rw [hml]; rfl) (Steps.refl _) (argsL := [(.ref sa2)]) (rest := []) (lenOf pd_782203 rfl) rfl (by show 2 * 0 + _ ≤ _; exact Nat.le_of_eq rfl) (hb hby d1_6) (fun _ _ => ⟨rfl, e2, (by decide : 2 + 0 ≤ _), (by decide : 32 + 0 ≤ _)⟩)
  dsimp only [Pt.U, Pt.locs, Pt.cells, Pt.slots] at X3 l3 y3 z3 st3 hQ3
  subst l3 y3 z3
  obtain ⟨rfl, Nq3, eq3⟩ := hQ3
  have N3 := Fr.app N0 Nq3
  obtain ⟨sa4, T4, h4, kc4, sb4, kb4, X4, e4, E4, hSx4, kkx4, hZ, hown, Ea4, Fc4, Fv4, Vb4, -, -, CH4, Lt4, SF4, st4⟩ := ldcCH (s := s.setVm T2.vm) (vm0 := T2.vm) X3 hx hZ hown (own_w hw 34 rfl) wS eq3 (k0 := h2.size) ((State.WarmedH.refl (s.setVm T2.vm)).since _) (Nat.le_refl _) hEL (by decide) CH2.1 (vs := [(.int (102 : Int32)), (.int (97 : Int32)), (.int (105 : Int32)), (.int (108 : Int32)), (.int (117 : Int32)), (.int (114 : Int32)), (.int (101 : Int32))]) (z := (7 : Int32)) (by decide) (by decide) (by decide) (g := (mkF m 12 #[.val (.ref u1)] [])) rfl (hb hby d1_12) (n := 28) (by decide) (by decide) (by decide) (by decide)
  have hS4 : s.Since T4.vm h4.size := State.Since.trans hS2 (own_smono hSx4 kkx4) (Nat.le_trans (Nat.le_refl _) E4.1)
  have Lt4_54 : Lit (s.setVm T4.vm) "com/example/guided_sim/guidedsim/model/Relation" 54 sa2 := Lit.stays (s := s) (vm0 := T2.vm) Lt2 hSx4.1
  have Z4 : n0 ≤ h4.size := Nat.le_trans Z2 E4.1
  have Od4 : Old Z n0 h4 := Od2.ext E4
  have K4 : Keep h0 h4 [] := K2.ext E4
  obtain ⟨fs, hr, hrun, hended, hEnd⟩ := Stand.leaveW (s := s) (vm₁ := T4.vm) X4 hS4 (by rw [e4]; exact (Nat.le_refl _)) (v := some (.ref sa4)) (fun h => by rw [Bd.returns] at h; cases h)
  have hCH : CHr Z own_EL s.vm s.heap T4.vm T4.heap := by rw [hh, e4]; exact (((CHr.refl hC).trans CH2).trans CH4).trans (CHv.at (s := s) (vm0 := T4.vm) X4 hZ hEL CH4.1)
  refine ⟨_, _, pre0 _ ?_, hrun, hended, _, _, rfl, ?_, hCH, hEnd.1, hEnd.2.1, hEnd.2.2.1, hEnd.2.2.2.mono (by decide) (by decide)⟩
  · show Steps p.tables e below (s₁.setTop (mkF m 0 #[.val (.ref u1)] [])) _
    refine XS.aloadN X0.here hx rfl (hb hby d1_0) rfl rfl ?_
    show Steps p.tables e below (s₁.setTop (mkF m 1 #[.val (.ref u1)] [(.ref u1)])) _
    refine st1 _ ?_
    show Steps p.tables e below (T1.setTop (mkF m 4 #[.val (.ref u1)] [(.ref g)])) _
    refine st2 _ ?_
    show Steps p.tables e below (T2.setTop (mkF m 6 #[.val (.ref u1)] [(.ref sa2), (.ref g)])) _
    refine st3.trans ?_
    show Steps p.tables e below (T3.setTop (mkF m 9 #[.val (.ref u1)] [(.int (1 : Int32))])) _
    refine XS.ifNo X3.here hx rfl (hb hby d1_9) rfl (by decide) ?_
    show Steps p.tables e below (T3.setTop (mkF m 12 #[.val (.ref u1)] [])) _
    refine st4 _ ?_
    show Steps p.tables e below (T4.setTop (mkF m 14 #[.val (.ref u1)] [(.ref sa4)])) _
    refine XS.goto X4.here hx rfl (pc0 := 14) (pc' := 19) rfl (hb hby d1_14) (by decide) (by decide) ?_
    show Steps p.tables e below (T4.setTop (mkF m 19 #[.val (.ref u1)] [(.ref sa4)])) _
    jvm_step X4.here [X4.here.top, hx, (hb hby d1_19), X4.method', Bd.returns, Value.isRef, FieldType.isReference]
    first | (intro acts; rw [hr _ acts rfl rfl rfl]) | rw [hr _ _ rfl rfl rfl]
    exact Steps.refl _
  · show Q_rm_opp_s Z _ _ _ _ _ h0 n0 _ T4.heap _
    rw [e4]
    exact ⟨sa4, sb4, kb4, rfl, N3, K4, Ea4, Fc4, Fv4, Vb4⟩
theorem d1_17 : decode prog_45_method_5_code 17 = .ok (.ldc 54, 2) := by decide +kernel
theorem ef_rm_opp_f (m : MethodId) (x0 : Addr) : entryFrame m #[(.ref x0)] 1 = mkF m 0 #[.val (.ref x0)] [] := by first | (simp [entryFrame, mkF, argsToLocals, Value.category]; done) | rfl
def Q_rm_opp_f (Z : State) (u1 : Addr) (g : Addr) (t : Addr) (kb : ClassId) (zc : Int32) (h0 : Heap) (n0 : Nat) (v : Option Value) (h : Heap) (L : List Loc) : Prop := ∃ (a b : Addr) (kb : ClassId), v = some (.ref a) ∧ Fr n0 L ∧ Keep h0 h [] ∧ Exa Z h a "java/lang/String" ∧ Fld Z h a "java/lang/String" "coder" "B" (.int (0 : Int32)) ∧ Fld Z h a "java/lang/String" "value" "[B" (.ref b) ∧ Arv Z h b kb .byte (7 : Int32) [(.int (115 : Int32)), (.int (117 : Int32)), (.int (99 : Int32)), (.int (99 : Int32)), (.int (101 : Int32)), (.int (115 : Int32)), (.int (115 : Int32))] (.int (0 : Int32))
set_option maxRecDepth 65536 in
set_option maxHeartbeats 40000000 in
theorem rm_opp_f (l : Launch) (Z : State) (a0 : Array Value) (hw : ∀ d ∈ tables_1, d.before a0 Z = true) (ws : List Jvm.Cond) (u1 : Addr) (g : Addr) (t : Addr) (kb : ClassId) (zc : Int32) (h0 : Heap) (n0 : Nat) (Z0 : n0 ≤ h0.size) (hEL : EW Z a0 own_EL) (X00 : Old Z n0 h0) (O2 : Sta Z Z.heap "java/lang/String" "COMPACT_STRINGS" "Z" (.int zc)) (hz : ¬ zc = 0) (F0 : Fld Z h0 u1 "com/example/guided_sim/guidedsim/model/Relation" "goal" "Ljava/lang/String;" (.ref g)) (E1 : Exa Z h0 g "java/lang/String") (F1 : Fld Z h0 g "java/lang/String" "coder" "B" (.int (0 : Int32))) (F2 : Fld Z h0 g "java/lang/String" "value" "[B" (.ref t)) (V1 : Arv Z h0 t kb .byte (7 : Int32) [(.int (102 : Int32)), (.int (97 : Int32)), (.int (105 : Int32)), (.int (108 : Int32)), (.int (117 : Int32)), (.int (114 : Int32)), (.int (101 : Int32))] (.int (0 : Int32))) :
    MetFree l (⟨"com/example/guided_sim/guidedsim/model/Relation", "opposite", "()Ljava/lang/String;"⟩ : MethodName) (head1 (Jvm.Cond.code (⟨"com/example/guided_sim/guidedsim/model/Relation", "opposite", "()Ljava/lang/String;"⟩ : MethodName) prog_45_method_5_code 1 (some (.object "java/lang/String")) :: ws) ({ frames := 2, cells := 2, slots := 32, locals := 28 } : Room)) (fun a U => a = #[(.ref u1)] ∧ Z.Warmed39 U.vm ∧ U.heap = h0 ∧ CHv Z own_EL U.vm h0) (fun _ _ _ _ _ => True) (fun _ U o U' => ∃ v L, o = .returned v ∧ Q_rm_opp_f Z u1 g t kb zc h0 n0 v U'.heap L ∧ CHr Z own_EL U.vm U.heap U'.vm U'.heap ∧ ReturnedEndW U o U' L ({ frames := 2, cells := 2, slots := 32, locals := 28 } : Room).cells ({ frames := 2, cells := 2, slots := 32, locals := 28 } : Room).slots) := by
  refine MetFree.of_bodySF (plainFor_of_name pn_746890) hisR ?_
  intro p e s m args below meth c s₁ Bd hml0 hP hK
  obtain ⟨rfl, hZ, hh, hC⟩ := hP
  have hS0 : s.Since s.vm h0.size := (State.WarmedH.refl s).since _
  have wS : ∀ a ∈ Bundle.stringAtoms, a.before a0 Z = true := fun d hd => hw d ((by decide +kernel : ∀ d ∈ Bundle.stringAtoms, d ∈ tables_1) d hd)
  have hx := Bd.exec
  have hby := Bd.bytes
  have hml : c.maxLocals = 1 := hml0
  have hown : s.vm.findClass "com/example/guided_sim/guidedsim/model/Relation" = some m.cls := findClass_of_methodNamed Bd.named
  have hnm := (name_of_methodNamed Bd.named Bd.method).1
  have X0 : Stand p l e ({ frames := 2, cells := 2, slots := 32, locals := 28 } : Room) s m #[(.ref u1)] below meth c s₁ [] 0 0 := Stand.of_body Bd
  have e0 : s₁.heap = h0 := by rw [← hh, Bd.state]; rfl
  have N0 := Fr.nil n0
  have K0 : Keep h0 h0 [] := Keep.refl _ _
  have pre0 : ∀ t, Steps p.tables e below (s₁.setTop (mkF m 0 #[.val (.ref u1)] [])) t → Steps p.tables e below (s₁.setTop (entryFrame m #[(.ref u1)] 1)) t := fun t k => castTop (ef_rm_opp_f m u1) k
  obtain ⟨T1, X1, e1, st1⟩ := getF X0 hx hZ hown (host := "") (Or.inl (own_w hw 17 rfl)) Via.refl e0 F0 (g := (mkF m 1 #[.val (.ref u1)] [(.ref u1)])) rfl rfl (hb hby d1_1)
  obtain ⟨sa2, T2, h2, kc2, sb2, kb2, X2, e2, E2, hSx2, kkx2, hZ, hown, Ea2, Fc2, Fv2, Vb2, -, -, CH2, Lt2, SF2, st2⟩ := ldcCH (s := s.setVm s.vm) (vm0 := s.vm) X1 hx hZ hown (own_w hw 19 rfl) wS e1 (k0 := h0.size) ((State.WarmedH.refl (s.setVm s.vm)).since _) (Nat.le_refl _) hEL (by decide) hC (vs := [(.int (115 : Int32)), (.int (117 : Int32)), (.int (99 : Int32)), (.int (99 : Int32)), (.int (101 : Int32)), (.int (115 : Int32)), (.int (115 : Int32))]) (z := (7 : Int32)) (by decide) (by decide) (by decide) (g := (mkF m 4 #[.val (.ref u1)] [(.ref g)])) rfl (hb hby d1_4) (n := 28) (by decide) (by decide) (by decide) (by decide)
  have hS2 : s.Since T2.vm h2.size := State.Since.trans hS0 (own_smono hSx2 kkx2) (Nat.le_trans (Nat.le_refl _) E2.1)
  have Z2 : n0 ≤ h2.size := Nat.le_trans Z0 E2.1
  have Od2 : Old Z n0 h2 := X00.ext E2
  have K2 : Keep h0 h2 [] := K0.ext E2
  obtain ⟨cq3, kq3, q3a, q3b, q3c⟩ := isOf hZ e2 (E1.ext E2)
  obtain ⟨_, _, ⟨T3, L3, k3, n3⟩, -, X3, ⟨Lc3, hQ3, l3, y3, z3⟩, st3⟩ := X2.virtualBack hx (y := (⟨"java/lang/String", "equals", "(Ljava/lang/Object;)Z"⟩ : MethodName)) (z := (⟨"java/lang/String", "equals", "(Ljava/lang/Object;)Z"⟩ : MethodName)) hown (mvT hZ (own_w hw 20 rfl)) (mvT hZ (own_w hw 21 rfl)) (notFace_of_selects (args := #[]) (mvT hZ (own_w hw 23 rfl))) (mvT hZ (own_w hw 23 rfl)) (mvT hZ (own_w hw 22 rfl)) (by decide) (backOf (W := 0) (rm_eq_fs l Z a0 hw [] g sa2 zc t kb sb2 kb2 h2 n0 Z2 (O2.ext Od2.2) hz Ea2 (F1.ext E2) Fc2 (F2.ext E2) Fv2 (V1.ext E2) Vb2) hZ (own_w hw 24 rfl) (own_w hw 5 rfl) (by decide) (by decide)) q3a q3c (g := (mkF m 6 #[.val (.ref u1)] [(.ref sa2), (.ref g)])) rfl (by rw [hml]; rfl) (Steps.refl _) (argsL := [(.ref sa2)]) (rest := []) (lenOf pd_782203 rfl) rfl (by show 2 * 0 + _ ≤ _; exact Nat.le_of_eq rfl) (hb hby d1_6) (fun _ _ => ⟨rfl, e2, (by decide : 2 + 0 ≤ _), (by decide : 32 + 0 ≤ _)⟩)
  dsimp only [Pt.U, Pt.locs, Pt.cells, Pt.slots] at X3 l3 y3 z3 st3 hQ3
  subst l3 y3 z3
  obtain ⟨rfl, Nq3, eq3⟩ := hQ3
  have N3 := Fr.app N0 Nq3
  obtain ⟨fs, hr, hrun, hended, hEnd⟩ := Stand.leaveW (s := s) (vm₁ := T2.vm) X3 hS2 (by rw [eq3]; exact (Nat.le_refl _)) (v := some (.ref sa2)) (fun h => by rw [Bd.returns] at h; cases h)
  have hCH : CHr Z own_EL s.vm s.heap T3.vm T3.heap := by rw [hh, eq3]; exact ((CHr.refl hC).trans CH2).trans (CHv.at (s := s) (vm0 := T2.vm) X3 hZ hEL CH2.1)
  refine ⟨_, _, pre0 _ ?_, hrun, hended, _, _, rfl, ?_, hCH, hEnd.1, hEnd.2.1, hEnd.2.2.1, hEnd.2.2.2.mono (by decide) (by decide)⟩
  · show Steps p.tables e below (s₁.setTop (mkF m 0 #[.val (.ref u1)] [])) _
    refine XS.aloadN X0.here hx rfl (hb hby d1_0) rfl rfl ?_
    show Steps p.tables e below (s₁.setTop (mkF m 1 #[.val (.ref u1)] [(.ref u1)])) _
    refine st1 _ ?_
    show Steps p.tables e below (T1.setTop (mkF m 4 #[.val (.ref u1)] [(.ref g)])) _
    refine st2 _ ?_
    show Steps p.tables e below (T2.setTop (mkF m 6 #[.val (.ref u1)] [(.ref sa2), (.ref g)])) _
    refine st3.trans ?_
    show Steps p.tables e below (T3.setTop (mkF m 9 #[.val (.ref u1)] [(.int (0 : Int32))])) _
    refine XS.ifYes X3.here hx rfl (pc0 := 9) (pc' := 17) rfl (hb hby d1_9) rfl (by decide) (by decide) (by decide) ?_
    show Steps p.tables e below (T3.setTop (mkF m 17 #[.val (.ref u1)] [])) _
    refine ldcAgain (s := s) (vm0 := T2.vm) X3 hx hZ hown (own_w hw 19 rfl) Lt2 (g := (mkF m 17 #[.val (.ref u1)] [])) rfl (hb hby d1_17) _ ?_
    show Steps p.tables e below (T3.setTop (mkF m 19 #[.val (.ref u1)] [(.ref sa2)])) _
    jvm_step X3.here [X3.here.top, hx, (hb hby d1_19), X3.method', Bd.returns, Value.isRef, FieldType.isReference]
    first | (intro acts; rw [hr _ acts rfl rfl rfl]) | rw [hr _ _ rfl rfl rfl]
    exact Steps.refl _
  · show Q_rm_opp_f Z _ _ _ _ _ h0 n0 _ T3.heap _
    rw [eq3]
    exact ⟨sa2, sb2, kb2, rfl, N3, K2, Ea2, Fc2, Fv2, Vb2⟩
theorem d4_0 : decode prog_45_method_4_code 0 = .ok (.aload_n 0, 1) := by decide +kernel
theorem d4_1 : decode prog_45_method_4_code 1 = .ok (.getfield 45, 3) := by decide +kernel
theorem d4_4 : decode prog_45_method_4_code 4 = .ok (.areturn, 1) := by decide +kernel
theorem ef_rm_goal (m : MethodId) (x0 : Addr) : entryFrame m #[(.ref x0)] 1 = mkF m 0 #[.val (.ref x0)] [] := by first | (simp [entryFrame, mkF, argsToLocals, Value.category]; done) | rfl
def Q_rm_goal (Z : State) (u1 : Addr) (g : Addr) (h0 : Heap) (n0 : Nat) (v : Option Value) (h : Heap) (L : List Loc) : Prop := v = some (.ref g) ∧ Fr n0 L ∧ h = h0
set_option maxRecDepth 65536 in
set_option maxHeartbeats 40000000 in
theorem rm_goal (l : Launch) (Z : State) (a0 : Array Value) (hw : ∀ d ∈ tables_1, d.before a0 Z = true) (ws : List Jvm.Cond) (u1 : Addr) (g : Addr) (h0 : Heap) (n0 : Nat) (Z0 : n0 ≤ h0.size) (F0 : Fld Z h0 u1 "com/example/guided_sim/guidedsim/model/Relation" "goal" "Ljava/lang/String;" (.ref g)) :
    MetFree l (⟨"com/example/guided_sim/guidedsim/model/Relation", "goal", "()Ljava/lang/String;"⟩ : MethodName) (head1 (Jvm.Cond.code (⟨"com/example/guided_sim/guidedsim/model/Relation", "goal", "()Ljava/lang/String;"⟩ : MethodName) prog_45_method_4_code 1 (some (.object "java/lang/String")) :: ws) ({ frames := 0, cells := 0, slots := 0, locals := 0 } : Room)) (fun a U => a = #[(.ref u1)] ∧ Z.Warmed39 U.vm ∧ U.heap = h0) (fun _ _ _ _ _ => True) (fun _ U o U' => ∃ v L, o = .returned v ∧ Q_rm_goal Z u1 g h0 n0 v U'.heap L ∧ FrameEnd U o U' L ({ frames := 0, cells := 0, slots := 0, locals := 0 } : Room).cells ({ frames := 0, cells := 0, slots := 0, locals := 0 } : Room).slots) := by
  refine MetFree.of_bodySF (plainFor_of_name pn_746890) hisR ?_
  intro p e s m args below meth c s₁ Bd hml0 hP hK
  obtain ⟨rfl, hZ, hh⟩ := hP
  have hx := Bd.exec
  have hby := Bd.bytes
  have hml : c.maxLocals = 1 := hml0
  have hown : s.vm.findClass "com/example/guided_sim/guidedsim/model/Relation" = some m.cls := findClass_of_methodNamed Bd.named
  have hnm := (name_of_methodNamed Bd.named Bd.method).1
  have X0 : Stand p l e ({ frames := 0, cells := 0, slots := 0, locals := 0 } : Room) s m #[(.ref u1)] below meth c s₁ [] 0 0 := Stand.of_body Bd
  have e0 : s₁.heap = h0 := by rw [← hh, Bd.state]; rfl
  have N0 := Fr.nil n0
  have pre0 : ∀ t, Steps p.tables e below (s₁.setTop (mkF m 0 #[.val (.ref u1)] [])) t → Steps p.tables e below (s₁.setTop (entryFrame m #[(.ref u1)] 1)) t := fun t k => castTop (ef_rm_goal m u1) k
  obtain ⟨T1, X1, e1, st1⟩ := getF X0 hx hZ hown (host := "") (Or.inl (own_w hw 17 rfl)) Via.refl e0 F0 (g := (mkF m 1 #[.val (.ref u1)] [(.ref u1)])) rfl rfl (hb hby d4_1)
  obtain ⟨fs, hr, hrun, hended, hW, hsame⟩ := X1.leave (v := some (.ref g)) (fun h => by rw [Bd.returns] at h; cases h)
  refine ⟨_, _, pre0 _ ?_, hrun, hended, _, _, rfl, ?_, ⟨_, rfl⟩, hW, hsame.mono (by decide) (by decide)⟩
  · show Steps p.tables e below (s₁.setTop (mkF m 0 #[.val (.ref u1)] [])) _
    refine XS.aloadN X0.here hx rfl (hb hby d4_0) rfl rfl ?_
    show Steps p.tables e below (s₁.setTop (mkF m 1 #[.val (.ref u1)] [(.ref u1)])) _
    refine st1 _ ?_
    show Steps p.tables e below (T1.setTop (mkF m 4 #[.val (.ref u1)] [(.ref g)])) _
    jvm_step X1.here [X1.here.top, hx, (hb hby d4_4), X1.method', Bd.returns, Value.isRef, FieldType.isReference]
    first | (intro acts; rw [hr _ acts rfl rfl rfl]) | rw [hr _ _ rfl rfl rfl]
    exact Steps.refl _
  · show Q_rm_goal Z _ _ h0 n0 _ T1.heap _
    rw [e1]
    exact ⟨rfl, N0, rfl⟩
theorem pd_706127 : parseMethodDescriptor "()Ljava/lang/String;" = some ⟨[], some (.object "java/lang/String")⟩ := by decide +kernel
theorem ef_rm_law (m : MethodId) (x0 : Int32) : entryFrame m #[(.int x0)] maxLocals = mkF m 0 #[.val (.int x0), .unset, .unset, .unset, .unset, .unset, .unset] [] := by first | (simp [entryFrame, mkF, argsToLocals, Value.category, maxLocals]; done) | rfl
def Q_rm_law (Z : State) (u1 : Int32) (zc : Int32) (gs : Addr) (ts : Addr) (ks : ClassId) (gf : Addr) (tf : Addr) (kf : ClassId) (r0 : Addr) (r1 : Addr) (r2 : Addr) (r3 : Addr) (r4 : Addr) (r5 : Addr) (h0 : Heap) (n0 : Nat) (v : Option Value) (h : Heap) (L : List Loc) : Prop := v = some (.int (1 : Int32)) ∧ Fr n0 L
theorem pn_549518 : plainName "com/example/guided_sim/guidedsim/model/RelationOppositePinLaw" = true := by first | (simp [plainName, overriddenIn]; done) | decide +kernel
set_option maxRecDepth 65536 in
set_option maxHeartbeats 40000000 in
theorem rm_law (l : Launch) (Z : State) (a0 : Array Value) (hw : ∀ d ∈ tables_1, d.before a0 Z = true) (ws : List Jvm.Cond) (u1 : Int32) (zc : Int32) (gs : Addr) (ts : Addr) (ks : ClassId) (gf : Addr) (tf : Addr) (kf : ClassId) (r0 : Addr) (r1 : Addr) (r2 : Addr) (r3 : Addr) (r4 : Addr) (r5 : Addr) (h0 : Heap) (n0 : Nat) (Z0 : n0 ≤ h0.size) (hEL : EW Z a0 own_EL) (X00 : Old Z n0 h0) (O2 : Sta Z Z.heap "java/lang/String" "COMPACT_STRINGS" "Z" (.int zc)) (hz : ¬ zc = 0) (Es : Exa Z h0 gs "java/lang/String") (Cs : Fld Z h0 gs "java/lang/String" "coder" "B" (.int (0 : Int32))) (Us : Fld Z h0 gs "java/lang/String" "value" "[B" (.ref ts)) (As : Arv Z h0 ts ks .byte (7 : Int32) [(.int (115 : Int32)), (.int (117 : Int32)), (.int (99 : Int32)), (.int (99 : Int32)), (.int (101 : Int32)), (.int (115 : Int32)), (.int (115 : Int32))] (.int (0 : Int32))) (Ef : Exa Z h0 gf "java/lang/String") (Cf : Fld Z h0 gf "java/lang/String" "coder" "B" (.int (0 : Int32))) (Uf : Fld Z h0 gf "java/lang/String" "value" "[B" (.ref tf)) (Af : Arv Z h0 tf kf .byte (7 : Int32) [(.int (102 : Int32)), (.int (97 : Int32)), (.int (105 : Int32)), (.int (108 : Int32)), (.int (117 : Int32)), (.int (114 : Int32)), (.int (101 : Int32))] (.int (0 : Int32))) (S0 : Sta Z Z.heap "com/example/guided_sim/guidedsim/model/Relation" "WEAK_FEASIBILITY" "Lcom/example/guided_sim/guidedsim/model/Relation;" (.ref r0)) (E0 : Exa Z h0 r0 "com/example/guided_sim/guidedsim/model/Relation") (F0 : Fld Z h0 r0 "com/example/guided_sim/guidedsim/model/Relation" "goal" "Ljava/lang/String;" (.ref gs)) (S1 : Sta Z Z.heap "com/example/guided_sim/guidedsim/model/Relation" "STRONG_FEASIBILITY" "Lcom/example/guided_sim/guidedsim/model/Relation;" (.ref r1)) (E1 : Exa Z h0 r1 "com/example/guided_sim/guidedsim/model/Relation") (F1 : Fld Z h0 r1 "com/example/guided_sim/guidedsim/model/Relation" "goal" "Ljava/lang/String;" (.ref gs)) (S2 : Sta Z Z.heap "com/example/guided_sim/guidedsim/model/Relation" "WEAK_REFUTABILITY" "Lcom/example/guided_sim/guidedsim/model/Relation;" (.ref r2)) (E2 : Exa Z h0 r2 "com/example/guided_sim/guidedsim/model/Relation") (F2 : Fld Z h0 r2 "com/example/guided_sim/guidedsim/model/Relation" "goal" "Ljava/lang/String;" (.ref gf)) (S3 : Sta Z Z.heap "com/example/guided_sim/guidedsim/model/Relation" "STRONG_REFUTABILITY" "Lcom/example/guided_sim/guidedsim/model/Relation;" (.ref r3)) (E3 : Exa Z h0 r3 "com/example/guided_sim/guidedsim/model/Relation") (F3 : Fld Z h0 r3 "com/example/guided_sim/guidedsim/model/Relation" "goal" "Ljava/lang/String;" (.ref gf)) (S4 : Sta Z Z.heap "com/example/guided_sim/guidedsim/model/Relation" "CERTAINTY" "Lcom/example/guided_sim/guidedsim/model/Relation;" (.ref r4)) (E4 : Exa Z h0 r4 "com/example/guided_sim/guidedsim/model/Relation") (F4 : Fld Z h0 r4 "com/example/guided_sim/guidedsim/model/Relation" "goal" "Ljava/lang/String;" (.ref gs)) (S5 : Sta Z Z.heap "com/example/guided_sim/guidedsim/model/Relation" "IMPOSSIBILITY" "Lcom/example/guided_sim/guidedsim/model/Relation;" (.ref r5)) (E5 : Exa Z h0 r5 "com/example/guided_sim/guidedsim/model/Relation") (F5 : Fld Z h0 r5 "com/example/guided_sim/guidedsim/model/Relation" "goal" "Ljava/lang/String;" (.ref gf)) :
    MetFree l x (head1 (Jvm.Cond.code x code maxLocals ret :: ws) room_1) (fun a U => a = #[(.int u1)] ∧ Z.Warmed39 U.vm ∧ U.heap = h0 ∧ CHv Z own_EL U.vm h0) (fun _ _ _ _ _ => True) (fun _ U o U' => ∃ v L, o = .returned v ∧ Q_rm_law Z u1 zc gs ts ks gf tf kf r0 r1 r2 r3 r4 r5 h0 n0 v U'.heap L ∧ CHr Z own_EL U.vm U.heap U'.vm U'.heap ∧ ReturnedEndW U o U' L room_1.cells room_1.slots) := by
  refine MetFree.of_bodySF (plainFor_of_name pn_549518) hisR ?_
  intro p e s m args below meth c s₁ Bd hml0 hP hK
  obtain ⟨rfl, hZ, hh, hC⟩ := hP
  have hS0 : s.Since s.vm h0.size := (State.WarmedH.refl s).since _
  have wS : ∀ a ∈ Bundle.stringAtoms, a.before a0 Z = true := fun d hd => hw d ((by decide +kernel : ∀ d ∈ Bundle.stringAtoms, d ∈ tables_1) d hd)
  have hx := Bd.exec
  have hby := Bd.bytes
  have hml : c.maxLocals = 7 := hml0
  have hown : s.vm.findClass "com/example/guided_sim/guidedsim/model/RelationOppositePinLaw" = some m.cls := findClass_of_methodNamed Bd.named
  have hnm := (name_of_methodNamed Bd.named Bd.method).1
  have X0 : Stand p l e room_1 s m #[(.int u1)] below meth c s₁ [] 0 0 := Stand.of_body Bd
  have e0 : s₁.heap = h0 := by rw [← hh, Bd.state]; rfl
  have N0 := Fr.nil n0
  have pre0 : ∀ t, Steps p.tables e below (s₁.setTop (mkF m 0 #[.val (.int u1), .unset, .unset, .unset, .unset, .unset, .unset] [])) t → Steps p.tables e below (s₁.setTop (entryFrame m #[(.int u1)] maxLocals)) t := fun t k => castTop (ef_rm_law m u1) k
  have pre1 : ∀ t, Steps p.tables e below (s₁.setTop (mkF m 9 #[.val (.int u1), .val (.int ((u1 &&& (2147483647 : Int32)) % (6 : Int32))), .unset, .unset, .unset, .unset, .unset] [(.int ((u1 &&& (2147483647 : Int32)) % (6 : Int32)))])) t → Steps p.tables e below (s₁.setTop (entryFrame m #[(.int u1)] maxLocals)) t := by
    intro t k
    refine pre0 t ?_
    show Steps p.tables e below (s₁.setTop (mkF m 0 #[.val (.int u1), .unset, .unset, .unset, .unset, .unset, .unset] [])) _
    refine XS.iloadN X0.here hx rfl (hb hby at_0) rfl ?_
    show Steps p.tables e below (s₁.setTop (mkF m 1 #[.val (.int u1), .unset, .unset, .unset, .unset, .unset, .unset] [(.int u1)])) _
    refine X0.ldcInt hx hown (mvT hZ (own_w hw 0 rfl)) (g := (mkF m 1 #[.val (.int u1), .unset, .unset, .unset, .unset, .unset, .unset] [(.int u1)])) rfl (hb hby at_1) _ ?_
    show Steps p.tables e below (s₁.setTop (mkF m 3 #[.val (.int u1), .unset, .unset, .unset, .unset, .unset, .unset] [(.int (2147483647 : Int32)), (.int u1)])) _
    refine XS.iand X0.here hx rfl (hb hby at_3) rfl ?_
    show Steps p.tables e below (s₁.setTop (mkF m 4 #[.val (.int u1), .unset, .unset, .unset, .unset, .unset, .unset] [(.int (u1 &&& (2147483647 : Int32)))])) _
    refine XS.bipush X0.here hx rfl (hb hby at_4) ?_
    show Steps p.tables e below (s₁.setTop (mkF m 6 #[.val (.int u1), .unset, .unset, .unset, .unset, .unset, .unset] [(.int (6 : Int32)), (.int (u1 &&& (2147483647 : Int32)))])) _
    refine iremM X0 hx (g := (mkF m 6 #[.val (.int u1), .unset, .unset, .unset, .unset, .unset, .unset] [(.int (6 : Int32)), (.int (u1 &&& (2147483647 : Int32)))])) rfl (hb hby at_6) rfl (by decide) ?_
    show Steps p.tables e below (s₁.setTop (mkF m 7 #[.val (.int u1), .unset, .unset, .unset, .unset, .unset, .unset] [(.int ((u1 &&& (2147483647 : Int32)) % (6 : Int32)))])) _
    refine XS.istoreN X0.here hx rfl (hb hby at_7) rfl (l' := #[.val (.int u1), .val (.int ((u1 &&& (2147483647 : Int32)) % (6 : Int32))), .unset, .unset, .unset, .unset, .unset]) rfl ?_
    show Steps p.tables e below (s₁.setTop (mkF m 8 #[.val (.int u1), .val (.int ((u1 &&& (2147483647 : Int32)) % (6 : Int32))), .unset, .unset, .unset, .unset, .unset] [])) _
    refine XS.iloadN X0.here hx rfl (hb hby at_8) rfl ?_
    exact k
  rcases Bool.eq_false_or_eq_true (ifCond.holds .ne ((u1 &&& (2147483647 : Int32)) % (6 : Int32))) with hb9 | hb9
  · have pre2 : ∀ t, Steps p.tables e below (s₁.setTop (mkF m 24 #[.val (.int u1), .val (.int ((u1 &&& (2147483647 : Int32)) % (6 : Int32))), .unset, .unset, .unset, .unset, .unset] [(.int (1 : Int32)), (.int ((u1 &&& (2147483647 : Int32)) % (6 : Int32)))])) t → Steps p.tables e below (s₁.setTop (entryFrame m #[(.int u1)] maxLocals)) t := by
      intro t k
      refine pre1 t ?_
      show Steps p.tables e below (s₁.setTop (mkF m 9 #[.val (.int u1), .val (.int ((u1 &&& (2147483647 : Int32)) % (6 : Int32))), .unset, .unset, .unset, .unset, .unset] [(.int ((u1 &&& (2147483647 : Int32)) % (6 : Int32)))])) _
      refine XS.ifYes X0.here hx rfl (pc0 := 9) (pc' := 22) rfl (hb hby at_9) rfl hb9 (by decide) (by decide) ?_
      show Steps p.tables e below (s₁.setTop (mkF m 22 #[.val (.int u1), .val (.int ((u1 &&& (2147483647 : Int32)) % (6 : Int32))), .unset, .unset, .unset, .unset, .unset] [])) _
      refine XS.iloadN X0.here hx rfl (hb hby at_22) rfl ?_
      show Steps p.tables e below (s₁.setTop (mkF m 23 #[.val (.int u1), .val (.int ((u1 &&& (2147483647 : Int32)) % (6 : Int32))), .unset, .unset, .unset, .unset, .unset] [(.int ((u1 &&& (2147483647 : Int32)) % (6 : Int32)))])) _
      refine XS.iconst X0.here hx rfl (hb hby at_23) ?_
      exact k
    rcases Bool.eq_false_or_eq_true (if_icmp.holds .ne ((u1 &&& (2147483647 : Int32)) % (6 : Int32)) (1 : Int32)) with hb24 | hb24
    · have pre3 : ∀ t, Steps p.tables e below (s₁.setTop (mkF m 39 #[.val (.int u1), .val (.int ((u1 &&& (2147483647 : Int32)) % (6 : Int32))), .unset, .unset, .unset, .unset, .unset] [(.int (2 : Int32)), (.int ((u1 &&& (2147483647 : Int32)) % (6 : Int32)))])) t → Steps p.tables e below (s₁.setTop (entryFrame m #[(.int u1)] maxLocals)) t := by
        intro t k
        refine pre2 t ?_
        show Steps p.tables e below (s₁.setTop (mkF m 24 #[.val (.int u1), .val (.int ((u1 &&& (2147483647 : Int32)) % (6 : Int32))), .unset, .unset, .unset, .unset, .unset] [(.int (1 : Int32)), (.int ((u1 &&& (2147483647 : Int32)) % (6 : Int32)))])) _
        refine XS.icmpYes X0.here hx rfl (pc0 := 24) (pc' := 37) rfl (hb hby at_24) rfl hb24 (by decide) (by decide) ?_
        show Steps p.tables e below (s₁.setTop (mkF m 37 #[.val (.int u1), .val (.int ((u1 &&& (2147483647 : Int32)) % (6 : Int32))), .unset, .unset, .unset, .unset, .unset] [])) _
        refine XS.iloadN X0.here hx rfl (hb hby at_37) rfl ?_
        show Steps p.tables e below (s₁.setTop (mkF m 38 #[.val (.int u1), .val (.int ((u1 &&& (2147483647 : Int32)) % (6 : Int32))), .unset, .unset, .unset, .unset, .unset] [(.int ((u1 &&& (2147483647 : Int32)) % (6 : Int32)))])) _
        refine XS.iconst X0.here hx rfl (hb hby at_38) ?_
        exact k
      rcases Bool.eq_false_or_eq_true (if_icmp.holds .ne ((u1 &&& (2147483647 : Int32)) % (6 : Int32)) (2 : Int32)) with hb39 | hb39
      · have pre4 : ∀ t, Steps p.tables e below (s₁.setTop (mkF m 54 #[.val (.int u1), .val (.int ((u1 &&& (2147483647 : Int32)) % (6 : Int32))), .unset, .unset, .unset, .unset, .unset] [(.int (3 : Int32)), (.int ((u1 &&& (2147483647 : Int32)) % (6 : Int32)))])) t → Steps p.tables e below (s₁.setTop (entryFrame m #[(.int u1)] maxLocals)) t := by
          intro t k
          refine pre3 t ?_
          show Steps p.tables e below (s₁.setTop (mkF m 39 #[.val (.int u1), .val (.int ((u1 &&& (2147483647 : Int32)) % (6 : Int32))), .unset, .unset, .unset, .unset, .unset] [(.int (2 : Int32)), (.int ((u1 &&& (2147483647 : Int32)) % (6 : Int32)))])) _
          refine XS.icmpYes X0.here hx rfl (pc0 := 39) (pc' := 52) rfl (hb hby at_39) rfl hb39 (by decide) (by decide) ?_
          show Steps p.tables e below (s₁.setTop (mkF m 52 #[.val (.int u1), .val (.int ((u1 &&& (2147483647 : Int32)) % (6 : Int32))), .unset, .unset, .unset, .unset, .unset] [])) _
          refine XS.iloadN X0.here hx rfl (hb hby at_52) rfl ?_
          show Steps p.tables e below (s₁.setTop (mkF m 53 #[.val (.int u1), .val (.int ((u1 &&& (2147483647 : Int32)) % (6 : Int32))), .unset, .unset, .unset, .unset, .unset] [(.int ((u1 &&& (2147483647 : Int32)) % (6 : Int32)))])) _
          refine XS.iconst X0.here hx rfl (hb hby at_53) ?_
          exact k
        rcases Bool.eq_false_or_eq_true (if_icmp.holds .ne ((u1 &&& (2147483647 : Int32)) % (6 : Int32)) (3 : Int32)) with hb54 | hb54
        · have pre5 : ∀ t, Steps p.tables e below (s₁.setTop (mkF m 69 #[.val (.int u1), .val (.int ((u1 &&& (2147483647 : Int32)) % (6 : Int32))), .unset, .unset, .unset, .unset, .unset] [(.int (4 : Int32)), (.int ((u1 &&& (2147483647 : Int32)) % (6 : Int32)))])) t → Steps p.tables e below (s₁.setTop (entryFrame m #[(.int u1)] maxLocals)) t := by
            intro t k
            refine pre4 t ?_
            show Steps p.tables e below (s₁.setTop (mkF m 54 #[.val (.int u1), .val (.int ((u1 &&& (2147483647 : Int32)) % (6 : Int32))), .unset, .unset, .unset, .unset, .unset] [(.int (3 : Int32)), (.int ((u1 &&& (2147483647 : Int32)) % (6 : Int32)))])) _
            refine XS.icmpYes X0.here hx rfl (pc0 := 54) (pc' := 67) rfl (hb hby at_54) rfl hb54 (by decide) (by decide) ?_
            show Steps p.tables e below (s₁.setTop (mkF m 67 #[.val (.int u1), .val (.int ((u1 &&& (2147483647 : Int32)) % (6 : Int32))), .unset, .unset, .unset, .unset, .unset] [])) _
            refine XS.iloadN X0.here hx rfl (hb hby at_67) rfl ?_
            show Steps p.tables e below (s₁.setTop (mkF m 68 #[.val (.int u1), .val (.int ((u1 &&& (2147483647 : Int32)) % (6 : Int32))), .unset, .unset, .unset, .unset, .unset] [(.int ((u1 &&& (2147483647 : Int32)) % (6 : Int32)))])) _
            refine XS.iconst X0.here hx rfl (hb hby at_68) ?_
            exact k
          rcases Bool.eq_false_or_eq_true (if_icmp.holds .ne ((u1 &&& (2147483647 : Int32)) % (6 : Int32)) (4 : Int32)) with hb69 | hb69
          · obtain ⟨T6, X6, e6, st6⟩ := getS2 X0 hx hZ hown (host := "") (Or.inl (own_w hw 48 rfl)) Via.refl e0 (S5.ext X00.2) (g := (mkF m 82 #[.val (.int u1), .val (.int ((u1 &&& (2147483647 : Int32)) % (6 : Int32))), .unset, .unset, .unset, .unset, .unset] [])) rfl (hb hby at_82)
            obtain ⟨sa7, T7, h7, kc7, sb7, kb7, X7, e7, E7, hSx7, kkx7, hZ, hown, Ea7, Fc7, Fv7, Vb7, -, -, CH7, Lt7, SF7, st7⟩ := ldcCH (s := s.setVm s.vm) (vm0 := s.vm) X6 hx hZ hown (own_w hw 40 rfl) wS e6 (k0 := h0.size) ((State.WarmedH.refl (s.setVm s.vm)).since _) (Nat.le_refl _) hEL (by decide) hC (vs := [(.int (115 : Int32)), (.int (117 : Int32)), (.int (99 : Int32)), (.int (99 : Int32)), (.int (101 : Int32)), (.int (115 : Int32)), (.int (115 : Int32))]) (z := (7 : Int32)) (by decide) (by decide) (by decide) (g := (mkF m 86 #[.val (.int u1), .val (.int ((u1 &&& (2147483647 : Int32)) % (6 : Int32))), .val (.ref r5), .unset, .unset, .unset, .unset] [])) rfl (hb hby at_86) (n := 28) (by decide) (by decide) (by decide) (by decide)
            have hS7 : s.Since T7.vm h7.size := State.Since.trans hS0 (own_smono hSx7 kkx7) (Nat.le_trans (Nat.le_refl _) E7.1)
            have Z7 : n0 ≤ h7.size := Nat.le_trans Z0 E7.1
            have Od7 : Old Z n0 h7 := X00.ext E7
            obtain ⟨cq8, kq8, q8a, q8b, q8c⟩ := isOf (s := s.setVm T7.vm) hZ e7 (E5.ext E7)
            obtain ⟨_, _, ⟨T8, L8, k8, n8⟩, -, X8, hSx8, hgr8, ⟨Lc8, hQ8, l8, y8, z8, CH8⟩, st8⟩ := Stand.virtualBackS (s := s.setVm T7.vm) X7 hx (y := (⟨"com/example/guided_sim/guidedsim/model/Relation", "opposite", "()Ljava/lang/String;"⟩ : MethodName)) (z := (⟨"com/example/guided_sim/guidedsim/model/Relation", "opposite", "()Ljava/lang/String;"⟩ : MethodName)) hown (mvT hZ (own_w hw 12 rfl)) (mvT hZ (own_w hw 13 rfl)) (notFace_of_selects (args := #[]) (mvT hZ (own_w hw 15 rfl))) (mvT hZ (own_w hw 15 rfl)) (mvT hZ (own_w hw 14 rfl)) (by decide) (backOfSH (s := s) (vm0 := T7.vm) (W := 0) (rm_opp_f l Z a0 hw [] r5 gf tf kf zc h7 n0 Z7 hEL Od7 O2 hz (F5.ext E7) (Ef.ext E7) (Cf.ext E7) (Uf.ext E7) (Af.ext E7)) hZ (own_w hw 16 rfl) (own_w hw 2 rfl) (by decide) (by decide) hEL CH7.1) q8a q8c (g := (mkF m 90 #[.val (.int u1), .val (.int ((u1 &&& (2147483647 : Int32)) % (6 : Int32))), .val (.ref r5), .val (.ref sa7), .unset, .unset, .unset] [(.ref r5)])) rfl (by rw [hml]; rfl) (Steps.refl _) (argsL := []) (rest := []) (lenOf pd_706127 rfl) rfl (by show 2 * 0 + _ ≤ _; exact Nat.le_of_eq rfl) (hb hby at_90) (fun _ _ => ⟨rfl, e7, (by decide : 2 + 2 ≤ _), (by decide : 32 + 32 ≤ _)⟩)
            dsimp only [Pt.U, Pt.locs, Pt.cells, Pt.slots] at X8 l8 y8 z8 st8 hQ8 hSx8 hgr8 CH8
            subst l8 y8 z8
            obtain ⟨oa, ob, ok, rfl, Nq8, Kq8, Eo8, Fc8, Fv8, Vo8⟩ := hQ8
            have N8 := Fr.app N0 Nq8
            have Lt8_22 : Lit (s.setVm T8.vm) "com/example/guided_sim/guidedsim/model/RelationOppositePinLaw" 22 sa7 := Lit.stays (s := s) (vm0 := T7.vm) Lt7 hSx8.1
            obtain ⟨X8, hS8, hZ, hown⟩ := rebS (s := s) hS7 (by rw [e7]; exact (Nat.le_refl _)) X8 hSx8 hgr8 hZ hown
            have Z8 : n0 ≤ T8.heap.size := Nat.le_trans Z7 Kq8.1
            have Od8 : Old Z n0 T8.heap := Od7.keep Kq8 all0
            obtain ⟨cq9, kq9, q9a, q9b, q9c⟩ := isOf hZ rfl ((E5.ext E7).keep Kq8)
            obtain ⟨_, _, ⟨T9, L9, k9, n9⟩, -, X9, ⟨Lc9, hQ9, l9, y9, z9⟩, st9⟩ := X8.virtualBack hx (y := (⟨"com/example/guided_sim/guidedsim/model/Relation", "goal", "()Ljava/lang/String;"⟩ : MethodName)) (z := (⟨"com/example/guided_sim/guidedsim/model/Relation", "goal", "()Ljava/lang/String;"⟩ : MethodName)) hown (mvT hZ (own_w hw 35 rfl)) (mvT hZ (own_w hw 36 rfl)) (notFace_of_selects (args := #[]) (mvT hZ (own_w hw 38 rfl))) (mvT hZ (own_w hw 38 rfl)) (mvT hZ (own_w hw 37 rfl)) (by decide) (backOf (W := 0) (rm_goal l Z a0 hw [] r5 gf T8.heap n0 Z8 ((F5.ext E7).keep Kq8 nin0)) hZ (own_w hw 39 rfl) (own_w hw 2 rfl) (by decide) (by decide)) q9a q9c (g := (mkF m 96 #[.val (.int u1), .val (.int ((u1 &&& (2147483647 : Int32)) % (6 : Int32))), .val (.ref r5), .val (.ref sa7), .val (.ref oa), .unset, .unset] [(.ref r5)])) rfl (by rw [hml]; rfl) (Steps.refl _) (argsL := []) (rest := []) (lenOf pd_706127 rfl) rfl (by show 2 * 0 + _ ≤ _; exact Nat.le_of_eq rfl) (hb hby at_96) (fun _ _ => ⟨rfl, rfl, (by decide : 4 + 0 ≤ _), (by decide : 64 + 0 ≤ _)⟩)
            dsimp only [Pt.U, Pt.locs, Pt.cells, Pt.slots] at X9 l9 y9 z9 st9 hQ9
            subst l9 y9 z9
            obtain ⟨rfl, Nq9, eq9⟩ := hQ9
            have N9 := Fr.app N8 Nq9
            obtain ⟨cq10, kq10, q10a, q10b, q10c⟩ := isOf hZ eq9 Eo8
            obtain ⟨_, _, ⟨T10, L10, k10, n10⟩, -, X10, ⟨Lc10, hQ10, l10, y10, z10⟩, st10⟩ := X9.virtualBack hx (y := (⟨"java/lang/String", "equals", "(Ljava/lang/Object;)Z"⟩ : MethodName)) (z := (⟨"java/lang/String", "equals", "(Ljava/lang/Object;)Z"⟩ : MethodName)) hown (mvT hZ (own_w hw 41 rfl)) (mvT hZ (own_w hw 21 rfl)) (notFace_of_selects (args := #[]) (mvT hZ (own_w hw 23 rfl))) (mvT hZ (own_w hw 23 rfl)) (mvT hZ (own_w hw 22 rfl)) (by decide) (backOf (W := 0) (rm_eq_ss l Z a0 hw [] oa sa7 zc ob ok sb7 kb7 T8.heap n0 Z8 (O2.ext Od8.2) hz (Ea7.keep Kq8) Fc8 (Fc7.keep Kq8 nin0) Fv8 (Fv7.keep Kq8 nin0) Vo8 (Vb7.keep Kq8 nin0)) hZ (own_w hw 24 rfl) (own_w hw 5 rfl) (by decide) (by decide)) q10a q10c (g := (mkF m 105 #[.val (.int u1), .val (.int ((u1 &&& (2147483647 : Int32)) % (6 : Int32))), .val (.ref r5), .val (.ref sa7), .val (.ref oa), .val (.ref gf), .unset] [(.ref sa7), (.ref oa)])) rfl (by rw [hml]; rfl) (Steps.refl _) (argsL := [(.ref sa7)]) (rest := []) (lenOf pd_782203 rfl) rfl (by show 2 * 0 + _ ≤ _; exact Nat.le_of_eq rfl) (hb hby at_105) (fun _ _ => ⟨rfl, eq9, (by decide : 4 + 0 ≤ _), (by decide : 64 + 0 ≤ _)⟩)
            dsimp only [Pt.U, Pt.locs, Pt.cells, Pt.slots] at X10 l10 y10 z10 st10 hQ10
            subst l10 y10 z10
            obtain ⟨rfl, Nq10, eq10⟩ := hQ10
            have N10 := Fr.app N9 Nq10
            obtain ⟨cq11, kq11, q11a, q11b, q11c⟩ := isOf hZ eq10 Eo8
            obtain ⟨_, _, ⟨T11, L11, k11, n11⟩, -, X11, ⟨Lc11, hQ11, l11, y11, z11⟩, st11⟩ := X10.virtualBack hx (y := (⟨"java/lang/String", "equals", "(Ljava/lang/Object;)Z"⟩ : MethodName)) (z := (⟨"java/lang/String", "equals", "(Ljava/lang/Object;)Z"⟩ : MethodName)) hown (mvT hZ (own_w hw 41 rfl)) (mvT hZ (own_w hw 21 rfl)) (notFace_of_selects (args := #[]) (mvT hZ (own_w hw 23 rfl))) (mvT hZ (own_w hw 23 rfl)) (mvT hZ (own_w hw 22 rfl)) (by decide) (backOf (W := 0) (rm_eq_ss l Z a0 hw [] oa sa7 zc ob ok sb7 kb7 T8.heap n0 Z8 (O2.ext Od8.2) hz (Ea7.keep Kq8) Fc8 (Fc7.keep Kq8 nin0) Fv8 (Fv7.keep Kq8 nin0) Vo8 (Vb7.keep Kq8 nin0)) hZ (own_w hw 24 rfl) (own_w hw 5 rfl) (by decide) (by decide)) q11a q11c (g := (mkF m 136 #[.val (.int u1), .val (.int ((u1 &&& (2147483647 : Int32)) % (6 : Int32))), .val (.ref r5), .val (.ref sa7), .val (.ref oa), .val (.ref gf), .val (.int (1 : Int32))] [(.ref sa7), (.ref oa)])) rfl (by rw [hml]; rfl) (Steps.refl _) (argsL := [(.ref sa7)]) (rest := []) (lenOf pd_782203 rfl) rfl (by show 2 * 0 + _ ≤ _; exact Nat.le_of_eq rfl) (hb hby at_136) (fun _ _ => ⟨rfl, eq10, (by decide : 4 + 0 ≤ _), (by decide : 64 + 0 ≤ _)⟩)
            dsimp only [Pt.U, Pt.locs, Pt.cells, Pt.slots] at X11 l11 y11 z11 st11 hQ11
            subst l11 y11 z11
            obtain ⟨rfl, Nq11, eq11⟩ := hQ11
            have N11 := Fr.app N10 Nq11
            obtain ⟨cq12, kq12, q12a, q12b, q12c⟩ := isOf hZ eq11 Eo8
            obtain ⟨_, _, ⟨T12, L12, k12, n12⟩, -, X12, ⟨Lc12, hQ12, l12, y12, z12⟩, st12⟩ := X11.virtualBack hx (y := (⟨"java/lang/String", "equals", "(Ljava/lang/Object;)Z"⟩ : MethodName)) (z := (⟨"java/lang/String", "equals", "(Ljava/lang/Object;)Z"⟩ : MethodName)) hown (mvT hZ (own_w hw 41 rfl)) (mvT hZ (own_w hw 21 rfl)) (notFace_of_selects (args := #[]) (mvT hZ (own_w hw 23 rfl))) (mvT hZ (own_w hw 23 rfl)) (mvT hZ (own_w hw 22 rfl)) (by decide) (backOf (W := 0) (rm_eq_sf l Z a0 hw [] oa gf zc ob ok tf kf T8.heap n0 Z8 (O2.ext Od8.2) hz ((Ef.ext E7).keep Kq8) Fc8 ((Cf.ext E7).keep Kq8 nin0) Fv8 ((Uf.ext E7).keep Kq8 nin0) Vo8 ((Af.ext E7).keep Kq8 nin0)) hZ (own_w hw 24 rfl) (own_w hw 5 rfl) (by decide) (by decide)) q12a q12c (g := (mkF m 146 #[.val (.int u1), .val (.int ((u1 &&& (2147483647 : Int32)) % (6 : Int32))), .val (.ref r5), .val (.ref sa7), .val (.ref oa), .val (.ref gf), .val (.int (1 : Int32))] [(.ref gf), (.ref oa)])) rfl (by rw [hml]; rfl) (Steps.refl _) (argsL := [(.ref gf)]) (rest := []) (lenOf pd_782203 rfl) rfl (by show 2 * 0 + _ ≤ _; exact Nat.le_of_eq rfl) (hb hby at_146) (fun _ _ => ⟨rfl, eq11, (by decide : 4 + 0 ≤ _), (by decide : 64 + 0 ≤ _)⟩)
            dsimp only [Pt.U, Pt.locs, Pt.cells, Pt.slots] at X12 l12 y12 z12 st12 hQ12
            subst l12 y12 z12
            obtain ⟨rfl, Nq12, eq12⟩ := hQ12
            have N12 := Fr.app N11 Nq12
            obtain ⟨fs, hr, hrun, hended, hEnd⟩ := Stand.leaveW (s := s) (vm₁ := T8.vm) X12 hS8 (by rw [eq12]; exact (Nat.le_refl _)) (v := some (.int (1 : Int32))) (fun h => by rw [Bd.returns] at h; cases h)
            have hCH : CHr Z own_EL s.vm s.heap T12.vm T12.heap := by rw [hh, eq12]; exact (((CHr.refl hC).trans CH7).trans CH8).trans (CHv.at (s := s) (vm0 := T8.vm) X12 hZ hEL CH8.1)
            refine ⟨_, _, pre5 _ ?_, hrun, hended, _, _, rfl, ?_, hCH, hEnd.1, hEnd.2.1, hEnd.2.2.1, hEnd.2.2.2.mono (by decide) (by decide)⟩
            · show Steps p.tables e below (s₁.setTop (mkF m 69 #[.val (.int u1), .val (.int ((u1 &&& (2147483647 : Int32)) % (6 : Int32))), .unset, .unset, .unset, .unset, .unset] [(.int (4 : Int32)), (.int ((u1 &&& (2147483647 : Int32)) % (6 : Int32)))])) _
              refine XS.icmpYes X0.here hx rfl (pc0 := 69) (pc' := 82) rfl (hb hby at_69) rfl hb69 (by decide) (by decide) ?_
              show Steps p.tables e below (s₁.setTop (mkF m 82 #[.val (.int u1), .val (.int ((u1 &&& (2147483647 : Int32)) % (6 : Int32))), .unset, .unset, .unset, .unset, .unset] [])) _
              refine st6 _ ?_
              show Steps p.tables e below (T6.setTop (mkF m 85 #[.val (.int u1), .val (.int ((u1 &&& (2147483647 : Int32)) % (6 : Int32))), .unset, .unset, .unset, .unset, .unset] [(.ref r5)])) _
              refine XS.astoreN X6.here hx rfl (hb hby at_85) rfl rfl (l' := #[.val (.int u1), .val (.int ((u1 &&& (2147483647 : Int32)) % (6 : Int32))), .val (.ref r5), .unset, .unset, .unset, .unset]) rfl ?_
              show Steps p.tables e below (T6.setTop (mkF m 86 #[.val (.int u1), .val (.int ((u1 &&& (2147483647 : Int32)) % (6 : Int32))), .val (.ref r5), .unset, .unset, .unset, .unset] [])) _
              refine st7 _ ?_
              show Steps p.tables e below (T7.setTop (mkF m 88 #[.val (.int u1), .val (.int ((u1 &&& (2147483647 : Int32)) % (6 : Int32))), .val (.ref r5), .unset, .unset, .unset, .unset] [(.ref sa7)])) _
              refine XS.astoreN X7.here hx rfl (hb hby at_88) rfl rfl (l' := #[.val (.int u1), .val (.int ((u1 &&& (2147483647 : Int32)) % (6 : Int32))), .val (.ref r5), .val (.ref sa7), .unset, .unset, .unset]) rfl ?_
              show Steps p.tables e below (T7.setTop (mkF m 89 #[.val (.int u1), .val (.int ((u1 &&& (2147483647 : Int32)) % (6 : Int32))), .val (.ref r5), .val (.ref sa7), .unset, .unset, .unset] [])) _
              refine XS.aloadN X7.here hx rfl (hb hby at_89) rfl rfl ?_
              show Steps p.tables e below (T7.setTop (mkF m 90 #[.val (.int u1), .val (.int ((u1 &&& (2147483647 : Int32)) % (6 : Int32))), .val (.ref r5), .val (.ref sa7), .unset, .unset, .unset] [(.ref r5)])) _
              refine st8.trans ?_
              show Steps p.tables e below (T8.setTop (mkF m 93 #[.val (.int u1), .val (.int ((u1 &&& (2147483647 : Int32)) % (6 : Int32))), .val (.ref r5), .val (.ref sa7), .unset, .unset, .unset] [(.ref oa)])) _
              refine XS.astore X8.here hx rfl (hb hby at_93) rfl rfl (l' := #[.val (.int u1), .val (.int ((u1 &&& (2147483647 : Int32)) % (6 : Int32))), .val (.ref r5), .val (.ref sa7), .val (.ref oa), .unset, .unset]) rfl ?_
              show Steps p.tables e below (T8.setTop (mkF m 95 #[.val (.int u1), .val (.int ((u1 &&& (2147483647 : Int32)) % (6 : Int32))), .val (.ref r5), .val (.ref sa7), .val (.ref oa), .unset, .unset] [])) _
              refine XS.aloadN X8.here hx rfl (hb hby at_95) rfl rfl ?_
              show Steps p.tables e below (T8.setTop (mkF m 96 #[.val (.int u1), .val (.int ((u1 &&& (2147483647 : Int32)) % (6 : Int32))), .val (.ref r5), .val (.ref sa7), .val (.ref oa), .unset, .unset] [(.ref r5)])) _
              refine st9.trans ?_
              show Steps p.tables e below (T9.setTop (mkF m 99 #[.val (.int u1), .val (.int ((u1 &&& (2147483647 : Int32)) % (6 : Int32))), .val (.ref r5), .val (.ref sa7), .val (.ref oa), .unset, .unset] [(.ref gf)])) _
              refine XS.astore X9.here hx rfl (hb hby at_99) rfl rfl (l' := #[.val (.int u1), .val (.int ((u1 &&& (2147483647 : Int32)) % (6 : Int32))), .val (.ref r5), .val (.ref sa7), .val (.ref oa), .val (.ref gf), .unset]) rfl ?_
              show Steps p.tables e below (T9.setTop (mkF m 101 #[.val (.int u1), .val (.int ((u1 &&& (2147483647 : Int32)) % (6 : Int32))), .val (.ref r5), .val (.ref sa7), .val (.ref oa), .val (.ref gf), .unset] [])) _
              refine XS.aload X9.here hx rfl (hb hby at_101) rfl rfl ?_
              show Steps p.tables e below (T9.setTop (mkF m 103 #[.val (.int u1), .val (.int ((u1 &&& (2147483647 : Int32)) % (6 : Int32))), .val (.ref r5), .val (.ref sa7), .val (.ref oa), .val (.ref gf), .unset] [(.ref oa)])) _
              refine ldcAgain (s := s) (vm0 := T8.vm) X9 hx hZ hown (own_w hw 40 rfl) Lt8_22 (g := (mkF m 103 #[.val (.int u1), .val (.int ((u1 &&& (2147483647 : Int32)) % (6 : Int32))), .val (.ref r5), .val (.ref sa7), .val (.ref oa), .val (.ref gf), .unset] [(.ref oa)])) rfl (hb hby at_103) _ ?_
              show Steps p.tables e below (T9.setTop (mkF m 105 #[.val (.int u1), .val (.int ((u1 &&& (2147483647 : Int32)) % (6 : Int32))), .val (.ref r5), .val (.ref sa7), .val (.ref oa), .val (.ref gf), .unset] [(.ref sa7), (.ref oa)])) _
              refine st10.trans ?_
              show Steps p.tables e below (T10.setTop (mkF m 108 #[.val (.int u1), .val (.int ((u1 &&& (2147483647 : Int32)) % (6 : Int32))), .val (.ref r5), .val (.ref sa7), .val (.ref oa), .val (.ref gf), .unset] [(.int (1 : Int32))])) _
              refine XS.ifYes X10.here hx rfl (pc0 := 108) (pc' := 121) rfl (hb hby at_108) rfl (by decide) (by decide) (by decide) ?_
              show Steps p.tables e below (T10.setTop (mkF m 121 #[.val (.int u1), .val (.int ((u1 &&& (2147483647 : Int32)) % (6 : Int32))), .val (.ref r5), .val (.ref sa7), .val (.ref oa), .val (.ref gf), .unset] [])) _
              refine XS.iconst X10.here hx rfl (hb hby at_121) ?_
              show Steps p.tables e below (T10.setTop (mkF m 122 #[.val (.int u1), .val (.int ((u1 &&& (2147483647 : Int32)) % (6 : Int32))), .val (.ref r5), .val (.ref sa7), .val (.ref oa), .val (.ref gf), .unset] [(.int (1 : Int32))])) _
              refine XS.goto X10.here hx rfl (pc0 := 122) (pc' := 126) rfl (hb hby at_122) (by decide) (by decide) ?_
              show Steps p.tables e below (T10.setTop (mkF m 126 #[.val (.int u1), .val (.int ((u1 &&& (2147483647 : Int32)) % (6 : Int32))), .val (.ref r5), .val (.ref sa7), .val (.ref oa), .val (.ref gf), .unset] [(.int (1 : Int32))])) _
              refine XS.istore X10.here hx rfl (hb hby at_126) rfl (l' := #[.val (.int u1), .val (.int ((u1 &&& (2147483647 : Int32)) % (6 : Int32))), .val (.ref r5), .val (.ref sa7), .val (.ref oa), .val (.ref gf), .val (.int (1 : Int32))]) rfl ?_
              show Steps p.tables e below (T10.setTop (mkF m 128 #[.val (.int u1), .val (.int ((u1 &&& (2147483647 : Int32)) % (6 : Int32))), .val (.ref r5), .val (.ref sa7), .val (.ref oa), .val (.ref gf), .val (.int (1 : Int32))] [])) _
              refine XS.iload X10.here hx rfl (hb hby at_128) rfl ?_
              show Steps p.tables e below (T10.setTop (mkF m 130 #[.val (.int u1), .val (.int ((u1 &&& (2147483647 : Int32)) % (6 : Int32))), .val (.ref r5), .val (.ref sa7), .val (.ref oa), .val (.ref gf), .val (.int (1 : Int32))] [(.int (1 : Int32))])) _
              refine XS.ifNo X10.here hx rfl (hb hby at_130) rfl (by decide) ?_
              show Steps p.tables e below (T10.setTop (mkF m 133 #[.val (.int u1), .val (.int ((u1 &&& (2147483647 : Int32)) % (6 : Int32))), .val (.ref r5), .val (.ref sa7), .val (.ref oa), .val (.ref gf), .val (.int (1 : Int32))] [])) _
              refine XS.aload X10.here hx rfl (hb hby at_133) rfl rfl ?_
              show Steps p.tables e below (T10.setTop (mkF m 135 #[.val (.int u1), .val (.int ((u1 &&& (2147483647 : Int32)) % (6 : Int32))), .val (.ref r5), .val (.ref sa7), .val (.ref oa), .val (.ref gf), .val (.int (1 : Int32))] [(.ref oa)])) _
              refine XS.aloadN X10.here hx rfl (hb hby at_135) rfl rfl ?_
              show Steps p.tables e below (T10.setTop (mkF m 136 #[.val (.int u1), .val (.int ((u1 &&& (2147483647 : Int32)) % (6 : Int32))), .val (.ref r5), .val (.ref sa7), .val (.ref oa), .val (.ref gf), .val (.int (1 : Int32))] [(.ref sa7), (.ref oa)])) _
              refine st11.trans ?_
              show Steps p.tables e below (T11.setTop (mkF m 139 #[.val (.int u1), .val (.int ((u1 &&& (2147483647 : Int32)) % (6 : Int32))), .val (.ref r5), .val (.ref sa7), .val (.ref oa), .val (.ref gf), .val (.int (1 : Int32))] [(.int (1 : Int32))])) _
              refine XS.ifNo X11.here hx rfl (hb hby at_139) rfl (by decide) ?_
              show Steps p.tables e below (T11.setTop (mkF m 142 #[.val (.int u1), .val (.int ((u1 &&& (2147483647 : Int32)) % (6 : Int32))), .val (.ref r5), .val (.ref sa7), .val (.ref oa), .val (.ref gf), .val (.int (1 : Int32))] [])) _
              refine XS.aload X11.here hx rfl (hb hby at_142) rfl rfl ?_
              show Steps p.tables e below (T11.setTop (mkF m 144 #[.val (.int u1), .val (.int ((u1 &&& (2147483647 : Int32)) % (6 : Int32))), .val (.ref r5), .val (.ref sa7), .val (.ref oa), .val (.ref gf), .val (.int (1 : Int32))] [(.ref oa)])) _
              refine XS.aload X11.here hx rfl (hb hby at_144) rfl rfl ?_
              show Steps p.tables e below (T11.setTop (mkF m 146 #[.val (.int u1), .val (.int ((u1 &&& (2147483647 : Int32)) % (6 : Int32))), .val (.ref r5), .val (.ref sa7), .val (.ref oa), .val (.ref gf), .val (.int (1 : Int32))] [(.ref gf), (.ref oa)])) _
              refine st12.trans ?_
              show Steps p.tables e below (T12.setTop (mkF m 149 #[.val (.int u1), .val (.int ((u1 &&& (2147483647 : Int32)) % (6 : Int32))), .val (.ref r5), .val (.ref sa7), .val (.ref oa), .val (.ref gf), .val (.int (1 : Int32))] [(.int (0 : Int32))])) _
              refine XS.ifNo X12.here hx rfl (hb hby at_149) rfl (by decide) ?_
              show Steps p.tables e below (T12.setTop (mkF m 152 #[.val (.int u1), .val (.int ((u1 &&& (2147483647 : Int32)) % (6 : Int32))), .val (.ref r5), .val (.ref sa7), .val (.ref oa), .val (.ref gf), .val (.int (1 : Int32))] [])) _
              refine XS.iconst X12.here hx rfl (hb hby at_152) ?_
              show Steps p.tables e below (T12.setTop (mkF m 153 #[.val (.int u1), .val (.int ((u1 &&& (2147483647 : Int32)) % (6 : Int32))), .val (.ref r5), .val (.ref sa7), .val (.ref oa), .val (.ref gf), .val (.int (1 : Int32))] [(.int (1 : Int32))])) _
              refine XS.goto X12.here hx rfl (pc0 := 153) (pc' := 157) rfl (hb hby at_153) (by decide) (by decide) ?_
              show Steps p.tables e below (T12.setTop (mkF m 157 #[.val (.int u1), .val (.int ((u1 &&& (2147483647 : Int32)) % (6 : Int32))), .val (.ref r5), .val (.ref sa7), .val (.ref oa), .val (.ref gf), .val (.int (1 : Int32))] [(.int (1 : Int32))])) _
              exact retN X12 hx (t := .boolean) Bd.returns (by simp) (hb hby at_157) hr
            · show Q_rm_law Z _ _ _ _ _ _ _ _ _ _ _ _ _ _ h0 n0 _ T12.heap _
              rw [eq12]
              exact ⟨rfl, N12⟩
          · obtain ⟨T13, X13, e13, st13⟩ := getS2 X0 hx hZ hown (host := "") (Or.inl (own_w hw 50 rfl)) Via.refl e0 (S4.ext X00.2) (g := (mkF m 72 #[.val (.int u1), .val (.int ((u1 &&& (2147483647 : Int32)) % (6 : Int32))), .unset, .unset, .unset, .unset, .unset] [])) rfl (hb hby at_72)
            obtain ⟨sa14, T14, h14, kc14, sb14, kb14, X14, e14, E14, hSx14, kkx14, hZ, hown, Ea14, Fc14, Fv14, Vb14, -, -, CH14, Lt14, SF14, st14⟩ := ldcCH (s := s.setVm s.vm) (vm0 := s.vm) X13 hx hZ hown (own_w hw 4 rfl) wS e13 (k0 := h0.size) ((State.WarmedH.refl (s.setVm s.vm)).since _) (Nat.le_refl _) hEL (by decide) hC (vs := [(.int (102 : Int32)), (.int (97 : Int32)), (.int (105 : Int32)), (.int (108 : Int32)), (.int (117 : Int32)), (.int (114 : Int32)), (.int (101 : Int32))]) (z := (7 : Int32)) (by decide) (by decide) (by decide) (g := (mkF m 76 #[.val (.int u1), .val (.int ((u1 &&& (2147483647 : Int32)) % (6 : Int32))), .val (.ref r4), .unset, .unset, .unset, .unset] [])) rfl (hb hby at_76) (n := 28) (by decide) (by decide) (by decide) (by decide)
            have hS14 : s.Since T14.vm h14.size := State.Since.trans hS0 (own_smono hSx14 kkx14) (Nat.le_trans (Nat.le_refl _) E14.1)
            have Z14 : n0 ≤ h14.size := Nat.le_trans Z0 E14.1
            have Od14 : Old Z n0 h14 := X00.ext E14
            obtain ⟨cq15, kq15, q15a, q15b, q15c⟩ := isOf (s := s.setVm T14.vm) hZ e14 (E4.ext E14)
            obtain ⟨_, _, ⟨T15, L15, k15, n15⟩, -, X15, hSx15, hgr15, ⟨Lc15, hQ15, l15, y15, z15, CH15⟩, st15⟩ := Stand.virtualBackS (s := s.setVm T14.vm) X14 hx (y := (⟨"com/example/guided_sim/guidedsim/model/Relation", "opposite", "()Ljava/lang/String;"⟩ : MethodName)) (z := (⟨"com/example/guided_sim/guidedsim/model/Relation", "opposite", "()Ljava/lang/String;"⟩ : MethodName)) hown (mvT hZ (own_w hw 12 rfl)) (mvT hZ (own_w hw 13 rfl)) (notFace_of_selects (args := #[]) (mvT hZ (own_w hw 15 rfl))) (mvT hZ (own_w hw 15 rfl)) (mvT hZ (own_w hw 14 rfl)) (by decide) (backOfSH (s := s) (vm0 := T14.vm) (W := 0) (rm_opp_s l Z a0 hw [] r4 gs ts ks zc h14 n0 Z14 hEL Od14 O2 hz (F4.ext E14) (Es.ext E14) (Cs.ext E14) (Us.ext E14) (As.ext E14)) hZ (own_w hw 16 rfl) (own_w hw 2 rfl) (by decide) (by decide) hEL CH14.1) q15a q15c (g := (mkF m 90 #[.val (.int u1), .val (.int ((u1 &&& (2147483647 : Int32)) % (6 : Int32))), .val (.ref r4), .val (.ref sa14), .unset, .unset, .unset] [(.ref r4)])) rfl (by rw [hml]; rfl) (Steps.refl _) (argsL := []) (rest := []) (lenOf pd_706127 rfl) rfl (by show 2 * 0 + _ ≤ _; exact Nat.le_of_eq rfl) (hb hby at_90) (fun _ _ => ⟨rfl, e14, (by decide : 2 + 4 ≤ _), (by decide : 32 + 64 ≤ _)⟩)
            dsimp only [Pt.U, Pt.locs, Pt.cells, Pt.slots] at X15 l15 y15 z15 st15 hQ15 hSx15 hgr15 CH15
            subst l15 y15 z15
            obtain ⟨oa, ob, ok, rfl, Nq15, Kq15, Eo15, Fc15, Fv15, Vo15⟩ := hQ15
            have N15 := Fr.app N0 Nq15
            have Lt15_14 : Lit (s.setVm T15.vm) "com/example/guided_sim/guidedsim/model/RelationOppositePinLaw" 14 sa14 := Lit.stays (s := s) (vm0 := T14.vm) Lt14 hSx15.1
            obtain ⟨X15, hS15, hZ, hown⟩ := rebS (s := s) hS14 (by rw [e14]; exact (Nat.le_refl _)) X15 hSx15 hgr15 hZ hown
            have Z15 : n0 ≤ T15.heap.size := Nat.le_trans Z14 Kq15.1
            have Od15 : Old Z n0 T15.heap := Od14.keep Kq15 all0
            obtain ⟨cq16, kq16, q16a, q16b, q16c⟩ := isOf hZ rfl ((E4.ext E14).keep Kq15)
            obtain ⟨_, _, ⟨T16, L16, k16, n16⟩, -, X16, ⟨Lc16, hQ16, l16, y16, z16⟩, st16⟩ := X15.virtualBack hx (y := (⟨"com/example/guided_sim/guidedsim/model/Relation", "goal", "()Ljava/lang/String;"⟩ : MethodName)) (z := (⟨"com/example/guided_sim/guidedsim/model/Relation", "goal", "()Ljava/lang/String;"⟩ : MethodName)) hown (mvT hZ (own_w hw 35 rfl)) (mvT hZ (own_w hw 36 rfl)) (notFace_of_selects (args := #[]) (mvT hZ (own_w hw 38 rfl))) (mvT hZ (own_w hw 38 rfl)) (mvT hZ (own_w hw 37 rfl)) (by decide) (backOf (W := 0) (rm_goal l Z a0 hw [] r4 gs T15.heap n0 Z15 ((F4.ext E14).keep Kq15 nin0)) hZ (own_w hw 39 rfl) (own_w hw 2 rfl) (by decide) (by decide)) q16a q16c (g := (mkF m 96 #[.val (.int u1), .val (.int ((u1 &&& (2147483647 : Int32)) % (6 : Int32))), .val (.ref r4), .val (.ref sa14), .val (.ref oa), .unset, .unset] [(.ref r4)])) rfl (by rw [hml]; rfl) (Steps.refl _) (argsL := []) (rest := []) (lenOf pd_706127 rfl) rfl (by show 2 * 0 + _ ≤ _; exact Nat.le_of_eq rfl) (hb hby at_96) (fun _ _ => ⟨rfl, rfl, (by decide : 6 + 0 ≤ _), (by decide : 96 + 0 ≤ _)⟩)
            dsimp only [Pt.U, Pt.locs, Pt.cells, Pt.slots] at X16 l16 y16 z16 st16 hQ16
            subst l16 y16 z16
            obtain ⟨rfl, Nq16, eq16⟩ := hQ16
            have N16 := Fr.app N15 Nq16
            obtain ⟨sa17, T17, h17, kc17, sb17, kb17, X17, e17, E17, hSx17, kkx17, hZ, hown, Ea17, Fc17, Fv17, Vb17, -, -, CH17, Lt17, SF17, st17⟩ := ldcCH (s := s.setVm T15.vm) (vm0 := T15.vm) X16 hx hZ hown (own_w hw 40 rfl) wS eq16 (k0 := T15.heap.size) ((State.WarmedH.refl (s.setVm T15.vm)).since _) (Nat.le_refl _) hEL (by decide) CH15.1 (vs := [(.int (115 : Int32)), (.int (117 : Int32)), (.int (99 : Int32)), (.int (99 : Int32)), (.int (101 : Int32)), (.int (115 : Int32)), (.int (115 : Int32))]) (z := (7 : Int32)) (by decide) (by decide) (by decide) (g := (mkF m 103 #[.val (.int u1), .val (.int ((u1 &&& (2147483647 : Int32)) % (6 : Int32))), .val (.ref r4), .val (.ref sa14), .val (.ref oa), .val (.ref gs), .unset] [(.ref oa)])) rfl (hb hby at_103) (n := 28) (by decide) (by decide) (by decide) (by decide)
            have hS17 : s.Since T17.vm h17.size := State.Since.trans hS15 (own_smono hSx17 kkx17) (Nat.le_trans (Nat.le_refl _) E17.1)
            have Lt17_14 : Lit (s.setVm T17.vm) "com/example/guided_sim/guidedsim/model/RelationOppositePinLaw" 14 sa14 := Lit.stays (s := s) (vm0 := T15.vm) Lt15_14 hSx17.1
            have Z17 : n0 ≤ h17.size := Nat.le_trans Z15 E17.1
            have Od17 : Old Z n0 h17 := Od15.ext E17
            obtain ⟨cq18, kq18, q18a, q18b, q18c⟩ := isOf hZ e17 (Eo15.ext E17)
            obtain ⟨_, _, ⟨T18, L18, k18, n18⟩, -, X18, ⟨Lc18, hQ18, l18, y18, z18⟩, st18⟩ := X17.virtualBack hx (y := (⟨"java/lang/String", "equals", "(Ljava/lang/Object;)Z"⟩ : MethodName)) (z := (⟨"java/lang/String", "equals", "(Ljava/lang/Object;)Z"⟩ : MethodName)) hown (mvT hZ (own_w hw 41 rfl)) (mvT hZ (own_w hw 21 rfl)) (notFace_of_selects (args := #[]) (mvT hZ (own_w hw 23 rfl))) (mvT hZ (own_w hw 23 rfl)) (mvT hZ (own_w hw 22 rfl)) (by decide) (backOf (W := 0) (rm_eq_fs l Z a0 hw [] oa sa17 zc ob ok sb17 kb17 h17 n0 Z17 (O2.ext Od17.2) hz Ea17 (Fc15.ext E17) Fc17 (Fv15.ext E17) Fv17 (Vo15.ext E17) Vb17) hZ (own_w hw 24 rfl) (own_w hw 5 rfl) (by decide) (by decide)) q18a q18c (g := (mkF m 105 #[.val (.int u1), .val (.int ((u1 &&& (2147483647 : Int32)) % (6 : Int32))), .val (.ref r4), .val (.ref sa14), .val (.ref oa), .val (.ref gs), .unset] [(.ref sa17), (.ref oa)])) rfl (by rw [hml]; rfl) (Steps.refl _) (argsL := [(.ref sa17)]) (rest := []) (lenOf pd_782203 rfl) rfl (by show 2 * 0 + _ ≤ _; exact Nat.le_of_eq rfl) (hb hby at_105) (fun _ _ => ⟨rfl, e17, (by decide : 8 + 0 ≤ _), (by decide : 128 + 0 ≤ _)⟩)
            dsimp only [Pt.U, Pt.locs, Pt.cells, Pt.slots] at X18 l18 y18 z18 st18 hQ18
            subst l18 y18 z18
            obtain ⟨rfl, Nq18, eq18⟩ := hQ18
            have N18 := Fr.app N16 Nq18
            obtain ⟨cq19, kq19, q19a, q19b, q19c⟩ := isOf hZ eq18 (Eo15.ext E17)
            obtain ⟨_, _, ⟨T19, L19, k19, n19⟩, -, X19, ⟨Lc19, hQ19, l19, y19, z19⟩, st19⟩ := X18.virtualBack hx (y := (⟨"java/lang/String", "equals", "(Ljava/lang/Object;)Z"⟩ : MethodName)) (z := (⟨"java/lang/String", "equals", "(Ljava/lang/Object;)Z"⟩ : MethodName)) hown (mvT hZ (own_w hw 41 rfl)) (mvT hZ (own_w hw 21 rfl)) (notFace_of_selects (args := #[]) (mvT hZ (own_w hw 23 rfl))) (mvT hZ (own_w hw 23 rfl)) (mvT hZ (own_w hw 22 rfl)) (by decide) (backOf (W := 0) (rm_eq_ff l Z a0 hw [] oa sa14 zc ob ok sb14 kb14 h17 n0 Z17 (O2.ext Od17.2) hz ((Ea14.keep Kq15).ext E17) (Fc15.ext E17) ((Fc14.keep Kq15 nin0).ext E17) (Fv15.ext E17) ((Fv14.keep Kq15 nin0).ext E17) (Vo15.ext E17) ((Vb14.keep Kq15 nin0).ext E17)) hZ (own_w hw 24 rfl) (own_w hw 5 rfl) (by decide) (by decide)) q19a q19c (g := (mkF m 115 #[.val (.int u1), .val (.int ((u1 &&& (2147483647 : Int32)) % (6 : Int32))), .val (.ref r4), .val (.ref sa14), .val (.ref oa), .val (.ref gs), .unset] [(.ref sa14), (.ref oa)])) rfl (by rw [hml]; rfl) (Steps.refl _) (argsL := [(.ref sa14)]) (rest := []) (lenOf pd_782203 rfl) rfl (by show 2 * 0 + _ ≤ _; exact Nat.le_of_eq rfl) (hb hby at_115) (fun _ _ => ⟨rfl, eq18, (by decide : 8 + 0 ≤ _), (by decide : 128 + 0 ≤ _)⟩)
            dsimp only [Pt.U, Pt.locs, Pt.cells, Pt.slots] at X19 l19 y19 z19 st19 hQ19
            subst l19 y19 z19
            obtain ⟨rfl, Nq19, eq19⟩ := hQ19
            have N19 := Fr.app N18 Nq19
            obtain ⟨cq20, kq20, q20a, q20b, q20c⟩ := isOf hZ eq19 (Eo15.ext E17)
            obtain ⟨_, _, ⟨T20, L20, k20, n20⟩, -, X20, ⟨Lc20, hQ20, l20, y20, z20⟩, st20⟩ := X19.virtualBack hx (y := (⟨"java/lang/String", "equals", "(Ljava/lang/Object;)Z"⟩ : MethodName)) (z := (⟨"java/lang/String", "equals", "(Ljava/lang/Object;)Z"⟩ : MethodName)) hown (mvT hZ (own_w hw 41 rfl)) (mvT hZ (own_w hw 21 rfl)) (notFace_of_selects (args := #[]) (mvT hZ (own_w hw 23 rfl))) (mvT hZ (own_w hw 23 rfl)) (mvT hZ (own_w hw 22 rfl)) (by decide) (backOf (W := 0) (rm_eq_ff l Z a0 hw [] oa sa14 zc ob ok sb14 kb14 h17 n0 Z17 (O2.ext Od17.2) hz ((Ea14.keep Kq15).ext E17) (Fc15.ext E17) ((Fc14.keep Kq15 nin0).ext E17) (Fv15.ext E17) ((Fv14.keep Kq15 nin0).ext E17) (Vo15.ext E17) ((Vb14.keep Kq15 nin0).ext E17)) hZ (own_w hw 24 rfl) (own_w hw 5 rfl) (by decide) (by decide)) q20a q20c (g := (mkF m 136 #[.val (.int u1), .val (.int ((u1 &&& (2147483647 : Int32)) % (6 : Int32))), .val (.ref r4), .val (.ref sa14), .val (.ref oa), .val (.ref gs), .val (.int (1 : Int32))] [(.ref sa14), (.ref oa)])) rfl (by rw [hml]; rfl) (Steps.refl _) (argsL := [(.ref sa14)]) (rest := []) (lenOf pd_782203 rfl) rfl (by show 2 * 0 + _ ≤ _; exact Nat.le_of_eq rfl) (hb hby at_136) (fun _ _ => ⟨rfl, eq19, (by decide : 8 + 0 ≤ _), (by decide : 128 + 0 ≤ _)⟩)
            dsimp only [Pt.U, Pt.locs, Pt.cells, Pt.slots] at X20 l20 y20 z20 st20 hQ20
            subst l20 y20 z20
            obtain ⟨rfl, Nq20, eq20⟩ := hQ20
            have N20 := Fr.app N19 Nq20
            obtain ⟨cq21, kq21, q21a, q21b, q21c⟩ := isOf hZ eq20 (Eo15.ext E17)
            obtain ⟨_, _, ⟨T21, L21, k21, n21⟩, -, X21, ⟨Lc21, hQ21, l21, y21, z21⟩, st21⟩ := X20.virtualBack hx (y := (⟨"java/lang/String", "equals", "(Ljava/lang/Object;)Z"⟩ : MethodName)) (z := (⟨"java/lang/String", "equals", "(Ljava/lang/Object;)Z"⟩ : MethodName)) hown (mvT hZ (own_w hw 41 rfl)) (mvT hZ (own_w hw 21 rfl)) (notFace_of_selects (args := #[]) (mvT hZ (own_w hw 23 rfl))) (mvT hZ (own_w hw 23 rfl)) (mvT hZ (own_w hw 22 rfl)) (by decide) (backOf (W := 0) (rm_eq_fs l Z a0 hw [] oa gs zc ob ok ts ks h17 n0 Z17 (O2.ext Od17.2) hz (((Es.ext E14).keep Kq15).ext E17) (Fc15.ext E17) (((Cs.ext E14).keep Kq15 nin0).ext E17) (Fv15.ext E17) (((Us.ext E14).keep Kq15 nin0).ext E17) (Vo15.ext E17) (((As.ext E14).keep Kq15 nin0).ext E17)) hZ (own_w hw 24 rfl) (own_w hw 5 rfl) (by decide) (by decide)) q21a q21c (g := (mkF m 146 #[.val (.int u1), .val (.int ((u1 &&& (2147483647 : Int32)) % (6 : Int32))), .val (.ref r4), .val (.ref sa14), .val (.ref oa), .val (.ref gs), .val (.int (1 : Int32))] [(.ref gs), (.ref oa)])) rfl (by rw [hml]; rfl) (Steps.refl _) (argsL := [(.ref gs)]) (rest := []) (lenOf pd_782203 rfl) rfl (by show 2 * 0 + _ ≤ _; exact Nat.le_of_eq rfl) (hb hby at_146) (fun _ _ => ⟨rfl, eq20, (by decide : 8 + 0 ≤ _), (by decide : 128 + 0 ≤ _)⟩)
            dsimp only [Pt.U, Pt.locs, Pt.cells, Pt.slots] at X21 l21 y21 z21 st21 hQ21
            subst l21 y21 z21
            obtain ⟨rfl, Nq21, eq21⟩ := hQ21
            have N21 := Fr.app N20 Nq21
            obtain ⟨fs, hr, hrun, hended, hEnd⟩ := Stand.leaveW (s := s) (vm₁ := T17.vm) X21 hS17 (by rw [eq21]; exact (Nat.le_refl _)) (v := some (.int (1 : Int32))) (fun h => by rw [Bd.returns] at h; cases h)
            have hCH : CHr Z own_EL s.vm s.heap T21.vm T21.heap := by rw [hh, eq21]; exact ((((CHr.refl hC).trans CH14).trans CH15).trans CH17).trans (CHv.at (s := s) (vm0 := T17.vm) X21 hZ hEL CH17.1)
            refine ⟨_, _, pre5 _ ?_, hrun, hended, _, _, rfl, ?_, hCH, hEnd.1, hEnd.2.1, hEnd.2.2.1, hEnd.2.2.2.mono (by decide) (by decide)⟩
            · show Steps p.tables e below (s₁.setTop (mkF m 69 #[.val (.int u1), .val (.int ((u1 &&& (2147483647 : Int32)) % (6 : Int32))), .unset, .unset, .unset, .unset, .unset] [(.int (4 : Int32)), (.int ((u1 &&& (2147483647 : Int32)) % (6 : Int32)))])) _
              refine XS.icmpNo X0.here hx rfl (hb hby at_69) rfl hb69 ?_
              show Steps p.tables e below (s₁.setTop (mkF m 72 #[.val (.int u1), .val (.int ((u1 &&& (2147483647 : Int32)) % (6 : Int32))), .unset, .unset, .unset, .unset, .unset] [])) _
              refine st13 _ ?_
              show Steps p.tables e below (T13.setTop (mkF m 75 #[.val (.int u1), .val (.int ((u1 &&& (2147483647 : Int32)) % (6 : Int32))), .unset, .unset, .unset, .unset, .unset] [(.ref r4)])) _
              refine XS.astoreN X13.here hx rfl (hb hby at_75) rfl rfl (l' := #[.val (.int u1), .val (.int ((u1 &&& (2147483647 : Int32)) % (6 : Int32))), .val (.ref r4), .unset, .unset, .unset, .unset]) rfl ?_
              show Steps p.tables e below (T13.setTop (mkF m 76 #[.val (.int u1), .val (.int ((u1 &&& (2147483647 : Int32)) % (6 : Int32))), .val (.ref r4), .unset, .unset, .unset, .unset] [])) _
              refine st14 _ ?_
              show Steps p.tables e below (T14.setTop (mkF m 78 #[.val (.int u1), .val (.int ((u1 &&& (2147483647 : Int32)) % (6 : Int32))), .val (.ref r4), .unset, .unset, .unset, .unset] [(.ref sa14)])) _
              refine XS.astoreN X14.here hx rfl (hb hby at_78) rfl rfl (l' := #[.val (.int u1), .val (.int ((u1 &&& (2147483647 : Int32)) % (6 : Int32))), .val (.ref r4), .val (.ref sa14), .unset, .unset, .unset]) rfl ?_
              show Steps p.tables e below (T14.setTop (mkF m 79 #[.val (.int u1), .val (.int ((u1 &&& (2147483647 : Int32)) % (6 : Int32))), .val (.ref r4), .val (.ref sa14), .unset, .unset, .unset] [])) _
              refine XS.goto X14.here hx rfl (pc0 := 79) (pc' := 89) rfl (hb hby at_79) (by decide) (by decide) ?_
              show Steps p.tables e below (T14.setTop (mkF m 89 #[.val (.int u1), .val (.int ((u1 &&& (2147483647 : Int32)) % (6 : Int32))), .val (.ref r4), .val (.ref sa14), .unset, .unset, .unset] [])) _
              refine XS.aloadN X14.here hx rfl (hb hby at_89) rfl rfl ?_
              show Steps p.tables e below (T14.setTop (mkF m 90 #[.val (.int u1), .val (.int ((u1 &&& (2147483647 : Int32)) % (6 : Int32))), .val (.ref r4), .val (.ref sa14), .unset, .unset, .unset] [(.ref r4)])) _
              refine st15.trans ?_
              show Steps p.tables e below (T15.setTop (mkF m 93 #[.val (.int u1), .val (.int ((u1 &&& (2147483647 : Int32)) % (6 : Int32))), .val (.ref r4), .val (.ref sa14), .unset, .unset, .unset] [(.ref oa)])) _
              refine XS.astore X15.here hx rfl (hb hby at_93) rfl rfl (l' := #[.val (.int u1), .val (.int ((u1 &&& (2147483647 : Int32)) % (6 : Int32))), .val (.ref r4), .val (.ref sa14), .val (.ref oa), .unset, .unset]) rfl ?_
              show Steps p.tables e below (T15.setTop (mkF m 95 #[.val (.int u1), .val (.int ((u1 &&& (2147483647 : Int32)) % (6 : Int32))), .val (.ref r4), .val (.ref sa14), .val (.ref oa), .unset, .unset] [])) _
              refine XS.aloadN X15.here hx rfl (hb hby at_95) rfl rfl ?_
              show Steps p.tables e below (T15.setTop (mkF m 96 #[.val (.int u1), .val (.int ((u1 &&& (2147483647 : Int32)) % (6 : Int32))), .val (.ref r4), .val (.ref sa14), .val (.ref oa), .unset, .unset] [(.ref r4)])) _
              refine st16.trans ?_
              show Steps p.tables e below (T16.setTop (mkF m 99 #[.val (.int u1), .val (.int ((u1 &&& (2147483647 : Int32)) % (6 : Int32))), .val (.ref r4), .val (.ref sa14), .val (.ref oa), .unset, .unset] [(.ref gs)])) _
              refine XS.astore X16.here hx rfl (hb hby at_99) rfl rfl (l' := #[.val (.int u1), .val (.int ((u1 &&& (2147483647 : Int32)) % (6 : Int32))), .val (.ref r4), .val (.ref sa14), .val (.ref oa), .val (.ref gs), .unset]) rfl ?_
              show Steps p.tables e below (T16.setTop (mkF m 101 #[.val (.int u1), .val (.int ((u1 &&& (2147483647 : Int32)) % (6 : Int32))), .val (.ref r4), .val (.ref sa14), .val (.ref oa), .val (.ref gs), .unset] [])) _
              refine XS.aload X16.here hx rfl (hb hby at_101) rfl rfl ?_
              show Steps p.tables e below (T16.setTop (mkF m 103 #[.val (.int u1), .val (.int ((u1 &&& (2147483647 : Int32)) % (6 : Int32))), .val (.ref r4), .val (.ref sa14), .val (.ref oa), .val (.ref gs), .unset] [(.ref oa)])) _
              refine st17 _ ?_
              show Steps p.tables e below (T17.setTop (mkF m 105 #[.val (.int u1), .val (.int ((u1 &&& (2147483647 : Int32)) % (6 : Int32))), .val (.ref r4), .val (.ref sa14), .val (.ref oa), .val (.ref gs), .unset] [(.ref sa17), (.ref oa)])) _
              refine st18.trans ?_
              show Steps p.tables e below (T18.setTop (mkF m 108 #[.val (.int u1), .val (.int ((u1 &&& (2147483647 : Int32)) % (6 : Int32))), .val (.ref r4), .val (.ref sa14), .val (.ref oa), .val (.ref gs), .unset] [(.int (0 : Int32))])) _
              refine XS.ifNo X18.here hx rfl (hb hby at_108) rfl (by decide) ?_
              show Steps p.tables e below (T18.setTop (mkF m 111 #[.val (.int u1), .val (.int ((u1 &&& (2147483647 : Int32)) % (6 : Int32))), .val (.ref r4), .val (.ref sa14), .val (.ref oa), .val (.ref gs), .unset] [])) _
              refine XS.aload X18.here hx rfl (hb hby at_111) rfl rfl ?_
              show Steps p.tables e below (T18.setTop (mkF m 113 #[.val (.int u1), .val (.int ((u1 &&& (2147483647 : Int32)) % (6 : Int32))), .val (.ref r4), .val (.ref sa14), .val (.ref oa), .val (.ref gs), .unset] [(.ref oa)])) _
              refine ldcAgain (s := s) (vm0 := T17.vm) X18 hx hZ hown (own_w hw 4 rfl) Lt17_14 (g := (mkF m 113 #[.val (.int u1), .val (.int ((u1 &&& (2147483647 : Int32)) % (6 : Int32))), .val (.ref r4), .val (.ref sa14), .val (.ref oa), .val (.ref gs), .unset] [(.ref oa)])) rfl (hb hby at_113) _ ?_
              show Steps p.tables e below (T18.setTop (mkF m 115 #[.val (.int u1), .val (.int ((u1 &&& (2147483647 : Int32)) % (6 : Int32))), .val (.ref r4), .val (.ref sa14), .val (.ref oa), .val (.ref gs), .unset] [(.ref sa14), (.ref oa)])) _
              refine st19.trans ?_
              show Steps p.tables e below (T19.setTop (mkF m 118 #[.val (.int u1), .val (.int ((u1 &&& (2147483647 : Int32)) % (6 : Int32))), .val (.ref r4), .val (.ref sa14), .val (.ref oa), .val (.ref gs), .unset] [(.int (1 : Int32))])) _
              refine XS.ifNo X19.here hx rfl (hb hby at_118) rfl (by decide) ?_
              show Steps p.tables e below (T19.setTop (mkF m 121 #[.val (.int u1), .val (.int ((u1 &&& (2147483647 : Int32)) % (6 : Int32))), .val (.ref r4), .val (.ref sa14), .val (.ref oa), .val (.ref gs), .unset] [])) _
              refine XS.iconst X19.here hx rfl (hb hby at_121) ?_
              show Steps p.tables e below (T19.setTop (mkF m 122 #[.val (.int u1), .val (.int ((u1 &&& (2147483647 : Int32)) % (6 : Int32))), .val (.ref r4), .val (.ref sa14), .val (.ref oa), .val (.ref gs), .unset] [(.int (1 : Int32))])) _
              refine XS.goto X19.here hx rfl (pc0 := 122) (pc' := 126) rfl (hb hby at_122) (by decide) (by decide) ?_
              show Steps p.tables e below (T19.setTop (mkF m 126 #[.val (.int u1), .val (.int ((u1 &&& (2147483647 : Int32)) % (6 : Int32))), .val (.ref r4), .val (.ref sa14), .val (.ref oa), .val (.ref gs), .unset] [(.int (1 : Int32))])) _
              refine XS.istore X19.here hx rfl (hb hby at_126) rfl (l' := #[.val (.int u1), .val (.int ((u1 &&& (2147483647 : Int32)) % (6 : Int32))), .val (.ref r4), .val (.ref sa14), .val (.ref oa), .val (.ref gs), .val (.int (1 : Int32))]) rfl ?_
              show Steps p.tables e below (T19.setTop (mkF m 128 #[.val (.int u1), .val (.int ((u1 &&& (2147483647 : Int32)) % (6 : Int32))), .val (.ref r4), .val (.ref sa14), .val (.ref oa), .val (.ref gs), .val (.int (1 : Int32))] [])) _
              refine XS.iload X19.here hx rfl (hb hby at_128) rfl ?_
              show Steps p.tables e below (T19.setTop (mkF m 130 #[.val (.int u1), .val (.int ((u1 &&& (2147483647 : Int32)) % (6 : Int32))), .val (.ref r4), .val (.ref sa14), .val (.ref oa), .val (.ref gs), .val (.int (1 : Int32))] [(.int (1 : Int32))])) _
              refine XS.ifNo X19.here hx rfl (hb hby at_130) rfl (by decide) ?_
              show Steps p.tables e below (T19.setTop (mkF m 133 #[.val (.int u1), .val (.int ((u1 &&& (2147483647 : Int32)) % (6 : Int32))), .val (.ref r4), .val (.ref sa14), .val (.ref oa), .val (.ref gs), .val (.int (1 : Int32))] [])) _
              refine XS.aload X19.here hx rfl (hb hby at_133) rfl rfl ?_
              show Steps p.tables e below (T19.setTop (mkF m 135 #[.val (.int u1), .val (.int ((u1 &&& (2147483647 : Int32)) % (6 : Int32))), .val (.ref r4), .val (.ref sa14), .val (.ref oa), .val (.ref gs), .val (.int (1 : Int32))] [(.ref oa)])) _
              refine XS.aloadN X19.here hx rfl (hb hby at_135) rfl rfl ?_
              show Steps p.tables e below (T19.setTop (mkF m 136 #[.val (.int u1), .val (.int ((u1 &&& (2147483647 : Int32)) % (6 : Int32))), .val (.ref r4), .val (.ref sa14), .val (.ref oa), .val (.ref gs), .val (.int (1 : Int32))] [(.ref sa14), (.ref oa)])) _
              refine st20.trans ?_
              show Steps p.tables e below (T20.setTop (mkF m 139 #[.val (.int u1), .val (.int ((u1 &&& (2147483647 : Int32)) % (6 : Int32))), .val (.ref r4), .val (.ref sa14), .val (.ref oa), .val (.ref gs), .val (.int (1 : Int32))] [(.int (1 : Int32))])) _
              refine XS.ifNo X20.here hx rfl (hb hby at_139) rfl (by decide) ?_
              show Steps p.tables e below (T20.setTop (mkF m 142 #[.val (.int u1), .val (.int ((u1 &&& (2147483647 : Int32)) % (6 : Int32))), .val (.ref r4), .val (.ref sa14), .val (.ref oa), .val (.ref gs), .val (.int (1 : Int32))] [])) _
              refine XS.aload X20.here hx rfl (hb hby at_142) rfl rfl ?_
              show Steps p.tables e below (T20.setTop (mkF m 144 #[.val (.int u1), .val (.int ((u1 &&& (2147483647 : Int32)) % (6 : Int32))), .val (.ref r4), .val (.ref sa14), .val (.ref oa), .val (.ref gs), .val (.int (1 : Int32))] [(.ref oa)])) _
              refine XS.aload X20.here hx rfl (hb hby at_144) rfl rfl ?_
              show Steps p.tables e below (T20.setTop (mkF m 146 #[.val (.int u1), .val (.int ((u1 &&& (2147483647 : Int32)) % (6 : Int32))), .val (.ref r4), .val (.ref sa14), .val (.ref oa), .val (.ref gs), .val (.int (1 : Int32))] [(.ref gs), (.ref oa)])) _
              refine st21.trans ?_
              show Steps p.tables e below (T21.setTop (mkF m 149 #[.val (.int u1), .val (.int ((u1 &&& (2147483647 : Int32)) % (6 : Int32))), .val (.ref r4), .val (.ref sa14), .val (.ref oa), .val (.ref gs), .val (.int (1 : Int32))] [(.int (0 : Int32))])) _
              refine XS.ifNo X21.here hx rfl (hb hby at_149) rfl (by decide) ?_
              show Steps p.tables e below (T21.setTop (mkF m 152 #[.val (.int u1), .val (.int ((u1 &&& (2147483647 : Int32)) % (6 : Int32))), .val (.ref r4), .val (.ref sa14), .val (.ref oa), .val (.ref gs), .val (.int (1 : Int32))] [])) _
              refine XS.iconst X21.here hx rfl (hb hby at_152) ?_
              show Steps p.tables e below (T21.setTop (mkF m 153 #[.val (.int u1), .val (.int ((u1 &&& (2147483647 : Int32)) % (6 : Int32))), .val (.ref r4), .val (.ref sa14), .val (.ref oa), .val (.ref gs), .val (.int (1 : Int32))] [(.int (1 : Int32))])) _
              refine XS.goto X21.here hx rfl (pc0 := 153) (pc' := 157) rfl (hb hby at_153) (by decide) (by decide) ?_
              show Steps p.tables e below (T21.setTop (mkF m 157 #[.val (.int u1), .val (.int ((u1 &&& (2147483647 : Int32)) % (6 : Int32))), .val (.ref r4), .val (.ref sa14), .val (.ref oa), .val (.ref gs), .val (.int (1 : Int32))] [(.int (1 : Int32))])) _
              exact retN X21 hx (t := .boolean) Bd.returns (by simp) (hb hby at_157) hr
            · show Q_rm_law Z _ _ _ _ _ _ _ _ _ _ _ _ _ _ h0 n0 _ T21.heap _
              rw [eq21]
              exact ⟨rfl, N21⟩
        · obtain ⟨T22, X22, e22, st22⟩ := getS2 X0 hx hZ hown (host := "") (Or.inl (own_w hw 42 rfl)) Via.refl e0 (S3.ext X00.2) (g := (mkF m 57 #[.val (.int u1), .val (.int ((u1 &&& (2147483647 : Int32)) % (6 : Int32))), .unset, .unset, .unset, .unset, .unset] [])) rfl (hb hby at_57)
          obtain ⟨sa23, T23, h23, kc23, sb23, kb23, X23, e23, E23, hSx23, kkx23, hZ, hown, Ea23, Fc23, Fv23, Vb23, -, -, CH23, Lt23, SF23, st23⟩ := ldcCH (s := s.setVm s.vm) (vm0 := s.vm) X22 hx hZ hown (own_w hw 40 rfl) wS e22 (k0 := h0.size) ((State.WarmedH.refl (s.setVm s.vm)).since _) (Nat.le_refl _) hEL (by decide) hC (vs := [(.int (115 : Int32)), (.int (117 : Int32)), (.int (99 : Int32)), (.int (99 : Int32)), (.int (101 : Int32)), (.int (115 : Int32)), (.int (115 : Int32))]) (z := (7 : Int32)) (by decide) (by decide) (by decide) (g := (mkF m 61 #[.val (.int u1), .val (.int ((u1 &&& (2147483647 : Int32)) % (6 : Int32))), .val (.ref r3), .unset, .unset, .unset, .unset] [])) rfl (hb hby at_61) (n := 28) (by decide) (by decide) (by decide) (by decide)
          have hS23 : s.Since T23.vm h23.size := State.Since.trans hS0 (own_smono hSx23 kkx23) (Nat.le_trans (Nat.le_refl _) E23.1)
          have Z23 : n0 ≤ h23.size := Nat.le_trans Z0 E23.1
          have Od23 : Old Z n0 h23 := X00.ext E23
          obtain ⟨cq24, kq24, q24a, q24b, q24c⟩ := isOf (s := s.setVm T23.vm) hZ e23 (E3.ext E23)
          obtain ⟨_, _, ⟨T24, L24, k24, n24⟩, -, X24, hSx24, hgr24, ⟨Lc24, hQ24, l24, y24, z24, CH24⟩, st24⟩ := Stand.virtualBackS (s := s.setVm T23.vm) X23 hx (y := (⟨"com/example/guided_sim/guidedsim/model/Relation", "opposite", "()Ljava/lang/String;"⟩ : MethodName)) (z := (⟨"com/example/guided_sim/guidedsim/model/Relation", "opposite", "()Ljava/lang/String;"⟩ : MethodName)) hown (mvT hZ (own_w hw 12 rfl)) (mvT hZ (own_w hw 13 rfl)) (notFace_of_selects (args := #[]) (mvT hZ (own_w hw 15 rfl))) (mvT hZ (own_w hw 15 rfl)) (mvT hZ (own_w hw 14 rfl)) (by decide) (backOfSH (s := s) (vm0 := T23.vm) (W := 0) (rm_opp_f l Z a0 hw [] r3 gf tf kf zc h23 n0 Z23 hEL Od23 O2 hz (F3.ext E23) (Ef.ext E23) (Cf.ext E23) (Uf.ext E23) (Af.ext E23)) hZ (own_w hw 16 rfl) (own_w hw 2 rfl) (by decide) (by decide) hEL CH23.1) q24a q24c (g := (mkF m 90 #[.val (.int u1), .val (.int ((u1 &&& (2147483647 : Int32)) % (6 : Int32))), .val (.ref r3), .val (.ref sa23), .unset, .unset, .unset] [(.ref r3)])) rfl (by rw [hml]; rfl) (Steps.refl _) (argsL := []) (rest := []) (lenOf pd_706127 rfl) rfl (by show 2 * 0 + _ ≤ _; exact Nat.le_of_eq rfl) (hb hby at_90) (fun _ _ => ⟨rfl, e23, (by decide : 2 + 2 ≤ _), (by decide : 32 + 32 ≤ _)⟩)
          dsimp only [Pt.U, Pt.locs, Pt.cells, Pt.slots] at X24 l24 y24 z24 st24 hQ24 hSx24 hgr24 CH24
          subst l24 y24 z24
          obtain ⟨oa, ob, ok, rfl, Nq24, Kq24, Eo24, Fc24, Fv24, Vo24⟩ := hQ24
          have N24 := Fr.app N0 Nq24
          have Lt24_22 : Lit (s.setVm T24.vm) "com/example/guided_sim/guidedsim/model/RelationOppositePinLaw" 22 sa23 := Lit.stays (s := s) (vm0 := T23.vm) Lt23 hSx24.1
          obtain ⟨X24, hS24, hZ, hown⟩ := rebS (s := s) hS23 (by rw [e23]; exact (Nat.le_refl _)) X24 hSx24 hgr24 hZ hown
          have Z24 : n0 ≤ T24.heap.size := Nat.le_trans Z23 Kq24.1
          have Od24 : Old Z n0 T24.heap := Od23.keep Kq24 all0
          obtain ⟨cq25, kq25, q25a, q25b, q25c⟩ := isOf hZ rfl ((E3.ext E23).keep Kq24)
          obtain ⟨_, _, ⟨T25, L25, k25, n25⟩, -, X25, ⟨Lc25, hQ25, l25, y25, z25⟩, st25⟩ := X24.virtualBack hx (y := (⟨"com/example/guided_sim/guidedsim/model/Relation", "goal", "()Ljava/lang/String;"⟩ : MethodName)) (z := (⟨"com/example/guided_sim/guidedsim/model/Relation", "goal", "()Ljava/lang/String;"⟩ : MethodName)) hown (mvT hZ (own_w hw 35 rfl)) (mvT hZ (own_w hw 36 rfl)) (notFace_of_selects (args := #[]) (mvT hZ (own_w hw 38 rfl))) (mvT hZ (own_w hw 38 rfl)) (mvT hZ (own_w hw 37 rfl)) (by decide) (backOf (W := 0) (rm_goal l Z a0 hw [] r3 gf T24.heap n0 Z24 ((F3.ext E23).keep Kq24 nin0)) hZ (own_w hw 39 rfl) (own_w hw 2 rfl) (by decide) (by decide)) q25a q25c (g := (mkF m 96 #[.val (.int u1), .val (.int ((u1 &&& (2147483647 : Int32)) % (6 : Int32))), .val (.ref r3), .val (.ref sa23), .val (.ref oa), .unset, .unset] [(.ref r3)])) rfl (by rw [hml]; rfl) (Steps.refl _) (argsL := []) (rest := []) (lenOf pd_706127 rfl) rfl (by show 2 * 0 + _ ≤ _; exact Nat.le_of_eq rfl) (hb hby at_96) (fun _ _ => ⟨rfl, rfl, (by decide : 4 + 0 ≤ _), (by decide : 64 + 0 ≤ _)⟩)
          dsimp only [Pt.U, Pt.locs, Pt.cells, Pt.slots] at X25 l25 y25 z25 st25 hQ25
          subst l25 y25 z25
          obtain ⟨rfl, Nq25, eq25⟩ := hQ25
          have N25 := Fr.app N24 Nq25
          obtain ⟨cq26, kq26, q26a, q26b, q26c⟩ := isOf hZ eq25 Eo24
          obtain ⟨_, _, ⟨T26, L26, k26, n26⟩, -, X26, ⟨Lc26, hQ26, l26, y26, z26⟩, st26⟩ := X25.virtualBack hx (y := (⟨"java/lang/String", "equals", "(Ljava/lang/Object;)Z"⟩ : MethodName)) (z := (⟨"java/lang/String", "equals", "(Ljava/lang/Object;)Z"⟩ : MethodName)) hown (mvT hZ (own_w hw 41 rfl)) (mvT hZ (own_w hw 21 rfl)) (notFace_of_selects (args := #[]) (mvT hZ (own_w hw 23 rfl))) (mvT hZ (own_w hw 23 rfl)) (mvT hZ (own_w hw 22 rfl)) (by decide) (backOf (W := 0) (rm_eq_ss l Z a0 hw [] oa sa23 zc ob ok sb23 kb23 T24.heap n0 Z24 (O2.ext Od24.2) hz (Ea23.keep Kq24) Fc24 (Fc23.keep Kq24 nin0) Fv24 (Fv23.keep Kq24 nin0) Vo24 (Vb23.keep Kq24 nin0)) hZ (own_w hw 24 rfl) (own_w hw 5 rfl) (by decide) (by decide)) q26a q26c (g := (mkF m 105 #[.val (.int u1), .val (.int ((u1 &&& (2147483647 : Int32)) % (6 : Int32))), .val (.ref r3), .val (.ref sa23), .val (.ref oa), .val (.ref gf), .unset] [(.ref sa23), (.ref oa)])) rfl (by rw [hml]; rfl) (Steps.refl _) (argsL := [(.ref sa23)]) (rest := []) (lenOf pd_782203 rfl) rfl (by show 2 * 0 + _ ≤ _; exact Nat.le_of_eq rfl) (hb hby at_105) (fun _ _ => ⟨rfl, eq25, (by decide : 4 + 0 ≤ _), (by decide : 64 + 0 ≤ _)⟩)
          dsimp only [Pt.U, Pt.locs, Pt.cells, Pt.slots] at X26 l26 y26 z26 st26 hQ26
          subst l26 y26 z26
          obtain ⟨rfl, Nq26, eq26⟩ := hQ26
          have N26 := Fr.app N25 Nq26
          obtain ⟨cq27, kq27, q27a, q27b, q27c⟩ := isOf hZ eq26 Eo24
          obtain ⟨_, _, ⟨T27, L27, k27, n27⟩, -, X27, ⟨Lc27, hQ27, l27, y27, z27⟩, st27⟩ := X26.virtualBack hx (y := (⟨"java/lang/String", "equals", "(Ljava/lang/Object;)Z"⟩ : MethodName)) (z := (⟨"java/lang/String", "equals", "(Ljava/lang/Object;)Z"⟩ : MethodName)) hown (mvT hZ (own_w hw 41 rfl)) (mvT hZ (own_w hw 21 rfl)) (notFace_of_selects (args := #[]) (mvT hZ (own_w hw 23 rfl))) (mvT hZ (own_w hw 23 rfl)) (mvT hZ (own_w hw 22 rfl)) (by decide) (backOf (W := 0) (rm_eq_ss l Z a0 hw [] oa sa23 zc ob ok sb23 kb23 T24.heap n0 Z24 (O2.ext Od24.2) hz (Ea23.keep Kq24) Fc24 (Fc23.keep Kq24 nin0) Fv24 (Fv23.keep Kq24 nin0) Vo24 (Vb23.keep Kq24 nin0)) hZ (own_w hw 24 rfl) (own_w hw 5 rfl) (by decide) (by decide)) q27a q27c (g := (mkF m 136 #[.val (.int u1), .val (.int ((u1 &&& (2147483647 : Int32)) % (6 : Int32))), .val (.ref r3), .val (.ref sa23), .val (.ref oa), .val (.ref gf), .val (.int (1 : Int32))] [(.ref sa23), (.ref oa)])) rfl (by rw [hml]; rfl) (Steps.refl _) (argsL := [(.ref sa23)]) (rest := []) (lenOf pd_782203 rfl) rfl (by show 2 * 0 + _ ≤ _; exact Nat.le_of_eq rfl) (hb hby at_136) (fun _ _ => ⟨rfl, eq26, (by decide : 4 + 0 ≤ _), (by decide : 64 + 0 ≤ _)⟩)
          dsimp only [Pt.U, Pt.locs, Pt.cells, Pt.slots] at X27 l27 y27 z27 st27 hQ27
          subst l27 y27 z27
          obtain ⟨rfl, Nq27, eq27⟩ := hQ27
          have N27 := Fr.app N26 Nq27
          obtain ⟨cq28, kq28, q28a, q28b, q28c⟩ := isOf hZ eq27 Eo24
          obtain ⟨_, _, ⟨T28, L28, k28, n28⟩, -, X28, ⟨Lc28, hQ28, l28, y28, z28⟩, st28⟩ := X27.virtualBack hx (y := (⟨"java/lang/String", "equals", "(Ljava/lang/Object;)Z"⟩ : MethodName)) (z := (⟨"java/lang/String", "equals", "(Ljava/lang/Object;)Z"⟩ : MethodName)) hown (mvT hZ (own_w hw 41 rfl)) (mvT hZ (own_w hw 21 rfl)) (notFace_of_selects (args := #[]) (mvT hZ (own_w hw 23 rfl))) (mvT hZ (own_w hw 23 rfl)) (mvT hZ (own_w hw 22 rfl)) (by decide) (backOf (W := 0) (rm_eq_sf l Z a0 hw [] oa gf zc ob ok tf kf T24.heap n0 Z24 (O2.ext Od24.2) hz ((Ef.ext E23).keep Kq24) Fc24 ((Cf.ext E23).keep Kq24 nin0) Fv24 ((Uf.ext E23).keep Kq24 nin0) Vo24 ((Af.ext E23).keep Kq24 nin0)) hZ (own_w hw 24 rfl) (own_w hw 5 rfl) (by decide) (by decide)) q28a q28c (g := (mkF m 146 #[.val (.int u1), .val (.int ((u1 &&& (2147483647 : Int32)) % (6 : Int32))), .val (.ref r3), .val (.ref sa23), .val (.ref oa), .val (.ref gf), .val (.int (1 : Int32))] [(.ref gf), (.ref oa)])) rfl (by rw [hml]; rfl) (Steps.refl _) (argsL := [(.ref gf)]) (rest := []) (lenOf pd_782203 rfl) rfl (by show 2 * 0 + _ ≤ _; exact Nat.le_of_eq rfl) (hb hby at_146) (fun _ _ => ⟨rfl, eq27, (by decide : 4 + 0 ≤ _), (by decide : 64 + 0 ≤ _)⟩)
          dsimp only [Pt.U, Pt.locs, Pt.cells, Pt.slots] at X28 l28 y28 z28 st28 hQ28
          subst l28 y28 z28
          obtain ⟨rfl, Nq28, eq28⟩ := hQ28
          have N28 := Fr.app N27 Nq28
          obtain ⟨fs, hr, hrun, hended, hEnd⟩ := Stand.leaveW (s := s) (vm₁ := T24.vm) X28 hS24 (by rw [eq28]; exact (Nat.le_refl _)) (v := some (.int (1 : Int32))) (fun h => by rw [Bd.returns] at h; cases h)
          have hCH : CHr Z own_EL s.vm s.heap T28.vm T28.heap := by rw [hh, eq28]; exact (((CHr.refl hC).trans CH23).trans CH24).trans (CHv.at (s := s) (vm0 := T24.vm) X28 hZ hEL CH24.1)
          refine ⟨_, _, pre4 _ ?_, hrun, hended, _, _, rfl, ?_, hCH, hEnd.1, hEnd.2.1, hEnd.2.2.1, hEnd.2.2.2.mono (by decide) (by decide)⟩
          · show Steps p.tables e below (s₁.setTop (mkF m 54 #[.val (.int u1), .val (.int ((u1 &&& (2147483647 : Int32)) % (6 : Int32))), .unset, .unset, .unset, .unset, .unset] [(.int (3 : Int32)), (.int ((u1 &&& (2147483647 : Int32)) % (6 : Int32)))])) _
            refine XS.icmpNo X0.here hx rfl (hb hby at_54) rfl hb54 ?_
            show Steps p.tables e below (s₁.setTop (mkF m 57 #[.val (.int u1), .val (.int ((u1 &&& (2147483647 : Int32)) % (6 : Int32))), .unset, .unset, .unset, .unset, .unset] [])) _
            refine st22 _ ?_
            show Steps p.tables e below (T22.setTop (mkF m 60 #[.val (.int u1), .val (.int ((u1 &&& (2147483647 : Int32)) % (6 : Int32))), .unset, .unset, .unset, .unset, .unset] [(.ref r3)])) _
            refine XS.astoreN X22.here hx rfl (hb hby at_60) rfl rfl (l' := #[.val (.int u1), .val (.int ((u1 &&& (2147483647 : Int32)) % (6 : Int32))), .val (.ref r3), .unset, .unset, .unset, .unset]) rfl ?_
            show Steps p.tables e below (T22.setTop (mkF m 61 #[.val (.int u1), .val (.int ((u1 &&& (2147483647 : Int32)) % (6 : Int32))), .val (.ref r3), .unset, .unset, .unset, .unset] [])) _
            refine st23 _ ?_
            show Steps p.tables e below (T23.setTop (mkF m 63 #[.val (.int u1), .val (.int ((u1 &&& (2147483647 : Int32)) % (6 : Int32))), .val (.ref r3), .unset, .unset, .unset, .unset] [(.ref sa23)])) _
            refine XS.astoreN X23.here hx rfl (hb hby at_63) rfl rfl (l' := #[.val (.int u1), .val (.int ((u1 &&& (2147483647 : Int32)) % (6 : Int32))), .val (.ref r3), .val (.ref sa23), .unset, .unset, .unset]) rfl ?_
            show Steps p.tables e below (T23.setTop (mkF m 64 #[.val (.int u1), .val (.int ((u1 &&& (2147483647 : Int32)) % (6 : Int32))), .val (.ref r3), .val (.ref sa23), .unset, .unset, .unset] [])) _
            refine XS.goto X23.here hx rfl (pc0 := 64) (pc' := 89) rfl (hb hby at_64) (by decide) (by decide) ?_
            show Steps p.tables e below (T23.setTop (mkF m 89 #[.val (.int u1), .val (.int ((u1 &&& (2147483647 : Int32)) % (6 : Int32))), .val (.ref r3), .val (.ref sa23), .unset, .unset, .unset] [])) _
            refine XS.aloadN X23.here hx rfl (hb hby at_89) rfl rfl ?_
            show Steps p.tables e below (T23.setTop (mkF m 90 #[.val (.int u1), .val (.int ((u1 &&& (2147483647 : Int32)) % (6 : Int32))), .val (.ref r3), .val (.ref sa23), .unset, .unset, .unset] [(.ref r3)])) _
            refine st24.trans ?_
            show Steps p.tables e below (T24.setTop (mkF m 93 #[.val (.int u1), .val (.int ((u1 &&& (2147483647 : Int32)) % (6 : Int32))), .val (.ref r3), .val (.ref sa23), .unset, .unset, .unset] [(.ref oa)])) _
            refine XS.astore X24.here hx rfl (hb hby at_93) rfl rfl (l' := #[.val (.int u1), .val (.int ((u1 &&& (2147483647 : Int32)) % (6 : Int32))), .val (.ref r3), .val (.ref sa23), .val (.ref oa), .unset, .unset]) rfl ?_
            show Steps p.tables e below (T24.setTop (mkF m 95 #[.val (.int u1), .val (.int ((u1 &&& (2147483647 : Int32)) % (6 : Int32))), .val (.ref r3), .val (.ref sa23), .val (.ref oa), .unset, .unset] [])) _
            refine XS.aloadN X24.here hx rfl (hb hby at_95) rfl rfl ?_
            show Steps p.tables e below (T24.setTop (mkF m 96 #[.val (.int u1), .val (.int ((u1 &&& (2147483647 : Int32)) % (6 : Int32))), .val (.ref r3), .val (.ref sa23), .val (.ref oa), .unset, .unset] [(.ref r3)])) _
            refine st25.trans ?_
            show Steps p.tables e below (T25.setTop (mkF m 99 #[.val (.int u1), .val (.int ((u1 &&& (2147483647 : Int32)) % (6 : Int32))), .val (.ref r3), .val (.ref sa23), .val (.ref oa), .unset, .unset] [(.ref gf)])) _
            refine XS.astore X25.here hx rfl (hb hby at_99) rfl rfl (l' := #[.val (.int u1), .val (.int ((u1 &&& (2147483647 : Int32)) % (6 : Int32))), .val (.ref r3), .val (.ref sa23), .val (.ref oa), .val (.ref gf), .unset]) rfl ?_
            show Steps p.tables e below (T25.setTop (mkF m 101 #[.val (.int u1), .val (.int ((u1 &&& (2147483647 : Int32)) % (6 : Int32))), .val (.ref r3), .val (.ref sa23), .val (.ref oa), .val (.ref gf), .unset] [])) _
            refine XS.aload X25.here hx rfl (hb hby at_101) rfl rfl ?_
            show Steps p.tables e below (T25.setTop (mkF m 103 #[.val (.int u1), .val (.int ((u1 &&& (2147483647 : Int32)) % (6 : Int32))), .val (.ref r3), .val (.ref sa23), .val (.ref oa), .val (.ref gf), .unset] [(.ref oa)])) _
            refine ldcAgain (s := s) (vm0 := T24.vm) X25 hx hZ hown (own_w hw 40 rfl) Lt24_22 (g := (mkF m 103 #[.val (.int u1), .val (.int ((u1 &&& (2147483647 : Int32)) % (6 : Int32))), .val (.ref r3), .val (.ref sa23), .val (.ref oa), .val (.ref gf), .unset] [(.ref oa)])) rfl (hb hby at_103) _ ?_
            show Steps p.tables e below (T25.setTop (mkF m 105 #[.val (.int u1), .val (.int ((u1 &&& (2147483647 : Int32)) % (6 : Int32))), .val (.ref r3), .val (.ref sa23), .val (.ref oa), .val (.ref gf), .unset] [(.ref sa23), (.ref oa)])) _
            refine st26.trans ?_
            show Steps p.tables e below (T26.setTop (mkF m 108 #[.val (.int u1), .val (.int ((u1 &&& (2147483647 : Int32)) % (6 : Int32))), .val (.ref r3), .val (.ref sa23), .val (.ref oa), .val (.ref gf), .unset] [(.int (1 : Int32))])) _
            refine XS.ifYes X26.here hx rfl (pc0 := 108) (pc' := 121) rfl (hb hby at_108) rfl (by decide) (by decide) (by decide) ?_
            show Steps p.tables e below (T26.setTop (mkF m 121 #[.val (.int u1), .val (.int ((u1 &&& (2147483647 : Int32)) % (6 : Int32))), .val (.ref r3), .val (.ref sa23), .val (.ref oa), .val (.ref gf), .unset] [])) _
            refine XS.iconst X26.here hx rfl (hb hby at_121) ?_
            show Steps p.tables e below (T26.setTop (mkF m 122 #[.val (.int u1), .val (.int ((u1 &&& (2147483647 : Int32)) % (6 : Int32))), .val (.ref r3), .val (.ref sa23), .val (.ref oa), .val (.ref gf), .unset] [(.int (1 : Int32))])) _
            refine XS.goto X26.here hx rfl (pc0 := 122) (pc' := 126) rfl (hb hby at_122) (by decide) (by decide) ?_
            show Steps p.tables e below (T26.setTop (mkF m 126 #[.val (.int u1), .val (.int ((u1 &&& (2147483647 : Int32)) % (6 : Int32))), .val (.ref r3), .val (.ref sa23), .val (.ref oa), .val (.ref gf), .unset] [(.int (1 : Int32))])) _
            refine XS.istore X26.here hx rfl (hb hby at_126) rfl (l' := #[.val (.int u1), .val (.int ((u1 &&& (2147483647 : Int32)) % (6 : Int32))), .val (.ref r3), .val (.ref sa23), .val (.ref oa), .val (.ref gf), .val (.int (1 : Int32))]) rfl ?_
            show Steps p.tables e below (T26.setTop (mkF m 128 #[.val (.int u1), .val (.int ((u1 &&& (2147483647 : Int32)) % (6 : Int32))), .val (.ref r3), .val (.ref sa23), .val (.ref oa), .val (.ref gf), .val (.int (1 : Int32))] [])) _
            refine XS.iload X26.here hx rfl (hb hby at_128) rfl ?_
            show Steps p.tables e below (T26.setTop (mkF m 130 #[.val (.int u1), .val (.int ((u1 &&& (2147483647 : Int32)) % (6 : Int32))), .val (.ref r3), .val (.ref sa23), .val (.ref oa), .val (.ref gf), .val (.int (1 : Int32))] [(.int (1 : Int32))])) _
            refine XS.ifNo X26.here hx rfl (hb hby at_130) rfl (by decide) ?_
            show Steps p.tables e below (T26.setTop (mkF m 133 #[.val (.int u1), .val (.int ((u1 &&& (2147483647 : Int32)) % (6 : Int32))), .val (.ref r3), .val (.ref sa23), .val (.ref oa), .val (.ref gf), .val (.int (1 : Int32))] [])) _
            refine XS.aload X26.here hx rfl (hb hby at_133) rfl rfl ?_
            show Steps p.tables e below (T26.setTop (mkF m 135 #[.val (.int u1), .val (.int ((u1 &&& (2147483647 : Int32)) % (6 : Int32))), .val (.ref r3), .val (.ref sa23), .val (.ref oa), .val (.ref gf), .val (.int (1 : Int32))] [(.ref oa)])) _
            refine XS.aloadN X26.here hx rfl (hb hby at_135) rfl rfl ?_
            show Steps p.tables e below (T26.setTop (mkF m 136 #[.val (.int u1), .val (.int ((u1 &&& (2147483647 : Int32)) % (6 : Int32))), .val (.ref r3), .val (.ref sa23), .val (.ref oa), .val (.ref gf), .val (.int (1 : Int32))] [(.ref sa23), (.ref oa)])) _
            refine st27.trans ?_
            show Steps p.tables e below (T27.setTop (mkF m 139 #[.val (.int u1), .val (.int ((u1 &&& (2147483647 : Int32)) % (6 : Int32))), .val (.ref r3), .val (.ref sa23), .val (.ref oa), .val (.ref gf), .val (.int (1 : Int32))] [(.int (1 : Int32))])) _
            refine XS.ifNo X27.here hx rfl (hb hby at_139) rfl (by decide) ?_
            show Steps p.tables e below (T27.setTop (mkF m 142 #[.val (.int u1), .val (.int ((u1 &&& (2147483647 : Int32)) % (6 : Int32))), .val (.ref r3), .val (.ref sa23), .val (.ref oa), .val (.ref gf), .val (.int (1 : Int32))] [])) _
            refine XS.aload X27.here hx rfl (hb hby at_142) rfl rfl ?_
            show Steps p.tables e below (T27.setTop (mkF m 144 #[.val (.int u1), .val (.int ((u1 &&& (2147483647 : Int32)) % (6 : Int32))), .val (.ref r3), .val (.ref sa23), .val (.ref oa), .val (.ref gf), .val (.int (1 : Int32))] [(.ref oa)])) _
            refine XS.aload X27.here hx rfl (hb hby at_144) rfl rfl ?_
            show Steps p.tables e below (T27.setTop (mkF m 146 #[.val (.int u1), .val (.int ((u1 &&& (2147483647 : Int32)) % (6 : Int32))), .val (.ref r3), .val (.ref sa23), .val (.ref oa), .val (.ref gf), .val (.int (1 : Int32))] [(.ref gf), (.ref oa)])) _
            refine st28.trans ?_
            show Steps p.tables e below (T28.setTop (mkF m 149 #[.val (.int u1), .val (.int ((u1 &&& (2147483647 : Int32)) % (6 : Int32))), .val (.ref r3), .val (.ref sa23), .val (.ref oa), .val (.ref gf), .val (.int (1 : Int32))] [(.int (0 : Int32))])) _
            refine XS.ifNo X28.here hx rfl (hb hby at_149) rfl (by decide) ?_
            show Steps p.tables e below (T28.setTop (mkF m 152 #[.val (.int u1), .val (.int ((u1 &&& (2147483647 : Int32)) % (6 : Int32))), .val (.ref r3), .val (.ref sa23), .val (.ref oa), .val (.ref gf), .val (.int (1 : Int32))] [])) _
            refine XS.iconst X28.here hx rfl (hb hby at_152) ?_
            show Steps p.tables e below (T28.setTop (mkF m 153 #[.val (.int u1), .val (.int ((u1 &&& (2147483647 : Int32)) % (6 : Int32))), .val (.ref r3), .val (.ref sa23), .val (.ref oa), .val (.ref gf), .val (.int (1 : Int32))] [(.int (1 : Int32))])) _
            refine XS.goto X28.here hx rfl (pc0 := 153) (pc' := 157) rfl (hb hby at_153) (by decide) (by decide) ?_
            show Steps p.tables e below (T28.setTop (mkF m 157 #[.val (.int u1), .val (.int ((u1 &&& (2147483647 : Int32)) % (6 : Int32))), .val (.ref r3), .val (.ref sa23), .val (.ref oa), .val (.ref gf), .val (.int (1 : Int32))] [(.int (1 : Int32))])) _
            exact retN X28 hx (t := .boolean) Bd.returns (by simp) (hb hby at_157) hr
          · show Q_rm_law Z _ _ _ _ _ _ _ _ _ _ _ _ _ _ h0 n0 _ T28.heap _
            rw [eq28]
            exact ⟨rfl, N28⟩
      · obtain ⟨T29, X29, e29, st29⟩ := getS2 X0 hx hZ hown (host := "") (Or.inl (own_w hw 44 rfl)) Via.refl e0 (S2.ext X00.2) (g := (mkF m 42 #[.val (.int u1), .val (.int ((u1 &&& (2147483647 : Int32)) % (6 : Int32))), .unset, .unset, .unset, .unset, .unset] [])) rfl (hb hby at_42)
        obtain ⟨sa30, T30, h30, kc30, sb30, kb30, X30, e30, E30, hSx30, kkx30, hZ, hown, Ea30, Fc30, Fv30, Vb30, -, -, CH30, Lt30, SF30, st30⟩ := ldcCH (s := s.setVm s.vm) (vm0 := s.vm) X29 hx hZ hown (own_w hw 40 rfl) wS e29 (k0 := h0.size) ((State.WarmedH.refl (s.setVm s.vm)).since _) (Nat.le_refl _) hEL (by decide) hC (vs := [(.int (115 : Int32)), (.int (117 : Int32)), (.int (99 : Int32)), (.int (99 : Int32)), (.int (101 : Int32)), (.int (115 : Int32)), (.int (115 : Int32))]) (z := (7 : Int32)) (by decide) (by decide) (by decide) (g := (mkF m 46 #[.val (.int u1), .val (.int ((u1 &&& (2147483647 : Int32)) % (6 : Int32))), .val (.ref r2), .unset, .unset, .unset, .unset] [])) rfl (hb hby at_46) (n := 28) (by decide) (by decide) (by decide) (by decide)
        have hS30 : s.Since T30.vm h30.size := State.Since.trans hS0 (own_smono hSx30 kkx30) (Nat.le_trans (Nat.le_refl _) E30.1)
        have Z30 : n0 ≤ h30.size := Nat.le_trans Z0 E30.1
        have Od30 : Old Z n0 h30 := X00.ext E30
        obtain ⟨cq31, kq31, q31a, q31b, q31c⟩ := isOf (s := s.setVm T30.vm) hZ e30 (E2.ext E30)
        obtain ⟨_, _, ⟨T31, L31, k31, n31⟩, -, X31, hSx31, hgr31, ⟨Lc31, hQ31, l31, y31, z31, CH31⟩, st31⟩ := Stand.virtualBackS (s := s.setVm T30.vm) X30 hx (y := (⟨"com/example/guided_sim/guidedsim/model/Relation", "opposite", "()Ljava/lang/String;"⟩ : MethodName)) (z := (⟨"com/example/guided_sim/guidedsim/model/Relation", "opposite", "()Ljava/lang/String;"⟩ : MethodName)) hown (mvT hZ (own_w hw 12 rfl)) (mvT hZ (own_w hw 13 rfl)) (notFace_of_selects (args := #[]) (mvT hZ (own_w hw 15 rfl))) (mvT hZ (own_w hw 15 rfl)) (mvT hZ (own_w hw 14 rfl)) (by decide) (backOfSH (s := s) (vm0 := T30.vm) (W := 0) (rm_opp_f l Z a0 hw [] r2 gf tf kf zc h30 n0 Z30 hEL Od30 O2 hz (F2.ext E30) (Ef.ext E30) (Cf.ext E30) (Uf.ext E30) (Af.ext E30)) hZ (own_w hw 16 rfl) (own_w hw 2 rfl) (by decide) (by decide) hEL CH30.1) q31a q31c (g := (mkF m 90 #[.val (.int u1), .val (.int ((u1 &&& (2147483647 : Int32)) % (6 : Int32))), .val (.ref r2), .val (.ref sa30), .unset, .unset, .unset] [(.ref r2)])) rfl (by rw [hml]; rfl) (Steps.refl _) (argsL := []) (rest := []) (lenOf pd_706127 rfl) rfl (by show 2 * 0 + _ ≤ _; exact Nat.le_of_eq rfl) (hb hby at_90) (fun _ _ => ⟨rfl, e30, (by decide : 2 + 2 ≤ _), (by decide : 32 + 32 ≤ _)⟩)
        dsimp only [Pt.U, Pt.locs, Pt.cells, Pt.slots] at X31 l31 y31 z31 st31 hQ31 hSx31 hgr31 CH31
        subst l31 y31 z31
        obtain ⟨oa, ob, ok, rfl, Nq31, Kq31, Eo31, Fc31, Fv31, Vo31⟩ := hQ31
        have N31 := Fr.app N0 Nq31
        have Lt31_22 : Lit (s.setVm T31.vm) "com/example/guided_sim/guidedsim/model/RelationOppositePinLaw" 22 sa30 := Lit.stays (s := s) (vm0 := T30.vm) Lt30 hSx31.1
        obtain ⟨X31, hS31, hZ, hown⟩ := rebS (s := s) hS30 (by rw [e30]; exact (Nat.le_refl _)) X31 hSx31 hgr31 hZ hown
        have Z31 : n0 ≤ T31.heap.size := Nat.le_trans Z30 Kq31.1
        have Od31 : Old Z n0 T31.heap := Od30.keep Kq31 all0
        obtain ⟨cq32, kq32, q32a, q32b, q32c⟩ := isOf hZ rfl ((E2.ext E30).keep Kq31)
        obtain ⟨_, _, ⟨T32, L32, k32, n32⟩, -, X32, ⟨Lc32, hQ32, l32, y32, z32⟩, st32⟩ := X31.virtualBack hx (y := (⟨"com/example/guided_sim/guidedsim/model/Relation", "goal", "()Ljava/lang/String;"⟩ : MethodName)) (z := (⟨"com/example/guided_sim/guidedsim/model/Relation", "goal", "()Ljava/lang/String;"⟩ : MethodName)) hown (mvT hZ (own_w hw 35 rfl)) (mvT hZ (own_w hw 36 rfl)) (notFace_of_selects (args := #[]) (mvT hZ (own_w hw 38 rfl))) (mvT hZ (own_w hw 38 rfl)) (mvT hZ (own_w hw 37 rfl)) (by decide) (backOf (W := 0) (rm_goal l Z a0 hw [] r2 gf T31.heap n0 Z31 ((F2.ext E30).keep Kq31 nin0)) hZ (own_w hw 39 rfl) (own_w hw 2 rfl) (by decide) (by decide)) q32a q32c (g := (mkF m 96 #[.val (.int u1), .val (.int ((u1 &&& (2147483647 : Int32)) % (6 : Int32))), .val (.ref r2), .val (.ref sa30), .val (.ref oa), .unset, .unset] [(.ref r2)])) rfl (by rw [hml]; rfl) (Steps.refl _) (argsL := []) (rest := []) (lenOf pd_706127 rfl) rfl (by show 2 * 0 + _ ≤ _; exact Nat.le_of_eq rfl) (hb hby at_96) (fun _ _ => ⟨rfl, rfl, (by decide : 4 + 0 ≤ _), (by decide : 64 + 0 ≤ _)⟩)
        dsimp only [Pt.U, Pt.locs, Pt.cells, Pt.slots] at X32 l32 y32 z32 st32 hQ32
        subst l32 y32 z32
        obtain ⟨rfl, Nq32, eq32⟩ := hQ32
        have N32 := Fr.app N31 Nq32
        obtain ⟨cq33, kq33, q33a, q33b, q33c⟩ := isOf hZ eq32 Eo31
        obtain ⟨_, _, ⟨T33, L33, k33, n33⟩, -, X33, ⟨Lc33, hQ33, l33, y33, z33⟩, st33⟩ := X32.virtualBack hx (y := (⟨"java/lang/String", "equals", "(Ljava/lang/Object;)Z"⟩ : MethodName)) (z := (⟨"java/lang/String", "equals", "(Ljava/lang/Object;)Z"⟩ : MethodName)) hown (mvT hZ (own_w hw 41 rfl)) (mvT hZ (own_w hw 21 rfl)) (notFace_of_selects (args := #[]) (mvT hZ (own_w hw 23 rfl))) (mvT hZ (own_w hw 23 rfl)) (mvT hZ (own_w hw 22 rfl)) (by decide) (backOf (W := 0) (rm_eq_ss l Z a0 hw [] oa sa30 zc ob ok sb30 kb30 T31.heap n0 Z31 (O2.ext Od31.2) hz (Ea30.keep Kq31) Fc31 (Fc30.keep Kq31 nin0) Fv31 (Fv30.keep Kq31 nin0) Vo31 (Vb30.keep Kq31 nin0)) hZ (own_w hw 24 rfl) (own_w hw 5 rfl) (by decide) (by decide)) q33a q33c (g := (mkF m 105 #[.val (.int u1), .val (.int ((u1 &&& (2147483647 : Int32)) % (6 : Int32))), .val (.ref r2), .val (.ref sa30), .val (.ref oa), .val (.ref gf), .unset] [(.ref sa30), (.ref oa)])) rfl (by rw [hml]; rfl) (Steps.refl _) (argsL := [(.ref sa30)]) (rest := []) (lenOf pd_782203 rfl) rfl (by show 2 * 0 + _ ≤ _; exact Nat.le_of_eq rfl) (hb hby at_105) (fun _ _ => ⟨rfl, eq32, (by decide : 4 + 0 ≤ _), (by decide : 64 + 0 ≤ _)⟩)
        dsimp only [Pt.U, Pt.locs, Pt.cells, Pt.slots] at X33 l33 y33 z33 st33 hQ33
        subst l33 y33 z33
        obtain ⟨rfl, Nq33, eq33⟩ := hQ33
        have N33 := Fr.app N32 Nq33
        obtain ⟨cq34, kq34, q34a, q34b, q34c⟩ := isOf hZ eq33 Eo31
        obtain ⟨_, _, ⟨T34, L34, k34, n34⟩, -, X34, ⟨Lc34, hQ34, l34, y34, z34⟩, st34⟩ := X33.virtualBack hx (y := (⟨"java/lang/String", "equals", "(Ljava/lang/Object;)Z"⟩ : MethodName)) (z := (⟨"java/lang/String", "equals", "(Ljava/lang/Object;)Z"⟩ : MethodName)) hown (mvT hZ (own_w hw 41 rfl)) (mvT hZ (own_w hw 21 rfl)) (notFace_of_selects (args := #[]) (mvT hZ (own_w hw 23 rfl))) (mvT hZ (own_w hw 23 rfl)) (mvT hZ (own_w hw 22 rfl)) (by decide) (backOf (W := 0) (rm_eq_ss l Z a0 hw [] oa sa30 zc ob ok sb30 kb30 T31.heap n0 Z31 (O2.ext Od31.2) hz (Ea30.keep Kq31) Fc31 (Fc30.keep Kq31 nin0) Fv31 (Fv30.keep Kq31 nin0) Vo31 (Vb30.keep Kq31 nin0)) hZ (own_w hw 24 rfl) (own_w hw 5 rfl) (by decide) (by decide)) q34a q34c (g := (mkF m 136 #[.val (.int u1), .val (.int ((u1 &&& (2147483647 : Int32)) % (6 : Int32))), .val (.ref r2), .val (.ref sa30), .val (.ref oa), .val (.ref gf), .val (.int (1 : Int32))] [(.ref sa30), (.ref oa)])) rfl (by rw [hml]; rfl) (Steps.refl _) (argsL := [(.ref sa30)]) (rest := []) (lenOf pd_782203 rfl) rfl (by show 2 * 0 + _ ≤ _; exact Nat.le_of_eq rfl) (hb hby at_136) (fun _ _ => ⟨rfl, eq33, (by decide : 4 + 0 ≤ _), (by decide : 64 + 0 ≤ _)⟩)
        dsimp only [Pt.U, Pt.locs, Pt.cells, Pt.slots] at X34 l34 y34 z34 st34 hQ34
        subst l34 y34 z34
        obtain ⟨rfl, Nq34, eq34⟩ := hQ34
        have N34 := Fr.app N33 Nq34
        obtain ⟨cq35, kq35, q35a, q35b, q35c⟩ := isOf hZ eq34 Eo31
        obtain ⟨_, _, ⟨T35, L35, k35, n35⟩, -, X35, ⟨Lc35, hQ35, l35, y35, z35⟩, st35⟩ := X34.virtualBack hx (y := (⟨"java/lang/String", "equals", "(Ljava/lang/Object;)Z"⟩ : MethodName)) (z := (⟨"java/lang/String", "equals", "(Ljava/lang/Object;)Z"⟩ : MethodName)) hown (mvT hZ (own_w hw 41 rfl)) (mvT hZ (own_w hw 21 rfl)) (notFace_of_selects (args := #[]) (mvT hZ (own_w hw 23 rfl))) (mvT hZ (own_w hw 23 rfl)) (mvT hZ (own_w hw 22 rfl)) (by decide) (backOf (W := 0) (rm_eq_sf l Z a0 hw [] oa gf zc ob ok tf kf T31.heap n0 Z31 (O2.ext Od31.2) hz ((Ef.ext E30).keep Kq31) Fc31 ((Cf.ext E30).keep Kq31 nin0) Fv31 ((Uf.ext E30).keep Kq31 nin0) Vo31 ((Af.ext E30).keep Kq31 nin0)) hZ (own_w hw 24 rfl) (own_w hw 5 rfl) (by decide) (by decide)) q35a q35c (g := (mkF m 146 #[.val (.int u1), .val (.int ((u1 &&& (2147483647 : Int32)) % (6 : Int32))), .val (.ref r2), .val (.ref sa30), .val (.ref oa), .val (.ref gf), .val (.int (1 : Int32))] [(.ref gf), (.ref oa)])) rfl (by rw [hml]; rfl) (Steps.refl _) (argsL := [(.ref gf)]) (rest := []) (lenOf pd_782203 rfl) rfl (by show 2 * 0 + _ ≤ _; exact Nat.le_of_eq rfl) (hb hby at_146) (fun _ _ => ⟨rfl, eq34, (by decide : 4 + 0 ≤ _), (by decide : 64 + 0 ≤ _)⟩)
        dsimp only [Pt.U, Pt.locs, Pt.cells, Pt.slots] at X35 l35 y35 z35 st35 hQ35
        subst l35 y35 z35
        obtain ⟨rfl, Nq35, eq35⟩ := hQ35
        have N35 := Fr.app N34 Nq35
        obtain ⟨fs, hr, hrun, hended, hEnd⟩ := Stand.leaveW (s := s) (vm₁ := T31.vm) X35 hS31 (by rw [eq35]; exact (Nat.le_refl _)) (v := some (.int (1 : Int32))) (fun h => by rw [Bd.returns] at h; cases h)
        have hCH : CHr Z own_EL s.vm s.heap T35.vm T35.heap := by rw [hh, eq35]; exact (((CHr.refl hC).trans CH30).trans CH31).trans (CHv.at (s := s) (vm0 := T31.vm) X35 hZ hEL CH31.1)
        refine ⟨_, _, pre3 _ ?_, hrun, hended, _, _, rfl, ?_, hCH, hEnd.1, hEnd.2.1, hEnd.2.2.1, hEnd.2.2.2.mono (by decide) (by decide)⟩
        · show Steps p.tables e below (s₁.setTop (mkF m 39 #[.val (.int u1), .val (.int ((u1 &&& (2147483647 : Int32)) % (6 : Int32))), .unset, .unset, .unset, .unset, .unset] [(.int (2 : Int32)), (.int ((u1 &&& (2147483647 : Int32)) % (6 : Int32)))])) _
          refine XS.icmpNo X0.here hx rfl (hb hby at_39) rfl hb39 ?_
          show Steps p.tables e below (s₁.setTop (mkF m 42 #[.val (.int u1), .val (.int ((u1 &&& (2147483647 : Int32)) % (6 : Int32))), .unset, .unset, .unset, .unset, .unset] [])) _
          refine st29 _ ?_
          show Steps p.tables e below (T29.setTop (mkF m 45 #[.val (.int u1), .val (.int ((u1 &&& (2147483647 : Int32)) % (6 : Int32))), .unset, .unset, .unset, .unset, .unset] [(.ref r2)])) _
          refine XS.astoreN X29.here hx rfl (hb hby at_45) rfl rfl (l' := #[.val (.int u1), .val (.int ((u1 &&& (2147483647 : Int32)) % (6 : Int32))), .val (.ref r2), .unset, .unset, .unset, .unset]) rfl ?_
          show Steps p.tables e below (T29.setTop (mkF m 46 #[.val (.int u1), .val (.int ((u1 &&& (2147483647 : Int32)) % (6 : Int32))), .val (.ref r2), .unset, .unset, .unset, .unset] [])) _
          refine st30 _ ?_
          show Steps p.tables e below (T30.setTop (mkF m 48 #[.val (.int u1), .val (.int ((u1 &&& (2147483647 : Int32)) % (6 : Int32))), .val (.ref r2), .unset, .unset, .unset, .unset] [(.ref sa30)])) _
          refine XS.astoreN X30.here hx rfl (hb hby at_48) rfl rfl (l' := #[.val (.int u1), .val (.int ((u1 &&& (2147483647 : Int32)) % (6 : Int32))), .val (.ref r2), .val (.ref sa30), .unset, .unset, .unset]) rfl ?_
          show Steps p.tables e below (T30.setTop (mkF m 49 #[.val (.int u1), .val (.int ((u1 &&& (2147483647 : Int32)) % (6 : Int32))), .val (.ref r2), .val (.ref sa30), .unset, .unset, .unset] [])) _
          refine XS.goto X30.here hx rfl (pc0 := 49) (pc' := 89) rfl (hb hby at_49) (by decide) (by decide) ?_
          show Steps p.tables e below (T30.setTop (mkF m 89 #[.val (.int u1), .val (.int ((u1 &&& (2147483647 : Int32)) % (6 : Int32))), .val (.ref r2), .val (.ref sa30), .unset, .unset, .unset] [])) _
          refine XS.aloadN X30.here hx rfl (hb hby at_89) rfl rfl ?_
          show Steps p.tables e below (T30.setTop (mkF m 90 #[.val (.int u1), .val (.int ((u1 &&& (2147483647 : Int32)) % (6 : Int32))), .val (.ref r2), .val (.ref sa30), .unset, .unset, .unset] [(.ref r2)])) _
          refine st31.trans ?_
          show Steps p.tables e below (T31.setTop (mkF m 93 #[.val (.int u1), .val (.int ((u1 &&& (2147483647 : Int32)) % (6 : Int32))), .val (.ref r2), .val (.ref sa30), .unset, .unset, .unset] [(.ref oa)])) _
          refine XS.astore X31.here hx rfl (hb hby at_93) rfl rfl (l' := #[.val (.int u1), .val (.int ((u1 &&& (2147483647 : Int32)) % (6 : Int32))), .val (.ref r2), .val (.ref sa30), .val (.ref oa), .unset, .unset]) rfl ?_
          show Steps p.tables e below (T31.setTop (mkF m 95 #[.val (.int u1), .val (.int ((u1 &&& (2147483647 : Int32)) % (6 : Int32))), .val (.ref r2), .val (.ref sa30), .val (.ref oa), .unset, .unset] [])) _
          refine XS.aloadN X31.here hx rfl (hb hby at_95) rfl rfl ?_
          show Steps p.tables e below (T31.setTop (mkF m 96 #[.val (.int u1), .val (.int ((u1 &&& (2147483647 : Int32)) % (6 : Int32))), .val (.ref r2), .val (.ref sa30), .val (.ref oa), .unset, .unset] [(.ref r2)])) _
          refine st32.trans ?_
          show Steps p.tables e below (T32.setTop (mkF m 99 #[.val (.int u1), .val (.int ((u1 &&& (2147483647 : Int32)) % (6 : Int32))), .val (.ref r2), .val (.ref sa30), .val (.ref oa), .unset, .unset] [(.ref gf)])) _
          refine XS.astore X32.here hx rfl (hb hby at_99) rfl rfl (l' := #[.val (.int u1), .val (.int ((u1 &&& (2147483647 : Int32)) % (6 : Int32))), .val (.ref r2), .val (.ref sa30), .val (.ref oa), .val (.ref gf), .unset]) rfl ?_
          show Steps p.tables e below (T32.setTop (mkF m 101 #[.val (.int u1), .val (.int ((u1 &&& (2147483647 : Int32)) % (6 : Int32))), .val (.ref r2), .val (.ref sa30), .val (.ref oa), .val (.ref gf), .unset] [])) _
          refine XS.aload X32.here hx rfl (hb hby at_101) rfl rfl ?_
          show Steps p.tables e below (T32.setTop (mkF m 103 #[.val (.int u1), .val (.int ((u1 &&& (2147483647 : Int32)) % (6 : Int32))), .val (.ref r2), .val (.ref sa30), .val (.ref oa), .val (.ref gf), .unset] [(.ref oa)])) _
          refine ldcAgain (s := s) (vm0 := T31.vm) X32 hx hZ hown (own_w hw 40 rfl) Lt31_22 (g := (mkF m 103 #[.val (.int u1), .val (.int ((u1 &&& (2147483647 : Int32)) % (6 : Int32))), .val (.ref r2), .val (.ref sa30), .val (.ref oa), .val (.ref gf), .unset] [(.ref oa)])) rfl (hb hby at_103) _ ?_
          show Steps p.tables e below (T32.setTop (mkF m 105 #[.val (.int u1), .val (.int ((u1 &&& (2147483647 : Int32)) % (6 : Int32))), .val (.ref r2), .val (.ref sa30), .val (.ref oa), .val (.ref gf), .unset] [(.ref sa30), (.ref oa)])) _
          refine st33.trans ?_
          show Steps p.tables e below (T33.setTop (mkF m 108 #[.val (.int u1), .val (.int ((u1 &&& (2147483647 : Int32)) % (6 : Int32))), .val (.ref r2), .val (.ref sa30), .val (.ref oa), .val (.ref gf), .unset] [(.int (1 : Int32))])) _
          refine XS.ifYes X33.here hx rfl (pc0 := 108) (pc' := 121) rfl (hb hby at_108) rfl (by decide) (by decide) (by decide) ?_
          show Steps p.tables e below (T33.setTop (mkF m 121 #[.val (.int u1), .val (.int ((u1 &&& (2147483647 : Int32)) % (6 : Int32))), .val (.ref r2), .val (.ref sa30), .val (.ref oa), .val (.ref gf), .unset] [])) _
          refine XS.iconst X33.here hx rfl (hb hby at_121) ?_
          show Steps p.tables e below (T33.setTop (mkF m 122 #[.val (.int u1), .val (.int ((u1 &&& (2147483647 : Int32)) % (6 : Int32))), .val (.ref r2), .val (.ref sa30), .val (.ref oa), .val (.ref gf), .unset] [(.int (1 : Int32))])) _
          refine XS.goto X33.here hx rfl (pc0 := 122) (pc' := 126) rfl (hb hby at_122) (by decide) (by decide) ?_
          show Steps p.tables e below (T33.setTop (mkF m 126 #[.val (.int u1), .val (.int ((u1 &&& (2147483647 : Int32)) % (6 : Int32))), .val (.ref r2), .val (.ref sa30), .val (.ref oa), .val (.ref gf), .unset] [(.int (1 : Int32))])) _
          refine XS.istore X33.here hx rfl (hb hby at_126) rfl (l' := #[.val (.int u1), .val (.int ((u1 &&& (2147483647 : Int32)) % (6 : Int32))), .val (.ref r2), .val (.ref sa30), .val (.ref oa), .val (.ref gf), .val (.int (1 : Int32))]) rfl ?_
          show Steps p.tables e below (T33.setTop (mkF m 128 #[.val (.int u1), .val (.int ((u1 &&& (2147483647 : Int32)) % (6 : Int32))), .val (.ref r2), .val (.ref sa30), .val (.ref oa), .val (.ref gf), .val (.int (1 : Int32))] [])) _
          refine XS.iload X33.here hx rfl (hb hby at_128) rfl ?_
          show Steps p.tables e below (T33.setTop (mkF m 130 #[.val (.int u1), .val (.int ((u1 &&& (2147483647 : Int32)) % (6 : Int32))), .val (.ref r2), .val (.ref sa30), .val (.ref oa), .val (.ref gf), .val (.int (1 : Int32))] [(.int (1 : Int32))])) _
          refine XS.ifNo X33.here hx rfl (hb hby at_130) rfl (by decide) ?_
          show Steps p.tables e below (T33.setTop (mkF m 133 #[.val (.int u1), .val (.int ((u1 &&& (2147483647 : Int32)) % (6 : Int32))), .val (.ref r2), .val (.ref sa30), .val (.ref oa), .val (.ref gf), .val (.int (1 : Int32))] [])) _
          refine XS.aload X33.here hx rfl (hb hby at_133) rfl rfl ?_
          show Steps p.tables e below (T33.setTop (mkF m 135 #[.val (.int u1), .val (.int ((u1 &&& (2147483647 : Int32)) % (6 : Int32))), .val (.ref r2), .val (.ref sa30), .val (.ref oa), .val (.ref gf), .val (.int (1 : Int32))] [(.ref oa)])) _
          refine XS.aloadN X33.here hx rfl (hb hby at_135) rfl rfl ?_
          show Steps p.tables e below (T33.setTop (mkF m 136 #[.val (.int u1), .val (.int ((u1 &&& (2147483647 : Int32)) % (6 : Int32))), .val (.ref r2), .val (.ref sa30), .val (.ref oa), .val (.ref gf), .val (.int (1 : Int32))] [(.ref sa30), (.ref oa)])) _
          refine st34.trans ?_
          show Steps p.tables e below (T34.setTop (mkF m 139 #[.val (.int u1), .val (.int ((u1 &&& (2147483647 : Int32)) % (6 : Int32))), .val (.ref r2), .val (.ref sa30), .val (.ref oa), .val (.ref gf), .val (.int (1 : Int32))] [(.int (1 : Int32))])) _
          refine XS.ifNo X34.here hx rfl (hb hby at_139) rfl (by decide) ?_
          show Steps p.tables e below (T34.setTop (mkF m 142 #[.val (.int u1), .val (.int ((u1 &&& (2147483647 : Int32)) % (6 : Int32))), .val (.ref r2), .val (.ref sa30), .val (.ref oa), .val (.ref gf), .val (.int (1 : Int32))] [])) _
          refine XS.aload X34.here hx rfl (hb hby at_142) rfl rfl ?_
          show Steps p.tables e below (T34.setTop (mkF m 144 #[.val (.int u1), .val (.int ((u1 &&& (2147483647 : Int32)) % (6 : Int32))), .val (.ref r2), .val (.ref sa30), .val (.ref oa), .val (.ref gf), .val (.int (1 : Int32))] [(.ref oa)])) _
          refine XS.aload X34.here hx rfl (hb hby at_144) rfl rfl ?_
          show Steps p.tables e below (T34.setTop (mkF m 146 #[.val (.int u1), .val (.int ((u1 &&& (2147483647 : Int32)) % (6 : Int32))), .val (.ref r2), .val (.ref sa30), .val (.ref oa), .val (.ref gf), .val (.int (1 : Int32))] [(.ref gf), (.ref oa)])) _
          refine st35.trans ?_
          show Steps p.tables e below (T35.setTop (mkF m 149 #[.val (.int u1), .val (.int ((u1 &&& (2147483647 : Int32)) % (6 : Int32))), .val (.ref r2), .val (.ref sa30), .val (.ref oa), .val (.ref gf), .val (.int (1 : Int32))] [(.int (0 : Int32))])) _
          refine XS.ifNo X35.here hx rfl (hb hby at_149) rfl (by decide) ?_
          show Steps p.tables e below (T35.setTop (mkF m 152 #[.val (.int u1), .val (.int ((u1 &&& (2147483647 : Int32)) % (6 : Int32))), .val (.ref r2), .val (.ref sa30), .val (.ref oa), .val (.ref gf), .val (.int (1 : Int32))] [])) _
          refine XS.iconst X35.here hx rfl (hb hby at_152) ?_
          show Steps p.tables e below (T35.setTop (mkF m 153 #[.val (.int u1), .val (.int ((u1 &&& (2147483647 : Int32)) % (6 : Int32))), .val (.ref r2), .val (.ref sa30), .val (.ref oa), .val (.ref gf), .val (.int (1 : Int32))] [(.int (1 : Int32))])) _
          refine XS.goto X35.here hx rfl (pc0 := 153) (pc' := 157) rfl (hb hby at_153) (by decide) (by decide) ?_
          show Steps p.tables e below (T35.setTop (mkF m 157 #[.val (.int u1), .val (.int ((u1 &&& (2147483647 : Int32)) % (6 : Int32))), .val (.ref r2), .val (.ref sa30), .val (.ref oa), .val (.ref gf), .val (.int (1 : Int32))] [(.int (1 : Int32))])) _
          exact retN X35 hx (t := .boolean) Bd.returns (by simp) (hb hby at_157) hr
        · show Q_rm_law Z _ _ _ _ _ _ _ _ _ _ _ _ _ _ h0 n0 _ T35.heap _
          rw [eq35]
          exact ⟨rfl, N35⟩
    · obtain ⟨T36, X36, e36, st36⟩ := getS2 X0 hx hZ hown (host := "") (Or.inl (own_w hw 46 rfl)) Via.refl e0 (S1.ext X00.2) (g := (mkF m 27 #[.val (.int u1), .val (.int ((u1 &&& (2147483647 : Int32)) % (6 : Int32))), .unset, .unset, .unset, .unset, .unset] [])) rfl (hb hby at_27)
      obtain ⟨sa37, T37, h37, kc37, sb37, kb37, X37, e37, E37, hSx37, kkx37, hZ, hown, Ea37, Fc37, Fv37, Vb37, -, -, CH37, Lt37, SF37, st37⟩ := ldcCH (s := s.setVm s.vm) (vm0 := s.vm) X36 hx hZ hown (own_w hw 4 rfl) wS e36 (k0 := h0.size) ((State.WarmedH.refl (s.setVm s.vm)).since _) (Nat.le_refl _) hEL (by decide) hC (vs := [(.int (102 : Int32)), (.int (97 : Int32)), (.int (105 : Int32)), (.int (108 : Int32)), (.int (117 : Int32)), (.int (114 : Int32)), (.int (101 : Int32))]) (z := (7 : Int32)) (by decide) (by decide) (by decide) (g := (mkF m 31 #[.val (.int u1), .val (.int ((u1 &&& (2147483647 : Int32)) % (6 : Int32))), .val (.ref r1), .unset, .unset, .unset, .unset] [])) rfl (hb hby at_31) (n := 28) (by decide) (by decide) (by decide) (by decide)
      have hS37 : s.Since T37.vm h37.size := State.Since.trans hS0 (own_smono hSx37 kkx37) (Nat.le_trans (Nat.le_refl _) E37.1)
      have Z37 : n0 ≤ h37.size := Nat.le_trans Z0 E37.1
      have Od37 : Old Z n0 h37 := X00.ext E37
      obtain ⟨cq38, kq38, q38a, q38b, q38c⟩ := isOf (s := s.setVm T37.vm) hZ e37 (E1.ext E37)
      obtain ⟨_, _, ⟨T38, L38, k38, n38⟩, -, X38, hSx38, hgr38, ⟨Lc38, hQ38, l38, y38, z38, CH38⟩, st38⟩ := Stand.virtualBackS (s := s.setVm T37.vm) X37 hx (y := (⟨"com/example/guided_sim/guidedsim/model/Relation", "opposite", "()Ljava/lang/String;"⟩ : MethodName)) (z := (⟨"com/example/guided_sim/guidedsim/model/Relation", "opposite", "()Ljava/lang/String;"⟩ : MethodName)) hown (mvT hZ (own_w hw 12 rfl)) (mvT hZ (own_w hw 13 rfl)) (notFace_of_selects (args := #[]) (mvT hZ (own_w hw 15 rfl))) (mvT hZ (own_w hw 15 rfl)) (mvT hZ (own_w hw 14 rfl)) (by decide) (backOfSH (s := s) (vm0 := T37.vm) (W := 0) (rm_opp_s l Z a0 hw [] r1 gs ts ks zc h37 n0 Z37 hEL Od37 O2 hz (F1.ext E37) (Es.ext E37) (Cs.ext E37) (Us.ext E37) (As.ext E37)) hZ (own_w hw 16 rfl) (own_w hw 2 rfl) (by decide) (by decide) hEL CH37.1) q38a q38c (g := (mkF m 90 #[.val (.int u1), .val (.int ((u1 &&& (2147483647 : Int32)) % (6 : Int32))), .val (.ref r1), .val (.ref sa37), .unset, .unset, .unset] [(.ref r1)])) rfl (by rw [hml]; rfl) (Steps.refl _) (argsL := []) (rest := []) (lenOf pd_706127 rfl) rfl (by show 2 * 0 + _ ≤ _; exact Nat.le_of_eq rfl) (hb hby at_90) (fun _ _ => ⟨rfl, e37, (by decide : 2 + 4 ≤ _), (by decide : 32 + 64 ≤ _)⟩)
      dsimp only [Pt.U, Pt.locs, Pt.cells, Pt.slots] at X38 l38 y38 z38 st38 hQ38 hSx38 hgr38 CH38
      subst l38 y38 z38
      obtain ⟨oa, ob, ok, rfl, Nq38, Kq38, Eo38, Fc38, Fv38, Vo38⟩ := hQ38
      have N38 := Fr.app N0 Nq38
      have Lt38_14 : Lit (s.setVm T38.vm) "com/example/guided_sim/guidedsim/model/RelationOppositePinLaw" 14 sa37 := Lit.stays (s := s) (vm0 := T37.vm) Lt37 hSx38.1
      obtain ⟨X38, hS38, hZ, hown⟩ := rebS (s := s) hS37 (by rw [e37]; exact (Nat.le_refl _)) X38 hSx38 hgr38 hZ hown
      have Z38 : n0 ≤ T38.heap.size := Nat.le_trans Z37 Kq38.1
      have Od38 : Old Z n0 T38.heap := Od37.keep Kq38 all0
      obtain ⟨cq39, kq39, q39a, q39b, q39c⟩ := isOf hZ rfl ((E1.ext E37).keep Kq38)
      obtain ⟨_, _, ⟨T39, L39, k39, n39⟩, -, X39, ⟨Lc39, hQ39, l39, y39, z39⟩, st39⟩ := X38.virtualBack hx (y := (⟨"com/example/guided_sim/guidedsim/model/Relation", "goal", "()Ljava/lang/String;"⟩ : MethodName)) (z := (⟨"com/example/guided_sim/guidedsim/model/Relation", "goal", "()Ljava/lang/String;"⟩ : MethodName)) hown (mvT hZ (own_w hw 35 rfl)) (mvT hZ (own_w hw 36 rfl)) (notFace_of_selects (args := #[]) (mvT hZ (own_w hw 38 rfl))) (mvT hZ (own_w hw 38 rfl)) (mvT hZ (own_w hw 37 rfl)) (by decide) (backOf (W := 0) (rm_goal l Z a0 hw [] r1 gs T38.heap n0 Z38 ((F1.ext E37).keep Kq38 nin0)) hZ (own_w hw 39 rfl) (own_w hw 2 rfl) (by decide) (by decide)) q39a q39c (g := (mkF m 96 #[.val (.int u1), .val (.int ((u1 &&& (2147483647 : Int32)) % (6 : Int32))), .val (.ref r1), .val (.ref sa37), .val (.ref oa), .unset, .unset] [(.ref r1)])) rfl (by rw [hml]; rfl) (Steps.refl _) (argsL := []) (rest := []) (lenOf pd_706127 rfl) rfl (by show 2 * 0 + _ ≤ _; exact Nat.le_of_eq rfl) (hb hby at_96) (fun _ _ => ⟨rfl, rfl, (by decide : 6 + 0 ≤ _), (by decide : 96 + 0 ≤ _)⟩)
      dsimp only [Pt.U, Pt.locs, Pt.cells, Pt.slots] at X39 l39 y39 z39 st39 hQ39
      subst l39 y39 z39
      obtain ⟨rfl, Nq39, eq39⟩ := hQ39
      have N39 := Fr.app N38 Nq39
      obtain ⟨sa40, T40, h40, kc40, sb40, kb40, X40, e40, E40, hSx40, kkx40, hZ, hown, Ea40, Fc40, Fv40, Vb40, -, -, CH40, Lt40, SF40, st40⟩ := ldcCH (s := s.setVm T38.vm) (vm0 := T38.vm) X39 hx hZ hown (own_w hw 40 rfl) wS eq39 (k0 := T38.heap.size) ((State.WarmedH.refl (s.setVm T38.vm)).since _) (Nat.le_refl _) hEL (by decide) CH38.1 (vs := [(.int (115 : Int32)), (.int (117 : Int32)), (.int (99 : Int32)), (.int (99 : Int32)), (.int (101 : Int32)), (.int (115 : Int32)), (.int (115 : Int32))]) (z := (7 : Int32)) (by decide) (by decide) (by decide) (g := (mkF m 103 #[.val (.int u1), .val (.int ((u1 &&& (2147483647 : Int32)) % (6 : Int32))), .val (.ref r1), .val (.ref sa37), .val (.ref oa), .val (.ref gs), .unset] [(.ref oa)])) rfl (hb hby at_103) (n := 28) (by decide) (by decide) (by decide) (by decide)
      have hS40 : s.Since T40.vm h40.size := State.Since.trans hS38 (own_smono hSx40 kkx40) (Nat.le_trans (Nat.le_refl _) E40.1)
      have Lt40_14 : Lit (s.setVm T40.vm) "com/example/guided_sim/guidedsim/model/RelationOppositePinLaw" 14 sa37 := Lit.stays (s := s) (vm0 := T38.vm) Lt38_14 hSx40.1
      have Z40 : n0 ≤ h40.size := Nat.le_trans Z38 E40.1
      have Od40 : Old Z n0 h40 := Od38.ext E40
      obtain ⟨cq41, kq41, q41a, q41b, q41c⟩ := isOf hZ e40 (Eo38.ext E40)
      obtain ⟨_, _, ⟨T41, L41, k41, n41⟩, -, X41, ⟨Lc41, hQ41, l41, y41, z41⟩, st41⟩ := X40.virtualBack hx (y := (⟨"java/lang/String", "equals", "(Ljava/lang/Object;)Z"⟩ : MethodName)) (z := (⟨"java/lang/String", "equals", "(Ljava/lang/Object;)Z"⟩ : MethodName)) hown (mvT hZ (own_w hw 41 rfl)) (mvT hZ (own_w hw 21 rfl)) (notFace_of_selects (args := #[]) (mvT hZ (own_w hw 23 rfl))) (mvT hZ (own_w hw 23 rfl)) (mvT hZ (own_w hw 22 rfl)) (by decide) (backOf (W := 0) (rm_eq_fs l Z a0 hw [] oa sa40 zc ob ok sb40 kb40 h40 n0 Z40 (O2.ext Od40.2) hz Ea40 (Fc38.ext E40) Fc40 (Fv38.ext E40) Fv40 (Vo38.ext E40) Vb40) hZ (own_w hw 24 rfl) (own_w hw 5 rfl) (by decide) (by decide)) q41a q41c (g := (mkF m 105 #[.val (.int u1), .val (.int ((u1 &&& (2147483647 : Int32)) % (6 : Int32))), .val (.ref r1), .val (.ref sa37), .val (.ref oa), .val (.ref gs), .unset] [(.ref sa40), (.ref oa)])) rfl (by rw [hml]; rfl) (Steps.refl _) (argsL := [(.ref sa40)]) (rest := []) (lenOf pd_782203 rfl) rfl (by show 2 * 0 + _ ≤ _; exact Nat.le_of_eq rfl) (hb hby at_105) (fun _ _ => ⟨rfl, e40, (by decide : 8 + 0 ≤ _), (by decide : 128 + 0 ≤ _)⟩)
      dsimp only [Pt.U, Pt.locs, Pt.cells, Pt.slots] at X41 l41 y41 z41 st41 hQ41
      subst l41 y41 z41
      obtain ⟨rfl, Nq41, eq41⟩ := hQ41
      have N41 := Fr.app N39 Nq41
      obtain ⟨cq42, kq42, q42a, q42b, q42c⟩ := isOf hZ eq41 (Eo38.ext E40)
      obtain ⟨_, _, ⟨T42, L42, k42, n42⟩, -, X42, ⟨Lc42, hQ42, l42, y42, z42⟩, st42⟩ := X41.virtualBack hx (y := (⟨"java/lang/String", "equals", "(Ljava/lang/Object;)Z"⟩ : MethodName)) (z := (⟨"java/lang/String", "equals", "(Ljava/lang/Object;)Z"⟩ : MethodName)) hown (mvT hZ (own_w hw 41 rfl)) (mvT hZ (own_w hw 21 rfl)) (notFace_of_selects (args := #[]) (mvT hZ (own_w hw 23 rfl))) (mvT hZ (own_w hw 23 rfl)) (mvT hZ (own_w hw 22 rfl)) (by decide) (backOf (W := 0) (rm_eq_ff l Z a0 hw [] oa sa37 zc ob ok sb37 kb37 h40 n0 Z40 (O2.ext Od40.2) hz ((Ea37.keep Kq38).ext E40) (Fc38.ext E40) ((Fc37.keep Kq38 nin0).ext E40) (Fv38.ext E40) ((Fv37.keep Kq38 nin0).ext E40) (Vo38.ext E40) ((Vb37.keep Kq38 nin0).ext E40)) hZ (own_w hw 24 rfl) (own_w hw 5 rfl) (by decide) (by decide)) q42a q42c (g := (mkF m 115 #[.val (.int u1), .val (.int ((u1 &&& (2147483647 : Int32)) % (6 : Int32))), .val (.ref r1), .val (.ref sa37), .val (.ref oa), .val (.ref gs), .unset] [(.ref sa37), (.ref oa)])) rfl (by rw [hml]; rfl) (Steps.refl _) (argsL := [(.ref sa37)]) (rest := []) (lenOf pd_782203 rfl) rfl (by show 2 * 0 + _ ≤ _; exact Nat.le_of_eq rfl) (hb hby at_115) (fun _ _ => ⟨rfl, eq41, (by decide : 8 + 0 ≤ _), (by decide : 128 + 0 ≤ _)⟩)
      dsimp only [Pt.U, Pt.locs, Pt.cells, Pt.slots] at X42 l42 y42 z42 st42 hQ42
      subst l42 y42 z42
      obtain ⟨rfl, Nq42, eq42⟩ := hQ42
      have N42 := Fr.app N41 Nq42
      obtain ⟨cq43, kq43, q43a, q43b, q43c⟩ := isOf hZ eq42 (Eo38.ext E40)
      obtain ⟨_, _, ⟨T43, L43, k43, n43⟩, -, X43, ⟨Lc43, hQ43, l43, y43, z43⟩, st43⟩ := X42.virtualBack hx (y := (⟨"java/lang/String", "equals", "(Ljava/lang/Object;)Z"⟩ : MethodName)) (z := (⟨"java/lang/String", "equals", "(Ljava/lang/Object;)Z"⟩ : MethodName)) hown (mvT hZ (own_w hw 41 rfl)) (mvT hZ (own_w hw 21 rfl)) (notFace_of_selects (args := #[]) (mvT hZ (own_w hw 23 rfl))) (mvT hZ (own_w hw 23 rfl)) (mvT hZ (own_w hw 22 rfl)) (by decide) (backOf (W := 0) (rm_eq_ff l Z a0 hw [] oa sa37 zc ob ok sb37 kb37 h40 n0 Z40 (O2.ext Od40.2) hz ((Ea37.keep Kq38).ext E40) (Fc38.ext E40) ((Fc37.keep Kq38 nin0).ext E40) (Fv38.ext E40) ((Fv37.keep Kq38 nin0).ext E40) (Vo38.ext E40) ((Vb37.keep Kq38 nin0).ext E40)) hZ (own_w hw 24 rfl) (own_w hw 5 rfl) (by decide) (by decide)) q43a q43c (g := (mkF m 136 #[.val (.int u1), .val (.int ((u1 &&& (2147483647 : Int32)) % (6 : Int32))), .val (.ref r1), .val (.ref sa37), .val (.ref oa), .val (.ref gs), .val (.int (1 : Int32))] [(.ref sa37), (.ref oa)])) rfl (by rw [hml]; rfl) (Steps.refl _) (argsL := [(.ref sa37)]) (rest := []) (lenOf pd_782203 rfl) rfl (by show 2 * 0 + _ ≤ _; exact Nat.le_of_eq rfl) (hb hby at_136) (fun _ _ => ⟨rfl, eq42, (by decide : 8 + 0 ≤ _), (by decide : 128 + 0 ≤ _)⟩)
      dsimp only [Pt.U, Pt.locs, Pt.cells, Pt.slots] at X43 l43 y43 z43 st43 hQ43
      subst l43 y43 z43
      obtain ⟨rfl, Nq43, eq43⟩ := hQ43
      have N43 := Fr.app N42 Nq43
      obtain ⟨cq44, kq44, q44a, q44b, q44c⟩ := isOf hZ eq43 (Eo38.ext E40)
      obtain ⟨_, _, ⟨T44, L44, k44, n44⟩, -, X44, ⟨Lc44, hQ44, l44, y44, z44⟩, st44⟩ := X43.virtualBack hx (y := (⟨"java/lang/String", "equals", "(Ljava/lang/Object;)Z"⟩ : MethodName)) (z := (⟨"java/lang/String", "equals", "(Ljava/lang/Object;)Z"⟩ : MethodName)) hown (mvT hZ (own_w hw 41 rfl)) (mvT hZ (own_w hw 21 rfl)) (notFace_of_selects (args := #[]) (mvT hZ (own_w hw 23 rfl))) (mvT hZ (own_w hw 23 rfl)) (mvT hZ (own_w hw 22 rfl)) (by decide) (backOf (W := 0) (rm_eq_fs l Z a0 hw [] oa gs zc ob ok ts ks h40 n0 Z40 (O2.ext Od40.2) hz (((Es.ext E37).keep Kq38).ext E40) (Fc38.ext E40) (((Cs.ext E37).keep Kq38 nin0).ext E40) (Fv38.ext E40) (((Us.ext E37).keep Kq38 nin0).ext E40) (Vo38.ext E40) (((As.ext E37).keep Kq38 nin0).ext E40)) hZ (own_w hw 24 rfl) (own_w hw 5 rfl) (by decide) (by decide)) q44a q44c (g := (mkF m 146 #[.val (.int u1), .val (.int ((u1 &&& (2147483647 : Int32)) % (6 : Int32))), .val (.ref r1), .val (.ref sa37), .val (.ref oa), .val (.ref gs), .val (.int (1 : Int32))] [(.ref gs), (.ref oa)])) rfl (by rw [hml]; rfl) (Steps.refl _) (argsL := [(.ref gs)]) (rest := []) (lenOf pd_782203 rfl) rfl (by show 2 * 0 + _ ≤ _; exact Nat.le_of_eq rfl) (hb hby at_146) (fun _ _ => ⟨rfl, eq43, (by decide : 8 + 0 ≤ _), (by decide : 128 + 0 ≤ _)⟩)
      dsimp only [Pt.U, Pt.locs, Pt.cells, Pt.slots] at X44 l44 y44 z44 st44 hQ44
      subst l44 y44 z44
      obtain ⟨rfl, Nq44, eq44⟩ := hQ44
      have N44 := Fr.app N43 Nq44
      obtain ⟨fs, hr, hrun, hended, hEnd⟩ := Stand.leaveW (s := s) (vm₁ := T40.vm) X44 hS40 (by rw [eq44]; exact (Nat.le_refl _)) (v := some (.int (1 : Int32))) (fun h => by rw [Bd.returns] at h; cases h)
      have hCH : CHr Z own_EL s.vm s.heap T44.vm T44.heap := by rw [hh, eq44]; exact ((((CHr.refl hC).trans CH37).trans CH38).trans CH40).trans (CHv.at (s := s) (vm0 := T40.vm) X44 hZ hEL CH40.1)
      refine ⟨_, _, pre2 _ ?_, hrun, hended, _, _, rfl, ?_, hCH, hEnd.1, hEnd.2.1, hEnd.2.2.1, hEnd.2.2.2.mono (by decide) (by decide)⟩
      · show Steps p.tables e below (s₁.setTop (mkF m 24 #[.val (.int u1), .val (.int ((u1 &&& (2147483647 : Int32)) % (6 : Int32))), .unset, .unset, .unset, .unset, .unset] [(.int (1 : Int32)), (.int ((u1 &&& (2147483647 : Int32)) % (6 : Int32)))])) _
        refine XS.icmpNo X0.here hx rfl (hb hby at_24) rfl hb24 ?_
        show Steps p.tables e below (s₁.setTop (mkF m 27 #[.val (.int u1), .val (.int ((u1 &&& (2147483647 : Int32)) % (6 : Int32))), .unset, .unset, .unset, .unset, .unset] [])) _
        refine st36 _ ?_
        show Steps p.tables e below (T36.setTop (mkF m 30 #[.val (.int u1), .val (.int ((u1 &&& (2147483647 : Int32)) % (6 : Int32))), .unset, .unset, .unset, .unset, .unset] [(.ref r1)])) _
        refine XS.astoreN X36.here hx rfl (hb hby at_30) rfl rfl (l' := #[.val (.int u1), .val (.int ((u1 &&& (2147483647 : Int32)) % (6 : Int32))), .val (.ref r1), .unset, .unset, .unset, .unset]) rfl ?_
        show Steps p.tables e below (T36.setTop (mkF m 31 #[.val (.int u1), .val (.int ((u1 &&& (2147483647 : Int32)) % (6 : Int32))), .val (.ref r1), .unset, .unset, .unset, .unset] [])) _
        refine st37 _ ?_
        show Steps p.tables e below (T37.setTop (mkF m 33 #[.val (.int u1), .val (.int ((u1 &&& (2147483647 : Int32)) % (6 : Int32))), .val (.ref r1), .unset, .unset, .unset, .unset] [(.ref sa37)])) _
        refine XS.astoreN X37.here hx rfl (hb hby at_33) rfl rfl (l' := #[.val (.int u1), .val (.int ((u1 &&& (2147483647 : Int32)) % (6 : Int32))), .val (.ref r1), .val (.ref sa37), .unset, .unset, .unset]) rfl ?_
        show Steps p.tables e below (T37.setTop (mkF m 34 #[.val (.int u1), .val (.int ((u1 &&& (2147483647 : Int32)) % (6 : Int32))), .val (.ref r1), .val (.ref sa37), .unset, .unset, .unset] [])) _
        refine XS.goto X37.here hx rfl (pc0 := 34) (pc' := 89) rfl (hb hby at_34) (by decide) (by decide) ?_
        show Steps p.tables e below (T37.setTop (mkF m 89 #[.val (.int u1), .val (.int ((u1 &&& (2147483647 : Int32)) % (6 : Int32))), .val (.ref r1), .val (.ref sa37), .unset, .unset, .unset] [])) _
        refine XS.aloadN X37.here hx rfl (hb hby at_89) rfl rfl ?_
        show Steps p.tables e below (T37.setTop (mkF m 90 #[.val (.int u1), .val (.int ((u1 &&& (2147483647 : Int32)) % (6 : Int32))), .val (.ref r1), .val (.ref sa37), .unset, .unset, .unset] [(.ref r1)])) _
        refine st38.trans ?_
        show Steps p.tables e below (T38.setTop (mkF m 93 #[.val (.int u1), .val (.int ((u1 &&& (2147483647 : Int32)) % (6 : Int32))), .val (.ref r1), .val (.ref sa37), .unset, .unset, .unset] [(.ref oa)])) _
        refine XS.astore X38.here hx rfl (hb hby at_93) rfl rfl (l' := #[.val (.int u1), .val (.int ((u1 &&& (2147483647 : Int32)) % (6 : Int32))), .val (.ref r1), .val (.ref sa37), .val (.ref oa), .unset, .unset]) rfl ?_
        show Steps p.tables e below (T38.setTop (mkF m 95 #[.val (.int u1), .val (.int ((u1 &&& (2147483647 : Int32)) % (6 : Int32))), .val (.ref r1), .val (.ref sa37), .val (.ref oa), .unset, .unset] [])) _
        refine XS.aloadN X38.here hx rfl (hb hby at_95) rfl rfl ?_
        show Steps p.tables e below (T38.setTop (mkF m 96 #[.val (.int u1), .val (.int ((u1 &&& (2147483647 : Int32)) % (6 : Int32))), .val (.ref r1), .val (.ref sa37), .val (.ref oa), .unset, .unset] [(.ref r1)])) _
        refine st39.trans ?_
        show Steps p.tables e below (T39.setTop (mkF m 99 #[.val (.int u1), .val (.int ((u1 &&& (2147483647 : Int32)) % (6 : Int32))), .val (.ref r1), .val (.ref sa37), .val (.ref oa), .unset, .unset] [(.ref gs)])) _
        refine XS.astore X39.here hx rfl (hb hby at_99) rfl rfl (l' := #[.val (.int u1), .val (.int ((u1 &&& (2147483647 : Int32)) % (6 : Int32))), .val (.ref r1), .val (.ref sa37), .val (.ref oa), .val (.ref gs), .unset]) rfl ?_
        show Steps p.tables e below (T39.setTop (mkF m 101 #[.val (.int u1), .val (.int ((u1 &&& (2147483647 : Int32)) % (6 : Int32))), .val (.ref r1), .val (.ref sa37), .val (.ref oa), .val (.ref gs), .unset] [])) _
        refine XS.aload X39.here hx rfl (hb hby at_101) rfl rfl ?_
        show Steps p.tables e below (T39.setTop (mkF m 103 #[.val (.int u1), .val (.int ((u1 &&& (2147483647 : Int32)) % (6 : Int32))), .val (.ref r1), .val (.ref sa37), .val (.ref oa), .val (.ref gs), .unset] [(.ref oa)])) _
        refine st40 _ ?_
        show Steps p.tables e below (T40.setTop (mkF m 105 #[.val (.int u1), .val (.int ((u1 &&& (2147483647 : Int32)) % (6 : Int32))), .val (.ref r1), .val (.ref sa37), .val (.ref oa), .val (.ref gs), .unset] [(.ref sa40), (.ref oa)])) _
        refine st41.trans ?_
        show Steps p.tables e below (T41.setTop (mkF m 108 #[.val (.int u1), .val (.int ((u1 &&& (2147483647 : Int32)) % (6 : Int32))), .val (.ref r1), .val (.ref sa37), .val (.ref oa), .val (.ref gs), .unset] [(.int (0 : Int32))])) _
        refine XS.ifNo X41.here hx rfl (hb hby at_108) rfl (by decide) ?_
        show Steps p.tables e below (T41.setTop (mkF m 111 #[.val (.int u1), .val (.int ((u1 &&& (2147483647 : Int32)) % (6 : Int32))), .val (.ref r1), .val (.ref sa37), .val (.ref oa), .val (.ref gs), .unset] [])) _
        refine XS.aload X41.here hx rfl (hb hby at_111) rfl rfl ?_
        show Steps p.tables e below (T41.setTop (mkF m 113 #[.val (.int u1), .val (.int ((u1 &&& (2147483647 : Int32)) % (6 : Int32))), .val (.ref r1), .val (.ref sa37), .val (.ref oa), .val (.ref gs), .unset] [(.ref oa)])) _
        refine ldcAgain (s := s) (vm0 := T40.vm) X41 hx hZ hown (own_w hw 4 rfl) Lt40_14 (g := (mkF m 113 #[.val (.int u1), .val (.int ((u1 &&& (2147483647 : Int32)) % (6 : Int32))), .val (.ref r1), .val (.ref sa37), .val (.ref oa), .val (.ref gs), .unset] [(.ref oa)])) rfl (hb hby at_113) _ ?_
        show Steps p.tables e below (T41.setTop (mkF m 115 #[.val (.int u1), .val (.int ((u1 &&& (2147483647 : Int32)) % (6 : Int32))), .val (.ref r1), .val (.ref sa37), .val (.ref oa), .val (.ref gs), .unset] [(.ref sa37), (.ref oa)])) _
        refine st42.trans ?_
        show Steps p.tables e below (T42.setTop (mkF m 118 #[.val (.int u1), .val (.int ((u1 &&& (2147483647 : Int32)) % (6 : Int32))), .val (.ref r1), .val (.ref sa37), .val (.ref oa), .val (.ref gs), .unset] [(.int (1 : Int32))])) _
        refine XS.ifNo X42.here hx rfl (hb hby at_118) rfl (by decide) ?_
        show Steps p.tables e below (T42.setTop (mkF m 121 #[.val (.int u1), .val (.int ((u1 &&& (2147483647 : Int32)) % (6 : Int32))), .val (.ref r1), .val (.ref sa37), .val (.ref oa), .val (.ref gs), .unset] [])) _
        refine XS.iconst X42.here hx rfl (hb hby at_121) ?_
        show Steps p.tables e below (T42.setTop (mkF m 122 #[.val (.int u1), .val (.int ((u1 &&& (2147483647 : Int32)) % (6 : Int32))), .val (.ref r1), .val (.ref sa37), .val (.ref oa), .val (.ref gs), .unset] [(.int (1 : Int32))])) _
        refine XS.goto X42.here hx rfl (pc0 := 122) (pc' := 126) rfl (hb hby at_122) (by decide) (by decide) ?_
        show Steps p.tables e below (T42.setTop (mkF m 126 #[.val (.int u1), .val (.int ((u1 &&& (2147483647 : Int32)) % (6 : Int32))), .val (.ref r1), .val (.ref sa37), .val (.ref oa), .val (.ref gs), .unset] [(.int (1 : Int32))])) _
        refine XS.istore X42.here hx rfl (hb hby at_126) rfl (l' := #[.val (.int u1), .val (.int ((u1 &&& (2147483647 : Int32)) % (6 : Int32))), .val (.ref r1), .val (.ref sa37), .val (.ref oa), .val (.ref gs), .val (.int (1 : Int32))]) rfl ?_
        show Steps p.tables e below (T42.setTop (mkF m 128 #[.val (.int u1), .val (.int ((u1 &&& (2147483647 : Int32)) % (6 : Int32))), .val (.ref r1), .val (.ref sa37), .val (.ref oa), .val (.ref gs), .val (.int (1 : Int32))] [])) _
        refine XS.iload X42.here hx rfl (hb hby at_128) rfl ?_
        show Steps p.tables e below (T42.setTop (mkF m 130 #[.val (.int u1), .val (.int ((u1 &&& (2147483647 : Int32)) % (6 : Int32))), .val (.ref r1), .val (.ref sa37), .val (.ref oa), .val (.ref gs), .val (.int (1 : Int32))] [(.int (1 : Int32))])) _
        refine XS.ifNo X42.here hx rfl (hb hby at_130) rfl (by decide) ?_
        show Steps p.tables e below (T42.setTop (mkF m 133 #[.val (.int u1), .val (.int ((u1 &&& (2147483647 : Int32)) % (6 : Int32))), .val (.ref r1), .val (.ref sa37), .val (.ref oa), .val (.ref gs), .val (.int (1 : Int32))] [])) _
        refine XS.aload X42.here hx rfl (hb hby at_133) rfl rfl ?_
        show Steps p.tables e below (T42.setTop (mkF m 135 #[.val (.int u1), .val (.int ((u1 &&& (2147483647 : Int32)) % (6 : Int32))), .val (.ref r1), .val (.ref sa37), .val (.ref oa), .val (.ref gs), .val (.int (1 : Int32))] [(.ref oa)])) _
        refine XS.aloadN X42.here hx rfl (hb hby at_135) rfl rfl ?_
        show Steps p.tables e below (T42.setTop (mkF m 136 #[.val (.int u1), .val (.int ((u1 &&& (2147483647 : Int32)) % (6 : Int32))), .val (.ref r1), .val (.ref sa37), .val (.ref oa), .val (.ref gs), .val (.int (1 : Int32))] [(.ref sa37), (.ref oa)])) _
        refine st43.trans ?_
        show Steps p.tables e below (T43.setTop (mkF m 139 #[.val (.int u1), .val (.int ((u1 &&& (2147483647 : Int32)) % (6 : Int32))), .val (.ref r1), .val (.ref sa37), .val (.ref oa), .val (.ref gs), .val (.int (1 : Int32))] [(.int (1 : Int32))])) _
        refine XS.ifNo X43.here hx rfl (hb hby at_139) rfl (by decide) ?_
        show Steps p.tables e below (T43.setTop (mkF m 142 #[.val (.int u1), .val (.int ((u1 &&& (2147483647 : Int32)) % (6 : Int32))), .val (.ref r1), .val (.ref sa37), .val (.ref oa), .val (.ref gs), .val (.int (1 : Int32))] [])) _
        refine XS.aload X43.here hx rfl (hb hby at_142) rfl rfl ?_
        show Steps p.tables e below (T43.setTop (mkF m 144 #[.val (.int u1), .val (.int ((u1 &&& (2147483647 : Int32)) % (6 : Int32))), .val (.ref r1), .val (.ref sa37), .val (.ref oa), .val (.ref gs), .val (.int (1 : Int32))] [(.ref oa)])) _
        refine XS.aload X43.here hx rfl (hb hby at_144) rfl rfl ?_
        show Steps p.tables e below (T43.setTop (mkF m 146 #[.val (.int u1), .val (.int ((u1 &&& (2147483647 : Int32)) % (6 : Int32))), .val (.ref r1), .val (.ref sa37), .val (.ref oa), .val (.ref gs), .val (.int (1 : Int32))] [(.ref gs), (.ref oa)])) _
        refine st44.trans ?_
        show Steps p.tables e below (T44.setTop (mkF m 149 #[.val (.int u1), .val (.int ((u1 &&& (2147483647 : Int32)) % (6 : Int32))), .val (.ref r1), .val (.ref sa37), .val (.ref oa), .val (.ref gs), .val (.int (1 : Int32))] [(.int (0 : Int32))])) _
        refine XS.ifNo X44.here hx rfl (hb hby at_149) rfl (by decide) ?_
        show Steps p.tables e below (T44.setTop (mkF m 152 #[.val (.int u1), .val (.int ((u1 &&& (2147483647 : Int32)) % (6 : Int32))), .val (.ref r1), .val (.ref sa37), .val (.ref oa), .val (.ref gs), .val (.int (1 : Int32))] [])) _
        refine XS.iconst X44.here hx rfl (hb hby at_152) ?_
        show Steps p.tables e below (T44.setTop (mkF m 153 #[.val (.int u1), .val (.int ((u1 &&& (2147483647 : Int32)) % (6 : Int32))), .val (.ref r1), .val (.ref sa37), .val (.ref oa), .val (.ref gs), .val (.int (1 : Int32))] [(.int (1 : Int32))])) _
        refine XS.goto X44.here hx rfl (pc0 := 153) (pc' := 157) rfl (hb hby at_153) (by decide) (by decide) ?_
        show Steps p.tables e below (T44.setTop (mkF m 157 #[.val (.int u1), .val (.int ((u1 &&& (2147483647 : Int32)) % (6 : Int32))), .val (.ref r1), .val (.ref sa37), .val (.ref oa), .val (.ref gs), .val (.int (1 : Int32))] [(.int (1 : Int32))])) _
        exact retN X44 hx (t := .boolean) Bd.returns (by simp) (hb hby at_157) hr
      · show Q_rm_law Z _ _ _ _ _ _ _ _ _ _ _ _ _ _ h0 n0 _ T44.heap _
        rw [eq44]
        exact ⟨rfl, N44⟩
  · obtain ⟨T45, X45, e45, st45⟩ := getS2 X0 hx hZ hown (host := "") (Or.inl (own_w hw 1 rfl)) Via.refl e0 (S0.ext X00.2) (g := (mkF m 12 #[.val (.int u1), .val (.int ((u1 &&& (2147483647 : Int32)) % (6 : Int32))), .unset, .unset, .unset, .unset, .unset] [])) rfl (hb hby at_12)
    obtain ⟨sa46, T46, h46, kc46, sb46, kb46, X46, e46, E46, hSx46, kkx46, hZ, hown, Ea46, Fc46, Fv46, Vb46, -, -, CH46, Lt46, SF46, st46⟩ := ldcCH (s := s.setVm s.vm) (vm0 := s.vm) X45 hx hZ hown (own_w hw 4 rfl) wS e45 (k0 := h0.size) ((State.WarmedH.refl (s.setVm s.vm)).since _) (Nat.le_refl _) hEL (by decide) hC (vs := [(.int (102 : Int32)), (.int (97 : Int32)), (.int (105 : Int32)), (.int (108 : Int32)), (.int (117 : Int32)), (.int (114 : Int32)), (.int (101 : Int32))]) (z := (7 : Int32)) (by decide) (by decide) (by decide) (g := (mkF m 16 #[.val (.int u1), .val (.int ((u1 &&& (2147483647 : Int32)) % (6 : Int32))), .val (.ref r0), .unset, .unset, .unset, .unset] [])) rfl (hb hby at_16) (n := 28) (by decide) (by decide) (by decide) (by decide)
    have hS46 : s.Since T46.vm h46.size := State.Since.trans hS0 (own_smono hSx46 kkx46) (Nat.le_trans (Nat.le_refl _) E46.1)
    have Z46 : n0 ≤ h46.size := Nat.le_trans Z0 E46.1
    have Od46 : Old Z n0 h46 := X00.ext E46
    obtain ⟨cq47, kq47, q47a, q47b, q47c⟩ := isOf (s := s.setVm T46.vm) hZ e46 (E0.ext E46)
    obtain ⟨_, _, ⟨T47, L47, k47, n47⟩, -, X47, hSx47, hgr47, ⟨Lc47, hQ47, l47, y47, z47, CH47⟩, st47⟩ := Stand.virtualBackS (s := s.setVm T46.vm) X46 hx (y := (⟨"com/example/guided_sim/guidedsim/model/Relation", "opposite", "()Ljava/lang/String;"⟩ : MethodName)) (z := (⟨"com/example/guided_sim/guidedsim/model/Relation", "opposite", "()Ljava/lang/String;"⟩ : MethodName)) hown (mvT hZ (own_w hw 12 rfl)) (mvT hZ (own_w hw 13 rfl)) (notFace_of_selects (args := #[]) (mvT hZ (own_w hw 15 rfl))) (mvT hZ (own_w hw 15 rfl)) (mvT hZ (own_w hw 14 rfl)) (by decide) (backOfSH (s := s) (vm0 := T46.vm) (W := 0) (rm_opp_s l Z a0 hw [] r0 gs ts ks zc h46 n0 Z46 hEL Od46 O2 hz (F0.ext E46) (Es.ext E46) (Cs.ext E46) (Us.ext E46) (As.ext E46)) hZ (own_w hw 16 rfl) (own_w hw 2 rfl) (by decide) (by decide) hEL CH46.1) q47a q47c (g := (mkF m 90 #[.val (.int u1), .val (.int ((u1 &&& (2147483647 : Int32)) % (6 : Int32))), .val (.ref r0), .val (.ref sa46), .unset, .unset, .unset] [(.ref r0)])) rfl (by rw [hml]; rfl) (Steps.refl _) (argsL := []) (rest := []) (lenOf pd_706127 rfl) rfl (by show 2 * 0 + _ ≤ _; exact Nat.le_of_eq rfl) (hb hby at_90) (fun _ _ => ⟨rfl, e46, (by decide : 2 + 4 ≤ _), (by decide : 32 + 64 ≤ _)⟩)
    dsimp only [Pt.U, Pt.locs, Pt.cells, Pt.slots] at X47 l47 y47 z47 st47 hQ47 hSx47 hgr47 CH47
    subst l47 y47 z47
    obtain ⟨oa, ob, ok, rfl, Nq47, Kq47, Eo47, Fc47, Fv47, Vo47⟩ := hQ47
    have N47 := Fr.app N0 Nq47
    have Lt47_14 : Lit (s.setVm T47.vm) "com/example/guided_sim/guidedsim/model/RelationOppositePinLaw" 14 sa46 := Lit.stays (s := s) (vm0 := T46.vm) Lt46 hSx47.1
    obtain ⟨X47, hS47, hZ, hown⟩ := rebS (s := s) hS46 (by rw [e46]; exact (Nat.le_refl _)) X47 hSx47 hgr47 hZ hown
    have Z47 : n0 ≤ T47.heap.size := Nat.le_trans Z46 Kq47.1
    have Od47 : Old Z n0 T47.heap := Od46.keep Kq47 all0
    obtain ⟨cq48, kq48, q48a, q48b, q48c⟩ := isOf hZ rfl ((E0.ext E46).keep Kq47)
    obtain ⟨_, _, ⟨T48, L48, k48, n48⟩, -, X48, ⟨Lc48, hQ48, l48, y48, z48⟩, st48⟩ := X47.virtualBack hx (y := (⟨"com/example/guided_sim/guidedsim/model/Relation", "goal", "()Ljava/lang/String;"⟩ : MethodName)) (z := (⟨"com/example/guided_sim/guidedsim/model/Relation", "goal", "()Ljava/lang/String;"⟩ : MethodName)) hown (mvT hZ (own_w hw 35 rfl)) (mvT hZ (own_w hw 36 rfl)) (notFace_of_selects (args := #[]) (mvT hZ (own_w hw 38 rfl))) (mvT hZ (own_w hw 38 rfl)) (mvT hZ (own_w hw 37 rfl)) (by decide) (backOf (W := 0) (rm_goal l Z a0 hw [] r0 gs T47.heap n0 Z47 ((F0.ext E46).keep Kq47 nin0)) hZ (own_w hw 39 rfl) (own_w hw 2 rfl) (by decide) (by decide)) q48a q48c (g := (mkF m 96 #[.val (.int u1), .val (.int ((u1 &&& (2147483647 : Int32)) % (6 : Int32))), .val (.ref r0), .val (.ref sa46), .val (.ref oa), .unset, .unset] [(.ref r0)])) rfl (by rw [hml]; rfl) (Steps.refl _) (argsL := []) (rest := []) (lenOf pd_706127 rfl) rfl (by show 2 * 0 + _ ≤ _; exact Nat.le_of_eq rfl) (hb hby at_96) (fun _ _ => ⟨rfl, rfl, (by decide : 6 + 0 ≤ _), (by decide : 96 + 0 ≤ _)⟩)
    dsimp only [Pt.U, Pt.locs, Pt.cells, Pt.slots] at X48 l48 y48 z48 st48 hQ48
    subst l48 y48 z48
    obtain ⟨rfl, Nq48, eq48⟩ := hQ48
    have N48 := Fr.app N47 Nq48
    obtain ⟨sa49, T49, h49, kc49, sb49, kb49, X49, e49, E49, hSx49, kkx49, hZ, hown, Ea49, Fc49, Fv49, Vb49, -, -, CH49, Lt49, SF49, st49⟩ := ldcCH (s := s.setVm T47.vm) (vm0 := T47.vm) X48 hx hZ hown (own_w hw 40 rfl) wS eq48 (k0 := T47.heap.size) ((State.WarmedH.refl (s.setVm T47.vm)).since _) (Nat.le_refl _) hEL (by decide) CH47.1 (vs := [(.int (115 : Int32)), (.int (117 : Int32)), (.int (99 : Int32)), (.int (99 : Int32)), (.int (101 : Int32)), (.int (115 : Int32)), (.int (115 : Int32))]) (z := (7 : Int32)) (by decide) (by decide) (by decide) (g := (mkF m 103 #[.val (.int u1), .val (.int ((u1 &&& (2147483647 : Int32)) % (6 : Int32))), .val (.ref r0), .val (.ref sa46), .val (.ref oa), .val (.ref gs), .unset] [(.ref oa)])) rfl (hb hby at_103) (n := 28) (by decide) (by decide) (by decide) (by decide)
    have hS49 : s.Since T49.vm h49.size := State.Since.trans hS47 (own_smono hSx49 kkx49) (Nat.le_trans (Nat.le_refl _) E49.1)
    have Lt49_14 : Lit (s.setVm T49.vm) "com/example/guided_sim/guidedsim/model/RelationOppositePinLaw" 14 sa46 := Lit.stays (s := s) (vm0 := T47.vm) Lt47_14 hSx49.1
    have Z49 : n0 ≤ h49.size := Nat.le_trans Z47 E49.1
    have Od49 : Old Z n0 h49 := Od47.ext E49
    obtain ⟨cq50, kq50, q50a, q50b, q50c⟩ := isOf hZ e49 (Eo47.ext E49)
    obtain ⟨_, _, ⟨T50, L50, k50, n50⟩, -, X50, ⟨Lc50, hQ50, l50, y50, z50⟩, st50⟩ := X49.virtualBack hx (y := (⟨"java/lang/String", "equals", "(Ljava/lang/Object;)Z"⟩ : MethodName)) (z := (⟨"java/lang/String", "equals", "(Ljava/lang/Object;)Z"⟩ : MethodName)) hown (mvT hZ (own_w hw 41 rfl)) (mvT hZ (own_w hw 21 rfl)) (notFace_of_selects (args := #[]) (mvT hZ (own_w hw 23 rfl))) (mvT hZ (own_w hw 23 rfl)) (mvT hZ (own_w hw 22 rfl)) (by decide) (backOf (W := 0) (rm_eq_fs l Z a0 hw [] oa sa49 zc ob ok sb49 kb49 h49 n0 Z49 (O2.ext Od49.2) hz Ea49 (Fc47.ext E49) Fc49 (Fv47.ext E49) Fv49 (Vo47.ext E49) Vb49) hZ (own_w hw 24 rfl) (own_w hw 5 rfl) (by decide) (by decide)) q50a q50c (g := (mkF m 105 #[.val (.int u1), .val (.int ((u1 &&& (2147483647 : Int32)) % (6 : Int32))), .val (.ref r0), .val (.ref sa46), .val (.ref oa), .val (.ref gs), .unset] [(.ref sa49), (.ref oa)])) rfl (by rw [hml]; rfl) (Steps.refl _) (argsL := [(.ref sa49)]) (rest := []) (lenOf pd_782203 rfl) rfl (by show 2 * 0 + _ ≤ _; exact Nat.le_of_eq rfl) (hb hby at_105) (fun _ _ => ⟨rfl, e49, (by decide : 8 + 0 ≤ _), (by decide : 128 + 0 ≤ _)⟩)
    dsimp only [Pt.U, Pt.locs, Pt.cells, Pt.slots] at X50 l50 y50 z50 st50 hQ50
    subst l50 y50 z50
    obtain ⟨rfl, Nq50, eq50⟩ := hQ50
    have N50 := Fr.app N48 Nq50
    obtain ⟨cq51, kq51, q51a, q51b, q51c⟩ := isOf hZ eq50 (Eo47.ext E49)
    obtain ⟨_, _, ⟨T51, L51, k51, n51⟩, -, X51, ⟨Lc51, hQ51, l51, y51, z51⟩, st51⟩ := X50.virtualBack hx (y := (⟨"java/lang/String", "equals", "(Ljava/lang/Object;)Z"⟩ : MethodName)) (z := (⟨"java/lang/String", "equals", "(Ljava/lang/Object;)Z"⟩ : MethodName)) hown (mvT hZ (own_w hw 41 rfl)) (mvT hZ (own_w hw 21 rfl)) (notFace_of_selects (args := #[]) (mvT hZ (own_w hw 23 rfl))) (mvT hZ (own_w hw 23 rfl)) (mvT hZ (own_w hw 22 rfl)) (by decide) (backOf (W := 0) (rm_eq_ff l Z a0 hw [] oa sa46 zc ob ok sb46 kb46 h49 n0 Z49 (O2.ext Od49.2) hz ((Ea46.keep Kq47).ext E49) (Fc47.ext E49) ((Fc46.keep Kq47 nin0).ext E49) (Fv47.ext E49) ((Fv46.keep Kq47 nin0).ext E49) (Vo47.ext E49) ((Vb46.keep Kq47 nin0).ext E49)) hZ (own_w hw 24 rfl) (own_w hw 5 rfl) (by decide) (by decide)) q51a q51c (g := (mkF m 115 #[.val (.int u1), .val (.int ((u1 &&& (2147483647 : Int32)) % (6 : Int32))), .val (.ref r0), .val (.ref sa46), .val (.ref oa), .val (.ref gs), .unset] [(.ref sa46), (.ref oa)])) rfl (by rw [hml]; rfl) (Steps.refl _) (argsL := [(.ref sa46)]) (rest := []) (lenOf pd_782203 rfl) rfl (by show 2 * 0 + _ ≤ _; exact Nat.le_of_eq rfl) (hb hby at_115) (fun _ _ => ⟨rfl, eq50, (by decide : 8 + 0 ≤ _), (by decide : 128 + 0 ≤ _)⟩)
    dsimp only [Pt.U, Pt.locs, Pt.cells, Pt.slots] at X51 l51 y51 z51 st51 hQ51
    subst l51 y51 z51
    obtain ⟨rfl, Nq51, eq51⟩ := hQ51
    have N51 := Fr.app N50 Nq51
    obtain ⟨cq52, kq52, q52a, q52b, q52c⟩ := isOf hZ eq51 (Eo47.ext E49)
    obtain ⟨_, _, ⟨T52, L52, k52, n52⟩, -, X52, ⟨Lc52, hQ52, l52, y52, z52⟩, st52⟩ := X51.virtualBack hx (y := (⟨"java/lang/String", "equals", "(Ljava/lang/Object;)Z"⟩ : MethodName)) (z := (⟨"java/lang/String", "equals", "(Ljava/lang/Object;)Z"⟩ : MethodName)) hown (mvT hZ (own_w hw 41 rfl)) (mvT hZ (own_w hw 21 rfl)) (notFace_of_selects (args := #[]) (mvT hZ (own_w hw 23 rfl))) (mvT hZ (own_w hw 23 rfl)) (mvT hZ (own_w hw 22 rfl)) (by decide) (backOf (W := 0) (rm_eq_ff l Z a0 hw [] oa sa46 zc ob ok sb46 kb46 h49 n0 Z49 (O2.ext Od49.2) hz ((Ea46.keep Kq47).ext E49) (Fc47.ext E49) ((Fc46.keep Kq47 nin0).ext E49) (Fv47.ext E49) ((Fv46.keep Kq47 nin0).ext E49) (Vo47.ext E49) ((Vb46.keep Kq47 nin0).ext E49)) hZ (own_w hw 24 rfl) (own_w hw 5 rfl) (by decide) (by decide)) q52a q52c (g := (mkF m 136 #[.val (.int u1), .val (.int ((u1 &&& (2147483647 : Int32)) % (6 : Int32))), .val (.ref r0), .val (.ref sa46), .val (.ref oa), .val (.ref gs), .val (.int (1 : Int32))] [(.ref sa46), (.ref oa)])) rfl (by rw [hml]; rfl) (Steps.refl _) (argsL := [(.ref sa46)]) (rest := []) (lenOf pd_782203 rfl) rfl (by show 2 * 0 + _ ≤ _; exact Nat.le_of_eq rfl) (hb hby at_136) (fun _ _ => ⟨rfl, eq51, (by decide : 8 + 0 ≤ _), (by decide : 128 + 0 ≤ _)⟩)
    dsimp only [Pt.U, Pt.locs, Pt.cells, Pt.slots] at X52 l52 y52 z52 st52 hQ52
    subst l52 y52 z52
    obtain ⟨rfl, Nq52, eq52⟩ := hQ52
    have N52 := Fr.app N51 Nq52
    obtain ⟨cq53, kq53, q53a, q53b, q53c⟩ := isOf hZ eq52 (Eo47.ext E49)
    obtain ⟨_, _, ⟨T53, L53, k53, n53⟩, -, X53, ⟨Lc53, hQ53, l53, y53, z53⟩, st53⟩ := X52.virtualBack hx (y := (⟨"java/lang/String", "equals", "(Ljava/lang/Object;)Z"⟩ : MethodName)) (z := (⟨"java/lang/String", "equals", "(Ljava/lang/Object;)Z"⟩ : MethodName)) hown (mvT hZ (own_w hw 41 rfl)) (mvT hZ (own_w hw 21 rfl)) (notFace_of_selects (args := #[]) (mvT hZ (own_w hw 23 rfl))) (mvT hZ (own_w hw 23 rfl)) (mvT hZ (own_w hw 22 rfl)) (by decide) (backOf (W := 0) (rm_eq_fs l Z a0 hw [] oa gs zc ob ok ts ks h49 n0 Z49 (O2.ext Od49.2) hz (((Es.ext E46).keep Kq47).ext E49) (Fc47.ext E49) (((Cs.ext E46).keep Kq47 nin0).ext E49) (Fv47.ext E49) (((Us.ext E46).keep Kq47 nin0).ext E49) (Vo47.ext E49) (((As.ext E46).keep Kq47 nin0).ext E49)) hZ (own_w hw 24 rfl) (own_w hw 5 rfl) (by decide) (by decide)) q53a q53c (g := (mkF m 146 #[.val (.int u1), .val (.int ((u1 &&& (2147483647 : Int32)) % (6 : Int32))), .val (.ref r0), .val (.ref sa46), .val (.ref oa), .val (.ref gs), .val (.int (1 : Int32))] [(.ref gs), (.ref oa)])) rfl (by rw [hml]; rfl) (Steps.refl _) (argsL := [(.ref gs)]) (rest := []) (lenOf pd_782203 rfl) rfl (by show 2 * 0 + _ ≤ _; exact Nat.le_of_eq rfl) (hb hby at_146) (fun _ _ => ⟨rfl, eq52, (by decide : 8 + 0 ≤ _), (by decide : 128 + 0 ≤ _)⟩)
    dsimp only [Pt.U, Pt.locs, Pt.cells, Pt.slots] at X53 l53 y53 z53 st53 hQ53
    subst l53 y53 z53
    obtain ⟨rfl, Nq53, eq53⟩ := hQ53
    have N53 := Fr.app N52 Nq53
    obtain ⟨fs, hr, hrun, hended, hEnd⟩ := Stand.leaveW (s := s) (vm₁ := T49.vm) X53 hS49 (by rw [eq53]; exact (Nat.le_refl _)) (v := some (.int (1 : Int32))) (fun h => by rw [Bd.returns] at h; cases h)
    have hCH : CHr Z own_EL s.vm s.heap T53.vm T53.heap := by rw [hh, eq53]; exact ((((CHr.refl hC).trans CH46).trans CH47).trans CH49).trans (CHv.at (s := s) (vm0 := T49.vm) X53 hZ hEL CH49.1)
    refine ⟨_, _, pre1 _ ?_, hrun, hended, _, _, rfl, ?_, hCH, hEnd.1, hEnd.2.1, hEnd.2.2.1, hEnd.2.2.2.mono (by decide) (by decide)⟩
    · show Steps p.tables e below (s₁.setTop (mkF m 9 #[.val (.int u1), .val (.int ((u1 &&& (2147483647 : Int32)) % (6 : Int32))), .unset, .unset, .unset, .unset, .unset] [(.int ((u1 &&& (2147483647 : Int32)) % (6 : Int32)))])) _
      refine XS.ifNo X0.here hx rfl (hb hby at_9) rfl hb9 ?_
      show Steps p.tables e below (s₁.setTop (mkF m 12 #[.val (.int u1), .val (.int ((u1 &&& (2147483647 : Int32)) % (6 : Int32))), .unset, .unset, .unset, .unset, .unset] [])) _
      refine st45 _ ?_
      show Steps p.tables e below (T45.setTop (mkF m 15 #[.val (.int u1), .val (.int ((u1 &&& (2147483647 : Int32)) % (6 : Int32))), .unset, .unset, .unset, .unset, .unset] [(.ref r0)])) _
      refine XS.astoreN X45.here hx rfl (hb hby at_15) rfl rfl (l' := #[.val (.int u1), .val (.int ((u1 &&& (2147483647 : Int32)) % (6 : Int32))), .val (.ref r0), .unset, .unset, .unset, .unset]) rfl ?_
      show Steps p.tables e below (T45.setTop (mkF m 16 #[.val (.int u1), .val (.int ((u1 &&& (2147483647 : Int32)) % (6 : Int32))), .val (.ref r0), .unset, .unset, .unset, .unset] [])) _
      refine st46 _ ?_
      show Steps p.tables e below (T46.setTop (mkF m 18 #[.val (.int u1), .val (.int ((u1 &&& (2147483647 : Int32)) % (6 : Int32))), .val (.ref r0), .unset, .unset, .unset, .unset] [(.ref sa46)])) _
      refine XS.astoreN X46.here hx rfl (hb hby at_18) rfl rfl (l' := #[.val (.int u1), .val (.int ((u1 &&& (2147483647 : Int32)) % (6 : Int32))), .val (.ref r0), .val (.ref sa46), .unset, .unset, .unset]) rfl ?_
      show Steps p.tables e below (T46.setTop (mkF m 19 #[.val (.int u1), .val (.int ((u1 &&& (2147483647 : Int32)) % (6 : Int32))), .val (.ref r0), .val (.ref sa46), .unset, .unset, .unset] [])) _
      refine XS.goto X46.here hx rfl (pc0 := 19) (pc' := 89) rfl (hb hby at_19) (by decide) (by decide) ?_
      show Steps p.tables e below (T46.setTop (mkF m 89 #[.val (.int u1), .val (.int ((u1 &&& (2147483647 : Int32)) % (6 : Int32))), .val (.ref r0), .val (.ref sa46), .unset, .unset, .unset] [])) _
      refine XS.aloadN X46.here hx rfl (hb hby at_89) rfl rfl ?_
      show Steps p.tables e below (T46.setTop (mkF m 90 #[.val (.int u1), .val (.int ((u1 &&& (2147483647 : Int32)) % (6 : Int32))), .val (.ref r0), .val (.ref sa46), .unset, .unset, .unset] [(.ref r0)])) _
      refine st47.trans ?_
      show Steps p.tables e below (T47.setTop (mkF m 93 #[.val (.int u1), .val (.int ((u1 &&& (2147483647 : Int32)) % (6 : Int32))), .val (.ref r0), .val (.ref sa46), .unset, .unset, .unset] [(.ref oa)])) _
      refine XS.astore X47.here hx rfl (hb hby at_93) rfl rfl (l' := #[.val (.int u1), .val (.int ((u1 &&& (2147483647 : Int32)) % (6 : Int32))), .val (.ref r0), .val (.ref sa46), .val (.ref oa), .unset, .unset]) rfl ?_
      show Steps p.tables e below (T47.setTop (mkF m 95 #[.val (.int u1), .val (.int ((u1 &&& (2147483647 : Int32)) % (6 : Int32))), .val (.ref r0), .val (.ref sa46), .val (.ref oa), .unset, .unset] [])) _
      refine XS.aloadN X47.here hx rfl (hb hby at_95) rfl rfl ?_
      show Steps p.tables e below (T47.setTop (mkF m 96 #[.val (.int u1), .val (.int ((u1 &&& (2147483647 : Int32)) % (6 : Int32))), .val (.ref r0), .val (.ref sa46), .val (.ref oa), .unset, .unset] [(.ref r0)])) _
      refine st48.trans ?_
      show Steps p.tables e below (T48.setTop (mkF m 99 #[.val (.int u1), .val (.int ((u1 &&& (2147483647 : Int32)) % (6 : Int32))), .val (.ref r0), .val (.ref sa46), .val (.ref oa), .unset, .unset] [(.ref gs)])) _
      refine XS.astore X48.here hx rfl (hb hby at_99) rfl rfl (l' := #[.val (.int u1), .val (.int ((u1 &&& (2147483647 : Int32)) % (6 : Int32))), .val (.ref r0), .val (.ref sa46), .val (.ref oa), .val (.ref gs), .unset]) rfl ?_
      show Steps p.tables e below (T48.setTop (mkF m 101 #[.val (.int u1), .val (.int ((u1 &&& (2147483647 : Int32)) % (6 : Int32))), .val (.ref r0), .val (.ref sa46), .val (.ref oa), .val (.ref gs), .unset] [])) _
      refine XS.aload X48.here hx rfl (hb hby at_101) rfl rfl ?_
      show Steps p.tables e below (T48.setTop (mkF m 103 #[.val (.int u1), .val (.int ((u1 &&& (2147483647 : Int32)) % (6 : Int32))), .val (.ref r0), .val (.ref sa46), .val (.ref oa), .val (.ref gs), .unset] [(.ref oa)])) _
      refine st49 _ ?_
      show Steps p.tables e below (T49.setTop (mkF m 105 #[.val (.int u1), .val (.int ((u1 &&& (2147483647 : Int32)) % (6 : Int32))), .val (.ref r0), .val (.ref sa46), .val (.ref oa), .val (.ref gs), .unset] [(.ref sa49), (.ref oa)])) _
      refine st50.trans ?_
      show Steps p.tables e below (T50.setTop (mkF m 108 #[.val (.int u1), .val (.int ((u1 &&& (2147483647 : Int32)) % (6 : Int32))), .val (.ref r0), .val (.ref sa46), .val (.ref oa), .val (.ref gs), .unset] [(.int (0 : Int32))])) _
      refine XS.ifNo X50.here hx rfl (hb hby at_108) rfl (by decide) ?_
      show Steps p.tables e below (T50.setTop (mkF m 111 #[.val (.int u1), .val (.int ((u1 &&& (2147483647 : Int32)) % (6 : Int32))), .val (.ref r0), .val (.ref sa46), .val (.ref oa), .val (.ref gs), .unset] [])) _
      refine XS.aload X50.here hx rfl (hb hby at_111) rfl rfl ?_
      show Steps p.tables e below (T50.setTop (mkF m 113 #[.val (.int u1), .val (.int ((u1 &&& (2147483647 : Int32)) % (6 : Int32))), .val (.ref r0), .val (.ref sa46), .val (.ref oa), .val (.ref gs), .unset] [(.ref oa)])) _
      refine ldcAgain (s := s) (vm0 := T49.vm) X50 hx hZ hown (own_w hw 4 rfl) Lt49_14 (g := (mkF m 113 #[.val (.int u1), .val (.int ((u1 &&& (2147483647 : Int32)) % (6 : Int32))), .val (.ref r0), .val (.ref sa46), .val (.ref oa), .val (.ref gs), .unset] [(.ref oa)])) rfl (hb hby at_113) _ ?_
      show Steps p.tables e below (T50.setTop (mkF m 115 #[.val (.int u1), .val (.int ((u1 &&& (2147483647 : Int32)) % (6 : Int32))), .val (.ref r0), .val (.ref sa46), .val (.ref oa), .val (.ref gs), .unset] [(.ref sa46), (.ref oa)])) _
      refine st51.trans ?_
      show Steps p.tables e below (T51.setTop (mkF m 118 #[.val (.int u1), .val (.int ((u1 &&& (2147483647 : Int32)) % (6 : Int32))), .val (.ref r0), .val (.ref sa46), .val (.ref oa), .val (.ref gs), .unset] [(.int (1 : Int32))])) _
      refine XS.ifNo X51.here hx rfl (hb hby at_118) rfl (by decide) ?_
      show Steps p.tables e below (T51.setTop (mkF m 121 #[.val (.int u1), .val (.int ((u1 &&& (2147483647 : Int32)) % (6 : Int32))), .val (.ref r0), .val (.ref sa46), .val (.ref oa), .val (.ref gs), .unset] [])) _
      refine XS.iconst X51.here hx rfl (hb hby at_121) ?_
      show Steps p.tables e below (T51.setTop (mkF m 122 #[.val (.int u1), .val (.int ((u1 &&& (2147483647 : Int32)) % (6 : Int32))), .val (.ref r0), .val (.ref sa46), .val (.ref oa), .val (.ref gs), .unset] [(.int (1 : Int32))])) _
      refine XS.goto X51.here hx rfl (pc0 := 122) (pc' := 126) rfl (hb hby at_122) (by decide) (by decide) ?_
      show Steps p.tables e below (T51.setTop (mkF m 126 #[.val (.int u1), .val (.int ((u1 &&& (2147483647 : Int32)) % (6 : Int32))), .val (.ref r0), .val (.ref sa46), .val (.ref oa), .val (.ref gs), .unset] [(.int (1 : Int32))])) _
      refine XS.istore X51.here hx rfl (hb hby at_126) rfl (l' := #[.val (.int u1), .val (.int ((u1 &&& (2147483647 : Int32)) % (6 : Int32))), .val (.ref r0), .val (.ref sa46), .val (.ref oa), .val (.ref gs), .val (.int (1 : Int32))]) rfl ?_
      show Steps p.tables e below (T51.setTop (mkF m 128 #[.val (.int u1), .val (.int ((u1 &&& (2147483647 : Int32)) % (6 : Int32))), .val (.ref r0), .val (.ref sa46), .val (.ref oa), .val (.ref gs), .val (.int (1 : Int32))] [])) _
      refine XS.iload X51.here hx rfl (hb hby at_128) rfl ?_
      show Steps p.tables e below (T51.setTop (mkF m 130 #[.val (.int u1), .val (.int ((u1 &&& (2147483647 : Int32)) % (6 : Int32))), .val (.ref r0), .val (.ref sa46), .val (.ref oa), .val (.ref gs), .val (.int (1 : Int32))] [(.int (1 : Int32))])) _
      refine XS.ifNo X51.here hx rfl (hb hby at_130) rfl (by decide) ?_
      show Steps p.tables e below (T51.setTop (mkF m 133 #[.val (.int u1), .val (.int ((u1 &&& (2147483647 : Int32)) % (6 : Int32))), .val (.ref r0), .val (.ref sa46), .val (.ref oa), .val (.ref gs), .val (.int (1 : Int32))] [])) _
      refine XS.aload X51.here hx rfl (hb hby at_133) rfl rfl ?_
      show Steps p.tables e below (T51.setTop (mkF m 135 #[.val (.int u1), .val (.int ((u1 &&& (2147483647 : Int32)) % (6 : Int32))), .val (.ref r0), .val (.ref sa46), .val (.ref oa), .val (.ref gs), .val (.int (1 : Int32))] [(.ref oa)])) _
      refine XS.aloadN X51.here hx rfl (hb hby at_135) rfl rfl ?_
      show Steps p.tables e below (T51.setTop (mkF m 136 #[.val (.int u1), .val (.int ((u1 &&& (2147483647 : Int32)) % (6 : Int32))), .val (.ref r0), .val (.ref sa46), .val (.ref oa), .val (.ref gs), .val (.int (1 : Int32))] [(.ref sa46), (.ref oa)])) _
      refine st52.trans ?_
      show Steps p.tables e below (T52.setTop (mkF m 139 #[.val (.int u1), .val (.int ((u1 &&& (2147483647 : Int32)) % (6 : Int32))), .val (.ref r0), .val (.ref sa46), .val (.ref oa), .val (.ref gs), .val (.int (1 : Int32))] [(.int (1 : Int32))])) _
      refine XS.ifNo X52.here hx rfl (hb hby at_139) rfl (by decide) ?_
      show Steps p.tables e below (T52.setTop (mkF m 142 #[.val (.int u1), .val (.int ((u1 &&& (2147483647 : Int32)) % (6 : Int32))), .val (.ref r0), .val (.ref sa46), .val (.ref oa), .val (.ref gs), .val (.int (1 : Int32))] [])) _
      refine XS.aload X52.here hx rfl (hb hby at_142) rfl rfl ?_
      show Steps p.tables e below (T52.setTop (mkF m 144 #[.val (.int u1), .val (.int ((u1 &&& (2147483647 : Int32)) % (6 : Int32))), .val (.ref r0), .val (.ref sa46), .val (.ref oa), .val (.ref gs), .val (.int (1 : Int32))] [(.ref oa)])) _
      refine XS.aload X52.here hx rfl (hb hby at_144) rfl rfl ?_
      show Steps p.tables e below (T52.setTop (mkF m 146 #[.val (.int u1), .val (.int ((u1 &&& (2147483647 : Int32)) % (6 : Int32))), .val (.ref r0), .val (.ref sa46), .val (.ref oa), .val (.ref gs), .val (.int (1 : Int32))] [(.ref gs), (.ref oa)])) _
      refine st53.trans ?_
      show Steps p.tables e below (T53.setTop (mkF m 149 #[.val (.int u1), .val (.int ((u1 &&& (2147483647 : Int32)) % (6 : Int32))), .val (.ref r0), .val (.ref sa46), .val (.ref oa), .val (.ref gs), .val (.int (1 : Int32))] [(.int (0 : Int32))])) _
      refine XS.ifNo X53.here hx rfl (hb hby at_149) rfl (by decide) ?_
      show Steps p.tables e below (T53.setTop (mkF m 152 #[.val (.int u1), .val (.int ((u1 &&& (2147483647 : Int32)) % (6 : Int32))), .val (.ref r0), .val (.ref sa46), .val (.ref oa), .val (.ref gs), .val (.int (1 : Int32))] [])) _
      refine XS.iconst X53.here hx rfl (hb hby at_152) ?_
      show Steps p.tables e below (T53.setTop (mkF m 153 #[.val (.int u1), .val (.int ((u1 &&& (2147483647 : Int32)) % (6 : Int32))), .val (.ref r0), .val (.ref sa46), .val (.ref oa), .val (.ref gs), .val (.int (1 : Int32))] [(.int (1 : Int32))])) _
      refine XS.goto X53.here hx rfl (pc0 := 153) (pc' := 157) rfl (hb hby at_153) (by decide) (by decide) ?_
      show Steps p.tables e below (T53.setTop (mkF m 157 #[.val (.int u1), .val (.int ((u1 &&& (2147483647 : Int32)) % (6 : Int32))), .val (.ref r0), .val (.ref sa46), .val (.ref oa), .val (.ref gs), .val (.int (1 : Int32))] [(.int (1 : Int32))])) _
      exact retN X53 hx (t := .boolean) Bd.returns (by simp) (hb hby at_157) hr
    · show Q_rm_law Z _ _ _ _ _ _ _ _ _ _ _ _ _ _ h0 n0 _ T53.heap _
      rw [eq53]
      exact ⟨rfl, N53⟩
theorem own_ord {s : State} {args : Array Value} {t : Term} {a : Addr} {C n d : String} {k : Int32} (ht : t.eval args s none [] s = some (.ref a)) (h : (Jvm.Cond.eq (.field t C n d) (.int k)).value args s none s [] = some true) : Fld s s.heap a C n d (.int k) := by
  refine Fld.start ?_
  rw [← fld_at ht]
  exact eqv_i (Term.int_eval k) h
theorem own_ref {s : State} {args : Array Value} {t u : Term} {a b : Addr} {C n d : String} (ht : t.eval args s none [] s = some (.ref a)) (hu : u.eval args s none [] s = some (.ref b)) (h : (Jvm.Cond.eq (.field t C n d) u).value args s none s [] = some true) : Fld s s.heap a C n d (.ref b) := by
  obtain ⟨x, y, ex, ey, kin⟩ := cmp_v (Or.inl h)
  cases hu.symm.trans ey
  refine Fld.start ?_
  rw [← fld_at ht, ex]
  cases x <;> simp [Cond.value, ex, hu] at h
  rw [h]
theorem own_el {s : State} {args : Array Value} {t : Term} {a : Addr} {cl : Cell} {i k : Int32} (ht : t.eval args s none [] s = some (.ref a)) (A : Arr s s.heap a cl .byte) (hi : ¬ i < 0) (h : (Jvm.Cond.eq (.elem t (.int i)) (.int k)).value args s none s [] = some true) : cl.slots[i.toNatClampNeg]? = some (.int k) := by
  have e := eqv_i (Term.int_eval k) h
  rw [elem_f ht (Term.int_eval i) (Arr.fin (State.WarmedH.refl s).alike A) hi] at e
  exact e
theorem own_arv {s : State} {args : Array Value} {t : Term} {a : Addr} {cl : Cell} {vs : List Value} (hf : Fit s) (ht : t.eval args s none [] s = some (.ref a)) (A : Arr s s.heap a cl .byte) (h : (Jvm.Cond.eq (.length t) (.int (7 : Int32))).value args s none s [] = some true) (hl : (7 : Int32).toNatClampNeg = vs.length) (H : HasL cl 0 vs) : Arv s s.heap a cl.cls .byte (7 : Int32) vs (.int (0 : Int32)) := by
  have e := eqv_i (Term.int_eval (7 : Int32)) h
  have ha := Arr.fin (State.WarmedH.refl s).alike A
  by_cases hlt : cl.slots.size < 2 ^ 31
  · rw [len_f ht ha hlt] at e
    exact Arv.start hf A hlt (Value.int.inj (Option.some.inj e)) (by decide) hl H
  · simp [Term.eval, ht, ha, hlt] at e
set_option maxRecDepth 65536 in
set_option maxHeartbeats 40000000 in
theorem comes_1 {Post : Tables → Env → Array Value → State → Outcome → State → Prop} (hpost : ∀ tb e args s v u, (limb_1_1.after args s (.returned v) u = true ∧ limb_1_2.after args s (.returned v) u = true ∧ True) → ReturnedEndW s (.returned v) u (Jvm.fieldLocs frame_1_writes args s ++ Jvm.arrayLocs frame_1_arrays args s ++ Jvm.staticLocs frame_1_statics s) 8 4160 → Post tb e args s (.returned v) u) :
    ArmFor flags0 classFile x code maxLocals ret World_1 tables_1 room_1 Calls_1 rest_1 Pre_1 Post := by
  intro l hfl _ _ p e ha hc hk s m args below hf hA hF happ hP
  obtain ⟨hcalls, hrest, hpre⟩ := hP
  obtain ⟨-, -, -, hnamed, -, -, -, hat⟩ := (Spec.applies_iff hf).mp happ
  obtain ⟨hg, hn⟩ := and_e (Cond.before_iff.mp (show (Jvm.Cond.and given_1 narrow_1).before args s = true from hpre))
  obtain ⟨ha0, hb0⟩ := and_e hg
  obtain ⟨w0, rfl⟩ : ∃ w0 : Value, args = #[w0] := by
    have hs : args.size = 1 := by simpa [Cond.value, given_1] using ha0
    obtain ⟨L⟩ := args
    match L, hs with
    | [w0], _ => exact ⟨w0, rfl⟩
  have hw := fun d (hd : d ∈ tables_1) => atoms_spec (ws := Jvm.Cond.code x code maxLocals ret :: tables_1) hat d (List.mem_cons_of_mem _ hd)
  have hfit : Fit s := fun {y c} hc i hi => by
    obtain ⟨ha, rfl⟩ := Array.getElem?_eq_some_iff.mp hc
    have q := List.all_eq_true.mp ((Array.all_eq_true_iff_forall_mem.mp hF) _ (Array.getElem_mem ha)) i (List.mem_range.mpr hi)
    simpa [Array.getElem?_eq_getElem hi] using q
  obtain ⟨hsets, hown0⟩ := atoms_of _ (rest_1_c_eq ▸ (show rest_1_c.before _ s = true from hrest))
  have hr0 := Cond.before_iff.mp hown0
  obtain ⟨i0, ei0⟩ := is_v hb0
  obtain rfl : w0 = (.int i0) := Option.some.inj ei0
  obtain ⟨m0, t0⟩ := and_e hn
  obtain ⟨m1, t1⟩ := and_e t0
  obtain ⟨m2, t2⟩ := and_e t1
  obtain ⟨m3, t3⟩ := and_e t2
  obtain ⟨m4, t4⟩ := and_e t3
  obtain ⟨m5, t5⟩ := and_e t4
  obtain ⟨m6, t6⟩ := and_e t5
  obtain ⟨m7, t7⟩ := and_e t6
  obtain ⟨m8, t8⟩ := and_e t7
  obtain ⟨m9, t9⟩ := and_e t8
  obtain ⟨m10, t10⟩ := and_e t9
  obtain ⟨m11, t11⟩ := and_e t10
  obtain ⟨m12, t12⟩ := and_e t11
  obtain ⟨m13, t13⟩ := and_e t12
  obtain ⟨m14, t14⟩ := and_e t13
  obtain ⟨m15, t15⟩ := and_e t14
  obtain ⟨m16, t16⟩ := and_e t15
  obtain ⟨m17, t17⟩ := and_e t16
  obtain ⟨m18, t18⟩ := and_e t17
  obtain ⟨m19, t19⟩ := and_e t18
  obtain ⟨m20, t20⟩ := and_e t19
  obtain ⟨m21, t21⟩ := and_e t20
  obtain ⟨m22, t22⟩ := and_e t21
  obtain ⟨m23, t23⟩ := and_e t22
  obtain ⟨m24, t24⟩ := and_e t23
  obtain ⟨m25, t25⟩ := and_e t24
  obtain ⟨m26, t26⟩ := and_e t25
  obtain ⟨m27, t27⟩ := and_e t26
  obtain ⟨m28, t28⟩ := and_e t27
  obtain ⟨m29, t29⟩ := and_e t28
  obtain ⟨m30, t30⟩ := and_e t29
  have m31 := t30
  have n5 := not_v (Cond.before_iff.mp (hsets _ (List.mem_of_getElem? (i := 2) rfl)))
  obtain ⟨zc, e10⟩ := is_v (Cond.before_iff.mp (hsets _ (List.mem_of_getElem? (i := 1) rfl)))
  have S12 : Sta s s.heap "java/lang/String" "COMPACT_STRINGS" "Z" (.int zc) := Sta.start e10 (Or.inl (hsets _ (List.mem_of_getElem? (i := 0) rfl)))
  have c17 : ¬ (zc = (0 : Int32)) := gotF (Cond.eq_ints e10 (Term.int_eval (0))) n5
  obtain ⟨r0, er0⟩ := exa_v m0
  have S0 : Sta s s.heap "com/example/guided_sim/guidedsim/model/Relation" "WEAK_FEASIBILITY" "Lcom/example/guided_sim/guidedsim/model/Relation;" (.ref r0) := Sta.start er0 (Or.inr ⟨(own_w hw 2 rfl), (own_w hw 3 rfl)⟩)
  have E0 : Exa s s.heap r0 "com/example/guided_sim/guidedsim/model/Relation" := Exa.start er0 m0
  obtain ⟨r1, er1⟩ := exa_v m12
  have S1 : Sta s s.heap "com/example/guided_sim/guidedsim/model/Relation" "STRONG_FEASIBILITY" "Lcom/example/guided_sim/guidedsim/model/Relation;" (.ref r1) := Sta.start er1 (Or.inr ⟨(own_w hw 2 rfl), (own_w hw 47 rfl)⟩)
  have E1 : Exa s s.heap r1 "com/example/guided_sim/guidedsim/model/Relation" := Exa.start er1 m12
  obtain ⟨r2, er2⟩ := exa_v m10
  have S2 : Sta s s.heap "com/example/guided_sim/guidedsim/model/Relation" "WEAK_REFUTABILITY" "Lcom/example/guided_sim/guidedsim/model/Relation;" (.ref r2) := Sta.start er2 (Or.inr ⟨(own_w hw 2 rfl), (own_w hw 45 rfl)⟩)
  have E2 : Exa s s.heap r2 "com/example/guided_sim/guidedsim/model/Relation" := Exa.start er2 m10
  obtain ⟨r3, er3⟩ := exa_v m5
  have S3 : Sta s s.heap "com/example/guided_sim/guidedsim/model/Relation" "STRONG_REFUTABILITY" "Lcom/example/guided_sim/guidedsim/model/Relation;" (.ref r3) := Sta.start er3 (Or.inr ⟨(own_w hw 2 rfl), (own_w hw 43 rfl)⟩)
  have E3 : Exa s s.heap r3 "com/example/guided_sim/guidedsim/model/Relation" := Exa.start er3 m5
  obtain ⟨r4, er4⟩ := exa_v m16
  have S4 : Sta s s.heap "com/example/guided_sim/guidedsim/model/Relation" "CERTAINTY" "Lcom/example/guided_sim/guidedsim/model/Relation;" (.ref r4) := Sta.start er4 (Or.inr ⟨(own_w hw 2 rfl), (own_w hw 51 rfl)⟩)
  have E4 : Exa s s.heap r4 "com/example/guided_sim/guidedsim/model/Relation" := Exa.start er4 m16
  obtain ⟨r5, er5⟩ := exa_v m14
  have S5 : Sta s s.heap "com/example/guided_sim/guidedsim/model/Relation" "IMPOSSIBILITY" "Lcom/example/guided_sim/guidedsim/model/Relation;" (.ref r5) := Sta.start er5 (Or.inr ⟨(own_w hw 2 rfl), (own_w hw 49 rfl)⟩)
  have E5 : Exa s s.heap r5 "com/example/guided_sim/guidedsim/model/Relation" := Exa.start er5 m14
  obtain ⟨gs, egs⟩ := exa_v m1
  have F0 : Fld s s.heap r0 "com/example/guided_sim/guidedsim/model/Relation" "goal" "Ljava/lang/String;" (.ref gs) := Fld.start ((fld_at er0).symm.trans egs)
  have Es : Exa s s.heap gs "java/lang/String" := Exa.start egs m1
  have Cs : Fld s s.heap gs "java/lang/String" "coder" "B" (.int (0 : Int32)) := own_ord egs m2
  obtain ⟨ts, ets⟩ := arr_v m3
  have Us : Fld s s.heap gs "java/lang/String" "value" "[B" (.ref ts) := Fld.start ((fld_at egs).symm.trans ets)
  obtain ⟨cls, Ars⟩ := Arr.start ets m3
  have As := own_arv hfit ets Ars m4 (vs := [(.int (115 : Int32)), (.int (117 : Int32)), (.int (99 : Int32)), (.int (99 : Int32)), (.int (101 : Int32)), (.int (115 : Int32)), (.int (115 : Int32))]) (by decide) ⟨own_el ets Ars (by decide) m18, own_el ets Ars (by decide) m19, own_el ets Ars (by decide) m20, own_el ets Ars (by decide) m21, own_el ets Ars (by decide) m22, own_el ets Ars (by decide) m23, own_el ets Ars (by decide) m24, trivial⟩
  obtain ⟨gf, egf⟩ := exa_v m6
  have F3 : Fld s s.heap r3 "com/example/guided_sim/guidedsim/model/Relation" "goal" "Ljava/lang/String;" (.ref gf) := Fld.start ((fld_at er3).symm.trans egf)
  have Ef : Exa s s.heap gf "java/lang/String" := Exa.start egf m6
  have Cf : Fld s s.heap gf "java/lang/String" "coder" "B" (.int (0 : Int32)) := own_ord egf m7
  obtain ⟨tf, etf⟩ := arr_v m8
  have Uf : Fld s s.heap gf "java/lang/String" "value" "[B" (.ref tf) := Fld.start ((fld_at egf).symm.trans etf)
  obtain ⟨clf, Arf⟩ := Arr.start etf m8
  have Af := own_arv hfit etf Arf m9 (vs := [(.int (102 : Int32)), (.int (97 : Int32)), (.int (105 : Int32)), (.int (108 : Int32)), (.int (117 : Int32)), (.int (114 : Int32)), (.int (101 : Int32))]) (by decide) ⟨own_el etf Arf (by decide) m25, own_el etf Arf (by decide) m26, own_el etf Arf (by decide) m27, own_el etf Arf (by decide) m28, own_el etf Arf (by decide) m29, own_el etf Arf (by decide) m30, own_el etf Arf (by decide) m31, trivial⟩
  have F1 : Fld s s.heap r1 "com/example/guided_sim/guidedsim/model/Relation" "goal" "Ljava/lang/String;" (.ref gs) := own_ref er1 egs m13
  have F2 : Fld s s.heap r2 "com/example/guided_sim/guidedsim/model/Relation" "goal" "Ljava/lang/String;" (.ref gf) := own_ref er2 egf m11
  have F4 : Fld s s.heap r4 "com/example/guided_sim/guidedsim/model/Relation" "goal" "Ljava/lang/String;" (.ref gs) := own_ref er4 egs m17
  have F5 : Fld s s.heap r5 "com/example/guided_sim/guidedsim/model/Relation" "goal" "Ljava/lang/String;" (.ref gf) := own_ref er5 egf m15
  have hEL : EW s _ own_EL := EW.cons (own_w hw 4 rfl) (by decide) (EW.cons (own_w hw 40 rfl) (by decide) (EW.cons (own_w hw 19 rfl) (by decide) (EW.cons (own_w hw 34 rfl) (by decide) EW.nil)))
  have hC : CHv s own_EL s.vm s.heap := CHv.start hEL (fun p hp => hcalls.1 p (by simp [own_EL] at hp; simp [consts_1]; rcases hp with rfl | rfl | rfl | rfl <;> simp)) (hsets _ (List.mem_of_getElem? (i := 2) rfl)) (own_w hw 7 rfl) (own_w hw 6 rfl)
  obtain ⟨n, o, h1, h2, h3, _, L, rfl, ⟨rfl, N⟩, -, hq⟩ := rm_law l s _ hw tables_1 i0 zc gs ts cls.cls gf tf clf.cls r0 r1 r2 r3 r4 r5 s.heap s.heap.size (Nat.le_refl _) hEL (Old.start s) S12 c17 Es Cs Us As Ef Cf Uf Af S0 E0 F0 S1 E1 F1 S2 E2 F2 S3 E3 F3 S4 E4 F4 S5 E5 F5 p e ha hc hk s m _ below hf ((Spec.applies_iff_loose hf).mp happ).1 ⟨rfl, State.Warmed39.refl s, rfl, hC⟩ trivial
  refine ⟨n, _, h1, h2, h3, hpost _ _ _ _ _ _ ⟨Cond.after_iff.mpr rfl, Cond.after_iff.mpr (eq_i res_at (Term.int_eval (1)) rfl), trivial⟩ ⟨hq.1, hq.2.1, hq.2.2.1, (hq.2.2.2.sift fun y hy => Or.inr (N y hy)).mono (by decide) (by decide)⟩⟩
theorem main_1_1 : Claimed_1_1 := comes_1 fun _ _ _ _ _ _ h hF => ⟨h.1, hF⟩
theorem main_1_2 : Claimed_1_2 := comes_1 fun _ _ _ _ _ _ h hF => ⟨h.2.1, hF⟩
end Jvm.Pilot.@@N@@
namespace Jvm.Pilot.@@N@@
open Jvm Jvm.ClassFile Sem Op Lib Jvm.Free Jvm.Stand Jvm.Pilot.@@N@@.Jvm.D
/-! MADE BY PROGRAM (witnessworld.py) out of the Statement's table words and the real class files: 18 classes; the members and pool entries that the words name. The judged class is class 1, her method 1. -/
namespace start1
open Jvm.ClassFile
def u (s : String) : CpInfo := .utf8 (stringToUtf16 s)
/-- a pool by its gaps: so many unusable entries, then the entry; so many at the end -/
def gap : Nat → List CpInfo → List CpInfo
  | 0, r => r
  | n + 1, r => .unusable :: gap n r
def poolList (es : List (Nat × CpInfo)) (last : Nat) : List CpInfo := es.foldr (fun e r => gap e.1 (e.2 :: r)) (gap last [])
def pool (es : List (Nat × CpInfo)) (last : Nat) : Array CpInfo := ⟨poolList es last⟩
def fileOf (pool : Array CpInfo) (this : Nat) (attrs : Array Attribute := #[]) (ms : Array MethodInfo := #[]) (fl : Nat := 33) (sup : Nat := 0) (ifs : Array Nat := #[]) (fds : Array FieldInfo := #[]) : ClassFile where
  minorVersion := 0
  majorVersion := 65
  constantPool := pool
  accessFlags := fl
  thisClass := this
  superClass := sup
  interfaces := ifs
  fields := fds
  methods := ms
  attributes := attrs
def plain (name : String) (sup : Option ClassId) : Class where
  name := name
  kind := .ordinary
  loader := none
  accessFlags := 33
  super := sup
  interfaces := #[]
  cf := none
  fields := #[]
  methods := #[]
  instanceTypes := #[]
  staticTypes := #[]
  resolved := #[]
  callSites := []
  init := .initialized
  statics := none
  mirror := none

def pool0 : Array CpInfo := pool [(5, u "<init>"), (0, u "()V"), (1, .class_ 10), (1, u "java/lang/Object")] 113

def k0m0 : Method := { name := "<init>", desc := "()V", sig := { parameters := [], returnType := none }, accessFlags := 1, code := none }
/-- java/lang/Object -/
def k0 : Class := { plain "java/lang/Object" none with
  accessFlags := 33
  interfaces := #[]
  cf := some (fileOf pool0 8 #[] #[{ accessFlags := 1, nameIndex := 5, descriptorIndex := 6, attributes := #[] }] 33 0 #[] #[])
  fields := #[]
  methods := #[k0m0]
  instanceTypes := #[]
  staticTypes := #[]
  resolved := Array.replicate 124 none
  statics := none }

def pool1 : Array CpInfo := pool [(2, .class_ 4), (1, u "java/lang/Object"), (0, u "<init>"), (0, u "()V"), (0, .integer 2147483647), (0, .fieldref 9 10), (0, .class_ 11), (0, .nameAndType 12 13), (0, u "com/example/guided_sim/guidedsim/model/Relation"), (0, u "WEAK_FEASIBILITY"), (0, u "Lcom/example/guided_sim/guidedsim/model/Relation;"), (0, .string 15), (0, u "failure"), (0, .fieldref 9 17), (0, .nameAndType 18 13), (0, u "STRONG_FEASIBILITY"), (0, .fieldref 9 20), (0, .nameAndType 21 13), (0, u "WEAK_REFUTABILITY"), (0, .string 23), (0, u "success"), (0, .fieldref 9 25), (0, .nameAndType 26 13), (0, u "STRONG_REFUTABILITY"), (0, .fieldref 9 28), (0, .nameAndType 29 13), (0, u "CERTAINTY"), (0, .fieldref 9 31), (0, .nameAndType 32 13), (0, u "IMPOSSIBILITY"), (0, .methodref 9 34), (0, .nameAndType 35 36), (0, u "opposite"), (0, u "()Ljava/lang/String;"), (0, .methodref 9 38), (0, .nameAndType 39 36), (0, u "goal"), (0, .methodref 41 42), (0, .class_ 43), (0, .nameAndType 44 45), (0, u "java/lang/String"), (0, u "equals"), (0, u "(Ljava/lang/Object;)Z"), (0, .class_ 47), (0, u "com/example/guided_sim/guidedsim/model/RelationOppositePinLaw"), (2, u "law"), (0, u "(I)Z")] 3

def k1m0 : Method := { name := "<init>", desc := "()V", sig := { parameters := [], returnType := none }, accessFlags := 1, code := none }
def k1c1 : Code := { maxStack := 2, maxLocals := 7, code := code, exceptionTable := #[], attributes := #[] }
def k1m1 : Method := { name := "law", desc := "(I)Z", sig := { parameters := [.int], returnType := some .boolean }, accessFlags := 9, code := some k1c1 }
/-- com/example/guided_sim/guidedsim/model/RelationOppositePinLaw -/
def k1 : Class := { plain "com/example/guided_sim/guidedsim/model/RelationOppositePinLaw" (some 0) with
  accessFlags := 49
  interfaces := #[]
  cf := some (fileOf pool1 46 #[] #[{ accessFlags := 1, nameIndex := 5, descriptorIndex := 6, attributes := #[] }, { accessFlags := 9, nameIndex := 50, descriptorIndex := 51, attributes := #[] }] 49 2 #[] #[])
  fields := #[]
  methods := #[k1m0, k1m1]
  instanceTypes := #[]
  staticTypes := #[]
  resolved := Array.replicate 55 none
  statics := none }

def pool2 : Array CpInfo := pool [(1, .class_ 2), (0, u "java/lang/constant/Constable"), (0, .class_ 4), (0, u "java/lang/Object")] 6

/-- java/lang/constant/Constable -/
def k2 : Class := { plain "java/lang/constant/Constable" (some 0) with
  accessFlags := 1537
  interfaces := #[]
  cf := some (fileOf pool2 1 #[] #[] 1537 3 #[] #[])
  fields := #[]
  methods := #[]
  instanceTypes := #[]
  staticTypes := #[]
  resolved := Array.replicate 11 none
  statics := none }

def pool3 : Array CpInfo := pool [(1, .class_ 2), (0, u "java/lang/Comparable"), (0, .class_ 4), (0, u "java/lang/Object")] 7

/-- java/lang/Comparable -/
def k3 : Class := { plain "java/lang/Comparable" (some 0) with
  accessFlags := 1537
  interfaces := #[]
  cf := some (fileOf pool3 1 #[] #[] 1537 3 #[] #[])
  fields := #[]
  methods := #[]
  instanceTypes := #[]
  staticTypes := #[]
  resolved := Array.replicate 12 none
  statics := none }

def pool4 : Array CpInfo := pool [(1, .class_ 2), (0, u "java/io/Serializable"), (0, .class_ 4), (0, u "java/lang/Object")] 2

/-- java/io/Serializable -/
def k4 : Class := { plain "java/io/Serializable" (some 0) with
  accessFlags := 1537
  interfaces := #[]
  cf := some (fileOf pool4 1 #[] #[] 1537 3 #[] #[])
  fields := #[]
  methods := #[]
  instanceTypes := #[]
  staticTypes := #[]
  resolved := Array.replicate 7 none
  statics := none }

def pool5 : Array CpInfo := pool [(2, .class_ 4), (1, u "java/lang/Enum"), (0, u "name"), (0, u "Ljava/lang/String;"), (2, u "ordinal"), (0, u "I"), (1, .class_ 14), (1, u "java/lang/Object"), (4, u "hash"), (86, .class_ 108), (1, u "java/lang/Enum$EnumDesc"), (2, .class_ 112), (0, u "java/lang/constant/Constable"), (0, .class_ 114), (0, u "java/lang/Comparable"), (0, .class_ 116), (0, u "java/io/Serializable")] 87

/-- java/lang/Enum -/
def k5 : Class := { plain "java/lang/Enum" (some 0) with
  accessFlags := 1057
  interfaces := #[2, 3, 4]
  cf := some (fileOf pool5 2 #[.nestMembers #[106]] #[] 1057 12 #[111, 113, 115] #[{ accessFlags := 18, nameIndex := 5, descriptorIndex := 6, attributes := #[] }, { accessFlags := 18, nameIndex := 9, descriptorIndex := 10, attributes := #[] }, { accessFlags := 2, nameIndex := 19, descriptorIndex := 10, attributes := #[] }])
  fields := #[{ name := "name", type := (.object "java/lang/String"), accessFlags := 18, slot := 0, constantValue := 0 }, { name := "ordinal", type := .int, accessFlags := 18, slot := 1, constantValue := 0 }, { name := "hash", type := .int, accessFlags := 2, slot := 2, constantValue := 0 }]
  methods := #[]
  instanceTypes := #[(.object "java/lang/String"), .int, .int]
  staticTypes := #[]
  resolved := Array.replicate 204 none
  statics := none }

def pool6 : Array CpInfo := pool [(1, .class_ 2), (0, u "com/example/guided_sim/guidedsim/model/Relation"), (2, u "WEAK_FEASIBILITY"), (0, u "Lcom/example/guided_sim/guidedsim/model/Relation;"), (2, u "STRONG_FEASIBILITY"), (2, u "WEAK_REFUTABILITY"), (2, u "STRONG_REFUTABILITY"), (2, u "CERTAINTY"), (2, u "IMPOSSIBILITY"), (2, u "$VALUES"), (0, u "[Lcom/example/guided_sim/guidedsim/model/Relation;"), (6, .class_ 34), (1, u "java/lang/Enum"), (8, u "name"), (0, u "Ljava/lang/String;"), (0, .fieldref 1 46), (0, .nameAndType 47 44), (0, u "goal"), (2, u "kind"), (0, u "Lcom/example/guided_sim/guidedsim/model/Relation$Kind;"), (2, .string 55), (0, u "success"), (0, .methodref 57 58), (0, .class_ 59), (0, .nameAndType 60 61), (0, u "java/lang/String"), (0, u "equals"), (0, u "(Ljava/lang/Object;)Z"), (0, .string 63), (0, u "failure"), (1, .class_ 67), (1, u "com/example/guided_sim/guidedsim/model/Relation$Kind"), (39, u "()Ljava/lang/String;"), (0, u "opposite")] 13

def k6c0 : Code := { maxStack := 1, maxLocals := 1, code := prog_45_method_4_code, exceptionTable := #[], attributes := #[] }
def k6m0 : Method := { name := "goal", desc := "()Ljava/lang/String;", sig := { parameters := [], returnType := some (.object "java/lang/String") }, accessFlags := 1, code := some k6c0 }
def k6c1 : Code := { maxStack := 2, maxLocals := 1, code := prog_45_method_5_code, exceptionTable := #[], attributes := #[] }
def k6m1 : Method := { name := "opposite", desc := "()Ljava/lang/String;", sig := { parameters := [], returnType := some (.object "java/lang/String") }, accessFlags := 1, code := some k6c1 }
/-- com/example/guided_sim/guidedsim/model/Relation -/
def k6 : Class := { plain "com/example/guided_sim/guidedsim/model/Relation" (some 5) with
  accessFlags := 16433
  interfaces := #[]
  cf := some (fileOf pool6 1 #[.nestMembers #[65]] #[{ accessFlags := 1, nameIndex := 47, descriptorIndex := 107, attributes := #[] }, { accessFlags := 1, nameIndex := 108, descriptorIndex := 107, attributes := #[] }] 16433 32 #[] #[{ accessFlags := 16409, nameIndex := 5, descriptorIndex := 6, attributes := #[] }, { accessFlags := 16409, nameIndex := 9, descriptorIndex := 6, attributes := #[] }, { accessFlags := 16409, nameIndex := 12, descriptorIndex := 6, attributes := #[] }, { accessFlags := 16409, nameIndex := 15, descriptorIndex := 6, attributes := #[] }, { accessFlags := 16409, nameIndex := 18, descriptorIndex := 6, attributes := #[] }, { accessFlags := 16409, nameIndex := 21, descriptorIndex := 6, attributes := #[] }, { accessFlags := 18, nameIndex := 43, descriptorIndex := 44, attributes := #[] }, { accessFlags := 18, nameIndex := 47, descriptorIndex := 44, attributes := #[] }, { accessFlags := 18, nameIndex := 50, descriptorIndex := 51, attributes := #[] }, { accessFlags := 4122, nameIndex := 24, descriptorIndex := 25, attributes := #[] }])
  fields := #[{ name := "WEAK_FEASIBILITY", type := (.object "com/example/guided_sim/guidedsim/model/Relation"), accessFlags := 16409, slot := 0, constantValue := 0 }, { name := "STRONG_FEASIBILITY", type := (.object "com/example/guided_sim/guidedsim/model/Relation"), accessFlags := 16409, slot := 1, constantValue := 0 }, { name := "WEAK_REFUTABILITY", type := (.object "com/example/guided_sim/guidedsim/model/Relation"), accessFlags := 16409, slot := 2, constantValue := 0 }, { name := "STRONG_REFUTABILITY", type := (.object "com/example/guided_sim/guidedsim/model/Relation"), accessFlags := 16409, slot := 3, constantValue := 0 }, { name := "CERTAINTY", type := (.object "com/example/guided_sim/guidedsim/model/Relation"), accessFlags := 16409, slot := 4, constantValue := 0 }, { name := "IMPOSSIBILITY", type := (.object "com/example/guided_sim/guidedsim/model/Relation"), accessFlags := 16409, slot := 5, constantValue := 0 }, { name := "name", type := (.object "java/lang/String"), accessFlags := 18, slot := 3, constantValue := 0 }, { name := "goal", type := (.object "java/lang/String"), accessFlags := 18, slot := 4, constantValue := 0 }, { name := "kind", type := (.object "com/example/guided_sim/guidedsim/model/Relation$Kind"), accessFlags := 18, slot := 5, constantValue := 0 }, { name := "$VALUES", type := (.array (.object "com/example/guided_sim/guidedsim/model/Relation")), accessFlags := 4122, slot := 6, constantValue := 0 }]
  methods := #[k6m0, k6m1]
  instanceTypes := #[(.object "java/lang/String"), .int, .int, (.object "java/lang/String"), (.object "java/lang/String"), (.object "com/example/guided_sim/guidedsim/model/Relation$Kind")]
  staticTypes := #[(.object "com/example/guided_sim/guidedsim/model/Relation"), (.object "com/example/guided_sim/guidedsim/model/Relation"), (.object "com/example/guided_sim/guidedsim/model/Relation"), (.object "com/example/guided_sim/guidedsim/model/Relation"), (.object "com/example/guided_sim/guidedsim/model/Relation"), (.object "com/example/guided_sim/guidedsim/model/Relation"), (.array (.object "com/example/guided_sim/guidedsim/model/Relation"))]
  resolved := Array.replicate 122 none
  statics := some 0 }

def pool7 : Array CpInfo := pool [(2, .class_ 4), (1, u "java/lang/CharSequence"), (42, .class_ 48), (0, u "java/lang/CharSequence$1CodePointIterator"), (10, .class_ 60), (0, u "java/lang/CharSequence$1CharIterator"), (5, .class_ 67), (0, u "java/lang/Object")] 63

/-- java/lang/CharSequence -/
def k7 : Class := { plain "java/lang/CharSequence" (some 0) with
  accessFlags := 1537
  interfaces := #[]
  cf := some (fileOf pool7 2 #[.nestMembers #[47, 59]] #[] 1537 66 #[] #[])
  fields := #[]
  methods := #[]
  instanceTypes := #[]
  staticTypes := #[]
  resolved := Array.replicate 131 none
  statics := none }

def pool8 : Array CpInfo := pool [(1, .class_ 2), (0, u "java/lang/constant/ConstantDesc"), (0, .class_ 4), (0, u "java/lang/Object")] 32

/-- java/lang/constant/ConstantDesc -/
def k8 : Class := { plain "java/lang/constant/ConstantDesc" (some 0) with
  accessFlags := 1537
  interfaces := #[]
  cf := some (fileOf pool8 1 #[] #[] 1537 3 #[] #[])
  fields := #[]
  methods := #[]
  instanceTypes := #[]
  staticTypes := #[]
  resolved := Array.replicate 37 none
  statics := none }

def pool9 : Array CpInfo := pool [(2, .class_ 4), (1, u "java/lang/Object"), (0, u "<init>"), (0, u "()V"), (2, .fieldref 10 11), (0, .class_ 12), (0, .nameAndType 13 14), (0, u "java/lang/String"), (0, u "value"), (0, u "[B"), (0, .fieldref 10 16), (0, .nameAndType 17 18), (0, u "coder"), (0, u "B"), (2, u "hash"), (0, u "I"), (2, u "hashIsZero"), (0, u "Z"), (11, .fieldref 10 39), (0, .nameAndType 40 26), (0, u "COMPACT_STRINGS"), (66, .class_ 109), (1, u "java/lang/StringLatin1"), (431, .methodref 107 542), (0, .nameAndType 543 544), (0, u "equals"), (0, u "([B[B)Z"), (28, u "(Ljava/lang/Object;)Z"), (1, .class_ 576), (0, u "java/lang/CharSequence"), (22, u "CASE_INSENSITIVE_ORDER"), (0, u "Ljava/util/Comparator;"), (500, u "serialPersistentFields"), (0, u "[Ljava/io/ObjectStreamField;"), (0, .class_ 1104), (0, u "java/lang/String$CaseInsensitiveComparator"), (1, .class_ 1107), (0, u "java/io/Serializable"), (0, .class_ 1109), (0, u "java/lang/Comparable"), (0, .class_ 1111), (0, u "java/lang/constant/Constable"), (0, .class_ 1113), (0, u "java/lang/constant/ConstantDesc"), (2, u "serialVersionUID"), (0, u "J"), (3, u "REPL"), (0, u "C"), (2, u "LATIN1"), (1, u "UTF16")] 323

def k9m0 : Method := { name := "<init>", desc := "()V", sig := { parameters := [], returnType := none }, accessFlags := 1, code := none }
def k9c1 : Code := { maxStack := 2, maxLocals := 3, code := jdk_42_method_66_code, exceptionTable := #[], attributes := #[] }
def k9m1 : Method := { name := "equals", desc := "(Ljava/lang/Object;)Z", sig := { parameters := [(.object "java/lang/Object")], returnType := some .boolean }, accessFlags := 1, code := some k9c1 }
/-- java/lang/String -/
def k9 : Class := { plain "java/lang/String" (some 0) with
  accessFlags := 49
  interfaces := #[4, 3, 7, 2, 8]
  cf := some (fileOf pool9 10 #[.nestMembers #[1103]] #[{ accessFlags := 1, nameIndex := 5, descriptorIndex := 6, attributes := #[] }, { accessFlags := 1, nameIndex := 543, descriptorIndex := 573, attributes := #[] }] 49 2 #[1106, 1108, 575, 1110, 1112] #[{ accessFlags := 18, nameIndex := 13, descriptorIndex := 14, attributes := #[] }, { accessFlags := 18, nameIndex := 17, descriptorIndex := 18, attributes := #[] }, { accessFlags := 2, nameIndex := 21, descriptorIndex := 22, attributes := #[] }, { accessFlags := 2, nameIndex := 25, descriptorIndex := 26, attributes := #[] }, { accessFlags := 26, nameIndex := 1116, descriptorIndex := 1117, attributes := #[] }, { accessFlags := 24, nameIndex := 40, descriptorIndex := 26, attributes := #[] }, { accessFlags := 26, nameIndex := 1101, descriptorIndex := 1102, attributes := #[] }, { accessFlags := 26, nameIndex := 1121, descriptorIndex := 1122, attributes := #[] }, { accessFlags := 25, nameIndex := 599, descriptorIndex := 600, attributes := #[] }, { accessFlags := 24, nameIndex := 1125, descriptorIndex := 18, attributes := #[] }, { accessFlags := 24, nameIndex := 1127, descriptorIndex := 18, attributes := #[] }])
  fields := #[{ name := "value", type := (.array .byte), accessFlags := 18, slot := 0, constantValue := 0 }, { name := "coder", type := .byte, accessFlags := 18, slot := 1, constantValue := 0 }, { name := "hash", type := .int, accessFlags := 2, slot := 2, constantValue := 0 }, { name := "hashIsZero", type := .boolean, accessFlags := 2, slot := 3, constantValue := 0 }, { name := "serialVersionUID", type := .long, accessFlags := 26, slot := 0, constantValue := 0 }, { name := "COMPACT_STRINGS", type := .boolean, accessFlags := 24, slot := 1, constantValue := 0 }, { name := "serialPersistentFields", type := (.array (.object "java/io/ObjectStreamField")), accessFlags := 26, slot := 2, constantValue := 0 }, { name := "REPL", type := .char, accessFlags := 26, slot := 3, constantValue := 0 }, { name := "CASE_INSENSITIVE_ORDER", type := (.object "java/util/Comparator"), accessFlags := 25, slot := 4, constantValue := 0 }, { name := "LATIN1", type := .byte, accessFlags := 24, slot := 5, constantValue := 0 }, { name := "UTF16", type := .byte, accessFlags := 24, slot := 6, constantValue := 0 }]
  methods := #[k9m0, k9m1]
  instanceTypes := #[(.array .byte), .byte, .int, .boolean]
  staticTypes := #[.long, .boolean, (.array (.object "java/io/ObjectStreamField")), .char, (.object "java/util/Comparator"), .byte, .byte]
  resolved := Array.replicate 1451 none
  statics := some 1 }

def pool10 : Array CpInfo := pool [(4, .class_ 6), (1, u "java/lang/Object"), (0, u "<init>"), (0, u "()V"), (5, .class_ 16), (1, u "java/lang/StringLatin1"), (104, u "$assertionsDisabled"), (0, u "Z"), (98, .class_ 223), (1, u "java/lang/StringLatin1$LinesSpliterator"), (57, u "equals"), (0, u "([B[B)Z"), (107, .class_ 391), (0, u "java/lang/StringLatin1$CharsSpliterator")] 3

def k10m0 : Method := { name := "<init>", desc := "()V", sig := { parameters := [], returnType := none }, accessFlags := 0, code := none }
def k10c1 : Code := { maxStack := 3, maxLocals := 3, code := jdk_43_method_13_code, exceptionTable := #[], attributes := #[] }
def k10m1 : Method := { name := "equals", desc := "([B[B)Z", sig := { parameters := [(.array .byte), (.array .byte)], returnType := some .boolean }, accessFlags := 9, code := some k10c1 }
/-- java/lang/StringLatin1 -/
def k10 : Class := { plain "java/lang/StringLatin1" (some 0) with
  accessFlags := 48
  interfaces := #[]
  cf := some (fileOf pool10 14 #[.nestMembers #[390, 221]] #[{ accessFlags := 0, nameIndex := 7, descriptorIndex := 8, attributes := #[] }, { accessFlags := 9, nameIndex := 281, descriptorIndex := 282, attributes := #[] }] 48 4 #[] #[{ accessFlags := 4120, nameIndex := 121, descriptorIndex := 122, attributes := #[] }])
  fields := #[{ name := "$assertionsDisabled", type := .boolean, accessFlags := 4120, slot := 0, constantValue := 0 }]
  methods := #[k10m0, k10m1]
  instanceTypes := #[]
  staticTypes := #[.boolean]
  resolved := Array.replicate 395 none
  statics := none }

def pool11 : Array CpInfo := pool [(2, .class_ 4), (1, u "java/lang/Object"), (0, u "<init>"), (0, u "()V"), (17, .class_ 26), (1, u "jdk/internal/util/Preconditions"), (28, .class_ 56), (0, u "jdk/internal/util/Preconditions$4"), (57, .class_ 115), (0, u "jdk/internal/util/Preconditions$1"), (7, u "SIOOBE_FORMATTER"), (0, u "Ljava/util/function/BiFunction;"), (0, .class_ 126), (0, u "jdk/internal/util/Preconditions$2"), (3, u "AIOOBE_FORMATTER"), (0, .class_ 132), (0, u "jdk/internal/util/Preconditions$3"), (3, u "IOOBE_FORMATTER")] 57

def k11m0 : Method := { name := "<init>", desc := "()V", sig := { parameters := [], returnType := none }, accessFlags := 1, code := none }
/-- jdk/internal/util/Preconditions -/
def k11 : Class := { plain "jdk/internal/util/Preconditions" (some 0) with
  accessFlags := 33
  interfaces := #[]
  cf := some (fileOf pool11 24 #[.nestMembers #[55, 131, 125, 114]] #[{ accessFlags := 1, nameIndex := 5, descriptorIndex := 6, attributes := #[] }] 33 2 #[] #[{ accessFlags := 25, nameIndex := 123, descriptorIndex := 124, attributes := #[] }, { accessFlags := 25, nameIndex := 130, descriptorIndex := 124, attributes := #[] }, { accessFlags := 25, nameIndex := 136, descriptorIndex := 124, attributes := #[] }])
  fields := #[{ name := "SIOOBE_FORMATTER", type := (.object "java/util/function/BiFunction"), accessFlags := 25, slot := 0, constantValue := 0 }, { name := "AIOOBE_FORMATTER", type := (.object "java/util/function/BiFunction"), accessFlags := 25, slot := 1, constantValue := 0 }, { name := "IOOBE_FORMATTER", type := (.object "java/util/function/BiFunction"), accessFlags := 25, slot := 2, constantValue := 0 }]
  methods := #[k11m0]
  instanceTypes := #[]
  staticTypes := #[(.object "java/util/function/BiFunction"), (.object "java/util/function/BiFunction"), (.object "java/util/function/BiFunction")]
  resolved := Array.replicate 194 none
  statics := some 2 }

def pool12 : Array CpInfo := pool [(9, u "<init>"), (6, .class_ 18), (1, u "java/lang/Object"), (0, u "()V"), (1, .class_ 23), (1, u "jdk/internal/util/ArraysSupport"), (0, u "LOG2_ARRAY_LONG_INDEX_SCALE"), (0, u "I"), (2, u "U"), (0, u "Ljdk/internal/misc/Unsafe;"), (8, u "BIG_ENDIAN"), (0, u "Z"), (8, u "LOG2_BYTE_BIT_SIZE"), (4, u "LOG2_ARRAY_INT_INDEX_SCALE"), (54, u "JLA"), (0, u "Ljdk/internal/access/JavaLangAccess;"), (11, u "LOG2_ARRAY_BOOLEAN_INDEX_SCALE"), (9, u "LOG2_ARRAY_BYTE_INDEX_SCALE"), (5, u "LOG2_ARRAY_CHAR_INDEX_SCALE"), (5, u "LOG2_ARRAY_SHORT_INDEX_SCALE"), (18, u "LOG2_ARRAY_FLOAT_INDEX_SCALE"), (24, u "LOG2_ARRAY_DOUBLE_INDEX_SCALE"), (89, u "T_BOOLEAN"), (2, u "T_CHAR"), (1, u "T_FLOAT"), (1, u "T_DOUBLE"), (1, u "T_BYTE"), (1, u "T_SHORT"), (1, u "T_INT"), (1, u "T_LONG"), (1, u "SOFT_MAX_ARRAY_LENGTH")] 83

def k12m0 : Method := { name := "<init>", desc := "()V", sig := { parameters := [], returnType := none }, accessFlags := 2, code := none }
/-- jdk/internal/util/ArraysSupport -/
def k12 : Class := { plain "jdk/internal/util/ArraysSupport" (some 0) with
  accessFlags := 33
  interfaces := #[]
  cf := some (fileOf pool12 21 #[] #[{ accessFlags := 2, nameIndex := 9, descriptorIndex := 19, attributes := #[] }] 33 16 #[] #[{ accessFlags := 24, nameIndex := 28, descriptorIndex := 29, attributes := #[] }, { accessFlags := 26, nameIndex := 38, descriptorIndex := 39, attributes := #[] }, { accessFlags := 25, nameIndex := 121, descriptorIndex := 25, attributes := #[] }, { accessFlags := 25, nameIndex := 131, descriptorIndex := 25, attributes := #[] }, { accessFlags := 25, nameIndex := 137, descriptorIndex := 25, attributes := #[] }, { accessFlags := 25, nameIndex := 143, descriptorIndex := 25, attributes := #[] }, { accessFlags := 25, nameIndex := 53, descriptorIndex := 25, attributes := #[] }, { accessFlags := 25, nameIndex := 24, descriptorIndex := 25, attributes := #[] }, { accessFlags := 25, nameIndex := 162, descriptorIndex := 25, attributes := #[] }, { accessFlags := 25, nameIndex := 187, descriptorIndex := 25, attributes := #[] }, { accessFlags := 26, nameIndex := 48, descriptorIndex := 25, attributes := #[] }, { accessFlags := 25, nameIndex := 277, descriptorIndex := 25, attributes := #[] }, { accessFlags := 25, nameIndex := 280, descriptorIndex := 25, attributes := #[] }, { accessFlags := 25, nameIndex := 282, descriptorIndex := 25, attributes := #[] }, { accessFlags := 25, nameIndex := 284, descriptorIndex := 25, attributes := #[] }, { accessFlags := 25, nameIndex := 286, descriptorIndex := 25, attributes := #[] }, { accessFlags := 25, nameIndex := 288, descriptorIndex := 25, attributes := #[] }, { accessFlags := 25, nameIndex := 290, descriptorIndex := 25, attributes := #[] }, { accessFlags := 25, nameIndex := 292, descriptorIndex := 25, attributes := #[] }, { accessFlags := 26, nameIndex := 108, descriptorIndex := 109, attributes := #[] }, { accessFlags := 25, nameIndex := 294, descriptorIndex := 25, attributes := #[] }])
  fields := #[{ name := "U", type := (.object "jdk/internal/misc/Unsafe"), accessFlags := 24, slot := 0, constantValue := 0 }, { name := "BIG_ENDIAN", type := .boolean, accessFlags := 26, slot := 1, constantValue := 0 }, { name := "LOG2_ARRAY_BOOLEAN_INDEX_SCALE", type := .int, accessFlags := 25, slot := 2, constantValue := 0 }, { name := "LOG2_ARRAY_BYTE_INDEX_SCALE", type := .int, accessFlags := 25, slot := 3, constantValue := 0 }, { name := "LOG2_ARRAY_CHAR_INDEX_SCALE", type := .int, accessFlags := 25, slot := 4, constantValue := 0 }, { name := "LOG2_ARRAY_SHORT_INDEX_SCALE", type := .int, accessFlags := 25, slot := 5, constantValue := 0 }, { name := "LOG2_ARRAY_INT_INDEX_SCALE", type := .int, accessFlags := 25, slot := 6, constantValue := 0 }, { name := "LOG2_ARRAY_LONG_INDEX_SCALE", type := .int, accessFlags := 25, slot := 7, constantValue := 0 }, { name := "LOG2_ARRAY_FLOAT_INDEX_SCALE", type := .int, accessFlags := 25, slot := 8, constantValue := 0 }, { name := "LOG2_ARRAY_DOUBLE_INDEX_SCALE", type := .int, accessFlags := 25, slot := 9, constantValue := 0 }, { name := "LOG2_BYTE_BIT_SIZE", type := .int, accessFlags := 26, slot := 10, constantValue := 0 }, { name := "T_BOOLEAN", type := .int, accessFlags := 25, slot := 11, constantValue := 0 }, { name := "T_CHAR", type := .int, accessFlags := 25, slot := 12, constantValue := 0 }, { name := "T_FLOAT", type := .int, accessFlags := 25, slot := 13, constantValue := 0 }, { name := "T_DOUBLE", type := .int, accessFlags := 25, slot := 14, constantValue := 0 }, { name := "T_BYTE", type := .int, accessFlags := 25, slot := 15, constantValue := 0 }, { name := "T_SHORT", type := .int, accessFlags := 25, slot := 16, constantValue := 0 }, { name := "T_INT", type := .int, accessFlags := 25, slot := 17, constantValue := 0 }, { name := "T_LONG", type := .int, accessFlags := 25, slot := 18, constantValue := 0 }, { name := "JLA", type := (.object "jdk/internal/access/JavaLangAccess"), accessFlags := 26, slot := 19, constantValue := 0 }, { name := "SOFT_MAX_ARRAY_LENGTH", type := .int, accessFlags := 25, slot := 20, constantValue := 0 }]
  methods := #[k12m0]
  instanceTypes := #[]
  staticTypes := #[(.object "jdk/internal/misc/Unsafe"), .boolean, .int, .int, .int, .int, .int, .int, .int, .int, .int, .int, .int, .int, .int, .int, .int, .int, .int, (.object "jdk/internal/access/JavaLangAccess"), .int]
  resolved := Array.replicate 378 none
  statics := none }

def pool13 : Array CpInfo := pool [(1, u "java/lang/Cloneable"), (0, .class_ 1), (0, u "java/lang/Object"), (0, .class_ 3)] 3

/-- java/lang/Cloneable -/
def k13 : Class := { plain "java/lang/Cloneable" (some 0) with
  accessFlags := 1537
  interfaces := #[]
  cf := some (fileOf pool13 2 #[] #[] 1537 4 #[] #[])
  fields := #[]
  methods := #[]
  instanceTypes := #[]
  staticTypes := #[]
  resolved := Array.replicate 8 none
  statics := none }

/-- the primitive byte -/
def k14 : Class := { plain "byte" none with kind := .primitive 'B', accessFlags := 0x411 }
/-- [B -/
def k15 : Class := { plain "[B" (some 0) with kind := .array 14 .byte, interfaces := #[13, 4], accessFlags := 1041 }

/-- the primitive int -/
def k16 : Class := { plain "int" none with kind := .primitive 'I', accessFlags := 0x411 }
/-- [I -/
def k17 : Class := { plain "[I" (some 0) with kind := .array 16 .int, interfaces := #[13, 4], accessFlags := 1041 }

def heap : Heap := #[{ cls := 6, slots := #[.ref 7, .ref 7, .ref 8, .ref 8, .ref 7, .ref 8, .null], vm := .statics 6 },
  { cls := 9, slots := #[.long 0, .int 1, .null, .int 0, .null, .int 0, .int 0], vm := .statics 9 },
  { cls := 11, slots := #[.null, .null, .null], vm := .statics 11 },
  { cls := 15, slots := #[.int 115, .int 117, .int 99, .int 99, .int 101, .int 115, .int 115], vm := .none },
  { cls := 15, slots := #[.int 102, .int 97, .int 105, .int 108, .int 117, .int 114, .int 101], vm := .none },
  { cls := 9, slots := #[.ref 3, .int 0, .int 0, .int 0], vm := .none },
  { cls := 9, slots := #[.ref 4, .int 0, .int 0, .int 0], vm := .none },
  { cls := 6, slots := #[.null, .int 0, .int 0, .null, .ref 5, .null], vm := .none },
  { cls := 6, slots := #[.null, .int 1, .int 0, .null, .ref 6, .null], vm := .none }]
def classes : Array Class := #[k0, k1, k2, k3, k4, k5, k6, k7, k8, k9, k10, k11, k12, k13, k14, k15, k16, k17]
def interned : List (Array UInt16 × Addr) := []
def slotsUsed : Nat := 51
def theMethod : MethodId := ⟨1, 1⟩
def args0 : Array Value := #[.int 5]
def aboutOver (below : List Frame) : State where
  vm := { classes := classes, interned := interned.toArray }
  heap := heap
  slotsUsed := slotsUsed
  threads := #[{ frames := .invoking theMethod args0 :: below }]
def below0 : List Frame := [.native { method := ⟨0, 0⟩, args := #[] }]
def about1 : State := aboutOver below0
def p0 : Program := .bare "" "" ""
def e0 : Env := launch0.env 0 0 0
theorem w_frames : about1.frames = Frame.invoking theMethod args0 :: below0 := rfl
set_option maxRecDepth 65536 in
theorem w_args : argsFit about1.vm theMethod args0 = true := by decide +kernel
set_option maxRecDepth 65536 in
theorem w_heap : heapFits about1 = true := by decide +kernel
set_option maxRecDepth 65536 in
theorem w_runnable : about1.curStatus? = some .runnable := by decide +kernel
set_option maxRecDepth 65536 in
theorem w_alone : about1.alone = true := by decide +kernel
set_option maxRecDepth 65536 in
theorem w_named : about1.methodNamed? x = some theMethod := by decide +kernel
set_option maxRecDepth 65536 in
theorem w_hears : about1.hears theMethod below0 = true := by decide +kernel
set_option maxRecDepth 65536 in
theorem w_ripe : about1.ripe theMethod args0 below0 = true := by decide +kernel
theorem w_running : about1.status = .running := rfl
set_option maxRecDepth 65536 in
theorem w_room : about1.hasRoom e0.platform room_1 = true :=
  launch0.hasRoom_least _ room_1 (by decide +kernel) (by decide +kernel) (by decide +kernel) (by decide +kernel) (by decide +kernel) (by decide +kernel)
theorem allAtoms_all (ts : List Jvm.Cond) (a : Array Jvm.Value) (st : Jvm.State) : (allAtoms ts).before a st = ts.all (fun c => c.before a st) := by
  induction ts with
  | nil => rfl
  | cons c t ih =>
    show (Jvm.Cond.and c (allAtoms t)).before a st = _
    rw [Jvm.Cond.before_and, ih, List.all_cons]
def words1 : List Jvm.Cond := Jvm.Cond.code x code maxLocals ret :: tables_1
/-- a 'code' word, met by the world's own term for the bytes: nothing is compared byte by byte -/
theorem code_word {y : MethodName} {bytes : ByteArray} {mx : Nat} {rt : Option FieldType} {a : Array Value} {s : State} {m : MethodId} {meth : Method} {c : Code} (h1 : s.methodNamed? y = some m) (h2 : s.vm.method? m = some meth) (h3 : meth.code = some c) (h4 : c.code = bytes)
    (h5 : (c.maxLocals == mx && c.exceptionTable.isEmpty && decide (c.maxStack ≤ mostOperands) && decide (meth.sig.returnType = rt) && !meth.locks && decide (parseMethodDescriptor y.desc = some meth.sig)) = true) : (Jvm.Cond.code y bytes mx rt).before a s = true := by
  simp only [Bool.and_eq_true, beq_iff_eq, Bool.not_eq_true', decide_eq_true_eq] at h5
  obtain ⟨⟨⟨⟨⟨g1, g2⟩, g3⟩, g4⟩, g5⟩, g6⟩ := h5
  simp [Cond.before, Cond.holds, Cond.value, h1, h2, h3, h4, g1, g2, g3, g4, g5, g6]
def isCode : Jvm.Cond → Bool
  | .code _ _ _ _ => true
  | _ => false
theorem all_split {L : List Jvm.Cond} {P : Jvm.Cond → Bool} (h1 : L.all (fun c => isCode c || P c) = true) (h2 : ∀ c ∈ L.filter isCode, P c = true) : L.all P = true := by
  refine List.all_eq_true.mpr fun c hc => ?_
  have h := List.all_eq_true.mp h1 c hc
  rcases Bool.eq_false_or_eq_true (isCode c) with hi | hi
  · exact h2 c (List.mem_filter.mpr ⟨hc, hi⟩)
  · simpa [hi] using h
set_option maxRecDepth 65536 in
theorem w_c0 : (Jvm.Cond.code x code maxLocals ret).before args0 about1 = true := code_word (m := ⟨1, 1⟩) (meth := k1m1) (c := k1c1) (by decide +kernel) rfl rfl rfl (by decide +kernel)
set_option maxRecDepth 65536 in
theorem w_c1 : (Jvm.Cond.code ({ cls := "com/example/guided_sim/guidedsim/model/Relation", name := "opposite", desc := "()Ljava/lang/String;" } : Jvm.MethodName) prog_45_method_5_code (1 : Nat) (Option.some (Jvm.ClassFile.FieldType.object "java/lang/String"))).before args0 about1 = true := code_word (m := ⟨6, 1⟩) (meth := k6m1) (c := k6c1) (by decide +kernel) rfl rfl rfl (by decide +kernel)
set_option maxRecDepth 65536 in
theorem w_c2 : (Jvm.Cond.code ({ cls := "java/lang/String", name := "equals", desc := "(Ljava/lang/Object;)Z" } : Jvm.MethodName) jdk_42_method_66_code (3 : Nat) (Option.some Jvm.ClassFile.FieldType.boolean)).before args0 about1 = true := code_word (m := ⟨9, 1⟩) (meth := k9m1) (c := k9c1) (by decide +kernel) rfl rfl rfl (by decide +kernel)
set_option maxRecDepth 65536 in
theorem w_c3 : (Jvm.Cond.code ({ cls := "java/lang/StringLatin1", name := "equals", desc := "([B[B)Z" } : Jvm.MethodName) jdk_43_method_13_code (3 : Nat) (Option.some Jvm.ClassFile.FieldType.boolean)).before args0 about1 = true := code_word (m := ⟨10, 1⟩) (meth := k10m1) (c := k10c1) (by decide +kernel) rfl rfl rfl (by decide +kernel)
set_option maxRecDepth 65536 in
theorem w_c4 : (Jvm.Cond.code ({ cls := "com/example/guided_sim/guidedsim/model/Relation", name := "goal", desc := "()Ljava/lang/String;" } : Jvm.MethodName) prog_45_method_4_code (1 : Nat) (Option.some (Jvm.ClassFile.FieldType.object "java/lang/String"))).before args0 about1 = true := code_word (m := ⟨6, 0⟩) (meth := k6m0) (c := k6c0) (by decide +kernel) rfl rfl rfl (by decide +kernel)
def codes1 : List Jvm.Cond := [Jvm.Cond.code x code maxLocals ret, Jvm.Cond.code ({ cls := "com/example/guided_sim/guidedsim/model/Relation", name := "opposite", desc := "()Ljava/lang/String;" } : Jvm.MethodName) prog_45_method_5_code (1 : Nat) (Option.some (Jvm.ClassFile.FieldType.object "java/lang/String")), Jvm.Cond.code ({ cls := "java/lang/String", name := "equals", desc := "(Ljava/lang/Object;)Z" } : Jvm.MethodName) jdk_42_method_66_code (3 : Nat) (Option.some Jvm.ClassFile.FieldType.boolean), Jvm.Cond.code ({ cls := "java/lang/StringLatin1", name := "equals", desc := "([B[B)Z" } : Jvm.MethodName) jdk_43_method_13_code (3 : Nat) (Option.some Jvm.ClassFile.FieldType.boolean), Jvm.Cond.code ({ cls := "com/example/guided_sim/guidedsim/model/Relation", name := "goal", desc := "()Ljava/lang/String;" } : Jvm.MethodName) prog_45_method_4_code (1 : Nat) (Option.some (Jvm.ClassFile.FieldType.object "java/lang/String"))]
set_option maxRecDepth 65536 in
theorem codes_eq : words1.filter isCode = codes1 := rfl
theorem w_codes : ∀ c ∈ words1.filter isCode, c.before args0 about1 = true := by
  rw [codes_eq]
  intro c hc
  simp only [codes1, List.mem_cons, List.not_mem_nil, or_false] at hc
  rcases hc with rfl | rfl | rfl | rfl | rfl
  · exact w_c0
  · exact w_c1
  · exact w_c2
  · exact w_c3
  · exact w_c4
set_option maxRecDepth 65536 in
theorem w_t1 : (words1.take 24).all (fun c => isCode c || c.before args0 about1) = true := by decide +kernel
set_option maxRecDepth 65536 in
theorem w_t2 : ((words1.drop 24).take 24).all (fun c => isCode c || c.before args0 about1) = true := by decide +kernel
set_option maxRecDepth 65536 in
theorem w_t3 : ((words1.drop 24).drop 24).all (fun c => isCode c || c.before args0 about1) = true := by decide +kernel
theorem w_tables : (allAtoms (Jvm.Cond.code x code maxLocals ret :: tables_1)).before args0 about1 = true := by
  rw [allAtoms_all]
  show words1.all (fun c => c.before args0 about1) = true
  refine all_split ?_ w_codes
  rw [← List.take_append_drop 24 words1, List.all_append, w_t1, ← List.take_append_drop 24 (words1.drop 24), List.all_append, w_t2, w_t3]
  rfl
set_option maxRecDepth 65536 in
theorem w_rest : rest_1_c.before args0 about1 = true := by decide +kernel
set_option maxRecDepth 65536 in
theorem w_case : (Jvm.Cond.and given_1 narrow_1).before args0 about1 = true := by decide +kernel
set_option maxRecDepth 65536 in
theorem w_consts : constsHeld consts_1 about1 := Jvm.Lit.constsHeldB_iff.mp (by decide +kernel)
theorem w_applies : (headSpec (Jvm.Cond.code x code maxLocals ret :: tables_1) room_1).applies x e0.platform about1 = true :=
  (Spec.applies_iff w_frames).mpr ⟨w_running, w_runnable, w_alone, w_named, w_hears, w_ripe, w_room, w_tables⟩
theorem atStart : AtStart classFile x code maxLocals ret World_1 tables_1 room_1 Calls_1 rest_1 Pre_1 launch0 p0 e0 about1 theMethod args0 below0 :=
  ⟨lists_1, trivial, launch0.admits_env _ _ _, launch0.least_env, fairChoices_fair.cas, fairChoices_fair.clock, w_frames, w_args, w_heap, w_applies, ⟨w_consts, trivial⟩, w_rest, w_case⟩
end start1
theorem witness_1 : WitnessClaimed_1 := ⟨start1.p0, start1.e0, start1.about1, start1.theMethod, start1.args0, start1.below0, start1.atStart⟩
end Jvm.Pilot.@@N@@
