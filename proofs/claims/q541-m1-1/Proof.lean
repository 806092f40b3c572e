import JvmDerived
import JvmDerived.Pilot.@@N@@Statement
import JvmDerived.Pilot.@@N@@Code
set_option linter.unusedVariables false
set_option linter.unusedSimpArgs false
namespace Jvm.RoadKit
open Sem ClassFile Op Lib Jvm.Stand Jvm.Free Jvm.LawKit
section New
variable {p : Program} {l : Launch} {e : Env} {R : Room} {s : State} {m : MethodId} {args : Array Value} {below : List Frame} {meth : Method} {c : Code} {T : State} {locs : List Loc} {cells slots : Nat}
theorem retI (X : Stand p l e R s m args below meth c T locs cells slots) (hx : p.tables.exec = Jvm.exec) {pc : Nat} {Ls : Array Slot} {z : Int32} {rest : List Value} (hret : meth.sig.returnType = some .int) (hd : decode c.code pc = .ok (.ireturn, 1)) {fs : List Frame}
    (hl : ∀ (f : JFrame) (acts : List Action), f.method = m → f.locked = none → f.entered = [] → (doReturn e (T.setTop f) acts (some (.int z))).1 = T.setFrames fs) : Steps p.tables e below (T.setTop (mkF m pc Ls (.int z :: rest))) (T.setFrames fs) := by
  have hm' : T.vm.method? m = some meth := X.method'
  have hn : narrow .int (.int z) = .int z := rfl
  show Steps p.tables e below (T.setTop { method := m, pc := pc, locals := Ls, stack := _ :: rest, locked := none }) _
  jvm_step X.here [X.here.top, hx, hd, hm', hret, hn]
  first | (intro acts; rw [hl _ acts rfl rfl rfl]) | rw [hl _ _ rfl rfl rfl]
  exact Steps.refl _
end New
end Jvm.RoadKit
namespace Jvm.Pilot.@@N@@
open Jvm Jvm.ClassFile Sem Op Lib Jvm.Free Jvm.Stand Jvm.LawKit Jvm.RoadKit Bundle Jvm.Pilot.@@N@@.Jvm.D
/-! the comparisons, as plain decisions -/
theorem own_w {a0 : Array Value} {Z : State} (hw : ∀ d ∈ tables_1, d.before a0 Z = true) (i : Nat) {d : Jvm.Cond} (h : tables_1[i]? = some d) : d.before a0 Z = true := hw d (List.mem_of_getElem? h)
theorem own_ilt (x y : Int32) : if_icmp.holds .lt x y = decide (x < y) := rfl
theorem own_ile (x y : Int32) : if_icmp.holds .le x y = decide (x ≤ y) := rfl
theorem own_igt (x y : Int32) : if_icmp.holds .gt x y = decide (y < x) := rfl
theorem own_ige (x y : Int32) : if_icmp.holds .ge x y = decide (y ≤ x) := rfl
theorem own_ieq (x y : Int32) : if_icmp.holds .eq x y = decide (x = y) := rfl
theorem own_ine (x y : Int32) : if_icmp.holds .ne x y = decide (x ≠ y) := by
  by_cases h : x = y
  · rw [(teq h).2]; exact (decide_eq_false (not_not_intro h)).symm
  · rw [(feq h).2]; exact (decide_eq_true h).symm
theorem own_smono {s : State} {vm : Vm} {n n' : Nat} (h : s.Since vm n) (hn : n ≤ n') : s.Since vm n' := ⟨h.1, fun j p hj hp => ⟨(h.2 j p hj hp).1, Nat.lt_of_lt_of_le (h.2 j p hj hp).2 hn⟩⟩
theorem own_d0 : FP.dconst0 = FP.l2d (0 : Int64) := by rw [l2d_zero]; rfl
theorem own_lgt (x y : Int64) : ifCond.holds .gt (lcmpW x y) = decide (y < x) := by rw [if0, own_igt]; exact decide_eq_decide.mpr (lw_gt x y)
theorem own_llt (x y : Int64) : ifCond.holds .lt (lcmpW x y) = decide (x < y) := by rw [if0, own_ilt]; exact decide_eq_decide.mpr (lw_lt x y)
theorem own_leq (x y : Int64) : ifCond.holds .eq (lcmpW x y) = decide (x = y) := by rw [if0, own_ieq]; exact decide_eq_decide.mpr (lw_eq x y)
theorem own_lne (x y : Int64) : ifCond.holds .ne (lcmpW x y) = decide (x ≠ y) := by rw [if0, own_ine]; exact decide_eq_decide.mpr (not_congr (lw_eq x y))
theorem own_lle (x y : Int64) : ifCond.holds .le (lcmpW x y) = decide (x ≤ y) := by rw [if0, own_ile]; exact decide_eq_decide.mpr (by rw [← Int32.not_lt, lw_gt, Int64.not_lt])
theorem own_lge (x y : Int64) : ifCond.holds .ge (lcmpW x y) = decide (y ≤ x) := by rw [if0, own_ige]; exact decide_eq_decide.mpr (by rw [← Int32.not_lt, lw_lt, Int64.not_lt])
theorem own_nn {x : Int32} (h : ¬ x < 0) : ifCond.holds .lt x = false := by rw [if0, own_ilt]; exact decide_eq_false h
theorem own_lt {x y : Int32} (h : x < y) : if_icmp.holds .lt x y = true := by rw [own_ilt]; exact decide_eq_true h
theorem own_nz {x : Int32} (h : ¬ x = 0) : ifCond.holds .eq x = false := by rw [if0, own_ieq]; exact decide_eq_false h
theorem d2_0 : decode jdk_42_method_152_code 0 = .ok (.getstatic 38, 3) := by decide +kernel
theorem d2_3 : decode jdk_42_method_152_code 3 = .ok (.ifCond .eq 10, 3) := by decide +kernel
theorem d2_6 : decode jdk_42_method_152_code 6 = .ok (.aload_n 0, 1) := by decide +kernel
theorem d2_7 : decode jdk_42_method_152_code 7 = .ok (.getfield 15, 3) := by decide +kernel
theorem d2_10 : decode jdk_42_method_152_code 10 = .ok (.goto 4, 3) := by decide +kernel
theorem d2_14 : decode jdk_42_method_152_code 14 = .ok (.ireturn, 1) := by decide +kernel
theorem ef_rm_coder (m : MethodId) (x0 : Addr) : entryFrame m #[(.ref x0)] 1 = mkF m 0 #[.val (.ref x0)] [] := by first | (simp [entryFrame, mkF, argsToLocals, Value.category]; done) | rfl
def Q_rm_coder (Z : State) (u1 : Addr) (zc : Int32) (cd : Int32) (h0 : Heap) (n0 : Nat) (v : Option Value) (h : Heap) (L : List Loc) : Prop := v = some (.int (nar .byte cd)) ∧ Fr n0 L ∧ h = h0
theorem pn_453642 : plainName "java/lang/String" = true := by first | (simp [plainName, overriddenIn]; done) | decide +kernel
set_option maxRecDepth 65536 in
set_option maxHeartbeats 40000000 in
theorem rm_coder (l : Launch) (Z : State) (a0 : Array Value) (hw : ∀ d ∈ tables_1, d.before a0 Z = true) (ws : List Jvm.Cond) (u1 : Addr) (zc : Int32) (cd : Int32) (h0 : Heap) (n0 : Nat) (Z0 : n0 ≤ h0.size) (S1 : Sta Z h0 "java/lang/String" "COMPACT_STRINGS" "Z" (.int zc)) (hz : ¬ zc = 0) (F1 : Fld Z h0 u1 "java/lang/String" "coder" "B" (.int cd)) :
    MetFree l (⟨"java/lang/String", "coder", "()B"⟩ : MethodName) (head1 (Jvm.Cond.code (⟨"java/lang/String", "coder", "()B"⟩ : MethodName) jdk_42_method_152_code 1 (some .byte) :: ws) ({ frames := 0, cells := 0, slots := 0, locals := 0 } : Room)) (fun a U => a = #[(.ref u1)] ∧ Z.Warmed39 U.vm ∧ U.heap = h0) (fun _ _ _ _ _ => True) (fun _ U o U' => ∃ v L, o = .returned v ∧ Q_rm_coder Z u1 zc cd h0 n0 v U'.heap L ∧ FrameEnd U o U' L ({ frames := 0, cells := 0, slots := 0, locals := 0 } : Room).cells ({ frames := 0, cells := 0, slots := 0, locals := 0 } : Room).slots) := by
  refine MetFree.of_bodySF (plainFor_of_name pn_453642) hisR ?_
  intro p e s m args below meth c s₁ Bd hml0 hP hK
  obtain ⟨rfl, hZ, hh⟩ := hP
  have hx := Bd.exec
  have hby := Bd.bytes
  have hml : c.maxLocals = 1 := hml0
  have hown : s.vm.findClass "java/lang/String" = some m.cls := findClass_of_methodNamed Bd.named
  have hnm := (name_of_methodNamed Bd.named Bd.method).1
  have X0 : Stand p l e ({ frames := 0, cells := 0, slots := 0, locals := 0 } : Room) s m #[(.ref u1)] below meth c s₁ [] 0 0 := Stand.of_body Bd
  have e0 : s₁.heap = h0 := by rw [← hh, Bd.state]; rfl
  have N0 := Fr.nil n0
  have pre0 : ∀ t, Steps p.tables e below (s₁.setTop (mkF m 0 #[.val (.ref u1)] [])) t → Steps p.tables e below (s₁.setTop (entryFrame m #[(.ref u1)] 1)) t := fun t k => castTop (ef_rm_coder m u1) k
  obtain ⟨T1, X1, e1, st1⟩ := getS2 X0 hx hZ hown (host := "") (Or.inl (own_w hw 19 rfl)) Via.refl e0 S1 (g := (mkF m 0 #[.val (.ref u1)] [])) rfl (hb hby d2_0)
  obtain ⟨T2, X2, e2, st2⟩ := getF X1 hx hZ hown (host := "") (Or.inl (own_w hw 20 rfl)) Via.refl e1 F1 (g := (mkF m 7 #[.val (.ref u1)] [(.ref u1)])) rfl rfl (hb hby d2_7)
  obtain ⟨fs, hr, hrun, hended, hW, hsame⟩ := X2.leave (v := some (.int (nar .byte cd))) (fun h => by rw [Bd.returns] at h; cases h)
  refine ⟨_, _, pre0 _ ?_, hrun, hended, _, _, rfl, ?_, ⟨_, rfl⟩, hW, hsame.mono (by decide) (by decide)⟩
  · show Steps p.tables e below (s₁.setTop (mkF m 0 #[.val (.ref u1)] [])) _
    refine st1 _ ?_
    show Steps p.tables e below (T1.setTop (mkF m 3 #[.val (.ref u1)] [(.int zc)])) _
    refine XS.ifNo X1.here hx rfl (hb hby d2_3) rfl (own_nz hz) ?_
    show Steps p.tables e below (T1.setTop (mkF m 6 #[.val (.ref u1)] [])) _
    refine XS.aloadN X1.here hx rfl (hb hby d2_6) rfl rfl ?_
    show Steps p.tables e below (T1.setTop (mkF m 7 #[.val (.ref u1)] [(.ref u1)])) _
    refine st2 _ ?_
    show Steps p.tables e below (T2.setTop (mkF m 10 #[.val (.ref u1)] [(.int cd)])) _
    refine XS.goto X2.here hx rfl (pc0 := 10) (pc' := 14) rfl (hb hby d2_10) (by decide) (by decide) ?_
    show Steps p.tables e below (T2.setTop (mkF m 14 #[.val (.ref u1)] [(.int cd)])) _
    exact retN X2 hx (t := .byte) Bd.returns (by simp) (hb hby d2_14) hr
  · show Q_rm_coder Z _ _ _ h0 n0 _ T2.heap _
    rw [e2]
    exact ⟨rfl, N0, rfl⟩
theorem d1_0 : decode jdk_42_method_54_code 0 = .ok (.aload_n 0, 1) := by decide +kernel
theorem d1_1 : decode jdk_42_method_54_code 1 = .ok (.getfield 9, 3) := by decide +kernel
theorem d1_4 : decode jdk_42_method_54_code 4 = .ok (.arraylength, 1) := by decide +kernel
theorem d1_5 : decode jdk_42_method_54_code 5 = .ok (.aload_n 0, 1) := by decide +kernel
theorem d1_6 : decode jdk_42_method_54_code 6 = .ok (.invokevirtual 335, 3) := by decide +kernel
theorem pd_691877 : parseMethodDescriptor "()B" = some ⟨[], some .byte⟩ := by decide +kernel
theorem d1_9 : decode jdk_42_method_54_code 9 = .ok (.ishr, 1) := by decide +kernel
theorem d1_10 : decode jdk_42_method_54_code 10 = .ok (.ireturn, 1) := by decide +kernel
theorem ef_rm_len (m : MethodId) (x0 : Addr) : entryFrame m #[(.ref x0)] 1 = mkF m 0 #[.val (.ref x0)] [] := by first | (simp [entryFrame, mkF, argsToLocals, Value.category]; done) | rfl
def Q_rm_len (Z : State) (u1 : Addr) (zc : Int32) (cd : Int32) (t : Addr) (kb : ClassId) (z : Int32) (vs : List Value) (h0 : Heap) (n0 : Nat) (v : Option Value) (h : Heap) (L : List Loc) : Prop := v = some (.int (z >>> ((nar .byte cd) &&& 31))) ∧ Fr n0 L ∧ h = h0
set_option maxRecDepth 65536 in
set_option maxHeartbeats 40000000 in
theorem rm_len (l : Launch) (Z : State) (a0 : Array Value) (hw : ∀ d ∈ tables_1, d.before a0 Z = true) (ws : List Jvm.Cond) (u1 : Addr) (zc : Int32) (cd : Int32) (t : Addr) (kb : ClassId) (z : Int32) (vs : List Value) (h0 : Heap) (n0 : Nat) (Z0 : n0 ≤ h0.size) (S1 : Sta Z h0 "java/lang/String" "COMPACT_STRINGS" "Z" (.int zc)) (hz : ¬ zc = 0) (E1 : Exa Z h0 u1 "java/lang/String") (F1 : Fld Z h0 u1 "java/lang/String" "coder" "B" (.int cd)) (F2 : Fld Z h0 u1 "java/lang/String" "value" "[B" (.ref t)) (V1 : Arv Z h0 t kb .byte z vs (.int (0 : Int32))) :
    MetFree l (⟨"java/lang/String", "length", "()I"⟩ : MethodName) (head1 (Jvm.Cond.code (⟨"java/lang/String", "length", "()I"⟩ : MethodName) jdk_42_method_54_code 1 (some .int) :: ws) ({ frames := 1, cells := 0, slots := 0, locals := 13 } : Room)) (fun a U => a = #[(.ref u1)] ∧ Z.Warmed39 U.vm ∧ U.heap = h0) (fun _ _ _ _ _ => True) (fun _ U o U' => ∃ v L, o = .returned v ∧ Q_rm_len Z u1 zc cd t kb z vs h0 n0 v U'.heap L ∧ FrameEnd U o U' L ({ frames := 1, cells := 0, slots := 0, locals := 13 } : Room).cells ({ frames := 1, cells := 0, slots := 0, locals := 13 } : Room).slots) := by
  refine MetFree.of_bodySF (plainFor_of_name pn_453642) hisR ?_
  intro p e s m args below meth c s₁ Bd hml0 hP hK
  obtain ⟨rfl, hZ, hh⟩ := hP
  have hx := Bd.exec
  have hby := Bd.bytes
  have hml : c.maxLocals = 1 := hml0
  have hown : s.vm.findClass "java/lang/String" = some m.cls := findClass_of_methodNamed Bd.named
  have hnm := (name_of_methodNamed Bd.named Bd.method).1
  have X0 : Stand p l e ({ frames := 1, cells := 0, slots := 0, locals := 13 } : Room) s m #[(.ref u1)] below meth c s₁ [] 0 0 := Stand.of_body Bd
  have e0 : s₁.heap = h0 := by rw [← hh, Bd.state]; rfl
  have N0 := Fr.nil n0
  have pre0 : ∀ t, Steps p.tables e below (s₁.setTop (mkF m 0 #[.val (.ref u1)] [])) t → Steps p.tables e below (s₁.setTop (entryFrame m #[(.ref u1)] 1)) t := fun t k => castTop (ef_rm_len m u1) k
  obtain ⟨cl, Ar, -, Sz, Mz, -, -⟩ := id V1
  obtain ⟨T1, X1, e1, st1⟩ := getF X0 hx hZ hown (host := "") (Or.inl (own_w hw 13 rfl)) Via.refl e0 F2 (g := (mkF m 1 #[.val (.ref u1)] [(.ref u1)])) rfl rfl (hb hby d1_1)
  obtain ⟨cq2, kq2, q2a, q2b, q2c⟩ := isOf hZ e1 E1
  obtain ⟨_, _, ⟨T2, L2, k2, n2⟩, -, X2, ⟨Lc2, hQ2, l2, y2, z2⟩, st2⟩ := X1.virtualBack hx (y := (⟨"java/lang/String", "coder", "()B"⟩ : MethodName)) (z := (⟨"java/lang/String", "coder", "()B"⟩ : MethodName)) hown (mvT hZ (own_w hw 14 rfl)) (mvT hZ (own_w hw 15 rfl)) (notFace_of_selects (args := #[]) (mvT hZ (own_w hw 17 rfl))) (mvT hZ (own_w hw 17 rfl)) (mvT hZ (own_w hw 16 rfl)) (by decide) (backOf (W := 1) (rm_coder l Z a0 hw [] u1 zc cd h0 n0 Z0 S1 hz F1) hZ (own_w hw 18 rfl) (own_w hw 1 rfl) (by decide) (by decide)) q2a q2c (g := (mkF m 6 #[.val (.ref u1)] [(.ref u1), (.int z)])) rfl (by rw [hml]; rfl) (Steps.refl _) (argsL := []) (rest := [(.int z)]) (lenOf pd_691877 rfl) rfl (by show 2 * 0 + _ ≤ _; exact Nat.le_of_eq rfl) (hb hby d1_6) (fun _ _ => ⟨rfl, e1, (by decide : 0 + 0 ≤ _), (by decide : 0 + 0 ≤ _)⟩)
  dsimp only [Pt.U, Pt.locs, Pt.cells, Pt.slots] at X2 l2 y2 z2 st2 hQ2
  replace y2 : k2 = 0 := y2
  replace z2 : n2 = 0 := z2
  subst y2 z2
  obtain ⟨rfl, Nq2, eq2⟩ := hQ2
  have N2 : Fr n0 L2 := by rw [l2]; exact Fr.app N0 Nq2
  obtain ⟨fs, hr, hrun, hended, hW, hsame⟩ := X2.leave (v := some (.int (z >>> ((nar .byte cd) &&& 31)))) (fun h => by rw [Bd.returns] at h; cases h)
  refine ⟨_, _, pre0 _ ?_, hrun, hended, _, _, rfl, ?_, ⟨_, rfl⟩, hW, hsame.mono (by decide) (by decide)⟩
  · show Steps p.tables e below (s₁.setTop (mkF m 0 #[.val (.ref u1)] [])) _
    refine XS.aloadN X0.here hx rfl (hb hby d1_0) rfl rfl ?_
    show Steps p.tables e below (s₁.setTop (mkF m 1 #[.val (.ref u1)] [(.ref u1)])) _
    refine st1 _ ?_
    show Steps p.tables e below (T1.setTop (mkF m 4 #[.val (.ref u1)] [(.ref t)])) _
    refine X1.arraylength hx (by rw [e1]; exact Ar.1) (State.isArrayOf_alike hZ.alike Ar.2.1) (g := (mkF m 4 #[.val (.ref u1)] [(.ref t)])) rfl rfl (hb hby d1_4) _ ?_
    rw [len_of Sz Mz]
    show Steps p.tables e below (T1.setTop (mkF m 5 #[.val (.ref u1)] [(.int z)])) _
    refine XS.aloadN X1.here hx rfl (hb hby d1_5) rfl rfl ?_
    show Steps p.tables e below (T1.setTop (mkF m 6 #[.val (.ref u1)] [(.ref u1), (.int z)])) _
    refine st2.trans ?_
    show Steps p.tables e below (T2.setTop (mkF m 9 #[.val (.ref u1)] [(.int (nar .byte cd)), (.int z)])) _
    refine XS.ishr X2.here hx rfl (hb hby d1_9) rfl ?_
    show Steps p.tables e below (T2.setTop (mkF m 10 #[.val (.ref u1)] [(.int (z >>> ((nar .byte cd) &&& 31)))])) _
    exact retI X2 hx Bd.returns (hb hby d1_10) hr
  · show Q_rm_len Z _ _ _ _ _ _ _ h0 n0 _ T2.heap _
    rw [eq2]
    exact ⟨rfl, N2, rfl⟩
theorem d5_0 : decode jdk_42_method_154_code 0 = .ok (.getstatic 38, 3) := by decide +kernel
theorem d5_3 : decode jdk_42_method_154_code 3 = .ok (.ifCond .eq 14, 3) := by decide +kernel
theorem d5_6 : decode jdk_42_method_154_code 6 = .ok (.aload_n 0, 1) := by decide +kernel
theorem d5_7 : decode jdk_42_method_154_code 7 = .ok (.getfield 15, 3) := by decide +kernel
theorem d5_10 : decode jdk_42_method_154_code 10 = .ok (.ifCond .ne 7, 3) := by decide +kernel
theorem d5_17 : decode jdk_42_method_154_code 17 = .ok (.iconst 0, 1) := by decide +kernel
theorem d5_13 : decode jdk_42_method_154_code 13 = .ok (.iconst 1, 1) := by decide +kernel
theorem d5_14 : decode jdk_42_method_154_code 14 = .ok (.goto 4, 3) := by decide +kernel
theorem d5_18 : decode jdk_42_method_154_code 18 = .ok (.ireturn, 1) := by decide +kernel
theorem ef_rm_lat (m : MethodId) (x0 : Addr) : entryFrame m #[(.ref x0)] 1 = mkF m 0 #[.val (.ref x0)] [] := by first | (simp [entryFrame, mkF, argsToLocals, Value.category]; done) | rfl
def Q_rm_lat (Z : State) (u1 : Addr) (zc : Int32) (cd : Int32) (h0 : Heap) (n0 : Nat) (v : Option Value) (h : Heap) (L : List Loc) : Prop := v = some (.int (nar .boolean (bif (ifCond.holds .ne cd) then (0 : Int32) else (1 : Int32)))) ∧ Fr n0 L ∧ h = h0
set_option maxRecDepth 65536 in
set_option maxHeartbeats 40000000 in
theorem rm_lat (l : Launch) (Z : State) (a0 : Array Value) (hw : ∀ d ∈ tables_1, d.before a0 Z = true) (ws : List Jvm.Cond) (u1 : Addr) (zc : Int32) (cd : Int32) (h0 : Heap) (n0 : Nat) (Z0 : n0 ≤ h0.size) (S1 : Sta Z h0 "java/lang/String" "COMPACT_STRINGS" "Z" (.int zc)) (hz : ¬ zc = 0) (F1 : Fld Z h0 u1 "java/lang/String" "coder" "B" (.int cd)) :
    MetFree l (⟨"java/lang/String", "isLatin1", "()Z"⟩ : MethodName) (head1 (Jvm.Cond.code (⟨"java/lang/String", "isLatin1", "()Z"⟩ : MethodName) jdk_42_method_154_code 1 (some .boolean) :: ws) ({ frames := 0, cells := 0, slots := 0, locals := 0 } : Room)) (fun a U => a = #[(.ref u1)] ∧ Z.Warmed39 U.vm ∧ U.heap = h0) (fun _ _ _ _ _ => True) (fun _ U o U' => ∃ v L, o = .returned v ∧ Q_rm_lat Z u1 zc cd h0 n0 v U'.heap L ∧ FrameEnd U o U' L ({ frames := 0, cells := 0, slots := 0, locals := 0 } : Room).cells ({ frames := 0, cells := 0, slots := 0, locals := 0 } : Room).slots) := by
  refine MetFree.of_bodySF (plainFor_of_name pn_453642) hisR ?_
  intro p e s m args below meth c s₁ Bd hml0 hP hK
  obtain ⟨rfl, hZ, hh⟩ := hP
  have hx := Bd.exec
  have hby := Bd.bytes
  have hml : c.maxLocals = 1 := hml0
  have hown : s.vm.findClass "java/lang/String" = some m.cls := findClass_of_methodNamed Bd.named
  have hnm := (name_of_methodNamed Bd.named Bd.method).1
  have X0 : Stand p l e ({ frames := 0, cells := 0, slots := 0, locals := 0 } : Room) s m #[(.ref u1)] below meth c s₁ [] 0 0 := Stand.of_body Bd
  have e0 : s₁.heap = h0 := by rw [← hh, Bd.state]; rfl
  have N0 := Fr.nil n0
  have pre0 : ∀ t, Steps p.tables e below (s₁.setTop (mkF m 0 #[.val (.ref u1)] [])) t → Steps p.tables e below (s₁.setTop (entryFrame m #[(.ref u1)] 1)) t := fun t k => castTop (ef_rm_lat m u1) k
  obtain ⟨T1, X1, e1, st1⟩ := getS2 X0 hx hZ hown (host := "") (Or.inl (own_w hw 19 rfl)) Via.refl e0 S1 (g := (mkF m 0 #[.val (.ref u1)] [])) rfl (hb hby d5_0)
  obtain ⟨T2, X2, e2, st2⟩ := getF X1 hx hZ hown (host := "") (Or.inl (own_w hw 20 rfl)) Via.refl e1 F1 (g := (mkF m 7 #[.val (.ref u1)] [(.ref u1)])) rfl rfl (hb hby d5_7)
  have pre3 : ∀ t, Steps p.tables e below (T2.setTop (mkF m 10 #[.val (.ref u1)] [(.int cd)])) t → Steps p.tables e below (s₁.setTop (entryFrame m #[(.ref u1)] 1)) t := by
    intro t k
    refine pre0 t ?_
    show Steps p.tables e below (s₁.setTop (mkF m 0 #[.val (.ref u1)] [])) _
    refine st1 _ ?_
    show Steps p.tables e below (T1.setTop (mkF m 3 #[.val (.ref u1)] [(.int zc)])) _
    refine XS.ifNo X1.here hx rfl (hb hby d5_3) rfl (own_nz hz) ?_
    show Steps p.tables e below (T1.setTop (mkF m 6 #[.val (.ref u1)] [])) _
    refine XS.aloadN X1.here hx rfl (hb hby d5_6) rfl rfl ?_
    show Steps p.tables e below (T1.setTop (mkF m 7 #[.val (.ref u1)] [(.ref u1)])) _
    refine st2 _ ?_
    exact k
  have pre5 : ∀ t, Steps p.tables e below (T2.setTop (mkF m 18 #[.val (.ref u1)] [(.int (bif (ifCond.holds .ne cd) then (0 : Int32) else (1 : Int32)))])) t → Steps p.tables e below (s₁.setTop (entryFrame m #[(.ref u1)] 1)) t := by
    intro t k
    refine pre3 t ?_
    show Steps p.tables e below (T2.setTop (mkF m 10 #[.val (.ref u1)] [(.int cd)])) _
    rcases Bool.eq_false_or_eq_true (ifCond.holds .ne cd) with hb10_4 | hb10_4
    · refine XS.ifYes X2.here hx rfl (pc0 := 10) (pc' := 17) rfl (hb hby d5_10) rfl hb10_4 (by decide) (by decide) ?_
      show Steps p.tables e below (T2.setTop (mkF m 17 #[.val (.ref u1)] [])) _
      refine XS.iconst X2.here hx rfl (hb hby d5_17) ?_
      have k : Steps p.tables e below (T2.setTop (mkF m 18 #[.val (.ref u1)] [(.int (0 : Int32))])) t := by simpa only [hb10_4, cond_true, cond_false] using k
      exact k
    · refine XS.ifNo X2.here hx rfl (hb hby d5_10) rfl hb10_4 ?_
      show Steps p.tables e below (T2.setTop (mkF m 13 #[.val (.ref u1)] [])) _
      refine XS.iconst X2.here hx rfl (hb hby d5_13) ?_
      show Steps p.tables e below (T2.setTop (mkF m 14 #[.val (.ref u1)] [(.int (1 : Int32))])) _
      refine XS.goto X2.here hx rfl (pc0 := 14) (pc' := 18) rfl (hb hby d5_14) (by decide) (by decide) ?_
      have k : Steps p.tables e below (T2.setTop (mkF m 18 #[.val (.ref u1)] [(.int (1 : Int32))])) t := by simpa only [hb10_4, cond_true, cond_false] using k
      exact k
  obtain ⟨fs, hr, hrun, hended, hW, hsame⟩ := X2.leave (v := some (.int (nar .boolean (bif (ifCond.holds .ne cd) then (0 : Int32) else (1 : Int32))))) (fun h => by rw [Bd.returns] at h; cases h)
  refine ⟨_, _, pre5 _ ?_, hrun, hended, _, _, rfl, ?_, ⟨_, rfl⟩, hW, hsame.mono (by decide) (by decide)⟩
  · show Steps p.tables e below (T2.setTop (mkF m 18 #[.val (.ref u1)] [(.int (bif (ifCond.holds .ne cd) then (0 : Int32) else (1 : Int32)))])) _
    exact retN X2 hx (t := .boolean) Bd.returns (by simp) (hb hby d5_18) hr
  · show Q_rm_lat Z _ _ _ h0 n0 _ T2.heap _
    rw [e2]
    exact ⟨rfl, N0, rfl⟩
theorem d8_0 : decode jdk_41_method_11_code 0 = .ok (.iload_n 0, 1) := by decide +kernel
theorem d8_1 : decode jdk_41_method_11_code 1 = .ok (.ifCond .lt 8, 3) := by decide +kernel
theorem d8_4 : decode jdk_41_method_11_code 4 = .ok (.iload_n 0, 1) := by decide +kernel
theorem d8_5 : decode jdk_41_method_11_code 5 = .ok (.iload_n 1, 1) := by decide +kernel
theorem d8_6 : decode jdk_41_method_11_code 6 = .ok (.if_icmp .lt 10, 3) := by decide +kernel
theorem d8_16 : decode jdk_41_method_11_code 16 = .ok (.iload_n 0, 1) := by decide +kernel
theorem d8_17 : decode jdk_41_method_11_code 17 = .ok (.ireturn, 1) := by decide +kernel
theorem ef_rm_preN (m : MethodId) (x0 : Int32) (x1 : Int32) : entryFrame m #[(.int x0), (.int x1), .null] 3 = mkF m 0 #[.val (.int x0), .val (.int x1), .val .null] [] := by first | (simp [entryFrame, mkF, argsToLocals, Value.category]; done) | rfl
def Q_rm_preN (Z : State) (u1 : Int32) (u2 : Int32) (h0 : Heap) (n0 : Nat) (v : Option Value) (h : Heap) (L : List Loc) : Prop := v = some (.int u1) ∧ Fr n0 L ∧ h = h0
theorem pn_280271 : plainName "jdk/internal/util/Preconditions" = true := by first | (simp [plainName, overriddenIn]; done) | decide +kernel
set_option maxRecDepth 65536 in
set_option maxHeartbeats 40000000 in
theorem rm_preN (l : Launch) (Z : State) (a0 : Array Value) (hw : ∀ d ∈ tables_1, d.before a0 Z = true) (ws : List Jvm.Cond) (u1 : Int32) (u2 : Int32) (h0 : Heap) (n0 : Nat) (Z0 : n0 ≤ h0.size) (hc1 : ifCond.holds .lt u1 = false) (hc2 : if_icmp.holds .lt u1 u2 = true) :
    MetFree l (⟨"jdk/internal/util/Preconditions", "checkIndex", "(IILjava/util/function/BiFunction;)I"⟩ : MethodName) (head1 (Jvm.Cond.code (⟨"jdk/internal/util/Preconditions", "checkIndex", "(IILjava/util/function/BiFunction;)I"⟩ : MethodName) jdk_41_method_11_code 3 (some .int) :: ws) ({ frames := 0, cells := 0, slots := 0, locals := 0 } : Room)) (fun a U => a = #[(.int u1), (.int u2), .null] ∧ Z.Warmed39 U.vm ∧ U.heap = h0) (fun _ _ _ _ _ => True) (fun _ U o U' => ∃ v L, o = .returned v ∧ Q_rm_preN Z u1 u2 h0 n0 v U'.heap L ∧ FrameEnd U o U' L ({ frames := 0, cells := 0, slots := 0, locals := 0 } : Room).cells ({ frames := 0, cells := 0, slots := 0, locals := 0 } : Room).slots) := by
  refine MetFree.of_bodySF (plainFor_of_name pn_280271) hisR ?_
  intro p e s m args below meth c s₁ Bd hml0 hP hK
  obtain ⟨rfl, hZ, hh⟩ := hP
  have hx := Bd.exec
  have hby := Bd.bytes
  have hml : c.maxLocals = 3 := hml0
  have hown : s.vm.findClass "jdk/internal/util/Preconditions" = some m.cls := findClass_of_methodNamed Bd.named
  have hnm := (name_of_methodNamed Bd.named Bd.method).1
  have X0 : Stand p l e ({ frames := 0, cells := 0, slots := 0, locals := 0 } : Room) s m #[(.int u1), (.int u2), .null] below meth c s₁ [] 0 0 := Stand.of_body Bd
  have e0 : s₁.heap = h0 := by rw [← hh, Bd.state]; rfl
  have N0 := Fr.nil n0
  have pre0 : ∀ t, Steps p.tables e below (s₁.setTop (mkF m 0 #[.val (.int u1), .val (.int u2), .val .null] [])) t → Steps p.tables e below (s₁.setTop (entryFrame m #[(.int u1), (.int u2), .null] 3)) t := fun t k => castTop (ef_rm_preN m u1 u2) k
  obtain ⟨fs, hr, hrun, hended, hW, hsame⟩ := X0.leave (v := some (.int u1)) (fun h => by rw [Bd.returns] at h; cases h)
  refine ⟨_, _, pre0 _ ?_, hrun, hended, _, _, rfl, ?_, ⟨_, rfl⟩, hW, hsame.mono (by decide) (by decide)⟩
  · show Steps p.tables e below (s₁.setTop (mkF m 0 #[.val (.int u1), .val (.int u2), .val .null] [])) _
    refine XS.iloadN X0.here hx rfl (hb hby d8_0) rfl ?_
    show Steps p.tables e below (s₁.setTop (mkF m 1 #[.val (.int u1), .val (.int u2), .val .null] [(.int u1)])) _
    refine XS.ifNo X0.here hx rfl (hb hby d8_1) rfl hc1 ?_
    show Steps p.tables e below (s₁.setTop (mkF m 4 #[.val (.int u1), .val (.int u2), .val .null] [])) _
    refine XS.iloadN X0.here hx rfl (hb hby d8_4) rfl ?_
    show Steps p.tables e below (s₁.setTop (mkF m 5 #[.val (.int u1), .val (.int u2), .val .null] [(.int u1)])) _
    refine XS.iloadN X0.here hx rfl (hb hby d8_5) rfl ?_
    show Steps p.tables e below (s₁.setTop (mkF m 6 #[.val (.int u1), .val (.int u2), .val .null] [(.int u2), (.int u1)])) _
    refine XS.icmpYes X0.here hx rfl (pc0 := 6) (pc' := 16) rfl (hb hby d8_6) rfl hc2 (by decide) (by decide) ?_
    show Steps p.tables e below (s₁.setTop (mkF m 16 #[.val (.int u1), .val (.int u2), .val .null] [])) _
    refine XS.iloadN X0.here hx rfl (hb hby d8_16) rfl ?_
    show Steps p.tables e below (s₁.setTop (mkF m 17 #[.val (.int u1), .val (.int u2), .val .null] [(.int u1)])) _
    exact retI X0 hx Bd.returns (hb hby d8_17) hr
  · show Q_rm_preN Z _ _ h0 n0 _ s₁.heap _
    rw [e0]
    exact ⟨rfl, N0, rfl⟩
theorem ef_rm_preR (m : MethodId) (x0 : Int32) (x1 : Int32) (x2 : Addr) : entryFrame m #[(.int x0), (.int x1), (.ref x2)] 3 = mkF m 0 #[.val (.int x0), .val (.int x1), .val (.ref x2)] [] := by first | (simp [entryFrame, mkF, argsToLocals, Value.category]; done) | rfl
def Q_rm_preR (Z : State) (u1 : Int32) (u2 : Int32) (u3 : Addr) (h0 : Heap) (n0 : Nat) (v : Option Value) (h : Heap) (L : List Loc) : Prop := v = some (.int u1) ∧ Fr n0 L ∧ h = h0
set_option maxRecDepth 65536 in
set_option maxHeartbeats 40000000 in
theorem rm_preR (l : Launch) (Z : State) (a0 : Array Value) (hw : ∀ d ∈ tables_1, d.before a0 Z = true) (ws : List Jvm.Cond) (u1 : Int32) (u2 : Int32) (u3 : Addr) (h0 : Heap) (n0 : Nat) (Z0 : n0 ≤ h0.size) (hc1 : ifCond.holds .lt u1 = false) (hc2 : if_icmp.holds .lt u1 u2 = true) :
    MetFree l (⟨"jdk/internal/util/Preconditions", "checkIndex", "(IILjava/util/function/BiFunction;)I"⟩ : MethodName) (head1 (Jvm.Cond.code (⟨"jdk/internal/util/Preconditions", "checkIndex", "(IILjava/util/function/BiFunction;)I"⟩ : MethodName) jdk_41_method_11_code 3 (some .int) :: ws) ({ frames := 0, cells := 0, slots := 0, locals := 0 } : Room)) (fun a U => a = #[(.int u1), (.int u2), (.ref u3)] ∧ Z.Warmed39 U.vm ∧ U.heap = h0) (fun _ _ _ _ _ => True) (fun _ U o U' => ∃ v L, o = .returned v ∧ Q_rm_preR Z u1 u2 u3 h0 n0 v U'.heap L ∧ FrameEnd U o U' L ({ frames := 0, cells := 0, slots := 0, locals := 0 } : Room).cells ({ frames := 0, cells := 0, slots := 0, locals := 0 } : Room).slots) := by
  refine MetFree.of_bodySF (plainFor_of_name pn_280271) hisR ?_
  intro p e s m args below meth c s₁ Bd hml0 hP hK
  obtain ⟨rfl, hZ, hh⟩ := hP
  have hx := Bd.exec
  have hby := Bd.bytes
  have hml : c.maxLocals = 3 := hml0
  have hown : s.vm.findClass "jdk/internal/util/Preconditions" = some m.cls := findClass_of_methodNamed Bd.named
  have hnm := (name_of_methodNamed Bd.named Bd.method).1
  have X0 : Stand p l e ({ frames := 0, cells := 0, slots := 0, locals := 0 } : Room) s m #[(.int u1), (.int u2), (.ref u3)] below meth c s₁ [] 0 0 := Stand.of_body Bd
  have e0 : s₁.heap = h0 := by rw [← hh, Bd.state]; rfl
  have N0 := Fr.nil n0
  have pre0 : ∀ t, Steps p.tables e below (s₁.setTop (mkF m 0 #[.val (.int u1), .val (.int u2), .val (.ref u3)] [])) t → Steps p.tables e below (s₁.setTop (entryFrame m #[(.int u1), (.int u2), (.ref u3)] 3)) t := fun t k => castTop (ef_rm_preR m u1 u2 u3) k
  obtain ⟨fs, hr, hrun, hended, hW, hsame⟩ := X0.leave (v := some (.int u1)) (fun h => by rw [Bd.returns] at h; cases h)
  refine ⟨_, _, pre0 _ ?_, hrun, hended, _, _, rfl, ?_, ⟨_, rfl⟩, hW, hsame.mono (by decide) (by decide)⟩
  · show Steps p.tables e below (s₁.setTop (mkF m 0 #[.val (.int u1), .val (.int u2), .val (.ref u3)] [])) _
    refine XS.iloadN X0.here hx rfl (hb hby d8_0) rfl ?_
    show Steps p.tables e below (s₁.setTop (mkF m 1 #[.val (.int u1), .val (.int u2), .val (.ref u3)] [(.int u1)])) _
    refine XS.ifNo X0.here hx rfl (hb hby d8_1) rfl hc1 ?_
    show Steps p.tables e below (s₁.setTop (mkF m 4 #[.val (.int u1), .val (.int u2), .val (.ref u3)] [])) _
    refine XS.iloadN X0.here hx rfl (hb hby d8_4) rfl ?_
    show Steps p.tables e below (s₁.setTop (mkF m 5 #[.val (.int u1), .val (.int u2), .val (.ref u3)] [(.int u1)])) _
    refine XS.iloadN X0.here hx rfl (hb hby d8_5) rfl ?_
    show Steps p.tables e below (s₁.setTop (mkF m 6 #[.val (.int u1), .val (.int u2), .val (.ref u3)] [(.int u2), (.int u1)])) _
    refine XS.icmpYes X0.here hx rfl (pc0 := 6) (pc' := 16) rfl (hb hby d8_6) rfl hc2 (by decide) (by decide) ?_
    show Steps p.tables e below (s₁.setTop (mkF m 16 #[.val (.int u1), .val (.int u2), .val (.ref u3)] [])) _
    refine XS.iloadN X0.here hx rfl (hb hby d8_16) rfl ?_
    show Steps p.tables e below (s₁.setTop (mkF m 17 #[.val (.int u1), .val (.int u2), .val (.ref u3)] [(.int u1)])) _
    exact retI X0 hx Bd.returns (hb hby d8_17) hr
  · show Q_rm_preR Z _ _ _ h0 n0 _ s₁.heap _
    rw [e0]
    exact ⟨rfl, N0, rfl⟩
theorem d7_0 : decode jdk_42_method_155_code 0 = .ok (.iload_n 0, 1) := by decide +kernel
theorem d7_1 : decode jdk_42_method_155_code 1 = .ok (.iload_n 1, 1) := by decide +kernel
theorem d7_2 : decode jdk_42_method_155_code 2 = .ok (.getstatic 1053, 3) := by decide +kernel
theorem d7_5 : decode jdk_42_method_155_code 5 = .ok (.invokestatic 1059, 3) := by decide +kernel
theorem pd_408869 : parseMethodDescriptor "(IILjava/util/function/BiFunction;)I" = some ⟨[.int, .int, (.object "java/util/function/BiFunction")], some .int⟩ := by decide +kernel
theorem d7_8 : decode jdk_42_method_155_code 8 = .ok (.pop, 1) := by decide +kernel
theorem d7_9 : decode jdk_42_method_155_code 9 = .ok (.return_, 1) := by decide +kernel
theorem ef_rm_cix (m : MethodId) (x0 : Int32) (x1 : Int32) : entryFrame m #[(.int x0), (.int x1)] 2 = mkF m 0 #[.val (.int x0), .val (.int x1)] [] := by first | (simp [entryFrame, mkF, argsToLocals, Value.category]; done) | rfl
def Q_rm_cix (Z : State) (u1 : Int32) (u2 : Int32) (fm : Value) (h0 : Heap) (n0 : Nat) (v : Option Value) (h : Heap) (L : List Loc) : Prop := v = none ∧ Fr n0 L ∧ h = h0
set_option maxRecDepth 65536 in
set_option maxHeartbeats 40000000 in
theorem rm_cix (l : Launch) (Z : State) (a0 : Array Value) (hw : ∀ d ∈ tables_1, d.before a0 Z = true) (ws : List Jvm.Cond) (u1 : Int32) (u2 : Int32) (fm : Value) (h0 : Heap) (n0 : Nat) (Z0 : n0 ≤ h0.size) (hc1 : ifCond.holds .lt u1 = false) (hc2 : if_icmp.holds .lt u1 u2 = true) (S2 : Sta Z h0 "jdk/internal/util/Preconditions" "SIOOBE_FORMATTER" "Ljava/util/function/BiFunction;" fm) (rf : fm.isRef = true) :
    MetFree l (⟨"java/lang/String", "checkIndex", "(II)V"⟩ : MethodName) (head1 (Jvm.Cond.code (⟨"java/lang/String", "checkIndex", "(II)V"⟩ : MethodName) jdk_42_method_155_code 2 none :: ws) ({ frames := 1, cells := 0, slots := 0, locals := 14 } : Room)) (fun a U => a = #[(.int u1), (.int u2)] ∧ Z.Warmed39 U.vm ∧ U.heap = h0) (fun _ _ _ _ _ => True) (fun _ U o U' => ∃ v L, o = .returned v ∧ Q_rm_cix Z u1 u2 fm h0 n0 v U'.heap L ∧ FrameEnd U o U' L ({ frames := 1, cells := 0, slots := 0, locals := 14 } : Room).cells ({ frames := 1, cells := 0, slots := 0, locals := 14 } : Room).slots) := by
  refine MetFree.of_bodySF (plainFor_of_name pn_453642) hisR ?_
  intro p e s m args below meth c s₁ Bd hml0 hP hK
  obtain ⟨rfl, hZ, hh⟩ := hP
  have hx := Bd.exec
  have hby := Bd.bytes
  have hml : c.maxLocals = 2 := hml0
  have hown : s.vm.findClass "java/lang/String" = some m.cls := findClass_of_methodNamed Bd.named
  have hnm := (name_of_methodNamed Bd.named Bd.method).1
  have X0 : Stand p l e ({ frames := 1, cells := 0, slots := 0, locals := 14 } : Room) s m #[(.int u1), (.int u2)] below meth c s₁ [] 0 0 := Stand.of_body Bd
  have e0 : s₁.heap = h0 := by rw [← hh, Bd.state]; rfl
  have N0 := Fr.nil n0
  have pre0 : ∀ t, Steps p.tables e below (s₁.setTop (mkF m 0 #[.val (.int u1), .val (.int u2)] [])) t → Steps p.tables e below (s₁.setTop (entryFrame m #[(.int u1), (.int u2)] 2)) t := fun t k => castTop (ef_rm_cix m u1 u2) k
  rcases ref_cases rf with rfl | ⟨af, rfl⟩
  · obtain ⟨T1, X1, e1, st1⟩ := getS2 X0 hx hZ hown (host := "") (Or.inl (own_w hw 42 rfl)) Via.refl e0 S2 (g := (mkF m 2 #[.val (.int u1), .val (.int u2)] [(.int u2), (.int u1)])) rfl (hb hby d7_2)
    obtain ⟨_, _, ⟨T2, L2, k2, n2⟩, -, X2, ⟨Lc2, hQ2, l2, y2, z2⟩, st2⟩ := Jvm.LawKit.callS X1 hx (y := (⟨"jdk/internal/util/Preconditions", "checkIndex", "(IILjava/util/function/BiFunction;)I"⟩ : MethodName)) hown (mvT hZ (own_w hw 44 rfl)) (mvT hZ (own_w hw 45 rfl)) (mvT hZ (own_w hw 43 rfl)) (mvT hZ (own_w hw 46 rfl)) (by decide) (backOf (W := 0) (rm_preN l Z a0 hw [] u1 u2 h0 n0 Z0 hc1 hc2) hZ (own_w hw 46 rfl) (own_w hw 43 rfl) (by decide) (by decide)) (g := (mkF m 5 #[.val (.int u1), .val (.int u2)] [.null, (.int u2), (.int u1)])) rfl (by rw [hml]; rfl) (argsL := [(.int u1), (.int u2), .null]) (rest := []) (lenOf pd_408869 rfl) rfl (by show 2 * 0 + _ ≤ _; exact Nat.le_of_eq rfl) (hb hby d7_5) (fun _ _ => ⟨rfl, e1, (by decide : 0 + 0 ≤ _), (by decide : 0 + 0 ≤ _)⟩)
    dsimp only [Pt.U, Pt.locs, Pt.cells, Pt.slots] at X2 l2 y2 z2 st2 hQ2
    replace y2 : k2 = 0 := y2
    replace z2 : n2 = 0 := z2
    subst y2 z2
    obtain ⟨rfl, Nq2, eq2⟩ := hQ2
    have N2 : Fr n0 L2 := by rw [l2]; exact Fr.app N0 Nq2
    obtain ⟨fs, hr, hrun, hended, hW, hsame⟩ := X2.leave (v := none) (fun _ => rfl)
    refine ⟨_, _, pre0 _ ?_, hrun, hended, _, _, rfl, ?_, ⟨_, rfl⟩, hW, hsame.mono (by decide) (by decide)⟩
    · show Steps p.tables e below (s₁.setTop (mkF m 0 #[.val (.int u1), .val (.int u2)] [])) _
      refine XS.iloadN X0.here hx rfl (hb hby d7_0) rfl ?_
      show Steps p.tables e below (s₁.setTop (mkF m 1 #[.val (.int u1), .val (.int u2)] [(.int u1)])) _
      refine XS.iloadN X0.here hx rfl (hb hby d7_1) rfl ?_
      show Steps p.tables e below (s₁.setTop (mkF m 2 #[.val (.int u1), .val (.int u2)] [(.int u2), (.int u1)])) _
      refine st1 _ ?_
      show Steps p.tables e below (T1.setTop (mkF m 5 #[.val (.int u1), .val (.int u2)] [.null, (.int u2), (.int u1)])) _
      refine st2 _ ?_
      show Steps p.tables e below (T2.setTop (mkF m 8 #[.val (.int u1), .val (.int u2)] [(.int u1)])) _
      refine XS.pop X2.here hx rfl (hb hby d7_8) rfl rfl ?_
      show Steps p.tables e below (T2.setTop (mkF m 9 #[.val (.int u1), .val (.int u2)] [])) _
      exact X2.returnOut hx Bd.returns (hb hby d7_9) hr
    · show Q_rm_cix Z _ _ _ h0 n0 _ T2.heap _
      rw [eq2]
      exact ⟨rfl, N2, rfl⟩
  · obtain ⟨T3, X3, e3, st3⟩ := getS2 X0 hx hZ hown (host := "") (Or.inl (own_w hw 42 rfl)) Via.refl e0 S2 (g := (mkF m 2 #[.val (.int u1), .val (.int u2)] [(.int u2), (.int u1)])) rfl (hb hby d7_2)
    obtain ⟨_, _, ⟨T4, L4, k4, n4⟩, -, X4, ⟨Lc4, hQ4, l4, y4, z4⟩, st4⟩ := Jvm.LawKit.callS X3 hx (y := (⟨"jdk/internal/util/Preconditions", "checkIndex", "(IILjava/util/function/BiFunction;)I"⟩ : MethodName)) hown (mvT hZ (own_w hw 44 rfl)) (mvT hZ (own_w hw 45 rfl)) (mvT hZ (own_w hw 43 rfl)) (mvT hZ (own_w hw 46 rfl)) (by decide) (backOf (W := 0) (rm_preR l Z a0 hw [] u1 u2 af h0 n0 Z0 hc1 hc2) hZ (own_w hw 46 rfl) (own_w hw 43 rfl) (by decide) (by decide)) (g := (mkF m 5 #[.val (.int u1), .val (.int u2)] [(.ref af), (.int u2), (.int u1)])) rfl (by rw [hml]; rfl) (argsL := [(.int u1), (.int u2), (.ref af)]) (rest := []) (lenOf pd_408869 rfl) rfl (by show 2 * 0 + _ ≤ _; exact Nat.le_of_eq rfl) (hb hby d7_5) (fun _ _ => ⟨rfl, e3, (by decide : 0 + 0 ≤ _), (by decide : 0 + 0 ≤ _)⟩)
    dsimp only [Pt.U, Pt.locs, Pt.cells, Pt.slots] at X4 l4 y4 z4 st4 hQ4
    replace y4 : k4 = 0 := y4
    replace z4 : n4 = 0 := z4
    subst y4 z4
    obtain ⟨rfl, Nq4, eq4⟩ := hQ4
    have N4 : Fr n0 L4 := by rw [l4]; exact Fr.app N0 Nq4
    obtain ⟨fs, hr, hrun, hended, hW, hsame⟩ := X4.leave (v := none) (fun _ => rfl)
    refine ⟨_, _, pre0 _ ?_, hrun, hended, _, _, rfl, ?_, ⟨_, rfl⟩, hW, hsame.mono (by decide) (by decide)⟩
    · show Steps p.tables e below (s₁.setTop (mkF m 0 #[.val (.int u1), .val (.int u2)] [])) _
      refine XS.iloadN X0.here hx rfl (hb hby d7_0) rfl ?_
      show Steps p.tables e below (s₁.setTop (mkF m 1 #[.val (.int u1), .val (.int u2)] [(.int u1)])) _
      refine XS.iloadN X0.here hx rfl (hb hby d7_1) rfl ?_
      show Steps p.tables e below (s₁.setTop (mkF m 2 #[.val (.int u1), .val (.int u2)] [(.int u2), (.int u1)])) _
      refine st3 _ ?_
      show Steps p.tables e below (T3.setTop (mkF m 5 #[.val (.int u1), .val (.int u2)] [(.ref af), (.int u2), (.int u1)])) _
      refine st4 _ ?_
      show Steps p.tables e below (T4.setTop (mkF m 8 #[.val (.int u1), .val (.int u2)] [(.int u1)])) _
      refine XS.pop X4.here hx rfl (hb hby d7_8) rfl rfl ?_
      show Steps p.tables e below (T4.setTop (mkF m 9 #[.val (.int u1), .val (.int u2)] [])) _
      exact X4.returnOut hx Bd.returns (hb hby d7_9) hr
    · show Q_rm_cix Z _ _ _ h0 n0 _ T4.heap _
      rw [eq4]
      exact ⟨rfl, N4, rfl⟩
theorem d6_0 : decode jdk_43_method_2_code 0 = .ok (.iload_n 1, 1) := by decide +kernel
theorem d6_1 : decode jdk_43_method_2_code 1 = .ok (.aload_n 0, 1) := by decide +kernel
theorem d6_2 : decode jdk_43_method_2_code 2 = .ok (.arraylength, 1) := by decide +kernel
theorem d6_3 : decode jdk_43_method_2_code 3 = .ok (.invokestatic 9, 3) := by decide +kernel
theorem pd_329858 : parseMethodDescriptor "(II)V" = some ⟨[.int, .int], none⟩ := by decide +kernel
theorem d6_6 : decode jdk_43_method_2_code 6 = .ok (.aload_n 0, 1) := by decide +kernel
theorem d6_7 : decode jdk_43_method_2_code 7 = .ok (.iload_n 1, 1) := by decide +kernel
theorem d6_8 : decode jdk_43_method_2_code 8 = .ok (.baload, 1) := by decide +kernel
theorem d6_9 : decode jdk_43_method_2_code 9 = .ok (.sipush 255, 3) := by decide +kernel
theorem d6_12 : decode jdk_43_method_2_code 12 = .ok (.iand, 1) := by decide +kernel
theorem d6_13 : decode jdk_43_method_2_code 13 = .ok (.i2c, 1) := by decide +kernel
theorem d6_14 : decode jdk_43_method_2_code 14 = .ok (.ireturn, 1) := by decide +kernel
theorem ef_rm_lch (m : MethodId) (x0 : Addr) (x1 : Int32) : entryFrame m #[(.ref x0), (.int x1)] 2 = mkF m 0 #[.val (.ref x0), .val (.int x1)] [] := by first | (simp [entryFrame, mkF, argsToLocals, Value.category]; done) | rfl
def Q_rm_lch (Z : State) (u1 : Addr) (u2 : Int32) (fm : Value) (kb : ClassId) (z : Int32) (vs : List Value) (r : Int32) (h0 : Heap) (n0 : Nat) (v : Option Value) (h : Heap) (L : List Loc) : Prop := v = some (.int (nar .char ((r &&& (255 : Int32)).toUInt32.toUInt16.toUInt32.toInt32))) ∧ Fr n0 L ∧ h = h0
theorem pn_173701 : plainName "java/lang/StringLatin1" = true := by first | (simp [plainName, overriddenIn]; done) | decide +kernel
set_option maxRecDepth 65536 in
set_option maxHeartbeats 40000000 in
theorem rm_lch (l : Launch) (Z : State) (a0 : Array Value) (hw : ∀ d ∈ tables_1, d.before a0 Z = true) (ws : List Jvm.Cond) (u1 : Addr) (u2 : Int32) (fm : Value) (kb : ClassId) (z : Int32) (vs : List Value) (r : Int32) (h0 : Heap) (n0 : Nat) (Z0 : n0 ≤ h0.size) (S2 : Sta Z h0 "jdk/internal/util/Preconditions" "SIOOBE_FORMATTER" "Ljava/util/function/BiFunction;" fm) (rf : fm.isRef = true) (V1 : Arv Z h0 u1 kb .byte z vs (.int (0 : Int32))) (hin : ¬ u2 < 0 ∧ u2 < z) (hv : vs.getD u2.toNatClampNeg (.int (0 : Int32)) = .int r) :
    MetFree l (⟨"java/lang/StringLatin1", "charAt", "([BI)C"⟩ : MethodName) (head1 (Jvm.Cond.code (⟨"java/lang/StringLatin1", "charAt", "([BI)C"⟩ : MethodName) jdk_43_method_2_code 2 (some .char) :: ws) ({ frames := 2, cells := 0, slots := 0, locals := 27 } : Room)) (fun a U => a = #[(.ref u1), (.int u2)] ∧ Z.Warmed39 U.vm ∧ U.heap = h0) (fun _ _ _ _ _ => True) (fun _ U o U' => ∃ v L, o = .returned v ∧ Q_rm_lch Z u1 u2 fm kb z vs r h0 n0 v U'.heap L ∧ FrameEnd U o U' L ({ frames := 2, cells := 0, slots := 0, locals := 27 } : Room).cells ({ frames := 2, cells := 0, slots := 0, locals := 27 } : Room).slots) := by
  refine MetFree.of_bodySF (plainFor_of_name pn_173701) hisR ?_
  intro p e s m args below meth c s₁ Bd hml0 hP hK
  obtain ⟨rfl, hZ, hh⟩ := hP
  have hx := Bd.exec
  have hby := Bd.bytes
  have hml : c.maxLocals = 2 := hml0
  have hown : s.vm.findClass "java/lang/StringLatin1" = some m.cls := findClass_of_methodNamed Bd.named
  have hnm := (name_of_methodNamed Bd.named Bd.method).1
  have X0 : Stand p l e ({ frames := 2, cells := 0, slots := 0, locals := 27 } : Room) s m #[(.ref u1), (.int u2)] below meth c s₁ [] 0 0 := Stand.of_body Bd
  have e0 : s₁.heap = h0 := by rw [← hh, Bd.state]; rfl
  have N0 := Fr.nil n0
  have pre0 : ∀ t, Steps p.tables e below (s₁.setTop (mkF m 0 #[.val (.ref u1), .val (.int u2)] [])) t → Steps p.tables e below (s₁.setTop (entryFrame m #[(.ref u1), (.int u2)] 2)) t := fun t k => castTop (ef_rm_lch m u1 u2) k
  obtain ⟨cl, Ar, -, Sz, Mz, Hz, -⟩ := id V1
  obtain ⟨_, _, ⟨T1, L1, k1, n1⟩, -, X1, ⟨Lc1, hQ1, l1, y1, z1⟩, st1⟩ := Jvm.LawKit.callS X0 hx (y := (⟨"java/lang/String", "checkIndex", "(II)V"⟩ : MethodName)) hown (mvT hZ (own_w hw 39 rfl)) (mvT hZ (own_w hw 40 rfl)) (mvT hZ (own_w hw 1 rfl)) (mvT hZ (own_w hw 41 rfl)) (by decide) (backOf (W := 0) (rm_cix l Z a0 hw [] u2 z fm h0 n0 Z0 (own_nn hin.1) (own_lt hin.2) S2 rf) hZ (own_w hw 41 rfl) (own_w hw 1 rfl) (by decide) (by decide)) (g := (mkF m 3 #[.val (.ref u1), .val (.int u2)] [(.int z), (.int u2)])) rfl (by rw [hml]; rfl) (argsL := [(.int u2), (.int z)]) (rest := []) (lenOf pd_329858 rfl) rfl (by show 2 * 0 + _ ≤ _; exact Nat.le_of_eq rfl) (hb hby d6_3) (fun _ _ => ⟨rfl, e0, (by decide : 0 + 0 ≤ _), (by decide : 0 + 0 ≤ _)⟩)
  dsimp only [Pt.U, Pt.locs, Pt.cells, Pt.slots] at X1 l1 y1 z1 st1 hQ1
  replace y1 : k1 = 0 := y1
  replace z1 : n1 = 0 := z1
  subst y1 z1
  obtain ⟨rfl, Nq1, eq1⟩ := hQ1
  have N1 : Fr n0 L1 := by rw [l1]; exact Fr.app N0 Nq1
  obtain ⟨fs, hr, hrun, hended, hW, hsame⟩ := X1.leave (v := some (.int (nar .char ((r &&& (255 : Int32)).toUInt32.toUInt16.toUInt32.toInt32)))) (fun h => by rw [Bd.returns] at h; cases h)
  refine ⟨_, _, pre0 _ ?_, hrun, hended, _, _, rfl, ?_, ⟨_, rfl⟩, hW, hsame.mono (by decide) (by decide)⟩
  · show Steps p.tables e below (s₁.setTop (mkF m 0 #[.val (.ref u1), .val (.int u2)] [])) _
    refine XS.iloadN X0.here hx rfl (hb hby d6_0) rfl ?_
    show Steps p.tables e below (s₁.setTop (mkF m 1 #[.val (.ref u1), .val (.int u2)] [(.int u2)])) _
    refine XS.aloadN X0.here hx rfl (hb hby d6_1) rfl rfl ?_
    show Steps p.tables e below (s₁.setTop (mkF m 2 #[.val (.ref u1), .val (.int u2)] [(.ref u1), (.int u2)])) _
    refine X0.arraylength hx (by rw [e0]; exact Ar.1) (State.isArrayOf_alike hZ.alike Ar.2.1) (g := (mkF m 2 #[.val (.ref u1), .val (.int u2)] [(.ref u1), (.int u2)])) rfl rfl (hb hby d6_2) _ ?_
    rw [len_of Sz Mz]
    show Steps p.tables e below (s₁.setTop (mkF m 3 #[.val (.ref u1), .val (.int u2)] [(.int z), (.int u2)])) _
    refine st1 _ ?_
    show Steps p.tables e below (T1.setTop (mkF m 6 #[.val (.ref u1), .val (.int u2)] [])) _
    refine XS.aloadN X1.here hx rfl (hb hby d6_6) rfl rfl ?_
    show Steps p.tables e below (T1.setTop (mkF m 7 #[.val (.ref u1), .val (.int u2)] [(.ref u1)])) _
    refine XS.iloadN X1.here hx rfl (hb hby d6_7) rfl ?_
    show Steps p.tables e below (T1.setTop (mkF m 8 #[.val (.ref u1), .val (.int u2)] [(.int u2), (.ref u1)])) _
    refine X1.baloadBytes hx (j := u2) (v := (.int r)) (by rw [eq1]; exact Ar.1) (State.isArrayOf_alike hZ.alike Ar.2.1) Ar.2.2 (inb_of Sz hin) (Hz.at (inb_of Sz hin) hv) (g := (mkF m 8 #[.val (.ref u1), .val (.int u2)] [(.int u2), (.ref u1)])) rfl rfl (hb hby d6_8) _ ?_
    show Steps p.tables e below (T1.setTop (mkF m 9 #[.val (.ref u1), .val (.int u2)] [(.int r)])) _
    refine XS.sipush X1.here hx rfl (hb hby d6_9) ?_
    show Steps p.tables e below (T1.setTop (mkF m 12 #[.val (.ref u1), .val (.int u2)] [(.int (255 : Int32)), (.int r)])) _
    refine XS.iand X1.here hx rfl (hb hby d6_12) rfl ?_
    show Steps p.tables e below (T1.setTop (mkF m 13 #[.val (.ref u1), .val (.int u2)] [(.int (r &&& (255 : Int32)))])) _
    refine XS.i2c X1.here hx rfl (hb hby d6_13) rfl ?_
    show Steps p.tables e below (T1.setTop (mkF m 14 #[.val (.ref u1), .val (.int u2)] [(.int ((r &&& (255 : Int32)).toUInt32.toUInt16.toUInt32.toInt32))])) _
    exact retN X1 hx (t := .char) Bd.returns (by simp) (hb hby d6_14) hr
  · show Q_rm_lch Z _ _ _ _ _ _ _ h0 n0 _ T1.heap _
    rw [eq1]
    exact ⟨rfl, N1, rfl⟩
theorem d4_0 : decode jdk_42_method_56_code 0 = .ok (.aload_n 0, 1) := by decide +kernel
theorem d4_1 : decode jdk_42_method_56_code 1 = .ok (.invokevirtual 492, 3) := by decide +kernel
theorem pd_691901 : parseMethodDescriptor "()Z" = some ⟨[], some .boolean⟩ := by decide +kernel
theorem d4_4 : decode jdk_42_method_56_code 4 = .ok (.ifCond .eq 12, 3) := by decide +kernel
theorem d4_7 : decode jdk_42_method_56_code 7 = .ok (.aload_n 0, 1) := by decide +kernel
theorem d4_8 : decode jdk_42_method_56_code 8 = .ok (.getfield 9, 3) := by decide +kernel
theorem d4_11 : decode jdk_42_method_56_code 11 = .ok (.iload_n 1, 1) := by decide +kernel
theorem d4_12 : decode jdk_42_method_56_code 12 = .ok (.invokestatic 495, 3) := by decide +kernel
theorem pd_676 : parseMethodDescriptor "([BI)C" = some ⟨[(.array .byte), .int], some .char⟩ := by decide +kernel
theorem d4_15 : decode jdk_42_method_56_code 15 = .ok (.ireturn, 1) := by decide +kernel
theorem ef_rm_ch (m : MethodId) (x0 : Addr) (x1 : Int32) : entryFrame m #[(.ref x0), (.int x1)] 2 = mkF m 0 #[.val (.ref x0), .val (.int x1)] [] := by first | (simp [entryFrame, mkF, argsToLocals, Value.category]; done) | rfl
def Q_rm_ch (Z : State) (u1 : Addr) (u2 : Int32) (zc : Int32) (fm : Value) (t : Addr) (kb : ClassId) (z : Int32) (vs : List Value) (r : Int32) (h0 : Heap) (n0 : Nat) (v : Option Value) (h : Heap) (L : List Loc) : Prop := v = some (.int (nar .char (nar .char ((r &&& (255 : Int32)).toUInt32.toUInt16.toUInt32.toInt32)))) ∧ Fr n0 L ∧ h = h0
set_option maxRecDepth 65536 in
set_option maxHeartbeats 40000000 in
theorem rm_ch (l : Launch) (Z : State) (a0 : Array Value) (hw : ∀ d ∈ tables_1, d.before a0 Z = true) (ws : List Jvm.Cond) (u1 : Addr) (u2 : Int32) (zc : Int32) (fm : Value) (t : Addr) (kb : ClassId) (z : Int32) (vs : List Value) (r : Int32) (h0 : Heap) (n0 : Nat) (Z0 : n0 ≤ h0.size) (S1 : Sta Z h0 "java/lang/String" "COMPACT_STRINGS" "Z" (.int zc)) (hz : ¬ zc = 0) (S2 : Sta Z h0 "jdk/internal/util/Preconditions" "SIOOBE_FORMATTER" "Ljava/util/function/BiFunction;" fm) (rf : fm.isRef = true) (E1 : Exa Z h0 u1 "java/lang/String") (F1 : Fld Z h0 u1 "java/lang/String" "coder" "B" (.int (0 : Int32))) (F2 : Fld Z h0 u1 "java/lang/String" "value" "[B" (.ref t)) (V1 : Arv Z h0 t kb .byte z vs (.int (0 : Int32))) (hin : ¬ u2 < 0 ∧ u2 < z) (hv : vs.getD u2.toNatClampNeg (.int (0 : Int32)) = .int r) :
    MetFree l (⟨"java/lang/String", "charAt", "(I)C"⟩ : MethodName) (head1 (Jvm.Cond.code (⟨"java/lang/String", "charAt", "(I)C"⟩ : MethodName) jdk_42_method_56_code 2 (some .char) :: ws) ({ frames := 3, cells := 0, slots := 0, locals := 40 } : Room)) (fun a U => a = #[(.ref u1), (.int u2)] ∧ Z.Warmed39 U.vm ∧ U.heap = h0) (fun _ _ _ _ _ => True) (fun _ U o U' => ∃ v L, o = .returned v ∧ Q_rm_ch Z u1 u2 zc fm t kb z vs r h0 n0 v U'.heap L ∧ FrameEnd U o U' L ({ frames := 3, cells := 0, slots := 0, locals := 40 } : Room).cells ({ frames := 3, cells := 0, slots := 0, locals := 40 } : Room).slots) := by
  refine MetFree.of_bodySF (plainFor_of_name pn_453642) hisR ?_
  intro p e s m args below meth c s₁ Bd hml0 hP hK
  obtain ⟨rfl, hZ, hh⟩ := hP
  have hx := Bd.exec
  have hby := Bd.bytes
  have hml : c.maxLocals = 2 := hml0
  have hown : s.vm.findClass "java/lang/String" = some m.cls := findClass_of_methodNamed Bd.named
  have hnm := (name_of_methodNamed Bd.named Bd.method).1
  have X0 : Stand p l e ({ frames := 3, cells := 0, slots := 0, locals := 40 } : Room) s m #[(.ref u1), (.int u2)] below meth c s₁ [] 0 0 := Stand.of_body Bd
  have e0 : s₁.heap = h0 := by rw [← hh, Bd.state]; rfl
  have N0 := Fr.nil n0
  have pre0 : ∀ t, Steps p.tables e below (s₁.setTop (mkF m 0 #[.val (.ref u1), .val (.int u2)] [])) t → Steps p.tables e below (s₁.setTop (entryFrame m #[(.ref u1), (.int u2)] 2)) t := fun t k => castTop (ef_rm_ch m u1 u2) k
  obtain ⟨cq1, kq1, q1a, q1b, q1c⟩ := isOf hZ e0 E1
  obtain ⟨_, _, ⟨T1, L1, k1, n1⟩, -, X1, ⟨Lc1, hQ1, l1, y1, z1⟩, st1⟩ := X0.virtualBack hx (y := (⟨"java/lang/String", "isLatin1", "()Z"⟩ : MethodName)) (z := (⟨"java/lang/String", "isLatin1", "()Z"⟩ : MethodName)) hown (mvT hZ (own_w hw 30 rfl)) (mvT hZ (own_w hw 31 rfl)) (notFace_of_selects (args := #[]) (mvT hZ (own_w hw 33 rfl))) (mvT hZ (own_w hw 33 rfl)) (mvT hZ (own_w hw 32 rfl)) (by decide) (backOf (W := 0) (rm_lat l Z a0 hw [] u1 zc (0 : Int32) h0 n0 Z0 S1 hz F1) hZ (own_w hw 34 rfl) (own_w hw 1 rfl) (by decide) (by decide)) q1a q1c (g := (mkF m 1 #[.val (.ref u1), .val (.int u2)] [(.ref u1)])) rfl (by rw [hml]; rfl) (Steps.refl _) (argsL := []) (rest := []) (lenOf pd_691901 rfl) rfl (by show 2 * 0 + _ ≤ _; exact Nat.le_of_eq rfl) (hb hby d4_1) (fun _ _ => ⟨rfl, e0, (by decide : 0 + 0 ≤ _), (by decide : 0 + 0 ≤ _)⟩)
  dsimp only [Pt.U, Pt.locs, Pt.cells, Pt.slots] at X1 l1 y1 z1 st1 hQ1
  replace y1 : k1 = 0 := y1
  replace z1 : n1 = 0 := z1
  subst y1 z1
  obtain ⟨rfl, Nq1, eq1⟩ := hQ1
  have N1 : Fr n0 L1 := by rw [l1]; exact Fr.app N0 Nq1
  obtain ⟨T2, X2, e2, st2⟩ := getF X1 hx hZ hown (host := "") (Or.inl (own_w hw 13 rfl)) Via.refl eq1 F2 (g := (mkF m 8 #[.val (.ref u1), .val (.int u2)] [(.ref u1)])) rfl rfl (hb hby d4_8)
  obtain ⟨_, _, ⟨T3, L3, k3, n3⟩, -, X3, ⟨Lc3, hQ3, l3, y3, z3⟩, st3⟩ := Jvm.LawKit.callS X2 hx (y := (⟨"java/lang/StringLatin1", "charAt", "([BI)C"⟩ : MethodName)) hown (mvT hZ (own_w hw 35 rfl)) (mvT hZ (own_w hw 36 rfl)) (mvT hZ (own_w hw 37 rfl)) (mvT hZ (own_w hw 38 rfl)) (by decide) (backOf (W := 0) (rm_lch l Z a0 hw [] t u2 fm kb z vs r h0 n0 Z0 S2 rf V1 hin hv) hZ (own_w hw 38 rfl) (own_w hw 37 rfl) (by decide) (by decide)) (g := (mkF m 12 #[.val (.ref u1), .val (.int u2)] [(.int u2), (.ref t)])) rfl (by rw [hml]; rfl) (argsL := [(.ref t), (.int u2)]) (rest := []) (lenOf pd_676 rfl) rfl (by show 2 * 0 + _ ≤ _; exact Nat.le_of_eq rfl) (hb hby d4_12) (fun _ _ => ⟨rfl, e2, (by decide : 0 + 0 ≤ _), (by decide : 0 + 0 ≤ _)⟩)
  dsimp only [Pt.U, Pt.locs, Pt.cells, Pt.slots] at X3 l3 y3 z3 st3 hQ3
  replace y3 : k3 = 0 := y3
  replace z3 : n3 = 0 := z3
  subst y3 z3
  obtain ⟨rfl, Nq3, eq3⟩ := hQ3
  have N3 : Fr n0 L3 := by rw [l3]; exact Fr.app N1 Nq3
  obtain ⟨fs, hr, hrun, hended, hW, hsame⟩ := X3.leave (v := some (.int (nar .char (nar .char ((r &&& (255 : Int32)).toUInt32.toUInt16.toUInt32.toInt32))))) (fun h => by rw [Bd.returns] at h; cases h)
  refine ⟨_, _, pre0 _ ?_, hrun, hended, _, _, rfl, ?_, ⟨_, rfl⟩, hW, hsame.mono (by decide) (by decide)⟩
  · show Steps p.tables e below (s₁.setTop (mkF m 0 #[.val (.ref u1), .val (.int u2)] [])) _
    refine XS.aloadN X0.here hx rfl (hb hby d4_0) rfl rfl ?_
    show Steps p.tables e below (s₁.setTop (mkF m 1 #[.val (.ref u1), .val (.int u2)] [(.ref u1)])) _
    refine st1.trans ?_
    show Steps p.tables e below (T1.setTop (mkF m 4 #[.val (.ref u1), .val (.int u2)] [(.int (nar .boolean (bif (ifCond.holds .ne (0 : Int32)) then (0 : Int32) else (1 : Int32))))])) _
    refine XS.ifNo X1.here hx rfl (hb hby d4_4) rfl (by decide) ?_
    show Steps p.tables e below (T1.setTop (mkF m 7 #[.val (.ref u1), .val (.int u2)] [])) _
    refine XS.aloadN X1.here hx rfl (hb hby d4_7) rfl rfl ?_
    show Steps p.tables e below (T1.setTop (mkF m 8 #[.val (.ref u1), .val (.int u2)] [(.ref u1)])) _
    refine st2 _ ?_
    show Steps p.tables e below (T2.setTop (mkF m 11 #[.val (.ref u1), .val (.int u2)] [(.ref t)])) _
    refine XS.iloadN X2.here hx rfl (hb hby d4_11) rfl ?_
    show Steps p.tables e below (T2.setTop (mkF m 12 #[.val (.ref u1), .val (.int u2)] [(.int u2), (.ref t)])) _
    refine st3 _ ?_
    show Steps p.tables e below (T3.setTop (mkF m 15 #[.val (.ref u1), .val (.int u2)] [(.int (nar .char ((r &&& (255 : Int32)).toUInt32.toUInt16.toUInt32.toInt32)))])) _
    exact retN X3 hx (t := .char) Bd.returns (by simp) (hb hby d4_15) hr
  · show Q_rm_ch Z _ _ _ _ _ _ _ _ _ h0 n0 _ T3.heap _
    rw [eq3]
    exact ⟨rfl, N3, rfl⟩
theorem d3_0 : decode method_2_code 0 = .ok (.lload_n 0, 1) := by decide +kernel
theorem d3_1 : decode method_2_code 1 = .ok (.bipush 8, 2) := by decide +kernel
theorem d3_3 : decode method_2_code 3 = .ok (.iload_n 2, 1) := by decide +kernel
theorem d3_4 : decode method_2_code 4 = .ok (.imul, 1) := by decide +kernel
theorem d3_5 : decode method_2_code 5 = .ok (.lushr, 1) := by decide +kernel
theorem d3_6 : decode method_2_code 6 = .ok (.l2i, 1) := by decide +kernel
theorem d3_7 : decode method_2_code 7 = .ok (.i2b, 1) := by decide +kernel
theorem d3_8 : decode method_2_code 8 = .ok (.ireturn, 1) := by decide +kernel
theorem ef_rm_at (m : MethodId) (x0 : Int64) (x1 : Int32) : entryFrame m #[(.long x0), (.int x1)] 3 = mkF m 0 #[.val (.long x0), .second, .val (.int x1)] [] := by first | (simp [entryFrame, mkF, argsToLocals, Value.category]; done) | rfl
def Q_rm_at (Z : State) (u1 : Int64) (u2 : Int32) (h0 : Heap) (n0 : Nat) (v : Option Value) (h : Heap) (L : List Loc) : Prop := v = some (.int (nar .byte ((((u1.toUInt64 >>> (((8 : Int32) * u2) &&& 0x3f).toInt64.toUInt64).toInt64).toInt32).toInt8.toInt32))) ∧ Fr n0 L ∧ h = h0
theorem pn_203743 : plainName "com/example/sabac/sabac/ExpressionLexerIsKeywordPinLaw" = true := by first | (simp [plainName, overriddenIn]; done) | decide +kernel
set_option maxRecDepth 65536 in
set_option maxHeartbeats 40000000 in
theorem rm_at (l : Launch) (Z : State) (a0 : Array Value) (hw : ∀ d ∈ tables_1, d.before a0 Z = true) (ws : List Jvm.Cond) (u1 : Int64) (u2 : Int32) (h0 : Heap) (n0 : Nat) (Z0 : n0 ≤ h0.size) :
    MetFree l (⟨"com/example/sabac/sabac/ExpressionLexerIsKeywordPinLaw", "at", "(JI)B"⟩ : MethodName) (head1 (Jvm.Cond.code (⟨"com/example/sabac/sabac/ExpressionLexerIsKeywordPinLaw", "at", "(JI)B"⟩ : MethodName) method_2_code 3 (some .byte) :: ws) ({ frames := 0, cells := 0, slots := 0, locals := 0 } : Room)) (fun a U => a = #[(.long u1), (.int u2)] ∧ Z.Warmed39 U.vm ∧ U.heap = h0) (fun _ _ _ _ _ => True) (fun _ U o U' => ∃ v L, o = .returned v ∧ Q_rm_at Z u1 u2 h0 n0 v U'.heap L ∧ FrameEnd U o U' L ({ frames := 0, cells := 0, slots := 0, locals := 0 } : Room).cells ({ frames := 0, cells := 0, slots := 0, locals := 0 } : Room).slots) := by
  refine MetFree.of_bodySF (plainFor_of_name pn_203743) hisR ?_
  intro p e s m args below meth c s₁ Bd hml0 hP hK
  obtain ⟨rfl, hZ, hh⟩ := hP
  have hx := Bd.exec
  have hby := Bd.bytes
  have hml : c.maxLocals = 3 := hml0
  have hown : s.vm.findClass "com/example/sabac/sabac/ExpressionLexerIsKeywordPinLaw" = some m.cls := findClass_of_methodNamed Bd.named
  have hnm := (name_of_methodNamed Bd.named Bd.method).1
  have X0 : Stand p l e ({ frames := 0, cells := 0, slots := 0, locals := 0 } : Room) s m #[(.long u1), (.int u2)] below meth c s₁ [] 0 0 := Stand.of_body Bd
  have e0 : s₁.heap = h0 := by rw [← hh, Bd.state]; rfl
  have N0 := Fr.nil n0
  have pre0 : ∀ t, Steps p.tables e below (s₁.setTop (mkF m 0 #[.val (.long u1), .second, .val (.int u2)] [])) t → Steps p.tables e below (s₁.setTop (entryFrame m #[(.long u1), (.int u2)] 3)) t := fun t k => castTop (ef_rm_at m u1 u2) k
  obtain ⟨fs, hr, hrun, hended, hW, hsame⟩ := X0.leave (v := some (.int (nar .byte ((((u1.toUInt64 >>> (((8 : Int32) * u2) &&& 0x3f).toInt64.toUInt64).toInt64).toInt32).toInt8.toInt32)))) (fun h => by rw [Bd.returns] at h; cases h)
  refine ⟨_, _, pre0 _ ?_, hrun, hended, _, _, rfl, ?_, ⟨_, rfl⟩, hW, hsame.mono (by decide) (by decide)⟩
  · show Steps p.tables e below (s₁.setTop (mkF m 0 #[.val (.long u1), .second, .val (.int u2)] [])) _
    refine XS.lloadN X0.here hx rfl (hb hby d3_0) rfl ?_
    show Steps p.tables e below (s₁.setTop (mkF m 1 #[.val (.long u1), .second, .val (.int u2)] [(.long u1)])) _
    refine XS.bipush X0.here hx rfl (hb hby d3_1) ?_
    show Steps p.tables e below (s₁.setTop (mkF m 3 #[.val (.long u1), .second, .val (.int u2)] [(.int (8 : Int32)), (.long u1)])) _
    refine XS.iloadN X0.here hx rfl (hb hby d3_3) rfl ?_
    show Steps p.tables e below (s₁.setTop (mkF m 4 #[.val (.long u1), .second, .val (.int u2)] [(.int u2), (.int (8 : Int32)), (.long u1)])) _
    refine XS.imul X0.here hx rfl (hb hby d3_4) rfl ?_
    show Steps p.tables e below (s₁.setTop (mkF m 5 #[.val (.long u1), .second, .val (.int u2)] [(.int ((8 : Int32) * u2)), (.long u1)])) _
    refine XS.lushr X0.here hx rfl (hb hby d3_5) rfl ?_
    show Steps p.tables e below (s₁.setTop (mkF m 6 #[.val (.long u1), .second, .val (.int u2)] [(.long ((u1.toUInt64 >>> (((8 : Int32) * u2) &&& 0x3f).toInt64.toUInt64).toInt64))])) _
    refine XS.l2i X0.here hx rfl (hb hby d3_6) rfl ?_
    show Steps p.tables e below (s₁.setTop (mkF m 7 #[.val (.long u1), .second, .val (.int u2)] [(.int (((u1.toUInt64 >>> (((8 : Int32) * u2) &&& 0x3f).toInt64.toUInt64).toInt64).toInt32))])) _
    refine XS.i2b X0.here hx rfl (hb hby d3_7) rfl ?_
    show Steps p.tables e below (s₁.setTop (mkF m 8 #[.val (.long u1), .second, .val (.int u2)] [(.int ((((u1.toUInt64 >>> (((8 : Int32) * u2) &&& 0x3f).toInt64.toUInt64).toInt64).toInt32).toInt8.toInt32))])) _
    exact retN X0 hx (t := .byte) Bd.returns (by simp) (hb hby d3_8) hr
  · show Q_rm_at Z _ _ h0 n0 _ s₁.heap _
    rw [e0]
    exact ⟨rfl, N0, rfl⟩
theorem own_getD (xs : List Int32) (k : Nat) : (xs.map Value.int).getD k (.int (0 : Int32)) = .int (xs.getD k (0 : Int32)) := by
  rw [List.getD_eq_getElem?_getD, List.getD_eq_getElem?_getD, List.getElem?_map]
  cases xs[k]? <;> rfl
theorem own_fr {x : Int32} (h : x = 0 ∨ x = 1 ∨ x = 2 ∨ x = 3) (k : Int32) (hk : k = 0 ∨ k = 1 ∨ k = 2 ∨ k = 3 ∨ k = 4) : ¬ (x + k) < 0 ∧ (x + k) < (12 : Int32) := by
  rcases h with rfl | rfl | rfl | rfl <;> rcases hk with rfl | rfl | rfl | rfl | rfl <;> decide
theorem own_fr0 {x : Int32} (h : x = 0 ∨ x = 1 ∨ x = 2 ∨ x = 3) : ¬ x < 0 ∧ x < (12 : Int32) := by
  rcases h with rfl | rfl | rfl | rfl <;> decide
theorem d9_0 : decode prog_7_method_25_code 0 = .ok (.iload_n 2, 1) := by decide +kernel
theorem d9_1 : decode prog_7_method_25_code 1 = .ok (.iload_n 1, 1) := by decide +kernel
theorem d9_2 : decode prog_7_method_25_code 2 = .ok (.isub, 1) := by decide +kernel
theorem d9_3 : decode prog_7_method_25_code 3 = .ok (.istore_n 3, 1) := by decide +kernel
theorem d9_4 : decode prog_7_method_25_code 4 = .ok (.iconst 0, 1) := by decide +kernel
theorem d9_5 : decode prog_7_method_25_code 5 = .ok (.istore 4, 2) := by decide +kernel
theorem d9_7 : decode prog_7_method_25_code 7 = .ok (.iload_n 3, 1) := by decide +kernel
theorem d9_8 : decode prog_7_method_25_code 8 = .ok (.iconst 4, 1) := by decide +kernel
theorem d9_9 : decode prog_7_method_25_code 9 = .ok (.if_icmp .ne 51, 3) := by decide +kernel
theorem d9_60 : decode prog_7_method_25_code 60 = .ok (.iload_n 3, 1) := by decide +kernel
theorem d9_61 : decode prog_7_method_25_code 61 = .ok (.iconst 5, 1) := by decide +kernel
theorem d9_62 : decode prog_7_method_25_code 62 = .ok (.if_icmp .ne 58, 3) := by decide +kernel
theorem d9_65 : decode prog_7_method_25_code 65 = .ok (.aload_n 0, 1) := by decide +kernel
theorem d9_66 : decode prog_7_method_25_code 66 = .ok (.iload_n 1, 1) := by decide +kernel
theorem d9_67 : decode prog_7_method_25_code 67 = .ok (.baload, 1) := by decide +kernel
theorem d9_68 : decode prog_7_method_25_code 68 = .ok (.bipush 102, 2) := by decide +kernel
theorem d9_70 : decode prog_7_method_25_code 70 = .ok (.if_icmp .ne 50, 3) := by decide +kernel
theorem d9_73 : decode prog_7_method_25_code 73 = .ok (.aload_n 0, 1) := by decide +kernel
theorem d9_74 : decode prog_7_method_25_code 74 = .ok (.iload_n 1, 1) := by decide +kernel
theorem d9_75 : decode prog_7_method_25_code 75 = .ok (.iconst 1, 1) := by decide +kernel
theorem d9_76 : decode prog_7_method_25_code 76 = .ok (.iadd, 1) := by decide +kernel
theorem d9_77 : decode prog_7_method_25_code 77 = .ok (.baload, 1) := by decide +kernel
theorem d9_78 : decode prog_7_method_25_code 78 = .ok (.bipush 97, 2) := by decide +kernel
theorem d9_80 : decode prog_7_method_25_code 80 = .ok (.if_icmp .ne 37, 3) := by decide +kernel
theorem d9_117 : decode prog_7_method_25_code 117 = .ok (.iconst 0, 1) := by decide +kernel
theorem d9_118 : decode prog_7_method_25_code 118 = .ok (.istore 4, 2) := by decide +kernel
theorem d9_83 : decode prog_7_method_25_code 83 = .ok (.aload_n 0, 1) := by decide +kernel
theorem d9_84 : decode prog_7_method_25_code 84 = .ok (.iload_n 1, 1) := by decide +kernel
theorem d9_85 : decode prog_7_method_25_code 85 = .ok (.iconst 2, 1) := by decide +kernel
theorem d9_86 : decode prog_7_method_25_code 86 = .ok (.iadd, 1) := by decide +kernel
theorem d9_87 : decode prog_7_method_25_code 87 = .ok (.baload, 1) := by decide +kernel
theorem d9_88 : decode prog_7_method_25_code 88 = .ok (.bipush 108, 2) := by decide +kernel
theorem d9_90 : decode prog_7_method_25_code 90 = .ok (.if_icmp .ne 27, 3) := by decide +kernel
theorem d9_93 : decode prog_7_method_25_code 93 = .ok (.aload_n 0, 1) := by decide +kernel
theorem d9_94 : decode prog_7_method_25_code 94 = .ok (.iload_n 1, 1) := by decide +kernel
theorem d9_95 : decode prog_7_method_25_code 95 = .ok (.iconst 3, 1) := by decide +kernel
theorem d9_96 : decode prog_7_method_25_code 96 = .ok (.iadd, 1) := by decide +kernel
theorem d9_97 : decode prog_7_method_25_code 97 = .ok (.baload, 1) := by decide +kernel
theorem d9_98 : decode prog_7_method_25_code 98 = .ok (.bipush 115, 2) := by decide +kernel
theorem d9_100 : decode prog_7_method_25_code 100 = .ok (.if_icmp .ne 17, 3) := by decide +kernel
theorem d9_103 : decode prog_7_method_25_code 103 = .ok (.aload_n 0, 1) := by decide +kernel
theorem d9_104 : decode prog_7_method_25_code 104 = .ok (.iload_n 1, 1) := by decide +kernel
theorem d9_105 : decode prog_7_method_25_code 105 = .ok (.iconst 4, 1) := by decide +kernel
theorem d9_106 : decode prog_7_method_25_code 106 = .ok (.iadd, 1) := by decide +kernel
theorem d9_107 : decode prog_7_method_25_code 107 = .ok (.baload, 1) := by decide +kernel
theorem d9_108 : decode prog_7_method_25_code 108 = .ok (.bipush 101, 2) := by decide +kernel
theorem d9_110 : decode prog_7_method_25_code 110 = .ok (.if_icmp .ne 7, 3) := by decide +kernel
theorem d9_113 : decode prog_7_method_25_code 113 = .ok (.iconst 1, 1) := by decide +kernel
theorem d9_114 : decode prog_7_method_25_code 114 = .ok (.goto 4, 3) := by decide +kernel
theorem d9_12 : decode prog_7_method_25_code 12 = .ok (.aload_n 0, 1) := by decide +kernel
theorem d9_13 : decode prog_7_method_25_code 13 = .ok (.iload_n 1, 1) := by decide +kernel
theorem d9_14 : decode prog_7_method_25_code 14 = .ok (.baload, 1) := by decide +kernel
theorem d9_15 : decode prog_7_method_25_code 15 = .ok (.bipush 116, 2) := by decide +kernel
theorem d9_17 : decode prog_7_method_25_code 17 = .ok (.if_icmp .ne 43, 3) := by decide +kernel
theorem d9_20 : decode prog_7_method_25_code 20 = .ok (.aload_n 0, 1) := by decide +kernel
theorem d9_21 : decode prog_7_method_25_code 21 = .ok (.iload_n 1, 1) := by decide +kernel
theorem d9_22 : decode prog_7_method_25_code 22 = .ok (.iconst 1, 1) := by decide +kernel
theorem d9_23 : decode prog_7_method_25_code 23 = .ok (.iadd, 1) := by decide +kernel
theorem d9_24 : decode prog_7_method_25_code 24 = .ok (.baload, 1) := by decide +kernel
theorem d9_25 : decode prog_7_method_25_code 25 = .ok (.bipush 114, 2) := by decide +kernel
theorem d9_27 : decode prog_7_method_25_code 27 = .ok (.if_icmp .ne 27, 3) := by decide +kernel
theorem d9_54 : decode prog_7_method_25_code 54 = .ok (.iconst 0, 1) := by decide +kernel
theorem d9_55 : decode prog_7_method_25_code 55 = .ok (.istore 4, 2) := by decide +kernel
theorem d9_57 : decode prog_7_method_25_code 57 = .ok (.goto 63, 3) := by decide +kernel
theorem d9_30 : decode prog_7_method_25_code 30 = .ok (.aload_n 0, 1) := by decide +kernel
theorem d9_31 : decode prog_7_method_25_code 31 = .ok (.iload_n 1, 1) := by decide +kernel
theorem d9_32 : decode prog_7_method_25_code 32 = .ok (.iconst 2, 1) := by decide +kernel
theorem d9_33 : decode prog_7_method_25_code 33 = .ok (.iadd, 1) := by decide +kernel
theorem d9_34 : decode prog_7_method_25_code 34 = .ok (.baload, 1) := by decide +kernel
theorem d9_35 : decode prog_7_method_25_code 35 = .ok (.bipush 117, 2) := by decide +kernel
theorem d9_37 : decode prog_7_method_25_code 37 = .ok (.if_icmp .ne 17, 3) := by decide +kernel
theorem d9_40 : decode prog_7_method_25_code 40 = .ok (.aload_n 0, 1) := by decide +kernel
theorem d9_41 : decode prog_7_method_25_code 41 = .ok (.iload_n 1, 1) := by decide +kernel
theorem d9_42 : decode prog_7_method_25_code 42 = .ok (.iconst 3, 1) := by decide +kernel
theorem d9_43 : decode prog_7_method_25_code 43 = .ok (.iadd, 1) := by decide +kernel
theorem d9_44 : decode prog_7_method_25_code 44 = .ok (.baload, 1) := by decide +kernel
theorem d9_45 : decode prog_7_method_25_code 45 = .ok (.bipush 101, 2) := by decide +kernel
theorem d9_47 : decode prog_7_method_25_code 47 = .ok (.if_icmp .ne 7, 3) := by decide +kernel
theorem d9_50 : decode prog_7_method_25_code 50 = .ok (.iconst 1, 1) := by decide +kernel
theorem d9_51 : decode prog_7_method_25_code 51 = .ok (.goto 4, 3) := by decide +kernel
theorem d9_120 : decode prog_7_method_25_code 120 = .ok (.iload 4, 2) := by decide +kernel
theorem d9_122 : decode prog_7_method_25_code 122 = .ok (.ireturn, 1) := by decide +kernel
theorem ef_rm_kw (m : MethodId) (x0 : Addr) (x1 : Int32) (x2 : Int32) : entryFrame m #[(.ref x0), (.int x1), (.int x2)] 5 = mkF m 0 #[.val (.ref x0), .val (.int x1), .val (.int x2), .unset, .unset] [] := by first | (simp [entryFrame, mkF, argsToLocals, Value.category]; done) | rfl
def Q_rm_kw (Z : State) (u1 : Addr) (u2 : Int32) (u3 : Int32) (kb : ClassId) (xs : List Int32) (h0 : Heap) (n0 : Nat) (v : Option Value) (h : Heap) (L : List Loc) : Prop := v = some (.int (nar .boolean (bif (if_icmp.holds .ne (u3 - u2) (4 : Int32)) then (bif (if_icmp.holds .ne (u3 - u2) (5 : Int32)) then (0 : Int32) else (bif (if_icmp.holds .ne (xs.getD (u2).toNatClampNeg (0 : Int32)) (102 : Int32)) then (0 : Int32) else (bif (if_icmp.holds .ne (xs.getD ((u2 + (1 : Int32))).toNatClampNeg (0 : Int32)) (97 : Int32)) then (0 : Int32) else (bif (if_icmp.holds .ne (xs.getD ((u2 + (2 : Int32))).toNatClampNeg (0 : Int32)) (108 : Int32)) then (0 : Int32) else (bif (if_icmp.holds .ne (xs.getD ((u2 + (3 : Int32))).toNatClampNeg (0 : Int32)) (115 : Int32)) then (0 : Int32) else (bif (if_icmp.holds .ne (xs.getD ((u2 + (4 : Int32))).toNatClampNeg (0 : Int32)) (101 : Int32)) then (0 : Int32) else (1 : Int32))))))) else (bif (if_icmp.holds .ne (xs.getD (u2).toNatClampNeg (0 : Int32)) (116 : Int32)) then (bif (if_icmp.holds .ne (u3 - u2) (5 : Int32)) then (0 : Int32) else (bif (if_icmp.holds .ne (xs.getD (u2).toNatClampNeg (0 : Int32)) (102 : Int32)) then (0 : Int32) else (bif (if_icmp.holds .ne (xs.getD ((u2 + (1 : Int32))).toNatClampNeg (0 : Int32)) (97 : Int32)) then (0 : Int32) else (bif (if_icmp.holds .ne (xs.getD ((u2 + (2 : Int32))).toNatClampNeg (0 : Int32)) (108 : Int32)) then (0 : Int32) else (bif (if_icmp.holds .ne (xs.getD ((u2 + (3 : Int32))).toNatClampNeg (0 : Int32)) (115 : Int32)) then (0 : Int32) else (bif (if_icmp.holds .ne (xs.getD ((u2 + (4 : Int32))).toNatClampNeg (0 : Int32)) (101 : Int32)) then (0 : Int32) else (1 : Int32))))))) else (bif (if_icmp.holds .ne (xs.getD ((u2 + (1 : Int32))).toNatClampNeg (0 : Int32)) (114 : Int32)) then (0 : Int32) else (bif (if_icmp.holds .ne (xs.getD ((u2 + (2 : Int32))).toNatClampNeg (0 : Int32)) (117 : Int32)) then (0 : Int32) else (bif (if_icmp.holds .ne (xs.getD ((u2 + (3 : Int32))).toNatClampNeg (0 : Int32)) (101 : Int32)) then (0 : Int32) else (1 : Int32)))))))) ∧ Fr n0 L ∧ h = h0
theorem pn_723179 : plainName "com/example/sabac/sabac/ExpressionLexer" = true := by first | (simp [plainName, overriddenIn]; done) | decide +kernel
set_option maxRecDepth 65536 in
set_option maxHeartbeats 40000000 in
theorem rm_kw (l : Launch) (Z : State) (a0 : Array Value) (hw : ∀ d ∈ tables_1, d.before a0 Z = true) (ws : List Jvm.Cond) (u1 : Addr) (u2 : Int32) (u3 : Int32) (kb : ClassId) (xs : List Int32) (h0 : Heap) (n0 : Nat) (Z0 : n0 ≤ h0.size) (V1 : Arv Z h0 u1 kb .byte (12 : Int32) (xs.map Value.int) (.int (0 : Int32))) (hf : u2 = 0 ∨ u2 = 1 ∨ u2 = 2 ∨ u2 = 3) :
    MetFree l (⟨"com/example/sabac/sabac/ExpressionLexer", "isKeyword", "([BII)Z"⟩ : MethodName) (head1 (Jvm.Cond.code (⟨"com/example/sabac/sabac/ExpressionLexer", "isKeyword", "([BII)Z"⟩ : MethodName) prog_7_method_25_code 5 (some .boolean) :: ws) ({ frames := 0, cells := 0, slots := 0, locals := 0 } : Room)) (fun a U => a = #[(.ref u1), (.int u2), (.int u3)] ∧ Z.Warmed39 U.vm ∧ U.heap = h0) (fun _ _ _ _ _ => True) (fun _ U o U' => ∃ v L, o = .returned v ∧ Q_rm_kw Z u1 u2 u3 kb xs h0 n0 v U'.heap L ∧ FrameEnd U o U' L ({ frames := 0, cells := 0, slots := 0, locals := 0 } : Room).cells ({ frames := 0, cells := 0, slots := 0, locals := 0 } : Room).slots) := by
  refine MetFree.of_bodySF (plainFor_of_name pn_723179) hisR ?_
  intro p e s m args below meth c s₁ Bd hml0 hP hK
  obtain ⟨rfl, hZ, hh⟩ := hP
  have hx := Bd.exec
  have hby := Bd.bytes
  have hml : c.maxLocals = 5 := hml0
  have hown : s.vm.findClass "com/example/sabac/sabac/ExpressionLexer" = some m.cls := findClass_of_methodNamed Bd.named
  have hnm := (name_of_methodNamed Bd.named Bd.method).1
  have X0 : Stand p l e ({ frames := 0, cells := 0, slots := 0, locals := 0 } : Room) s m #[(.ref u1), (.int u2), (.int u3)] below meth c s₁ [] 0 0 := Stand.of_body Bd
  have e0 : s₁.heap = h0 := by rw [← hh, Bd.state]; rfl
  have N0 := Fr.nil n0
  have pre0 : ∀ t, Steps p.tables e below (s₁.setTop (mkF m 0 #[.val (.ref u1), .val (.int u2), .val (.int u3), .unset, .unset] [])) t → Steps p.tables e below (s₁.setTop (entryFrame m #[(.ref u1), (.int u2), (.int u3)] 5)) t := fun t k => castTop (ef_rm_kw m u1 u2 u3) k
  obtain ⟨cl, Ar, -, Sz, Mz, Hz, -⟩ := id V1
  have pre1 : ∀ t, Steps p.tables e below (s₁.setTop (mkF m 9 #[.val (.ref u1), .val (.int u2), .val (.int u3), .val (.int (u3 - u2)), .val (.int (0 : Int32))] [(.int (4 : Int32)), (.int (u3 - u2))])) t → Steps p.tables e below (s₁.setTop (entryFrame m #[(.ref u1), (.int u2), (.int u3)] 5)) t := by
    intro t k
    refine pre0 t ?_
    show Steps p.tables e below (s₁.setTop (mkF m 0 #[.val (.ref u1), .val (.int u2), .val (.int u3), .unset, .unset] [])) _
    refine XS.iloadN X0.here hx rfl (hb hby d9_0) rfl ?_
    show Steps p.tables e below (s₁.setTop (mkF m 1 #[.val (.ref u1), .val (.int u2), .val (.int u3), .unset, .unset] [(.int u3)])) _
    refine XS.iloadN X0.here hx rfl (hb hby d9_1) rfl ?_
    show Steps p.tables e below (s₁.setTop (mkF m 2 #[.val (.ref u1), .val (.int u2), .val (.int u3), .unset, .unset] [(.int u2), (.int u3)])) _
    refine XS.isub X0.here hx rfl (hb hby d9_2) rfl ?_
    show Steps p.tables e below (s₁.setTop (mkF m 3 #[.val (.ref u1), .val (.int u2), .val (.int u3), .unset, .unset] [(.int (u3 - u2))])) _
    refine XS.istoreN X0.here hx rfl (hb hby d9_3) rfl (l' := #[.val (.ref u1), .val (.int u2), .val (.int u3), .val (.int (u3 - u2)), .unset]) rfl ?_
    show Steps p.tables e below (s₁.setTop (mkF m 4 #[.val (.ref u1), .val (.int u2), .val (.int u3), .val (.int (u3 - u2)), .unset] [])) _
    refine XS.iconst X0.here hx rfl (hb hby d9_4) ?_
    show Steps p.tables e below (s₁.setTop (mkF m 5 #[.val (.ref u1), .val (.int u2), .val (.int u3), .val (.int (u3 - u2)), .unset] [(.int (0 : Int32))])) _
    refine XS.istore X0.here hx rfl (hb hby d9_5) rfl (l' := #[.val (.ref u1), .val (.int u2), .val (.int u3), .val (.int (u3 - u2)), .val (.int (0 : Int32))]) rfl ?_
    show Steps p.tables e below (s₁.setTop (mkF m 7 #[.val (.ref u1), .val (.int u2), .val (.int u3), .val (.int (u3 - u2)), .val (.int (0 : Int32))] [])) _
    refine XS.iloadN X0.here hx rfl (hb hby d9_7) rfl ?_
    show Steps p.tables e below (s₁.setTop (mkF m 8 #[.val (.ref u1), .val (.int u2), .val (.int u3), .val (.int (u3 - u2)), .val (.int (0 : Int32))] [(.int (u3 - u2))])) _
    refine XS.iconst X0.here hx rfl (hb hby d9_8) ?_
    exact k
  have pre19 : ∀ t, Steps p.tables e below (s₁.setTop (mkF m 120 #[.val (.ref u1), .val (.int u2), .val (.int u3), .val (.int (u3 - u2)), .val (.int (bif (if_icmp.holds .ne (u3 - u2) (4 : Int32)) then (bif (if_icmp.holds .ne (u3 - u2) (5 : Int32)) then (0 : Int32) else (bif (if_icmp.holds .ne (xs.getD (u2).toNatClampNeg (0 : Int32)) (102 : Int32)) then (0 : Int32) else (bif (if_icmp.holds .ne (xs.getD ((u2 + (1 : Int32))).toNatClampNeg (0 : Int32)) (97 : Int32)) then (0 : Int32) else (bif (if_icmp.holds .ne (xs.getD ((u2 + (2 : Int32))).toNatClampNeg (0 : Int32)) (108 : Int32)) then (0 : Int32) else (bif (if_icmp.holds .ne (xs.getD ((u2 + (3 : Int32))).toNatClampNeg (0 : Int32)) (115 : Int32)) then (0 : Int32) else (bif (if_icmp.holds .ne (xs.getD ((u2 + (4 : Int32))).toNatClampNeg (0 : Int32)) (101 : Int32)) then (0 : Int32) else (1 : Int32))))))) else (bif (if_icmp.holds .ne (xs.getD (u2).toNatClampNeg (0 : Int32)) (116 : Int32)) then (bif (if_icmp.holds .ne (u3 - u2) (5 : Int32)) then (0 : Int32) else (bif (if_icmp.holds .ne (xs.getD (u2).toNatClampNeg (0 : Int32)) (102 : Int32)) then (0 : Int32) else (bif (if_icmp.holds .ne (xs.getD ((u2 + (1 : Int32))).toNatClampNeg (0 : Int32)) (97 : Int32)) then (0 : Int32) else (bif (if_icmp.holds .ne (xs.getD ((u2 + (2 : Int32))).toNatClampNeg (0 : Int32)) (108 : Int32)) then (0 : Int32) else (bif (if_icmp.holds .ne (xs.getD ((u2 + (3 : Int32))).toNatClampNeg (0 : Int32)) (115 : Int32)) then (0 : Int32) else (bif (if_icmp.holds .ne (xs.getD ((u2 + (4 : Int32))).toNatClampNeg (0 : Int32)) (101 : Int32)) then (0 : Int32) else (1 : Int32))))))) else (bif (if_icmp.holds .ne (xs.getD ((u2 + (1 : Int32))).toNatClampNeg (0 : Int32)) (114 : Int32)) then (0 : Int32) else (bif (if_icmp.holds .ne (xs.getD ((u2 + (2 : Int32))).toNatClampNeg (0 : Int32)) (117 : Int32)) then (0 : Int32) else (bif (if_icmp.holds .ne (xs.getD ((u2 + (3 : Int32))).toNatClampNeg (0 : Int32)) (101 : Int32)) then (0 : Int32) else (1 : Int32)))))))] [])) t → Steps p.tables e below (s₁.setTop (entryFrame m #[(.ref u1), (.int u2), (.int u3)] 5)) t := by
    intro t k
    refine pre1 t ?_
    show Steps p.tables e below (s₁.setTop (mkF m 9 #[.val (.ref u1), .val (.int u2), .val (.int u3), .val (.int (u3 - u2)), .val (.int (0 : Int32))] [(.int (4 : Int32)), (.int (u3 - u2))])) _
    rcases Bool.eq_false_or_eq_true (if_icmp.holds .ne (u3 - u2) (4 : Int32)) with hb9_2 | hb9_2
    · refine XS.icmpYes X0.here hx rfl (pc0 := 9) (pc' := 60) rfl (hb hby d9_9) rfl hb9_2 (by decide) (by decide) ?_
      show Steps p.tables e below (s₁.setTop (mkF m 60 #[.val (.ref u1), .val (.int u2), .val (.int u3), .val (.int (u3 - u2)), .val (.int (0 : Int32))] [])) _
      refine XS.iloadN X0.here hx rfl (hb hby d9_60) rfl ?_
      show Steps p.tables e below (s₁.setTop (mkF m 61 #[.val (.ref u1), .val (.int u2), .val (.int u3), .val (.int (u3 - u2)), .val (.int (0 : Int32))] [(.int (u3 - u2))])) _
      refine XS.iconst X0.here hx rfl (hb hby d9_61) ?_
      show Steps p.tables e below (s₁.setTop (mkF m 62 #[.val (.ref u1), .val (.int u2), .val (.int u3), .val (.int (u3 - u2)), .val (.int (0 : Int32))] [(.int (5 : Int32)), (.int (u3 - u2))])) _
      rcases Bool.eq_false_or_eq_true (if_icmp.holds .ne (u3 - u2) (5 : Int32)) with hb62_3 | hb62_3
      · refine XS.icmpYes X0.here hx rfl (pc0 := 62) (pc' := 120) rfl (hb hby d9_62) rfl hb62_3 (by decide) (by decide) ?_
        have k : Steps p.tables e below (s₁.setTop (mkF m 120 #[.val (.ref u1), .val (.int u2), .val (.int u3), .val (.int (u3 - u2)), .val (.int (0 : Int32))] [])) t := by (try simp only [hb62_3] at k); simpa only [hb9_2, hb62_3, cond_true, cond_false] using k
        exact k
      · refine XS.icmpNo X0.here hx rfl (hb hby d9_62) rfl hb62_3 ?_
        show Steps p.tables e below (s₁.setTop (mkF m 65 #[.val (.ref u1), .val (.int u2), .val (.int u3), .val (.int (u3 - u2)), .val (.int (0 : Int32))] [])) _
        refine XS.aloadN X0.here hx rfl (hb hby d9_65) rfl rfl ?_
        show Steps p.tables e below (s₁.setTop (mkF m 66 #[.val (.ref u1), .val (.int u2), .val (.int u3), .val (.int (u3 - u2)), .val (.int (0 : Int32))] [(.ref u1)])) _
        refine XS.iloadN X0.here hx rfl (hb hby d9_66) rfl ?_
        show Steps p.tables e below (s₁.setTop (mkF m 67 #[.val (.ref u1), .val (.int u2), .val (.int u3), .val (.int (u3 - u2)), .val (.int (0 : Int32))] [(.int u2), (.ref u1)])) _
        refine X0.baloadBytes hx (j := u2) (v := (.int (xs.getD (u2).toNatClampNeg (0 : Int32)))) (by rw [e0]; exact Ar.1) (State.isArrayOf_alike hZ.alike Ar.2.1) Ar.2.2 (inb_of Sz (own_fr0 hf)) (Hz.at (inb_of Sz (own_fr0 hf)) (own_getD xs _)) (g := (mkF m 67 #[.val (.ref u1), .val (.int u2), .val (.int u3), .val (.int (u3 - u2)), .val (.int (0 : Int32))] [(.int u2), (.ref u1)])) rfl rfl (hb hby d9_67) _ ?_
        show Steps p.tables e below (s₁.setTop (mkF m 68 #[.val (.ref u1), .val (.int u2), .val (.int u3), .val (.int (u3 - u2)), .val (.int (0 : Int32))] [(.int (xs.getD (u2).toNatClampNeg (0 : Int32)))])) _
        refine XS.bipush X0.here hx rfl (hb hby d9_68) ?_
        show Steps p.tables e below (s₁.setTop (mkF m 70 #[.val (.ref u1), .val (.int u2), .val (.int u3), .val (.int (u3 - u2)), .val (.int (0 : Int32))] [(.int (102 : Int32)), (.int (xs.getD (u2).toNatClampNeg (0 : Int32)))])) _
        rcases Bool.eq_false_or_eq_true (if_icmp.holds .ne (xs.getD (u2).toNatClampNeg (0 : Int32)) (102 : Int32)) with hb70_4 | hb70_4
        · refine XS.icmpYes X0.here hx rfl (pc0 := 70) (pc' := 120) rfl (hb hby d9_70) rfl hb70_4 (by decide) (by decide) ?_
          have k : Steps p.tables e below (s₁.setTop (mkF m 120 #[.val (.ref u1), .val (.int u2), .val (.int u3), .val (.int (u3 - u2)), .val (.int (0 : Int32))] [])) t := by (try simp only [hb70_4] at k); (try simp only [hb62_3] at k); simpa only [hb9_2, hb62_3, hb70_4, cond_true, cond_false] using k
          exact k
        · refine XS.icmpNo X0.here hx rfl (hb hby d9_70) rfl hb70_4 ?_
          show Steps p.tables e below (s₁.setTop (mkF m 73 #[.val (.ref u1), .val (.int u2), .val (.int u3), .val (.int (u3 - u2)), .val (.int (0 : Int32))] [])) _
          refine XS.aloadN X0.here hx rfl (hb hby d9_73) rfl rfl ?_
          show Steps p.tables e below (s₁.setTop (mkF m 74 #[.val (.ref u1), .val (.int u2), .val (.int u3), .val (.int (u3 - u2)), .val (.int (0 : Int32))] [(.ref u1)])) _
          refine XS.iloadN X0.here hx rfl (hb hby d9_74) rfl ?_
          show Steps p.tables e below (s₁.setTop (mkF m 75 #[.val (.ref u1), .val (.int u2), .val (.int u3), .val (.int (u3 - u2)), .val (.int (0 : Int32))] [(.int u2), (.ref u1)])) _
          refine XS.iconst X0.here hx rfl (hb hby d9_75) ?_
          show Steps p.tables e below (s₁.setTop (mkF m 76 #[.val (.ref u1), .val (.int u2), .val (.int u3), .val (.int (u3 - u2)), .val (.int (0 : Int32))] [(.int (1 : Int32)), (.int u2), (.ref u1)])) _
          refine XS.iadd X0.here hx rfl (hb hby d9_76) rfl ?_
          show Steps p.tables e below (s₁.setTop (mkF m 77 #[.val (.ref u1), .val (.int u2), .val (.int u3), .val (.int (u3 - u2)), .val (.int (0 : Int32))] [(.int (u2 + (1 : Int32))), (.ref u1)])) _
          refine X0.baloadBytes hx (j := (u2 + (1 : Int32))) (v := (.int (xs.getD ((u2 + (1 : Int32))).toNatClampNeg (0 : Int32)))) (by rw [e0]; exact Ar.1) (State.isArrayOf_alike hZ.alike Ar.2.1) Ar.2.2 (inb_of Sz (own_fr hf (1 : Int32) (by decide))) (Hz.at (inb_of Sz (own_fr hf (1 : Int32) (by decide))) (own_getD xs _)) (g := (mkF m 77 #[.val (.ref u1), .val (.int u2), .val (.int u3), .val (.int (u3 - u2)), .val (.int (0 : Int32))] [(.int (u2 + (1 : Int32))), (.ref u1)])) rfl rfl (hb hby d9_77) _ ?_
          show Steps p.tables e below (s₁.setTop (mkF m 78 #[.val (.ref u1), .val (.int u2), .val (.int u3), .val (.int (u3 - u2)), .val (.int (0 : Int32))] [(.int (xs.getD ((u2 + (1 : Int32))).toNatClampNeg (0 : Int32)))])) _
          refine XS.bipush X0.here hx rfl (hb hby d9_78) ?_
          show Steps p.tables e below (s₁.setTop (mkF m 80 #[.val (.ref u1), .val (.int u2), .val (.int u3), .val (.int (u3 - u2)), .val (.int (0 : Int32))] [(.int (97 : Int32)), (.int (xs.getD ((u2 + (1 : Int32))).toNatClampNeg (0 : Int32)))])) _
          rcases Bool.eq_false_or_eq_true (if_icmp.holds .ne (xs.getD ((u2 + (1 : Int32))).toNatClampNeg (0 : Int32)) (97 : Int32)) with hb80_5 | hb80_5
          · refine XS.icmpYes X0.here hx rfl (pc0 := 80) (pc' := 117) rfl (hb hby d9_80) rfl hb80_5 (by decide) (by decide) ?_
            show Steps p.tables e below (s₁.setTop (mkF m 117 #[.val (.ref u1), .val (.int u2), .val (.int u3), .val (.int (u3 - u2)), .val (.int (0 : Int32))] [])) _
            refine XS.iconst X0.here hx rfl (hb hby d9_117) ?_
            show Steps p.tables e below (s₁.setTop (mkF m 118 #[.val (.ref u1), .val (.int u2), .val (.int u3), .val (.int (u3 - u2)), .val (.int (0 : Int32))] [(.int (0 : Int32))])) _
            refine XS.istore X0.here hx rfl (hb hby d9_118) rfl (l' := #[.val (.ref u1), .val (.int u2), .val (.int u3), .val (.int (u3 - u2)), .val (.int (0 : Int32))]) rfl ?_
            have k : Steps p.tables e below (s₁.setTop (mkF m 120 #[.val (.ref u1), .val (.int u2), .val (.int u3), .val (.int (u3 - u2)), .val (.int (0 : Int32))] [])) t := by (try simp only [hb80_5] at k); (try simp only [hb70_4] at k); (try simp only [hb62_3] at k); simpa only [hb9_2, hb62_3, hb70_4, hb80_5, cond_true, cond_false] using k
            exact k
          · refine XS.icmpNo X0.here hx rfl (hb hby d9_80) rfl hb80_5 ?_
            show Steps p.tables e below (s₁.setTop (mkF m 83 #[.val (.ref u1), .val (.int u2), .val (.int u3), .val (.int (u3 - u2)), .val (.int (0 : Int32))] [])) _
            refine XS.aloadN X0.here hx rfl (hb hby d9_83) rfl rfl ?_
            show Steps p.tables e below (s₁.setTop (mkF m 84 #[.val (.ref u1), .val (.int u2), .val (.int u3), .val (.int (u3 - u2)), .val (.int (0 : Int32))] [(.ref u1)])) _
            refine XS.iloadN X0.here hx rfl (hb hby d9_84) rfl ?_
            show Steps p.tables e below (s₁.setTop (mkF m 85 #[.val (.ref u1), .val (.int u2), .val (.int u3), .val (.int (u3 - u2)), .val (.int (0 : Int32))] [(.int u2), (.ref u1)])) _
            refine XS.iconst X0.here hx rfl (hb hby d9_85) ?_
            show Steps p.tables e below (s₁.setTop (mkF m 86 #[.val (.ref u1), .val (.int u2), .val (.int u3), .val (.int (u3 - u2)), .val (.int (0 : Int32))] [(.int (2 : Int32)), (.int u2), (.ref u1)])) _
            refine XS.iadd X0.here hx rfl (hb hby d9_86) rfl ?_
            show Steps p.tables e below (s₁.setTop (mkF m 87 #[.val (.ref u1), .val (.int u2), .val (.int u3), .val (.int (u3 - u2)), .val (.int (0 : Int32))] [(.int (u2 + (2 : Int32))), (.ref u1)])) _
            refine X0.baloadBytes hx (j := (u2 + (2 : Int32))) (v := (.int (xs.getD ((u2 + (2 : Int32))).toNatClampNeg (0 : Int32)))) (by rw [e0]; exact Ar.1) (State.isArrayOf_alike hZ.alike Ar.2.1) Ar.2.2 (inb_of Sz (own_fr hf (2 : Int32) (by decide))) (Hz.at (inb_of Sz (own_fr hf (2 : Int32) (by decide))) (own_getD xs _)) (g := (mkF m 87 #[.val (.ref u1), .val (.int u2), .val (.int u3), .val (.int (u3 - u2)), .val (.int (0 : Int32))] [(.int (u2 + (2 : Int32))), (.ref u1)])) rfl rfl (hb hby d9_87) _ ?_
            show Steps p.tables e below (s₁.setTop (mkF m 88 #[.val (.ref u1), .val (.int u2), .val (.int u3), .val (.int (u3 - u2)), .val (.int (0 : Int32))] [(.int (xs.getD ((u2 + (2 : Int32))).toNatClampNeg (0 : Int32)))])) _
            refine XS.bipush X0.here hx rfl (hb hby d9_88) ?_
            show Steps p.tables e below (s₁.setTop (mkF m 90 #[.val (.ref u1), .val (.int u2), .val (.int u3), .val (.int (u3 - u2)), .val (.int (0 : Int32))] [(.int (108 : Int32)), (.int (xs.getD ((u2 + (2 : Int32))).toNatClampNeg (0 : Int32)))])) _
            rcases Bool.eq_false_or_eq_true (if_icmp.holds .ne (xs.getD ((u2 + (2 : Int32))).toNatClampNeg (0 : Int32)) (108 : Int32)) with hb90_6 | hb90_6
            · refine XS.icmpYes X0.here hx rfl (pc0 := 90) (pc' := 117) rfl (hb hby d9_90) rfl hb90_6 (by decide) (by decide) ?_
              show Steps p.tables e below (s₁.setTop (mkF m 117 #[.val (.ref u1), .val (.int u2), .val (.int u3), .val (.int (u3 - u2)), .val (.int (0 : Int32))] [])) _
              refine XS.iconst X0.here hx rfl (hb hby d9_117) ?_
              show Steps p.tables e below (s₁.setTop (mkF m 118 #[.val (.ref u1), .val (.int u2), .val (.int u3), .val (.int (u3 - u2)), .val (.int (0 : Int32))] [(.int (0 : Int32))])) _
              refine XS.istore X0.here hx rfl (hb hby d9_118) rfl (l' := #[.val (.ref u1), .val (.int u2), .val (.int u3), .val (.int (u3 - u2)), .val (.int (0 : Int32))]) rfl ?_
              have k : Steps p.tables e below (s₁.setTop (mkF m 120 #[.val (.ref u1), .val (.int u2), .val (.int u3), .val (.int (u3 - u2)), .val (.int (0 : Int32))] [])) t := by (try simp only [hb90_6] at k); (try simp only [hb80_5] at k); (try simp only [hb70_4] at k); (try simp only [hb62_3] at k); simpa only [hb9_2, hb62_3, hb70_4, hb80_5, hb90_6, cond_true, cond_false] using k
              exact k
            · refine XS.icmpNo X0.here hx rfl (hb hby d9_90) rfl hb90_6 ?_
              show Steps p.tables e below (s₁.setTop (mkF m 93 #[.val (.ref u1), .val (.int u2), .val (.int u3), .val (.int (u3 - u2)), .val (.int (0 : Int32))] [])) _
              refine XS.aloadN X0.here hx rfl (hb hby d9_93) rfl rfl ?_
              show Steps p.tables e below (s₁.setTop (mkF m 94 #[.val (.ref u1), .val (.int u2), .val (.int u3), .val (.int (u3 - u2)), .val (.int (0 : Int32))] [(.ref u1)])) _
              refine XS.iloadN X0.here hx rfl (hb hby d9_94) rfl ?_
              show Steps p.tables e below (s₁.setTop (mkF m 95 #[.val (.ref u1), .val (.int u2), .val (.int u3), .val (.int (u3 - u2)), .val (.int (0 : Int32))] [(.int u2), (.ref u1)])) _
              refine XS.iconst X0.here hx rfl (hb hby d9_95) ?_
              show Steps p.tables e below (s₁.setTop (mkF m 96 #[.val (.ref u1), .val (.int u2), .val (.int u3), .val (.int (u3 - u2)), .val (.int (0 : Int32))] [(.int (3 : Int32)), (.int u2), (.ref u1)])) _
              refine XS.iadd X0.here hx rfl (hb hby d9_96) rfl ?_
              show Steps p.tables e below (s₁.setTop (mkF m 97 #[.val (.ref u1), .val (.int u2), .val (.int u3), .val (.int (u3 - u2)), .val (.int (0 : Int32))] [(.int (u2 + (3 : Int32))), (.ref u1)])) _
              refine X0.baloadBytes hx (j := (u2 + (3 : Int32))) (v := (.int (xs.getD ((u2 + (3 : Int32))).toNatClampNeg (0 : Int32)))) (by rw [e0]; exact Ar.1) (State.isArrayOf_alike hZ.alike Ar.2.1) Ar.2.2 (inb_of Sz (own_fr hf (3 : Int32) (by decide))) (Hz.at (inb_of Sz (own_fr hf (3 : Int32) (by decide))) (own_getD xs _)) (g := (mkF m 97 #[.val (.ref u1), .val (.int u2), .val (.int u3), .val (.int (u3 - u2)), .val (.int (0 : Int32))] [(.int (u2 + (3 : Int32))), (.ref u1)])) rfl rfl (hb hby d9_97) _ ?_
              show Steps p.tables e below (s₁.setTop (mkF m 98 #[.val (.ref u1), .val (.int u2), .val (.int u3), .val (.int (u3 - u2)), .val (.int (0 : Int32))] [(.int (xs.getD ((u2 + (3 : Int32))).toNatClampNeg (0 : Int32)))])) _
              refine XS.bipush X0.here hx rfl (hb hby d9_98) ?_
              show Steps p.tables e below (s₁.setTop (mkF m 100 #[.val (.ref u1), .val (.int u2), .val (.int u3), .val (.int (u3 - u2)), .val (.int (0 : Int32))] [(.int (115 : Int32)), (.int (xs.getD ((u2 + (3 : Int32))).toNatClampNeg (0 : Int32)))])) _
              rcases Bool.eq_false_or_eq_true (if_icmp.holds .ne (xs.getD ((u2 + (3 : Int32))).toNatClampNeg (0 : Int32)) (115 : Int32)) with hb100_7 | hb100_7
              · refine XS.icmpYes X0.here hx rfl (pc0 := 100) (pc' := 117) rfl (hb hby d9_100) rfl hb100_7 (by decide) (by decide) ?_
                show Steps p.tables e below (s₁.setTop (mkF m 117 #[.val (.ref u1), .val (.int u2), .val (.int u3), .val (.int (u3 - u2)), .val (.int (0 : Int32))] [])) _
                refine XS.iconst X0.here hx rfl (hb hby d9_117) ?_
                show Steps p.tables e below (s₁.setTop (mkF m 118 #[.val (.ref u1), .val (.int u2), .val (.int u3), .val (.int (u3 - u2)), .val (.int (0 : Int32))] [(.int (0 : Int32))])) _
                refine XS.istore X0.here hx rfl (hb hby d9_118) rfl (l' := #[.val (.ref u1), .val (.int u2), .val (.int u3), .val (.int (u3 - u2)), .val (.int (0 : Int32))]) rfl ?_
                have k : Steps p.tables e below (s₁.setTop (mkF m 120 #[.val (.ref u1), .val (.int u2), .val (.int u3), .val (.int (u3 - u2)), .val (.int (0 : Int32))] [])) t := by (try simp only [hb100_7] at k); (try simp only [hb90_6] at k); (try simp only [hb80_5] at k); (try simp only [hb70_4] at k); (try simp only [hb62_3] at k); simpa only [hb9_2, hb62_3, hb70_4, hb80_5, hb90_6, hb100_7, cond_true, cond_false] using k
                exact k
              · refine XS.icmpNo X0.here hx rfl (hb hby d9_100) rfl hb100_7 ?_
                show Steps p.tables e below (s₁.setTop (mkF m 103 #[.val (.ref u1), .val (.int u2), .val (.int u3), .val (.int (u3 - u2)), .val (.int (0 : Int32))] [])) _
                refine XS.aloadN X0.here hx rfl (hb hby d9_103) rfl rfl ?_
                show Steps p.tables e below (s₁.setTop (mkF m 104 #[.val (.ref u1), .val (.int u2), .val (.int u3), .val (.int (u3 - u2)), .val (.int (0 : Int32))] [(.ref u1)])) _
                refine XS.iloadN X0.here hx rfl (hb hby d9_104) rfl ?_
                show Steps p.tables e below (s₁.setTop (mkF m 105 #[.val (.ref u1), .val (.int u2), .val (.int u3), .val (.int (u3 - u2)), .val (.int (0 : Int32))] [(.int u2), (.ref u1)])) _
                refine XS.iconst X0.here hx rfl (hb hby d9_105) ?_
                show Steps p.tables e below (s₁.setTop (mkF m 106 #[.val (.ref u1), .val (.int u2), .val (.int u3), .val (.int (u3 - u2)), .val (.int (0 : Int32))] [(.int (4 : Int32)), (.int u2), (.ref u1)])) _
                refine XS.iadd X0.here hx rfl (hb hby d9_106) rfl ?_
                show Steps p.tables e below (s₁.setTop (mkF m 107 #[.val (.ref u1), .val (.int u2), .val (.int u3), .val (.int (u3 - u2)), .val (.int (0 : Int32))] [(.int (u2 + (4 : Int32))), (.ref u1)])) _
                refine X0.baloadBytes hx (j := (u2 + (4 : Int32))) (v := (.int (xs.getD ((u2 + (4 : Int32))).toNatClampNeg (0 : Int32)))) (by rw [e0]; exact Ar.1) (State.isArrayOf_alike hZ.alike Ar.2.1) Ar.2.2 (inb_of Sz (own_fr hf (4 : Int32) (by decide))) (Hz.at (inb_of Sz (own_fr hf (4 : Int32) (by decide))) (own_getD xs _)) (g := (mkF m 107 #[.val (.ref u1), .val (.int u2), .val (.int u3), .val (.int (u3 - u2)), .val (.int (0 : Int32))] [(.int (u2 + (4 : Int32))), (.ref u1)])) rfl rfl (hb hby d9_107) _ ?_
                show Steps p.tables e below (s₁.setTop (mkF m 108 #[.val (.ref u1), .val (.int u2), .val (.int u3), .val (.int (u3 - u2)), .val (.int (0 : Int32))] [(.int (xs.getD ((u2 + (4 : Int32))).toNatClampNeg (0 : Int32)))])) _
                refine XS.bipush X0.here hx rfl (hb hby d9_108) ?_
                show Steps p.tables e below (s₁.setTop (mkF m 110 #[.val (.ref u1), .val (.int u2), .val (.int u3), .val (.int (u3 - u2)), .val (.int (0 : Int32))] [(.int (101 : Int32)), (.int (xs.getD ((u2 + (4 : Int32))).toNatClampNeg (0 : Int32)))])) _
                rcases Bool.eq_false_or_eq_true (if_icmp.holds .ne (xs.getD ((u2 + (4 : Int32))).toNatClampNeg (0 : Int32)) (101 : Int32)) with hb110_8 | hb110_8
                · refine XS.icmpYes X0.here hx rfl (pc0 := 110) (pc' := 117) rfl (hb hby d9_110) rfl hb110_8 (by decide) (by decide) ?_
                  show Steps p.tables e below (s₁.setTop (mkF m 117 #[.val (.ref u1), .val (.int u2), .val (.int u3), .val (.int (u3 - u2)), .val (.int (0 : Int32))] [])) _
                  refine XS.iconst X0.here hx rfl (hb hby d9_117) ?_
                  show Steps p.tables e below (s₁.setTop (mkF m 118 #[.val (.ref u1), .val (.int u2), .val (.int u3), .val (.int (u3 - u2)), .val (.int (0 : Int32))] [(.int (0 : Int32))])) _
                  refine XS.istore X0.here hx rfl (hb hby d9_118) rfl (l' := #[.val (.ref u1), .val (.int u2), .val (.int u3), .val (.int (u3 - u2)), .val (.int (0 : Int32))]) rfl ?_
                  have k : Steps p.tables e below (s₁.setTop (mkF m 120 #[.val (.ref u1), .val (.int u2), .val (.int u3), .val (.int (u3 - u2)), .val (.int (0 : Int32))] [])) t := by (try simp only [hb110_8] at k); (try simp only [hb100_7] at k); (try simp only [hb90_6] at k); (try simp only [hb80_5] at k); (try simp only [hb70_4] at k); (try simp only [hb62_3] at k); simpa only [hb9_2, hb62_3, hb70_4, hb80_5, hb90_6, hb100_7, hb110_8, cond_true, cond_false] using k
                  exact k
                · refine XS.icmpNo X0.here hx rfl (hb hby d9_110) rfl hb110_8 ?_
                  show Steps p.tables e below (s₁.setTop (mkF m 113 #[.val (.ref u1), .val (.int u2), .val (.int u3), .val (.int (u3 - u2)), .val (.int (0 : Int32))] [])) _
                  refine XS.iconst X0.here hx rfl (hb hby d9_113) ?_
                  show Steps p.tables e below (s₁.setTop (mkF m 114 #[.val (.ref u1), .val (.int u2), .val (.int u3), .val (.int (u3 - u2)), .val (.int (0 : Int32))] [(.int (1 : Int32))])) _
                  refine XS.goto X0.here hx rfl (pc0 := 114) (pc' := 118) rfl (hb hby d9_114) (by decide) (by decide) ?_
                  show Steps p.tables e below (s₁.setTop (mkF m 118 #[.val (.ref u1), .val (.int u2), .val (.int u3), .val (.int (u3 - u2)), .val (.int (0 : Int32))] [(.int (1 : Int32))])) _
                  refine XS.istore X0.here hx rfl (hb hby d9_118) rfl (l' := #[.val (.ref u1), .val (.int u2), .val (.int u3), .val (.int (u3 - u2)), .val (.int (1 : Int32))]) rfl ?_
                  have k : Steps p.tables e below (s₁.setTop (mkF m 120 #[.val (.ref u1), .val (.int u2), .val (.int u3), .val (.int (u3 - u2)), .val (.int (1 : Int32))] [])) t := by (try simp only [hb110_8] at k); (try simp only [hb100_7] at k); (try simp only [hb90_6] at k); (try simp only [hb80_5] at k); (try simp only [hb70_4] at k); (try simp only [hb62_3] at k); simpa only [hb9_2, hb62_3, hb70_4, hb80_5, hb90_6, hb100_7, hb110_8, cond_true, cond_false] using k
                  exact k
    · refine XS.icmpNo X0.here hx rfl (hb hby d9_9) rfl hb9_2 ?_
      show Steps p.tables e below (s₁.setTop (mkF m 12 #[.val (.ref u1), .val (.int u2), .val (.int u3), .val (.int (u3 - u2)), .val (.int (0 : Int32))] [])) _
      refine XS.aloadN X0.here hx rfl (hb hby d9_12) rfl rfl ?_
      show Steps p.tables e below (s₁.setTop (mkF m 13 #[.val (.ref u1), .val (.int u2), .val (.int u3), .val (.int (u3 - u2)), .val (.int (0 : Int32))] [(.ref u1)])) _
      refine XS.iloadN X0.here hx rfl (hb hby d9_13) rfl ?_
      show Steps p.tables e below (s₁.setTop (mkF m 14 #[.val (.ref u1), .val (.int u2), .val (.int u3), .val (.int (u3 - u2)), .val (.int (0 : Int32))] [(.int u2), (.ref u1)])) _
      refine X0.baloadBytes hx (j := u2) (v := (.int (xs.getD (u2).toNatClampNeg (0 : Int32)))) (by rw [e0]; exact Ar.1) (State.isArrayOf_alike hZ.alike Ar.2.1) Ar.2.2 (inb_of Sz (own_fr0 hf)) (Hz.at (inb_of Sz (own_fr0 hf)) (own_getD xs _)) (g := (mkF m 14 #[.val (.ref u1), .val (.int u2), .val (.int u3), .val (.int (u3 - u2)), .val (.int (0 : Int32))] [(.int u2), (.ref u1)])) rfl rfl (hb hby d9_14) _ ?_
      show Steps p.tables e below (s₁.setTop (mkF m 15 #[.val (.ref u1), .val (.int u2), .val (.int u3), .val (.int (u3 - u2)), .val (.int (0 : Int32))] [(.int (xs.getD (u2).toNatClampNeg (0 : Int32)))])) _
      refine XS.bipush X0.here hx rfl (hb hby d9_15) ?_
      show Steps p.tables e below (s₁.setTop (mkF m 17 #[.val (.ref u1), .val (.int u2), .val (.int u3), .val (.int (u3 - u2)), .val (.int (0 : Int32))] [(.int (116 : Int32)), (.int (xs.getD (u2).toNatClampNeg (0 : Int32)))])) _
      rcases Bool.eq_false_or_eq_true (if_icmp.holds .ne (xs.getD (u2).toNatClampNeg (0 : Int32)) (116 : Int32)) with hb17_9 | hb17_9
      · refine XS.icmpYes X0.here hx rfl (pc0 := 17) (pc' := 60) rfl (hb hby d9_17) rfl hb17_9 (by decide) (by decide) ?_
        show Steps p.tables e below (s₁.setTop (mkF m 60 #[.val (.ref u1), .val (.int u2), .val (.int u3), .val (.int (u3 - u2)), .val (.int (0 : Int32))] [])) _
        refine XS.iloadN X0.here hx rfl (hb hby d9_60) rfl ?_
        show Steps p.tables e below (s₁.setTop (mkF m 61 #[.val (.ref u1), .val (.int u2), .val (.int u3), .val (.int (u3 - u2)), .val (.int (0 : Int32))] [(.int (u3 - u2))])) _
        refine XS.iconst X0.here hx rfl (hb hby d9_61) ?_
        show Steps p.tables e below (s₁.setTop (mkF m 62 #[.val (.ref u1), .val (.int u2), .val (.int u3), .val (.int (u3 - u2)), .val (.int (0 : Int32))] [(.int (5 : Int32)), (.int (u3 - u2))])) _
        rcases Bool.eq_false_or_eq_true (if_icmp.holds .ne (u3 - u2) (5 : Int32)) with hb62_10 | hb62_10
        · refine XS.icmpYes X0.here hx rfl (pc0 := 62) (pc' := 120) rfl (hb hby d9_62) rfl hb62_10 (by decide) (by decide) ?_
          have k : Steps p.tables e below (s₁.setTop (mkF m 120 #[.val (.ref u1), .val (.int u2), .val (.int u3), .val (.int (u3 - u2)), .val (.int (0 : Int32))] [])) t := by (try simp only [hb62_10] at k); (try simp only [hb17_9] at k); simpa only [hb9_2, hb17_9, hb62_10, cond_true, cond_false] using k
          exact k
        · refine XS.icmpNo X0.here hx rfl (hb hby d9_62) rfl hb62_10 ?_
          show Steps p.tables e below (s₁.setTop (mkF m 65 #[.val (.ref u1), .val (.int u2), .val (.int u3), .val (.int (u3 - u2)), .val (.int (0 : Int32))] [])) _
          refine XS.aloadN X0.here hx rfl (hb hby d9_65) rfl rfl ?_
          show Steps p.tables e below (s₁.setTop (mkF m 66 #[.val (.ref u1), .val (.int u2), .val (.int u3), .val (.int (u3 - u2)), .val (.int (0 : Int32))] [(.ref u1)])) _
          refine XS.iloadN X0.here hx rfl (hb hby d9_66) rfl ?_
          show Steps p.tables e below (s₁.setTop (mkF m 67 #[.val (.ref u1), .val (.int u2), .val (.int u3), .val (.int (u3 - u2)), .val (.int (0 : Int32))] [(.int u2), (.ref u1)])) _
          refine X0.baloadBytes hx (j := u2) (v := (.int (xs.getD (u2).toNatClampNeg (0 : Int32)))) (by rw [e0]; exact Ar.1) (State.isArrayOf_alike hZ.alike Ar.2.1) Ar.2.2 (inb_of Sz (own_fr0 hf)) (Hz.at (inb_of Sz (own_fr0 hf)) (own_getD xs _)) (g := (mkF m 67 #[.val (.ref u1), .val (.int u2), .val (.int u3), .val (.int (u3 - u2)), .val (.int (0 : Int32))] [(.int u2), (.ref u1)])) rfl rfl (hb hby d9_67) _ ?_
          show Steps p.tables e below (s₁.setTop (mkF m 68 #[.val (.ref u1), .val (.int u2), .val (.int u3), .val (.int (u3 - u2)), .val (.int (0 : Int32))] [(.int (xs.getD (u2).toNatClampNeg (0 : Int32)))])) _
          refine XS.bipush X0.here hx rfl (hb hby d9_68) ?_
          show Steps p.tables e below (s₁.setTop (mkF m 70 #[.val (.ref u1), .val (.int u2), .val (.int u3), .val (.int (u3 - u2)), .val (.int (0 : Int32))] [(.int (102 : Int32)), (.int (xs.getD (u2).toNatClampNeg (0 : Int32)))])) _
          rcases Bool.eq_false_or_eq_true (if_icmp.holds .ne (xs.getD (u2).toNatClampNeg (0 : Int32)) (102 : Int32)) with hb70_11 | hb70_11
          · refine XS.icmpYes X0.here hx rfl (pc0 := 70) (pc' := 120) rfl (hb hby d9_70) rfl hb70_11 (by decide) (by decide) ?_
            have k : Steps p.tables e below (s₁.setTop (mkF m 120 #[.val (.ref u1), .val (.int u2), .val (.int u3), .val (.int (u3 - u2)), .val (.int (0 : Int32))] [])) t := by (try simp only [hb70_11] at k); (try simp only [hb62_10] at k); (try simp only [hb17_9] at k); simpa only [hb9_2, hb17_9, hb62_10, hb70_11, cond_true, cond_false] using k
            exact k
          · refine XS.icmpNo X0.here hx rfl (hb hby d9_70) rfl hb70_11 ?_
            show Steps p.tables e below (s₁.setTop (mkF m 73 #[.val (.ref u1), .val (.int u2), .val (.int u3), .val (.int (u3 - u2)), .val (.int (0 : Int32))] [])) _
            refine XS.aloadN X0.here hx rfl (hb hby d9_73) rfl rfl ?_
            show Steps p.tables e below (s₁.setTop (mkF m 74 #[.val (.ref u1), .val (.int u2), .val (.int u3), .val (.int (u3 - u2)), .val (.int (0 : Int32))] [(.ref u1)])) _
            refine XS.iloadN X0.here hx rfl (hb hby d9_74) rfl ?_
            show Steps p.tables e below (s₁.setTop (mkF m 75 #[.val (.ref u1), .val (.int u2), .val (.int u3), .val (.int (u3 - u2)), .val (.int (0 : Int32))] [(.int u2), (.ref u1)])) _
            refine XS.iconst X0.here hx rfl (hb hby d9_75) ?_
            show Steps p.tables e below (s₁.setTop (mkF m 76 #[.val (.ref u1), .val (.int u2), .val (.int u3), .val (.int (u3 - u2)), .val (.int (0 : Int32))] [(.int (1 : Int32)), (.int u2), (.ref u1)])) _
            refine XS.iadd X0.here hx rfl (hb hby d9_76) rfl ?_
            show Steps p.tables e below (s₁.setTop (mkF m 77 #[.val (.ref u1), .val (.int u2), .val (.int u3), .val (.int (u3 - u2)), .val (.int (0 : Int32))] [(.int (u2 + (1 : Int32))), (.ref u1)])) _
            refine X0.baloadBytes hx (j := (u2 + (1 : Int32))) (v := (.int (xs.getD ((u2 + (1 : Int32))).toNatClampNeg (0 : Int32)))) (by rw [e0]; exact Ar.1) (State.isArrayOf_alike hZ.alike Ar.2.1) Ar.2.2 (inb_of Sz (own_fr hf (1 : Int32) (by decide))) (Hz.at (inb_of Sz (own_fr hf (1 : Int32) (by decide))) (own_getD xs _)) (g := (mkF m 77 #[.val (.ref u1), .val (.int u2), .val (.int u3), .val (.int (u3 - u2)), .val (.int (0 : Int32))] [(.int (u2 + (1 : Int32))), (.ref u1)])) rfl rfl (hb hby d9_77) _ ?_
            show Steps p.tables e below (s₁.setTop (mkF m 78 #[.val (.ref u1), .val (.int u2), .val (.int u3), .val (.int (u3 - u2)), .val (.int (0 : Int32))] [(.int (xs.getD ((u2 + (1 : Int32))).toNatClampNeg (0 : Int32)))])) _
            refine XS.bipush X0.here hx rfl (hb hby d9_78) ?_
            show Steps p.tables e below (s₁.setTop (mkF m 80 #[.val (.ref u1), .val (.int u2), .val (.int u3), .val (.int (u3 - u2)), .val (.int (0 : Int32))] [(.int (97 : Int32)), (.int (xs.getD ((u2 + (1 : Int32))).toNatClampNeg (0 : Int32)))])) _
            rcases Bool.eq_false_or_eq_true (if_icmp.holds .ne (xs.getD ((u2 + (1 : Int32))).toNatClampNeg (0 : Int32)) (97 : Int32)) with hb80_12 | hb80_12
            · refine XS.icmpYes X0.here hx rfl (pc0 := 80) (pc' := 117) rfl (hb hby d9_80) rfl hb80_12 (by decide) (by decide) ?_
              show Steps p.tables e below (s₁.setTop (mkF m 117 #[.val (.ref u1), .val (.int u2), .val (.int u3), .val (.int (u3 - u2)), .val (.int (0 : Int32))] [])) _
              refine XS.iconst X0.here hx rfl (hb hby d9_117) ?_
              show Steps p.tables e below (s₁.setTop (mkF m 118 #[.val (.ref u1), .val (.int u2), .val (.int u3), .val (.int (u3 - u2)), .val (.int (0 : Int32))] [(.int (0 : Int32))])) _
              refine XS.istore X0.here hx rfl (hb hby d9_118) rfl (l' := #[.val (.ref u1), .val (.int u2), .val (.int u3), .val (.int (u3 - u2)), .val (.int (0 : Int32))]) rfl ?_
              have k : Steps p.tables e below (s₁.setTop (mkF m 120 #[.val (.ref u1), .val (.int u2), .val (.int u3), .val (.int (u3 - u2)), .val (.int (0 : Int32))] [])) t := by (try simp only [hb80_12] at k); (try simp only [hb70_11] at k); (try simp only [hb62_10] at k); (try simp only [hb17_9] at k); simpa only [hb9_2, hb17_9, hb62_10, hb70_11, hb80_12, cond_true, cond_false] using k
              exact k
            · refine XS.icmpNo X0.here hx rfl (hb hby d9_80) rfl hb80_12 ?_
              show Steps p.tables e below (s₁.setTop (mkF m 83 #[.val (.ref u1), .val (.int u2), .val (.int u3), .val (.int (u3 - u2)), .val (.int (0 : Int32))] [])) _
              refine XS.aloadN X0.here hx rfl (hb hby d9_83) rfl rfl ?_
              show Steps p.tables e below (s₁.setTop (mkF m 84 #[.val (.ref u1), .val (.int u2), .val (.int u3), .val (.int (u3 - u2)), .val (.int (0 : Int32))] [(.ref u1)])) _
              refine XS.iloadN X0.here hx rfl (hb hby d9_84) rfl ?_
              show Steps p.tables e below (s₁.setTop (mkF m 85 #[.val (.ref u1), .val (.int u2), .val (.int u3), .val (.int (u3 - u2)), .val (.int (0 : Int32))] [(.int u2), (.ref u1)])) _
              refine XS.iconst X0.here hx rfl (hb hby d9_85) ?_
              show Steps p.tables e below (s₁.setTop (mkF m 86 #[.val (.ref u1), .val (.int u2), .val (.int u3), .val (.int (u3 - u2)), .val (.int (0 : Int32))] [(.int (2 : Int32)), (.int u2), (.ref u1)])) _
              refine XS.iadd X0.here hx rfl (hb hby d9_86) rfl ?_
              show Steps p.tables e below (s₁.setTop (mkF m 87 #[.val (.ref u1), .val (.int u2), .val (.int u3), .val (.int (u3 - u2)), .val (.int (0 : Int32))] [(.int (u2 + (2 : Int32))), (.ref u1)])) _
              refine X0.baloadBytes hx (j := (u2 + (2 : Int32))) (v := (.int (xs.getD ((u2 + (2 : Int32))).toNatClampNeg (0 : Int32)))) (by rw [e0]; exact Ar.1) (State.isArrayOf_alike hZ.alike Ar.2.1) Ar.2.2 (inb_of Sz (own_fr hf (2 : Int32) (by decide))) (Hz.at (inb_of Sz (own_fr hf (2 : Int32) (by decide))) (own_getD xs _)) (g := (mkF m 87 #[.val (.ref u1), .val (.int u2), .val (.int u3), .val (.int (u3 - u2)), .val (.int (0 : Int32))] [(.int (u2 + (2 : Int32))), (.ref u1)])) rfl rfl (hb hby d9_87) _ ?_
              show Steps p.tables e below (s₁.setTop (mkF m 88 #[.val (.ref u1), .val (.int u2), .val (.int u3), .val (.int (u3 - u2)), .val (.int (0 : Int32))] [(.int (xs.getD ((u2 + (2 : Int32))).toNatClampNeg (0 : Int32)))])) _
              refine XS.bipush X0.here hx rfl (hb hby d9_88) ?_
              show Steps p.tables e below (s₁.setTop (mkF m 90 #[.val (.ref u1), .val (.int u2), .val (.int u3), .val (.int (u3 - u2)), .val (.int (0 : Int32))] [(.int (108 : Int32)), (.int (xs.getD ((u2 + (2 : Int32))).toNatClampNeg (0 : Int32)))])) _
              rcases Bool.eq_false_or_eq_true (if_icmp.holds .ne (xs.getD ((u2 + (2 : Int32))).toNatClampNeg (0 : Int32)) (108 : Int32)) with hb90_13 | hb90_13
              · refine XS.icmpYes X0.here hx rfl (pc0 := 90) (pc' := 117) rfl (hb hby d9_90) rfl hb90_13 (by decide) (by decide) ?_
                show Steps p.tables e below (s₁.setTop (mkF m 117 #[.val (.ref u1), .val (.int u2), .val (.int u3), .val (.int (u3 - u2)), .val (.int (0 : Int32))] [])) _
                refine XS.iconst X0.here hx rfl (hb hby d9_117) ?_
                show Steps p.tables e below (s₁.setTop (mkF m 118 #[.val (.ref u1), .val (.int u2), .val (.int u3), .val (.int (u3 - u2)), .val (.int (0 : Int32))] [(.int (0 : Int32))])) _
                refine XS.istore X0.here hx rfl (hb hby d9_118) rfl (l' := #[.val (.ref u1), .val (.int u2), .val (.int u3), .val (.int (u3 - u2)), .val (.int (0 : Int32))]) rfl ?_
                have k : Steps p.tables e below (s₁.setTop (mkF m 120 #[.val (.ref u1), .val (.int u2), .val (.int u3), .val (.int (u3 - u2)), .val (.int (0 : Int32))] [])) t := by (try simp only [hb90_13] at k); (try simp only [hb80_12] at k); (try simp only [hb70_11] at k); (try simp only [hb62_10] at k); (try simp only [hb17_9] at k); simpa only [hb9_2, hb17_9, hb62_10, hb70_11, hb80_12, hb90_13, cond_true, cond_false] using k
                exact k
              · refine XS.icmpNo X0.here hx rfl (hb hby d9_90) rfl hb90_13 ?_
                show Steps p.tables e below (s₁.setTop (mkF m 93 #[.val (.ref u1), .val (.int u2), .val (.int u3), .val (.int (u3 - u2)), .val (.int (0 : Int32))] [])) _
                refine XS.aloadN X0.here hx rfl (hb hby d9_93) rfl rfl ?_
                show Steps p.tables e below (s₁.setTop (mkF m 94 #[.val (.ref u1), .val (.int u2), .val (.int u3), .val (.int (u3 - u2)), .val (.int (0 : Int32))] [(.ref u1)])) _
                refine XS.iloadN X0.here hx rfl (hb hby d9_94) rfl ?_
                show Steps p.tables e below (s₁.setTop (mkF m 95 #[.val (.ref u1), .val (.int u2), .val (.int u3), .val (.int (u3 - u2)), .val (.int (0 : Int32))] [(.int u2), (.ref u1)])) _
                refine XS.iconst X0.here hx rfl (hb hby d9_95) ?_
                show Steps p.tables e below (s₁.setTop (mkF m 96 #[.val (.ref u1), .val (.int u2), .val (.int u3), .val (.int (u3 - u2)), .val (.int (0 : Int32))] [(.int (3 : Int32)), (.int u2), (.ref u1)])) _
                refine XS.iadd X0.here hx rfl (hb hby d9_96) rfl ?_
                show Steps p.tables e below (s₁.setTop (mkF m 97 #[.val (.ref u1), .val (.int u2), .val (.int u3), .val (.int (u3 - u2)), .val (.int (0 : Int32))] [(.int (u2 + (3 : Int32))), (.ref u1)])) _
                refine X0.baloadBytes hx (j := (u2 + (3 : Int32))) (v := (.int (xs.getD ((u2 + (3 : Int32))).toNatClampNeg (0 : Int32)))) (by rw [e0]; exact Ar.1) (State.isArrayOf_alike hZ.alike Ar.2.1) Ar.2.2 (inb_of Sz (own_fr hf (3 : Int32) (by decide))) (Hz.at (inb_of Sz (own_fr hf (3 : Int32) (by decide))) (own_getD xs _)) (g := (mkF m 97 #[.val (.ref u1), .val (.int u2), .val (.int u3), .val (.int (u3 - u2)), .val (.int (0 : Int32))] [(.int (u2 + (3 : Int32))), (.ref u1)])) rfl rfl (hb hby d9_97) _ ?_
                show Steps p.tables e below (s₁.setTop (mkF m 98 #[.val (.ref u1), .val (.int u2), .val (.int u3), .val (.int (u3 - u2)), .val (.int (0 : Int32))] [(.int (xs.getD ((u2 + (3 : Int32))).toNatClampNeg (0 : Int32)))])) _
                refine XS.bipush X0.here hx rfl (hb hby d9_98) ?_
                show Steps p.tables e below (s₁.setTop (mkF m 100 #[.val (.ref u1), .val (.int u2), .val (.int u3), .val (.int (u3 - u2)), .val (.int (0 : Int32))] [(.int (115 : Int32)), (.int (xs.getD ((u2 + (3 : Int32))).toNatClampNeg (0 : Int32)))])) _
                rcases Bool.eq_false_or_eq_true (if_icmp.holds .ne (xs.getD ((u2 + (3 : Int32))).toNatClampNeg (0 : Int32)) (115 : Int32)) with hb100_14 | hb100_14
                · refine XS.icmpYes X0.here hx rfl (pc0 := 100) (pc' := 117) rfl (hb hby d9_100) rfl hb100_14 (by decide) (by decide) ?_
                  show Steps p.tables e below (s₁.setTop (mkF m 117 #[.val (.ref u1), .val (.int u2), .val (.int u3), .val (.int (u3 - u2)), .val (.int (0 : Int32))] [])) _
                  refine XS.iconst X0.here hx rfl (hb hby d9_117) ?_
                  show Steps p.tables e below (s₁.setTop (mkF m 118 #[.val (.ref u1), .val (.int u2), .val (.int u3), .val (.int (u3 - u2)), .val (.int (0 : Int32))] [(.int (0 : Int32))])) _
                  refine XS.istore X0.here hx rfl (hb hby d9_118) rfl (l' := #[.val (.ref u1), .val (.int u2), .val (.int u3), .val (.int (u3 - u2)), .val (.int (0 : Int32))]) rfl ?_
                  have k : Steps p.tables e below (s₁.setTop (mkF m 120 #[.val (.ref u1), .val (.int u2), .val (.int u3), .val (.int (u3 - u2)), .val (.int (0 : Int32))] [])) t := by (try simp only [hb100_14] at k); (try simp only [hb90_13] at k); (try simp only [hb80_12] at k); (try simp only [hb70_11] at k); (try simp only [hb62_10] at k); (try simp only [hb17_9] at k); simpa only [hb9_2, hb17_9, hb62_10, hb70_11, hb80_12, hb90_13, hb100_14, cond_true, cond_false] using k
                  exact k
                · refine XS.icmpNo X0.here hx rfl (hb hby d9_100) rfl hb100_14 ?_
                  show Steps p.tables e below (s₁.setTop (mkF m 103 #[.val (.ref u1), .val (.int u2), .val (.int u3), .val (.int (u3 - u2)), .val (.int (0 : Int32))] [])) _
                  refine XS.aloadN X0.here hx rfl (hb hby d9_103) rfl rfl ?_
                  show Steps p.tables e below (s₁.setTop (mkF m 104 #[.val (.ref u1), .val (.int u2), .val (.int u3), .val (.int (u3 - u2)), .val (.int (0 : Int32))] [(.ref u1)])) _
                  refine XS.iloadN X0.here hx rfl (hb hby d9_104) rfl ?_
                  show Steps p.tables e below (s₁.setTop (mkF m 105 #[.val (.ref u1), .val (.int u2), .val (.int u3), .val (.int (u3 - u2)), .val (.int (0 : Int32))] [(.int u2), (.ref u1)])) _
                  refine XS.iconst X0.here hx rfl (hb hby d9_105) ?_
                  show Steps p.tables e below (s₁.setTop (mkF m 106 #[.val (.ref u1), .val (.int u2), .val (.int u3), .val (.int (u3 - u2)), .val (.int (0 : Int32))] [(.int (4 : Int32)), (.int u2), (.ref u1)])) _
                  refine XS.iadd X0.here hx rfl (hb hby d9_106) rfl ?_
                  show Steps p.tables e below (s₁.setTop (mkF m 107 #[.val (.ref u1), .val (.int u2), .val (.int u3), .val (.int (u3 - u2)), .val (.int (0 : Int32))] [(.int (u2 + (4 : Int32))), (.ref u1)])) _
                  refine X0.baloadBytes hx (j := (u2 + (4 : Int32))) (v := (.int (xs.getD ((u2 + (4 : Int32))).toNatClampNeg (0 : Int32)))) (by rw [e0]; exact Ar.1) (State.isArrayOf_alike hZ.alike Ar.2.1) Ar.2.2 (inb_of Sz (own_fr hf (4 : Int32) (by decide))) (Hz.at (inb_of Sz (own_fr hf (4 : Int32) (by decide))) (own_getD xs _)) (g := (mkF m 107 #[.val (.ref u1), .val (.int u2), .val (.int u3), .val (.int (u3 - u2)), .val (.int (0 : Int32))] [(.int (u2 + (4 : Int32))), (.ref u1)])) rfl rfl (hb hby d9_107) _ ?_
                  show Steps p.tables e below (s₁.setTop (mkF m 108 #[.val (.ref u1), .val (.int u2), .val (.int u3), .val (.int (u3 - u2)), .val (.int (0 : Int32))] [(.int (xs.getD ((u2 + (4 : Int32))).toNatClampNeg (0 : Int32)))])) _
                  refine XS.bipush X0.here hx rfl (hb hby d9_108) ?_
                  show Steps p.tables e below (s₁.setTop (mkF m 110 #[.val (.ref u1), .val (.int u2), .val (.int u3), .val (.int (u3 - u2)), .val (.int (0 : Int32))] [(.int (101 : Int32)), (.int (xs.getD ((u2 + (4 : Int32))).toNatClampNeg (0 : Int32)))])) _
                  rcases Bool.eq_false_or_eq_true (if_icmp.holds .ne (xs.getD ((u2 + (4 : Int32))).toNatClampNeg (0 : Int32)) (101 : Int32)) with hb110_15 | hb110_15
                  · refine XS.icmpYes X0.here hx rfl (pc0 := 110) (pc' := 117) rfl (hb hby d9_110) rfl hb110_15 (by decide) (by decide) ?_
                    show Steps p.tables e below (s₁.setTop (mkF m 117 #[.val (.ref u1), .val (.int u2), .val (.int u3), .val (.int (u3 - u2)), .val (.int (0 : Int32))] [])) _
                    refine XS.iconst X0.here hx rfl (hb hby d9_117) ?_
                    show Steps p.tables e below (s₁.setTop (mkF m 118 #[.val (.ref u1), .val (.int u2), .val (.int u3), .val (.int (u3 - u2)), .val (.int (0 : Int32))] [(.int (0 : Int32))])) _
                    refine XS.istore X0.here hx rfl (hb hby d9_118) rfl (l' := #[.val (.ref u1), .val (.int u2), .val (.int u3), .val (.int (u3 - u2)), .val (.int (0 : Int32))]) rfl ?_
                    have k : Steps p.tables e below (s₁.setTop (mkF m 120 #[.val (.ref u1), .val (.int u2), .val (.int u3), .val (.int (u3 - u2)), .val (.int (0 : Int32))] [])) t := by (try simp only [hb110_15] at k); (try simp only [hb100_14] at k); (try simp only [hb90_13] at k); (try simp only [hb80_12] at k); (try simp only [hb70_11] at k); (try simp only [hb62_10] at k); (try simp only [hb17_9] at k); simpa only [hb9_2, hb17_9, hb62_10, hb70_11, hb80_12, hb90_13, hb100_14, hb110_15, cond_true, cond_false] using k
                    exact k
                  · refine XS.icmpNo X0.here hx rfl (hb hby d9_110) rfl hb110_15 ?_
                    show Steps p.tables e below (s₁.setTop (mkF m 113 #[.val (.ref u1), .val (.int u2), .val (.int u3), .val (.int (u3 - u2)), .val (.int (0 : Int32))] [])) _
                    refine XS.iconst X0.here hx rfl (hb hby d9_113) ?_
                    show Steps p.tables e below (s₁.setTop (mkF m 114 #[.val (.ref u1), .val (.int u2), .val (.int u3), .val (.int (u3 - u2)), .val (.int (0 : Int32))] [(.int (1 : Int32))])) _
                    refine XS.goto X0.here hx rfl (pc0 := 114) (pc' := 118) rfl (hb hby d9_114) (by decide) (by decide) ?_
                    show Steps p.tables e below (s₁.setTop (mkF m 118 #[.val (.ref u1), .val (.int u2), .val (.int u3), .val (.int (u3 - u2)), .val (.int (0 : Int32))] [(.int (1 : Int32))])) _
                    refine XS.istore X0.here hx rfl (hb hby d9_118) rfl (l' := #[.val (.ref u1), .val (.int u2), .val (.int u3), .val (.int (u3 - u2)), .val (.int (1 : Int32))]) rfl ?_
                    have k : Steps p.tables e below (s₁.setTop (mkF m 120 #[.val (.ref u1), .val (.int u2), .val (.int u3), .val (.int (u3 - u2)), .val (.int (1 : Int32))] [])) t := by (try simp only [hb110_15] at k); (try simp only [hb100_14] at k); (try simp only [hb90_13] at k); (try simp only [hb80_12] at k); (try simp only [hb70_11] at k); (try simp only [hb62_10] at k); (try simp only [hb17_9] at k); simpa only [hb9_2, hb17_9, hb62_10, hb70_11, hb80_12, hb90_13, hb100_14, hb110_15, cond_true, cond_false] using k
                    exact k
      · refine XS.icmpNo X0.here hx rfl (hb hby d9_17) rfl hb17_9 ?_
        show Steps p.tables e below (s₁.setTop (mkF m 20 #[.val (.ref u1), .val (.int u2), .val (.int u3), .val (.int (u3 - u2)), .val (.int (0 : Int32))] [])) _
        refine XS.aloadN X0.here hx rfl (hb hby d9_20) rfl rfl ?_
        show Steps p.tables e below (s₁.setTop (mkF m 21 #[.val (.ref u1), .val (.int u2), .val (.int u3), .val (.int (u3 - u2)), .val (.int (0 : Int32))] [(.ref u1)])) _
        refine XS.iloadN X0.here hx rfl (hb hby d9_21) rfl ?_
        show Steps p.tables e below (s₁.setTop (mkF m 22 #[.val (.ref u1), .val (.int u2), .val (.int u3), .val (.int (u3 - u2)), .val (.int (0 : Int32))] [(.int u2), (.ref u1)])) _
        refine XS.iconst X0.here hx rfl (hb hby d9_22) ?_
        show Steps p.tables e below (s₁.setTop (mkF m 23 #[.val (.ref u1), .val (.int u2), .val (.int u3), .val (.int (u3 - u2)), .val (.int (0 : Int32))] [(.int (1 : Int32)), (.int u2), (.ref u1)])) _
        refine XS.iadd X0.here hx rfl (hb hby d9_23) rfl ?_
        show Steps p.tables e below (s₁.setTop (mkF m 24 #[.val (.ref u1), .val (.int u2), .val (.int u3), .val (.int (u3 - u2)), .val (.int (0 : Int32))] [(.int (u2 + (1 : Int32))), (.ref u1)])) _
        refine X0.baloadBytes hx (j := (u2 + (1 : Int32))) (v := (.int (xs.getD ((u2 + (1 : Int32))).toNatClampNeg (0 : Int32)))) (by rw [e0]; exact Ar.1) (State.isArrayOf_alike hZ.alike Ar.2.1) Ar.2.2 (inb_of Sz (own_fr hf (1 : Int32) (by decide))) (Hz.at (inb_of Sz (own_fr hf (1 : Int32) (by decide))) (own_getD xs _)) (g := (mkF m 24 #[.val (.ref u1), .val (.int u2), .val (.int u3), .val (.int (u3 - u2)), .val (.int (0 : Int32))] [(.int (u2 + (1 : Int32))), (.ref u1)])) rfl rfl (hb hby d9_24) _ ?_
        show Steps p.tables e below (s₁.setTop (mkF m 25 #[.val (.ref u1), .val (.int u2), .val (.int u3), .val (.int (u3 - u2)), .val (.int (0 : Int32))] [(.int (xs.getD ((u2 + (1 : Int32))).toNatClampNeg (0 : Int32)))])) _
        refine XS.bipush X0.here hx rfl (hb hby d9_25) ?_
        show Steps p.tables e below (s₁.setTop (mkF m 27 #[.val (.ref u1), .val (.int u2), .val (.int u3), .val (.int (u3 - u2)), .val (.int (0 : Int32))] [(.int (114 : Int32)), (.int (xs.getD ((u2 + (1 : Int32))).toNatClampNeg (0 : Int32)))])) _
        rcases Bool.eq_false_or_eq_true (if_icmp.holds .ne (xs.getD ((u2 + (1 : Int32))).toNatClampNeg (0 : Int32)) (114 : Int32)) with hb27_16 | hb27_16
        · refine XS.icmpYes X0.here hx rfl (pc0 := 27) (pc' := 54) rfl (hb hby d9_27) rfl hb27_16 (by decide) (by decide) ?_
          show Steps p.tables e below (s₁.setTop (mkF m 54 #[.val (.ref u1), .val (.int u2), .val (.int u3), .val (.int (u3 - u2)), .val (.int (0 : Int32))] [])) _
          refine XS.iconst X0.here hx rfl (hb hby d9_54) ?_
          show Steps p.tables e below (s₁.setTop (mkF m 55 #[.val (.ref u1), .val (.int u2), .val (.int u3), .val (.int (u3 - u2)), .val (.int (0 : Int32))] [(.int (0 : Int32))])) _
          refine XS.istore X0.here hx rfl (hb hby d9_55) rfl (l' := #[.val (.ref u1), .val (.int u2), .val (.int u3), .val (.int (u3 - u2)), .val (.int (0 : Int32))]) rfl ?_
          show Steps p.tables e below (s₁.setTop (mkF m 57 #[.val (.ref u1), .val (.int u2), .val (.int u3), .val (.int (u3 - u2)), .val (.int (0 : Int32))] [])) _
          refine XS.goto X0.here hx rfl (pc0 := 57) (pc' := 120) rfl (hb hby d9_57) (by decide) (by decide) ?_
          have k : Steps p.tables e below (s₁.setTop (mkF m 120 #[.val (.ref u1), .val (.int u2), .val (.int u3), .val (.int (u3 - u2)), .val (.int (0 : Int32))] [])) t := by (try simp only [hb27_16] at k); (try simp only [hb17_9] at k); simpa only [hb9_2, hb17_9, hb27_16, cond_true, cond_false] using k
          exact k
        · refine XS.icmpNo X0.here hx rfl (hb hby d9_27) rfl hb27_16 ?_
          show Steps p.tables e below (s₁.setTop (mkF m 30 #[.val (.ref u1), .val (.int u2), .val (.int u3), .val (.int (u3 - u2)), .val (.int (0 : Int32))] [])) _
          refine XS.aloadN X0.here hx rfl (hb hby d9_30) rfl rfl ?_
          show Steps p.tables e below (s₁.setTop (mkF m 31 #[.val (.ref u1), .val (.int u2), .val (.int u3), .val (.int (u3 - u2)), .val (.int (0 : Int32))] [(.ref u1)])) _
          refine XS.iloadN X0.here hx rfl (hb hby d9_31) rfl ?_
          show Steps p.tables e below (s₁.setTop (mkF m 32 #[.val (.ref u1), .val (.int u2), .val (.int u3), .val (.int (u3 - u2)), .val (.int (0 : Int32))] [(.int u2), (.ref u1)])) _
          refine XS.iconst X0.here hx rfl (hb hby d9_32) ?_
          show Steps p.tables e below (s₁.setTop (mkF m 33 #[.val (.ref u1), .val (.int u2), .val (.int u3), .val (.int (u3 - u2)), .val (.int (0 : Int32))] [(.int (2 : Int32)), (.int u2), (.ref u1)])) _
          refine XS.iadd X0.here hx rfl (hb hby d9_33) rfl ?_
          show Steps p.tables e below (s₁.setTop (mkF m 34 #[.val (.ref u1), .val (.int u2), .val (.int u3), .val (.int (u3 - u2)), .val (.int (0 : Int32))] [(.int (u2 + (2 : Int32))), (.ref u1)])) _
          refine X0.baloadBytes hx (j := (u2 + (2 : Int32))) (v := (.int (xs.getD ((u2 + (2 : Int32))).toNatClampNeg (0 : Int32)))) (by rw [e0]; exact Ar.1) (State.isArrayOf_alike hZ.alike Ar.2.1) Ar.2.2 (inb_of Sz (own_fr hf (2 : Int32) (by decide))) (Hz.at (inb_of Sz (own_fr hf (2 : Int32) (by decide))) (own_getD xs _)) (g := (mkF m 34 #[.val (.ref u1), .val (.int u2), .val (.int u3), .val (.int (u3 - u2)), .val (.int (0 : Int32))] [(.int (u2 + (2 : Int32))), (.ref u1)])) rfl rfl (hb hby d9_34) _ ?_
          show Steps p.tables e below (s₁.setTop (mkF m 35 #[.val (.ref u1), .val (.int u2), .val (.int u3), .val (.int (u3 - u2)), .val (.int (0 : Int32))] [(.int (xs.getD ((u2 + (2 : Int32))).toNatClampNeg (0 : Int32)))])) _
          refine XS.bipush X0.here hx rfl (hb hby d9_35) ?_
          show Steps p.tables e below (s₁.setTop (mkF m 37 #[.val (.ref u1), .val (.int u2), .val (.int u3), .val (.int (u3 - u2)), .val (.int (0 : Int32))] [(.int (117 : Int32)), (.int (xs.getD ((u2 + (2 : Int32))).toNatClampNeg (0 : Int32)))])) _
          rcases Bool.eq_false_or_eq_true (if_icmp.holds .ne (xs.getD ((u2 + (2 : Int32))).toNatClampNeg (0 : Int32)) (117 : Int32)) with hb37_17 | hb37_17
          · refine XS.icmpYes X0.here hx rfl (pc0 := 37) (pc' := 54) rfl (hb hby d9_37) rfl hb37_17 (by decide) (by decide) ?_
            show Steps p.tables e below (s₁.setTop (mkF m 54 #[.val (.ref u1), .val (.int u2), .val (.int u3), .val (.int (u3 - u2)), .val (.int (0 : Int32))] [])) _
            refine XS.iconst X0.here hx rfl (hb hby d9_54) ?_
            show Steps p.tables e below (s₁.setTop (mkF m 55 #[.val (.ref u1), .val (.int u2), .val (.int u3), .val (.int (u3 - u2)), .val (.int (0 : Int32))] [(.int (0 : Int32))])) _
            refine XS.istore X0.here hx rfl (hb hby d9_55) rfl (l' := #[.val (.ref u1), .val (.int u2), .val (.int u3), .val (.int (u3 - u2)), .val (.int (0 : Int32))]) rfl ?_
            show Steps p.tables e below (s₁.setTop (mkF m 57 #[.val (.ref u1), .val (.int u2), .val (.int u3), .val (.int (u3 - u2)), .val (.int (0 : Int32))] [])) _
            refine XS.goto X0.here hx rfl (pc0 := 57) (pc' := 120) rfl (hb hby d9_57) (by decide) (by decide) ?_
            have k : Steps p.tables e below (s₁.setTop (mkF m 120 #[.val (.ref u1), .val (.int u2), .val (.int u3), .val (.int (u3 - u2)), .val (.int (0 : Int32))] [])) t := by (try simp only [hb37_17] at k); (try simp only [hb27_16] at k); (try simp only [hb17_9] at k); simpa only [hb9_2, hb17_9, hb27_16, hb37_17, cond_true, cond_false] using k
            exact k
          · refine XS.icmpNo X0.here hx rfl (hb hby d9_37) rfl hb37_17 ?_
            show Steps p.tables e below (s₁.setTop (mkF m 40 #[.val (.ref u1), .val (.int u2), .val (.int u3), .val (.int (u3 - u2)), .val (.int (0 : Int32))] [])) _
            refine XS.aloadN X0.here hx rfl (hb hby d9_40) rfl rfl ?_
            show Steps p.tables e below (s₁.setTop (mkF m 41 #[.val (.ref u1), .val (.int u2), .val (.int u3), .val (.int (u3 - u2)), .val (.int (0 : Int32))] [(.ref u1)])) _
            refine XS.iloadN X0.here hx rfl (hb hby d9_41) rfl ?_
            show Steps p.tables e below (s₁.setTop (mkF m 42 #[.val (.ref u1), .val (.int u2), .val (.int u3), .val (.int (u3 - u2)), .val (.int (0 : Int32))] [(.int u2), (.ref u1)])) _
            refine XS.iconst X0.here hx rfl (hb hby d9_42) ?_
            show Steps p.tables e below (s₁.setTop (mkF m 43 #[.val (.ref u1), .val (.int u2), .val (.int u3), .val (.int (u3 - u2)), .val (.int (0 : Int32))] [(.int (3 : Int32)), (.int u2), (.ref u1)])) _
            refine XS.iadd X0.here hx rfl (hb hby d9_43) rfl ?_
            show Steps p.tables e below (s₁.setTop (mkF m 44 #[.val (.ref u1), .val (.int u2), .val (.int u3), .val (.int (u3 - u2)), .val (.int (0 : Int32))] [(.int (u2 + (3 : Int32))), (.ref u1)])) _
            refine X0.baloadBytes hx (j := (u2 + (3 : Int32))) (v := (.int (xs.getD ((u2 + (3 : Int32))).toNatClampNeg (0 : Int32)))) (by rw [e0]; exact Ar.1) (State.isArrayOf_alike hZ.alike Ar.2.1) Ar.2.2 (inb_of Sz (own_fr hf (3 : Int32) (by decide))) (Hz.at (inb_of Sz (own_fr hf (3 : Int32) (by decide))) (own_getD xs _)) (g := (mkF m 44 #[.val (.ref u1), .val (.int u2), .val (.int u3), .val (.int (u3 - u2)), .val (.int (0 : Int32))] [(.int (u2 + (3 : Int32))), (.ref u1)])) rfl rfl (hb hby d9_44) _ ?_
            show Steps p.tables e below (s₁.setTop (mkF m 45 #[.val (.ref u1), .val (.int u2), .val (.int u3), .val (.int (u3 - u2)), .val (.int (0 : Int32))] [(.int (xs.getD ((u2 + (3 : Int32))).toNatClampNeg (0 : Int32)))])) _
            refine XS.bipush X0.here hx rfl (hb hby d9_45) ?_
            show Steps p.tables e below (s₁.setTop (mkF m 47 #[.val (.ref u1), .val (.int u2), .val (.int u3), .val (.int (u3 - u2)), .val (.int (0 : Int32))] [(.int (101 : Int32)), (.int (xs.getD ((u2 + (3 : Int32))).toNatClampNeg (0 : Int32)))])) _
            rcases Bool.eq_false_or_eq_true (if_icmp.holds .ne (xs.getD ((u2 + (3 : Int32))).toNatClampNeg (0 : Int32)) (101 : Int32)) with hb47_18 | hb47_18
            · refine XS.icmpYes X0.here hx rfl (pc0 := 47) (pc' := 54) rfl (hb hby d9_47) rfl hb47_18 (by decide) (by decide) ?_
              show Steps p.tables e below (s₁.setTop (mkF m 54 #[.val (.ref u1), .val (.int u2), .val (.int u3), .val (.int (u3 - u2)), .val (.int (0 : Int32))] [])) _
              refine XS.iconst X0.here hx rfl (hb hby d9_54) ?_
              show Steps p.tables e below (s₁.setTop (mkF m 55 #[.val (.ref u1), .val (.int u2), .val (.int u3), .val (.int (u3 - u2)), .val (.int (0 : Int32))] [(.int (0 : Int32))])) _
              refine XS.istore X0.here hx rfl (hb hby d9_55) rfl (l' := #[.val (.ref u1), .val (.int u2), .val (.int u3), .val (.int (u3 - u2)), .val (.int (0 : Int32))]) rfl ?_
              show Steps p.tables e below (s₁.setTop (mkF m 57 #[.val (.ref u1), .val (.int u2), .val (.int u3), .val (.int (u3 - u2)), .val (.int (0 : Int32))] [])) _
              refine XS.goto X0.here hx rfl (pc0 := 57) (pc' := 120) rfl (hb hby d9_57) (by decide) (by decide) ?_
              have k : Steps p.tables e below (s₁.setTop (mkF m 120 #[.val (.ref u1), .val (.int u2), .val (.int u3), .val (.int (u3 - u2)), .val (.int (0 : Int32))] [])) t := by (try simp only [hb47_18] at k); (try simp only [hb37_17] at k); (try simp only [hb27_16] at k); (try simp only [hb17_9] at k); simpa only [hb9_2, hb17_9, hb27_16, hb37_17, hb47_18, cond_true, cond_false] using k
              exact k
            · refine XS.icmpNo X0.here hx rfl (hb hby d9_47) rfl hb47_18 ?_
              show Steps p.tables e below (s₁.setTop (mkF m 50 #[.val (.ref u1), .val (.int u2), .val (.int u3), .val (.int (u3 - u2)), .val (.int (0 : Int32))] [])) _
              refine XS.iconst X0.here hx rfl (hb hby d9_50) ?_
              show Steps p.tables e below (s₁.setTop (mkF m 51 #[.val (.ref u1), .val (.int u2), .val (.int u3), .val (.int (u3 - u2)), .val (.int (0 : Int32))] [(.int (1 : Int32))])) _
              refine XS.goto X0.here hx rfl (pc0 := 51) (pc' := 55) rfl (hb hby d9_51) (by decide) (by decide) ?_
              show Steps p.tables e below (s₁.setTop (mkF m 55 #[.val (.ref u1), .val (.int u2), .val (.int u3), .val (.int (u3 - u2)), .val (.int (0 : Int32))] [(.int (1 : Int32))])) _
              refine XS.istore X0.here hx rfl (hb hby d9_55) rfl (l' := #[.val (.ref u1), .val (.int u2), .val (.int u3), .val (.int (u3 - u2)), .val (.int (1 : Int32))]) rfl ?_
              show Steps p.tables e below (s₁.setTop (mkF m 57 #[.val (.ref u1), .val (.int u2), .val (.int u3), .val (.int (u3 - u2)), .val (.int (1 : Int32))] [])) _
              refine XS.goto X0.here hx rfl (pc0 := 57) (pc' := 120) rfl (hb hby d9_57) (by decide) (by decide) ?_
              have k : Steps p.tables e below (s₁.setTop (mkF m 120 #[.val (.ref u1), .val (.int u2), .val (.int u3), .val (.int (u3 - u2)), .val (.int (1 : Int32))] [])) t := by (try simp only [hb47_18] at k); (try simp only [hb37_17] at k); (try simp only [hb27_16] at k); (try simp only [hb17_9] at k); simpa only [hb9_2, hb17_9, hb27_16, hb37_17, hb47_18, cond_true, cond_false] using k
              exact k
  obtain ⟨fs, hr, hrun, hended, hW, hsame⟩ := X0.leave (v := some (.int (nar .boolean (bif (if_icmp.holds .ne (u3 - u2) (4 : Int32)) then (bif (if_icmp.holds .ne (u3 - u2) (5 : Int32)) then (0 : Int32) else (bif (if_icmp.holds .ne (xs.getD (u2).toNatClampNeg (0 : Int32)) (102 : Int32)) then (0 : Int32) else (bif (if_icmp.holds .ne (xs.getD ((u2 + (1 : Int32))).toNatClampNeg (0 : Int32)) (97 : Int32)) then (0 : Int32) else (bif (if_icmp.holds .ne (xs.getD ((u2 + (2 : Int32))).toNatClampNeg (0 : Int32)) (108 : Int32)) then (0 : Int32) else (bif (if_icmp.holds .ne (xs.getD ((u2 + (3 : Int32))).toNatClampNeg (0 : Int32)) (115 : Int32)) then (0 : Int32) else (bif (if_icmp.holds .ne (xs.getD ((u2 + (4 : Int32))).toNatClampNeg (0 : Int32)) (101 : Int32)) then (0 : Int32) else (1 : Int32))))))) else (bif (if_icmp.holds .ne (xs.getD (u2).toNatClampNeg (0 : Int32)) (116 : Int32)) then (bif (if_icmp.holds .ne (u3 - u2) (5 : Int32)) then (0 : Int32) else (bif (if_icmp.holds .ne (xs.getD (u2).toNatClampNeg (0 : Int32)) (102 : Int32)) then (0 : Int32) else (bif (if_icmp.holds .ne (xs.getD ((u2 + (1 : Int32))).toNatClampNeg (0 : Int32)) (97 : Int32)) then (0 : Int32) else (bif (if_icmp.holds .ne (xs.getD ((u2 + (2 : Int32))).toNatClampNeg (0 : Int32)) (108 : Int32)) then (0 : Int32) else (bif (if_icmp.holds .ne (xs.getD ((u2 + (3 : Int32))).toNatClampNeg (0 : Int32)) (115 : Int32)) then (0 : Int32) else (bif (if_icmp.holds .ne (xs.getD ((u2 + (4 : Int32))).toNatClampNeg (0 : Int32)) (101 : Int32)) then (0 : Int32) else (1 : Int32))))))) else (bif (if_icmp.holds .ne (xs.getD ((u2 + (1 : Int32))).toNatClampNeg (0 : Int32)) (114 : Int32)) then (0 : Int32) else (bif (if_icmp.holds .ne (xs.getD ((u2 + (2 : Int32))).toNatClampNeg (0 : Int32)) (117 : Int32)) then (0 : Int32) else (bif (if_icmp.holds .ne (xs.getD ((u2 + (3 : Int32))).toNatClampNeg (0 : Int32)) (101 : Int32)) then (0 : Int32) else (1 : Int32))))))))) (fun h => by rw [Bd.returns] at h; cases h)
  refine ⟨_, _, pre19 _ ?_, hrun, hended, _, _, rfl, ?_, ⟨_, rfl⟩, hW, hsame.mono (by decide) (by decide)⟩
  · show Steps p.tables e below (s₁.setTop (mkF m 120 #[.val (.ref u1), .val (.int u2), .val (.int u3), .val (.int (u3 - u2)), .val (.int (bif (if_icmp.holds .ne (u3 - u2) (4 : Int32)) then (bif (if_icmp.holds .ne (u3 - u2) (5 : Int32)) then (0 : Int32) else (bif (if_icmp.holds .ne (xs.getD (u2).toNatClampNeg (0 : Int32)) (102 : Int32)) then (0 : Int32) else (bif (if_icmp.holds .ne (xs.getD ((u2 + (1 : Int32))).toNatClampNeg (0 : Int32)) (97 : Int32)) then (0 : Int32) else (bif (if_icmp.holds .ne (xs.getD ((u2 + (2 : Int32))).toNatClampNeg (0 : Int32)) (108 : Int32)) then (0 : Int32) else (bif (if_icmp.holds .ne (xs.getD ((u2 + (3 : Int32))).toNatClampNeg (0 : Int32)) (115 : Int32)) then (0 : Int32) else (bif (if_icmp.holds .ne (xs.getD ((u2 + (4 : Int32))).toNatClampNeg (0 : Int32)) (101 : Int32)) then (0 : Int32) else (1 : Int32))))))) else (bif (if_icmp.holds .ne (xs.getD (u2).toNatClampNeg (0 : Int32)) (116 : Int32)) then (bif (if_icmp.holds .ne (u3 - u2) (5 : Int32)) then (0 : Int32) else (bif (if_icmp.holds .ne (xs.getD (u2).toNatClampNeg (0 : Int32)) (102 : Int32)) then (0 : Int32) else (bif (if_icmp.holds .ne (xs.getD ((u2 + (1 : Int32))).toNatClampNeg (0 : Int32)) (97 : Int32)) then (0 : Int32) else (bif (if_icmp.holds .ne (xs.getD ((u2 + (2 : Int32))).toNatClampNeg (0 : Int32)) (108 : Int32)) then (0 : Int32) else (bif (if_icmp.holds .ne (xs.getD ((u2 + (3 : Int32))).toNatClampNeg (0 : Int32)) (115 : Int32)) then (0 : Int32) else (bif (if_icmp.holds .ne (xs.getD ((u2 + (4 : Int32))).toNatClampNeg (0 : Int32)) (101 : Int32)) then (0 : Int32) else (1 : Int32))))))) else (bif (if_icmp.holds .ne (xs.getD ((u2 + (1 : Int32))).toNatClampNeg (0 : Int32)) (114 : Int32)) then (0 : Int32) else (bif (if_icmp.holds .ne (xs.getD ((u2 + (2 : Int32))).toNatClampNeg (0 : Int32)) (117 : Int32)) then (0 : Int32) else (bif (if_icmp.holds .ne (xs.getD ((u2 + (3 : Int32))).toNatClampNeg (0 : Int32)) (101 : Int32)) then (0 : Int32) else (1 : Int32)))))))] [])) _
    refine XS.iload X0.here hx rfl (hb hby d9_120) rfl ?_
    show Steps p.tables e below (s₁.setTop (mkF m 122 #[.val (.ref u1), .val (.int u2), .val (.int u3), .val (.int (u3 - u2)), .val (.int (bif (if_icmp.holds .ne (u3 - u2) (4 : Int32)) then (bif (if_icmp.holds .ne (u3 - u2) (5 : Int32)) then (0 : Int32) else (bif (if_icmp.holds .ne (xs.getD (u2).toNatClampNeg (0 : Int32)) (102 : Int32)) then (0 : Int32) else (bif (if_icmp.holds .ne (xs.getD ((u2 + (1 : Int32))).toNatClampNeg (0 : Int32)) (97 : Int32)) then (0 : Int32) else (bif (if_icmp.holds .ne (xs.getD ((u2 + (2 : Int32))).toNatClampNeg (0 : Int32)) (108 : Int32)) then (0 : Int32) else (bif (if_icmp.holds .ne (xs.getD ((u2 + (3 : Int32))).toNatClampNeg (0 : Int32)) (115 : Int32)) then (0 : Int32) else (bif (if_icmp.holds .ne (xs.getD ((u2 + (4 : Int32))).toNatClampNeg (0 : Int32)) (101 : Int32)) then (0 : Int32) else (1 : Int32))))))) else (bif (if_icmp.holds .ne (xs.getD (u2).toNatClampNeg (0 : Int32)) (116 : Int32)) then (bif (if_icmp.holds .ne (u3 - u2) (5 : Int32)) then (0 : Int32) else (bif (if_icmp.holds .ne (xs.getD (u2).toNatClampNeg (0 : Int32)) (102 : Int32)) then (0 : Int32) else (bif (if_icmp.holds .ne (xs.getD ((u2 + (1 : Int32))).toNatClampNeg (0 : Int32)) (97 : Int32)) then (0 : Int32) else (bif (if_icmp.holds .ne (xs.getD ((u2 + (2 : Int32))).toNatClampNeg (0 : Int32)) (108 : Int32)) then (0 : Int32) else (bif (if_icmp.holds .ne (xs.getD ((u2 + (3 : Int32))).toNatClampNeg (0 : Int32)) (115 : Int32)) then (0 : Int32) else (bif (if_icmp.holds .ne (xs.getD ((u2 + (4 : Int32))).toNatClampNeg (0 : Int32)) (101 : Int32)) then (0 : Int32) else (1 : Int32))))))) else (bif (if_icmp.holds .ne (xs.getD ((u2 + (1 : Int32))).toNatClampNeg (0 : Int32)) (114 : Int32)) then (0 : Int32) else (bif (if_icmp.holds .ne (xs.getD ((u2 + (2 : Int32))).toNatClampNeg (0 : Int32)) (117 : Int32)) then (0 : Int32) else (bif (if_icmp.holds .ne (xs.getD ((u2 + (3 : Int32))).toNatClampNeg (0 : Int32)) (101 : Int32)) then (0 : Int32) else (1 : Int32)))))))] [(.int (bif (if_icmp.holds .ne (u3 - u2) (4 : Int32)) then (bif (if_icmp.holds .ne (u3 - u2) (5 : Int32)) then (0 : Int32) else (bif (if_icmp.holds .ne (xs.getD (u2).toNatClampNeg (0 : Int32)) (102 : Int32)) then (0 : Int32) else (bif (if_icmp.holds .ne (xs.getD ((u2 + (1 : Int32))).toNatClampNeg (0 : Int32)) (97 : Int32)) then (0 : Int32) else (bif (if_icmp.holds .ne (xs.getD ((u2 + (2 : Int32))).toNatClampNeg (0 : Int32)) (108 : Int32)) then (0 : Int32) else (bif (if_icmp.holds .ne (xs.getD ((u2 + (3 : Int32))).toNatClampNeg (0 : Int32)) (115 : Int32)) then (0 : Int32) else (bif (if_icmp.holds .ne (xs.getD ((u2 + (4 : Int32))).toNatClampNeg (0 : Int32)) (101 : Int32)) then (0 : Int32) else (1 : Int32))))))) else (bif (if_icmp.holds .ne (xs.getD (u2).toNatClampNeg (0 : Int32)) (116 : Int32)) then (bif (if_icmp.holds .ne (u3 - u2) (5 : Int32)) then (0 : Int32) else (bif (if_icmp.holds .ne (xs.getD (u2).toNatClampNeg (0 : Int32)) (102 : Int32)) then (0 : Int32) else (bif (if_icmp.holds .ne (xs.getD ((u2 + (1 : Int32))).toNatClampNeg (0 : Int32)) (97 : Int32)) then (0 : Int32) else (bif (if_icmp.holds .ne (xs.getD ((u2 + (2 : Int32))).toNatClampNeg (0 : Int32)) (108 : Int32)) then (0 : Int32) else (bif (if_icmp.holds .ne (xs.getD ((u2 + (3 : Int32))).toNatClampNeg (0 : Int32)) (115 : Int32)) then (0 : Int32) else (bif (if_icmp.holds .ne (xs.getD ((u2 + (4 : Int32))).toNatClampNeg (0 : Int32)) (101 : Int32)) then (0 : Int32) else (1 : Int32))))))) else (bif (if_icmp.holds .ne (xs.getD ((u2 + (1 : Int32))).toNatClampNeg (0 : Int32)) (114 : Int32)) then (0 : Int32) else (bif (if_icmp.holds .ne (xs.getD ((u2 + (2 : Int32))).toNatClampNeg (0 : Int32)) (117 : Int32)) then (0 : Int32) else (bif (if_icmp.holds .ne (xs.getD ((u2 + (3 : Int32))).toNatClampNeg (0 : Int32)) (101 : Int32)) then (0 : Int32) else (1 : Int32)))))))])) _
    exact retN X0 hx (t := .boolean) Bd.returns (by simp) (hb hby d9_122) hr
  · show Q_rm_kw Z _ _ _ _ _ h0 n0 _ s₁.heap _
    rw [e0]
    exact ⟨rfl, N0, rfl⟩
def own_kw (u2 u3 : Int32) (xs : List Int32) : Int32 := (nar .boolean (bif (if_icmp.holds .ne (u3 - u2) (4 : Int32)) then (bif (if_icmp.holds .ne (u3 - u2) (5 : Int32)) then (0 : Int32) else (bif (if_icmp.holds .ne (xs.getD (u2).toNatClampNeg (0 : Int32)) (102 : Int32)) then (0 : Int32) else (bif (if_icmp.holds .ne (xs.getD ((u2 + (1 : Int32))).toNatClampNeg (0 : Int32)) (97 : Int32)) then (0 : Int32) else (bif (if_icmp.holds .ne (xs.getD ((u2 + (2 : Int32))).toNatClampNeg (0 : Int32)) (108 : Int32)) then (0 : Int32) else (bif (if_icmp.holds .ne (xs.getD ((u2 + (3 : Int32))).toNatClampNeg (0 : Int32)) (115 : Int32)) then (0 : Int32) else (bif (if_icmp.holds .ne (xs.getD ((u2 + (4 : Int32))).toNatClampNeg (0 : Int32)) (101 : Int32)) then (0 : Int32) else (1 : Int32))))))) else (bif (if_icmp.holds .ne (xs.getD (u2).toNatClampNeg (0 : Int32)) (116 : Int32)) then (bif (if_icmp.holds .ne (u3 - u2) (5 : Int32)) then (0 : Int32) else (bif (if_icmp.holds .ne (xs.getD (u2).toNatClampNeg (0 : Int32)) (102 : Int32)) then (0 : Int32) else (bif (if_icmp.holds .ne (xs.getD ((u2 + (1 : Int32))).toNatClampNeg (0 : Int32)) (97 : Int32)) then (0 : Int32) else (bif (if_icmp.holds .ne (xs.getD ((u2 + (2 : Int32))).toNatClampNeg (0 : Int32)) (108 : Int32)) then (0 : Int32) else (bif (if_icmp.holds .ne (xs.getD ((u2 + (3 : Int32))).toNatClampNeg (0 : Int32)) (115 : Int32)) then (0 : Int32) else (bif (if_icmp.holds .ne (xs.getD ((u2 + (4 : Int32))).toNatClampNeg (0 : Int32)) (101 : Int32)) then (0 : Int32) else (1 : Int32))))))) else (bif (if_icmp.holds .ne (xs.getD ((u2 + (1 : Int32))).toNatClampNeg (0 : Int32)) (114 : Int32)) then (0 : Int32) else (bif (if_icmp.holds .ne (xs.getD ((u2 + (2 : Int32))).toNatClampNeg (0 : Int32)) (117 : Int32)) then (0 : Int32) else (bif (if_icmp.holds .ne (xs.getD ((u2 + (3 : Int32))).toNatClampNeg (0 : Int32)) (101 : Int32)) then (0 : Int32) else (1 : Int32)))))))
theorem own_from (u1 : Int32) : (((u1.toUInt32 >>> ((1 : Int32) &&& 31).toUInt32).toInt32) &&& (3 : Int32)) = 0 ∨ (((u1.toUInt32 >>> ((1 : Int32) &&& 31).toUInt32).toInt32) &&& (3 : Int32)) = 1 ∨ (((u1.toUInt32 >>> ((1 : Int32) &&& 31).toUInt32).toInt32) &&& (3 : Int32)) = 2 ∨ (((u1.toUInt32 >>> ((1 : Int32) &&& 31).toUInt32).toInt32) &&& (3 : Int32)) = 3 := by
  have m1 := c_mask ((u1.toUInt32 >>> ((1 : Int32) &&& 31).toUInt32).toInt32) (3 : Int32) 2 (by decide) (by decide)
  have e0 : (0 : Int32).toInt = 0 := by decide
  have e1 : (1 : Int32).toInt = 1 := by decide
  have e2 : (2 : Int32).toInt = 2 := by decide
  have e3 : (3 : Int32).toInt = 3 := by decide
  rw [← Int32.toInt_inj, ← Int32.toInt_inj, ← Int32.toInt_inj, ← Int32.toInt_inj, e0, e1, e2, e3, m1]
  omega
theorem own_p4 (x : Int32) : ((x &&& (7 : Int32)) % (4 : Int32)) = 0 ∨ ((x &&& (7 : Int32)) % (4 : Int32)) = 1 ∨ ((x &&& (7 : Int32)) % (4 : Int32)) = 2 ∨ ((x &&& (7 : Int32)) % (4 : Int32)) = 3 := by
  have m1 := c_mask x (7 : Int32) 3 (by decide) (by decide)
  have a1 := (c_irem (x &&& (7 : Int32)) (4 : Int32) 4 (by decide)).1 (by rw [m1]; omega)
  have e0 : (0 : Int32).toInt = 0 := by decide
  have e1 : (1 : Int32).toInt = 1 := by decide
  have e2 : (2 : Int32).toInt = 2 := by decide
  have e3 : (3 : Int32).toInt = 3 := by decide
  rw [← Int32.toInt_inj, ← Int32.toInt_inj, ← Int32.toInt_inj, ← Int32.toInt_inj, e0, e1, e2, e3, a1]
  omega
theorem own_p5 (x : Int32) : ((x &&& (7 : Int32)) % (5 : Int32)) = 0 ∨ ((x &&& (7 : Int32)) % (5 : Int32)) = 1 ∨ ((x &&& (7 : Int32)) % (5 : Int32)) = 2 ∨ ((x &&& (7 : Int32)) % (5 : Int32)) = 3 ∨ ((x &&& (7 : Int32)) % (5 : Int32)) = 4 := by
  have m1 := c_mask x (7 : Int32) 3 (by decide) (by decide)
  have a1 := (c_irem (x &&& (7 : Int32)) (5 : Int32) 5 (by decide)).1 (by rw [m1]; omega)
  have e0 : (0 : Int32).toInt = 0 := by decide
  have e1 : (1 : Int32).toInt = 1 := by decide
  have e2 : (2 : Int32).toInt = 2 := by decide
  have e3 : (3 : Int32).toInt = 3 := by decide
  have e4 : (4 : Int32).toInt = 4 := by decide
  rw [← Int32.toInt_inj, ← Int32.toInt_inj, ← Int32.toInt_inj, ← Int32.toInt_inj, ← Int32.toInt_inj, e0, e1, e2, e3, e4, a1]
  omega
theorem own_asub (x y : Int32) : (x + y) - x = y := by
  have a1 := c_iadd x y
  have a2 := c_isub (x + y) x
  have r1 := rng32 y
  have r2 := rng32 ((x + y) - x)
  apply Int32.toInt_inj.mp
  omega
theorem own_nb (x : Int32) : nar .byte (x.toInt8.toInt32) = x.toInt8.toInt32 := by simp [nar]
theorem own_lt12 {j : Int32} (h : ¬ j < 0 ∧ j < (12 : Int32)) {xs : List Int32} (hl : xs.length = 12) : j.toNatClampNeg < (xs.map Value.int).length := by
  rw [List.length_map, hl]
  have q := nat_of h.1
  have h2 := h.2
  rw [Int32.lt_iff_toInt_lt] at h2
  have e : (12 : Int32).toInt = 12 := by decide
  omega
theorem own_up4 {k : Int32} (h : k = 0 ∨ k = 1 ∨ k = 2 ∨ k = 3) : k = 0 ∨ k = 1 ∨ k = 2 ∨ k = 3 ∨ k = 4 := by
  rcases h with h | h | h | h <;> simp [h]
theorem own_in4 {k : Int32} (h : k = 0 ∨ k = 1 ∨ k = 2 ∨ k = 3) : ¬ k < 0 ∧ k < (4 : Int32) := by rcases h with rfl | rfl | rfl | rfl <;> decide
theorem own_in5 {k : Int32} (h : k = 0 ∨ k = 1 ∨ k = 2 ∨ k = 3 ∨ k = 4) : ¬ k < 0 ∧ k < (5 : Int32) := by rcases h with rfl | rfl | rfl | rfl | rfl <;> decide
def own_kwb (n b0 b1 b2 b3 b4 : Int32) : Int32 := (nar .boolean (bif (if_icmp.holds .ne n (4 : Int32)) then (bif (if_icmp.holds .ne n (5 : Int32)) then (0 : Int32) else (bif (if_icmp.holds .ne b0 (102 : Int32)) then (0 : Int32) else (bif (if_icmp.holds .ne b1 (97 : Int32)) then (0 : Int32) else (bif (if_icmp.holds .ne b2 (108 : Int32)) then (0 : Int32) else (bif (if_icmp.holds .ne b3 (115 : Int32)) then (0 : Int32) else (bif (if_icmp.holds .ne b4 (101 : Int32)) then (0 : Int32) else (1 : Int32))))))) else (bif (if_icmp.holds .ne b0 (116 : Int32)) then (bif (if_icmp.holds .ne n (5 : Int32)) then (0 : Int32) else (bif (if_icmp.holds .ne b0 (102 : Int32)) then (0 : Int32) else (bif (if_icmp.holds .ne b1 (97 : Int32)) then (0 : Int32) else (bif (if_icmp.holds .ne b2 (108 : Int32)) then (0 : Int32) else (bif (if_icmp.holds .ne b3 (115 : Int32)) then (0 : Int32) else (bif (if_icmp.holds .ne b4 (101 : Int32)) then (0 : Int32) else (1 : Int32))))))) else (bif (if_icmp.holds .ne b1 (114 : Int32)) then (0 : Int32) else (bif (if_icmp.holds .ne b2 (117 : Int32)) then (0 : Int32) else (bif (if_icmp.holds .ne b3 (101 : Int32)) then (0 : Int32) else (1 : Int32)))))))
theorem own_kw_eq (u2 u3 : Int32) (xs : List Int32) : own_kw u2 u3 xs = own_kwb (u3 - u2) (xs.getD (u2).toNatClampNeg (0 : Int32)) (xs.getD ((u2 + (1 : Int32))).toNatClampNeg (0 : Int32)) (xs.getD ((u2 + (2 : Int32))).toNatClampNeg (0 : Int32)) (xs.getD ((u2 + (3 : Int32))).toNatClampNeg (0 : Int32)) (xs.getD ((u2 + (4 : Int32))).toNatClampNeg (0 : Int32)) := rfl
theorem own_kwb_eq (n b0 b1 b2 b3 b4 : Int32) : own_kwb n b0 b1 b2 b3 b4 = (if (n = 4 ∧ b0 = 116 ∧ b1 = 114 ∧ b2 = 117 ∧ b3 = 101) ∨ (n = 5 ∧ b0 = 102 ∧ b1 = 97 ∧ b2 = 108 ∧ b3 = 115 ∧ b4 = 101) then (1 : Int32) else (0 : Int32)) := by
  have z0 : nar .boolean (0 : Int32) = 0 := by decide
  have z1 : nar .boolean (1 : Int32) = 1 := by decide
  have n45 : ¬ ((4 : Int32) = 5) := by decide
  have n54 : ¬ ((5 : Int32) = 4) := by decide
  simp only [own_kwb, own_ine]
  by_cases h4 : n = 4
  · subst h4
    by_cases c0 : b0 = 116 <;> by_cases c1 : b1 = 114 <;> by_cases c2 : b2 = 117 <;> by_cases c3 : b3 = 101 <;> simp [c0, c1, c2, c3, z0, z1, n45]
  · by_cases h5 : n = 5
    · subst h5
      by_cases c0 : b0 = 102 <;> by_cases c1 : b1 = 97 <;> by_cases c2 : b2 = 108 <;> by_cases c3 : b3 = 115 <;> by_cases c4 : b4 = 101 <;> simp [c0, c1, c2, c3, c4, z0, z1, n54]
    · simp [h4, h5, z0]
theorem own_rA_true {g0 g1 g2 g3 g4 g5 g6 g7 g8 g9 g10 g11 f : Int32} {x0 x1 x2 x3 x4 : List Int32} (hf : f = 0 ∨ f = 1 ∨ f = 2 ∨ f = 3) (h0 : x0 = [g0, g1, g2, g3, g4, g5, g6, g7, g8, g9, g10, g11]) (h1 : x1 = x0.set f.toNatClampNeg (116 : Int32)) (h2 : x2 = x1.set (f + (1 : Int32)).toNatClampNeg (114 : Int32)) (h3 : x3 = x2.set (f + (2 : Int32)).toNatClampNeg (117 : Int32)) (h4 : x4 = x3.set (f + (3 : Int32)).toNatClampNeg (101 : Int32)) : x4.getD (f).toNatClampNeg (0 : Int32) = 116 ∧ x4.getD ((f + (1 : Int32))).toNatClampNeg (0 : Int32) = 114 ∧ x4.getD ((f + (2 : Int32))).toNatClampNeg (0 : Int32) = 117 ∧ x4.getD ((f + (3 : Int32))).toNatClampNeg (0 : Int32) = 101 := by
  subst h0 h1 h2 h3 h4
  rcases hf with rfl | rfl | rfl | rfl <;> exact ⟨rfl, rfl, rfl, rfl⟩
theorem own_rB_true {g0 g1 g2 g3 g4 g5 g6 g7 g8 g9 g10 g11 f q v : Int32} {x0 x1 x2 x3 x4 y : List Int32} (hf : f = 0 ∨ f = 1 ∨ f = 2 ∨ f = 3) (hq : q = 0 ∨ q = 1 ∨ q = 2 ∨ q = 3) (h0 : x0 = [g0, g1, g2, g3, g4, g5, g6, g7, g8, g9, g10, g11]) (h1 : x1 = x0.set f.toNatClampNeg (116 : Int32)) (h2 : x2 = x1.set (f + (1 : Int32)).toNatClampNeg (114 : Int32)) (h3 : x3 = x2.set (f + (2 : Int32)).toNatClampNeg (117 : Int32)) (h4 : x4 = x3.set (f + (3 : Int32)).toNatClampNeg (101 : Int32)) (hy : y = x4.set (f + q).toNatClampNeg v) : y.getD (f).toNatClampNeg (0 : Int32) = (if q = (0 : Int32) then v else 116) ∧ y.getD ((f + (1 : Int32))).toNatClampNeg (0 : Int32) = (if q = (1 : Int32) then v else 114) ∧ y.getD ((f + (2 : Int32))).toNatClampNeg (0 : Int32) = (if q = (2 : Int32) then v else 117) ∧ y.getD ((f + (3 : Int32))).toNatClampNeg (0 : Int32) = (if q = (3 : Int32) then v else 101) := by
  subst h0 h1 h2 h3 h4 hy
  rcases hf with rfl | rfl | rfl | rfl <;> rcases hq with rfl | rfl | rfl | rfl <;> exact ⟨rfl, rfl, rfl, rfl⟩
theorem own_A_true {g0 g1 g2 g3 g4 g5 g6 g7 g8 g9 g10 g11 f n : Int32} {x0 x1 x2 x3 x4 : List Int32} (hf : f = 0 ∨ f = 1 ∨ f = 2 ∨ f = 3) (h0 : x0 = [g0, g1, g2, g3, g4, g5, g6, g7, g8, g9, g10, g11]) (h1 : x1 = x0.set f.toNatClampNeg (116 : Int32)) (h2 : x2 = x1.set (f + (1 : Int32)).toNatClampNeg (114 : Int32)) (h3 : x3 = x2.set (f + (2 : Int32)).toNatClampNeg (117 : Int32)) (h4 : x4 = x3.set (f + (3 : Int32)).toNatClampNeg (101 : Int32)) : if_icmp.holds .ne (own_kw f (f + n) x4) (bif (if_icmp.holds .ne n (4 : Int32)) then (0 : Int32) else (1 : Int32)) = false := by
  have r := own_rA_true hf h0 h1 h2 h3 h4
  rw [own_kw_eq, own_asub, own_kwb_eq]
  generalize x4.getD ((f + (4 : Int32))).toNatClampNeg (0 : Int32) = b4 at r ⊢
  obtain ⟨r0, r1, r2, r3⟩ := r
  simp only [own_ine, r0, r1, r2, r3]
  by_cases c : n = 4
  · subst c; simp +decide
  · by_cases c' : n = 5
    · subst c'; simp +decide
    · simp [c, c']
theorem own_B_true {g0 g1 g2 g3 g4 g5 g6 g7 g8 g9 g10 g11 f q v n : Int32} {x0 x1 x2 x3 x4 y : List Int32} (hf : f = 0 ∨ f = 1 ∨ f = 2 ∨ f = 3) (hq : q = 0 ∨ q = 1 ∨ q = 2 ∨ q = 3) (h0 : x0 = [g0, g1, g2, g3, g4, g5, g6, g7, g8, g9, g10, g11]) (h1 : x1 = x0.set f.toNatClampNeg (116 : Int32)) (h2 : x2 = x1.set (f + (1 : Int32)).toNatClampNeg (114 : Int32)) (h3 : x3 = x2.set (f + (2 : Int32)).toNatClampNeg (117 : Int32)) (h4 : x4 = x3.set (f + (3 : Int32)).toNatClampNeg (101 : Int32)) (hy : y = x4.set (f + q).toNatClampNeg v) (hn : if_icmp.holds .ne n (4 : Int32) = true) : if_icmp.holds .ne (own_kw f (f + n) y) (0 : Int32) = false := by
  have r := own_rB_true hf hq h0 h1 h2 h3 h4 hy
  rw [own_ine] at hn
  have hn := of_decide_eq_true hn
  rw [own_kw_eq, own_asub, own_kwb_eq]
  generalize y.getD ((f + (4 : Int32))).toNatClampNeg (0 : Int32) = b4 at r ⊢
  obtain ⟨r0, r1, r2, r3⟩ := r
  simp only [own_ine, r0, r1, r2, r3]
  rcases hq with rfl | rfl | rfl | rfl <;> simp +decide [hn]
theorem own_C_true {g0 g1 g2 g3 g4 g5 g6 g7 g8 g9 g10 g11 f q v n : Int32} {x0 x1 x2 x3 x4 y : List Int32} (hf : f = 0 ∨ f = 1 ∨ f = 2 ∨ f = 3) (hq : q = 0 ∨ q = 1 ∨ q = 2 ∨ q = 3) (h0 : x0 = [g0, g1, g2, g3, g4, g5, g6, g7, g8, g9, g10, g11]) (h1 : x1 = x0.set f.toNatClampNeg (116 : Int32)) (h2 : x2 = x1.set (f + (1 : Int32)).toNatClampNeg (114 : Int32)) (h3 : x3 = x2.set (f + (2 : Int32)).toNatClampNeg (117 : Int32)) (h4 : x4 = x3.set (f + (3 : Int32)).toNatClampNeg (101 : Int32)) (hy : y = x4.set (f + q).toNatClampNeg v) (hn : if_icmp.holds .ne n (4 : Int32) = false) : if_icmp.holds .ne (own_kw f (f + n) y) (bif (if_icmp.holds .ne v ((nar .char (nar .char (((([(116 : Int32), (114 : Int32), (117 : Int32), (101 : Int32)] : List Int32).getD q.toNatClampNeg (0 : Int32)) &&& (255 : Int32)).toUInt32.toUInt16.toUInt32.toInt32))).toInt8.toInt32)) then (0 : Int32) else (1 : Int32)) = false := by
  have r := own_rB_true hf hq h0 h1 h2 h3 h4 hy
  rw [own_ine] at hn
  have hn : n = 4 := by simpa using hn
  subst hn
  rw [own_kw_eq, own_asub, own_kwb_eq]
  generalize y.getD ((f + (4 : Int32))).toNatClampNeg (0 : Int32) = b4 at r ⊢
  obtain ⟨r0, r1, r2, r3⟩ := r
  simp only [own_ine, r0, r1, r2, r3]
  rcases hq with rfl | rfl | rfl | rfl
  · rw [show ((nar .char (nar .char (((([(116 : Int32), (114 : Int32), (117 : Int32), (101 : Int32)] : List Int32).getD (0 : Int32).toNatClampNeg (0 : Int32)) &&& (255 : Int32)).toUInt32.toUInt16.toUInt32.toInt32))).toInt8.toInt32) = (116 : Int32) from by decide]
    by_cases c : v = 116
    · subst c; simp +decide
    · simp +decide [c]
  · rw [show ((nar .char (nar .char (((([(116 : Int32), (114 : Int32), (117 : Int32), (101 : Int32)] : List Int32).getD (1 : Int32).toNatClampNeg (0 : Int32)) &&& (255 : Int32)).toUInt32.toUInt16.toUInt32.toInt32))).toInt8.toInt32) = (114 : Int32) from by decide]
    by_cases c : v = 114
    · subst c; simp +decide
    · simp +decide [c]
  · rw [show ((nar .char (nar .char (((([(116 : Int32), (114 : Int32), (117 : Int32), (101 : Int32)] : List Int32).getD (2 : Int32).toNatClampNeg (0 : Int32)) &&& (255 : Int32)).toUInt32.toUInt16.toUInt32.toInt32))).toInt8.toInt32) = (117 : Int32) from by decide]
    by_cases c : v = 117
    · subst c; simp +decide
    · simp +decide [c]
  · rw [show ((nar .char (nar .char (((([(116 : Int32), (114 : Int32), (117 : Int32), (101 : Int32)] : List Int32).getD (3 : Int32).toNatClampNeg (0 : Int32)) &&& (255 : Int32)).toUInt32.toUInt16.toUInt32.toInt32))).toInt8.toInt32) = (101 : Int32) from by decide]
    by_cases c : v = 101
    · subst c; simp +decide
    · simp +decide [c]
theorem own_rA_false {g0 g1 g2 g3 g4 g5 g6 g7 g8 g9 g10 g11 f : Int32} {x0 x1 x2 x3 x4 x5 : List Int32} (hf : f = 0 ∨ f = 1 ∨ f = 2 ∨ f = 3) (h0 : x0 = [g0, g1, g2, g3, g4, g5, g6, g7, g8, g9, g10, g11]) (h1 : x1 = x0.set f.toNatClampNeg (102 : Int32)) (h2 : x2 = x1.set (f + (1 : Int32)).toNatClampNeg (97 : Int32)) (h3 : x3 = x2.set (f + (2 : Int32)).toNatClampNeg (108 : Int32)) (h4 : x4 = x3.set (f + (3 : Int32)).toNatClampNeg (115 : Int32)) (h5 : x5 = x4.set (f + (4 : Int32)).toNatClampNeg (101 : Int32)) : x5.getD (f).toNatClampNeg (0 : Int32) = 102 ∧ x5.getD ((f + (1 : Int32))).toNatClampNeg (0 : Int32) = 97 ∧ x5.getD ((f + (2 : Int32))).toNatClampNeg (0 : Int32) = 108 ∧ x5.getD ((f + (3 : Int32))).toNatClampNeg (0 : Int32) = 115 ∧ x5.getD ((f + (4 : Int32))).toNatClampNeg (0 : Int32) = 101 := by
  subst h0 h1 h2 h3 h4 h5
  rcases hf with rfl | rfl | rfl | rfl <;> exact ⟨rfl, rfl, rfl, rfl, rfl⟩
theorem own_rB_false {g0 g1 g2 g3 g4 g5 g6 g7 g8 g9 g10 g11 f q v : Int32} {x0 x1 x2 x3 x4 x5 y : List Int32} (hf : f = 0 ∨ f = 1 ∨ f = 2 ∨ f = 3) (hq : q = 0 ∨ q = 1 ∨ q = 2 ∨ q = 3 ∨ q = 4) (h0 : x0 = [g0, g1, g2, g3, g4, g5, g6, g7, g8, g9, g10, g11]) (h1 : x1 = x0.set f.toNatClampNeg (102 : Int32)) (h2 : x2 = x1.set (f + (1 : Int32)).toNatClampNeg (97 : Int32)) (h3 : x3 = x2.set (f + (2 : Int32)).toNatClampNeg (108 : Int32)) (h4 : x4 = x3.set (f + (3 : Int32)).toNatClampNeg (115 : Int32)) (h5 : x5 = x4.set (f + (4 : Int32)).toNatClampNeg (101 : Int32)) (hy : y = x5.set (f + q).toNatClampNeg v) : y.getD (f).toNatClampNeg (0 : Int32) = (if q = (0 : Int32) then v else 102) ∧ y.getD ((f + (1 : Int32))).toNatClampNeg (0 : Int32) = (if q = (1 : Int32) then v else 97) ∧ y.getD ((f + (2 : Int32))).toNatClampNeg (0 : Int32) = (if q = (2 : Int32) then v else 108) ∧ y.getD ((f + (3 : Int32))).toNatClampNeg (0 : Int32) = (if q = (3 : Int32) then v else 115) ∧ y.getD ((f + (4 : Int32))).toNatClampNeg (0 : Int32) = (if q = (4 : Int32) then v else 101) := by
  subst h0 h1 h2 h3 h4 h5 hy
  rcases hf with rfl | rfl | rfl | rfl <;> rcases hq with rfl | rfl | rfl | rfl | rfl <;> exact ⟨rfl, rfl, rfl, rfl, rfl⟩
theorem own_A_false {g0 g1 g2 g3 g4 g5 g6 g7 g8 g9 g10 g11 f n : Int32} {x0 x1 x2 x3 x4 x5 : List Int32} (hf : f = 0 ∨ f = 1 ∨ f = 2 ∨ f = 3) (h0 : x0 = [g0, g1, g2, g3, g4, g5, g6, g7, g8, g9, g10, g11]) (h1 : x1 = x0.set f.toNatClampNeg (102 : Int32)) (h2 : x2 = x1.set (f + (1 : Int32)).toNatClampNeg (97 : Int32)) (h3 : x3 = x2.set (f + (2 : Int32)).toNatClampNeg (108 : Int32)) (h4 : x4 = x3.set (f + (3 : Int32)).toNatClampNeg (115 : Int32)) (h5 : x5 = x4.set (f + (4 : Int32)).toNatClampNeg (101 : Int32)) : if_icmp.holds .ne (own_kw f (f + n) x5) (bif (if_icmp.holds .ne n (5 : Int32)) then (0 : Int32) else (1 : Int32)) = false := by
  have r := own_rA_false hf h0 h1 h2 h3 h4 h5
  rw [own_kw_eq, own_asub, own_kwb_eq]
  generalize x5.getD ((f + (4 : Int32))).toNatClampNeg (0 : Int32) = b4 at r ⊢
  obtain ⟨r0, r1, r2, r3, r4⟩ := r
  simp only [own_ine, r0, r1, r2, r3, r4]
  by_cases c : n = 5
  · subst c; simp +decide
  · by_cases c' : n = 4
    · subst c'; simp +decide
    · simp [c, c']
theorem own_B_false {g0 g1 g2 g3 g4 g5 g6 g7 g8 g9 g10 g11 f q v n : Int32} {x0 x1 x2 x3 x4 x5 y : List Int32} (hf : f = 0 ∨ f = 1 ∨ f = 2 ∨ f = 3) (hq : q = 0 ∨ q = 1 ∨ q = 2 ∨ q = 3 ∨ q = 4) (h0 : x0 = [g0, g1, g2, g3, g4, g5, g6, g7, g8, g9, g10, g11]) (h1 : x1 = x0.set f.toNatClampNeg (102 : Int32)) (h2 : x2 = x1.set (f + (1 : Int32)).toNatClampNeg (97 : Int32)) (h3 : x3 = x2.set (f + (2 : Int32)).toNatClampNeg (108 : Int32)) (h4 : x4 = x3.set (f + (3 : Int32)).toNatClampNeg (115 : Int32)) (h5 : x5 = x4.set (f + (4 : Int32)).toNatClampNeg (101 : Int32)) (hy : y = x5.set (f + q).toNatClampNeg v) (hn : if_icmp.holds .ne n (5 : Int32) = true) : if_icmp.holds .ne (own_kw f (f + n) y) (0 : Int32) = false := by
  have r := own_rB_false hf hq h0 h1 h2 h3 h4 h5 hy
  rw [own_ine] at hn
  have hn := of_decide_eq_true hn
  rw [own_kw_eq, own_asub, own_kwb_eq]
  generalize y.getD ((f + (4 : Int32))).toNatClampNeg (0 : Int32) = b4 at r ⊢
  obtain ⟨r0, r1, r2, r3, r4⟩ := r
  simp only [own_ine, r0, r1, r2, r3, r4]
  rcases hq with rfl | rfl | rfl | rfl | rfl <;> simp +decide [hn]
theorem own_C_false {g0 g1 g2 g3 g4 g5 g6 g7 g8 g9 g10 g11 f q v n : Int32} {x0 x1 x2 x3 x4 x5 y : List Int32} (hf : f = 0 ∨ f = 1 ∨ f = 2 ∨ f = 3) (hq : q = 0 ∨ q = 1 ∨ q = 2 ∨ q = 3 ∨ q = 4) (h0 : x0 = [g0, g1, g2, g3, g4, g5, g6, g7, g8, g9, g10, g11]) (h1 : x1 = x0.set f.toNatClampNeg (102 : Int32)) (h2 : x2 = x1.set (f + (1 : Int32)).toNatClampNeg (97 : Int32)) (h3 : x3 = x2.set (f + (2 : Int32)).toNatClampNeg (108 : Int32)) (h4 : x4 = x3.set (f + (3 : Int32)).toNatClampNeg (115 : Int32)) (h5 : x5 = x4.set (f + (4 : Int32)).toNatClampNeg (101 : Int32)) (hy : y = x5.set (f + q).toNatClampNeg v) (hn : if_icmp.holds .ne n (5 : Int32) = false) : if_icmp.holds .ne (own_kw f (f + n) y) (bif (if_icmp.holds .ne v ((nar .char (nar .char (((([(102 : Int32), (97 : Int32), (108 : Int32), (115 : Int32), (101 : Int32)] : List Int32).getD q.toNatClampNeg (0 : Int32)) &&& (255 : Int32)).toUInt32.toUInt16.toUInt32.toInt32))).toInt8.toInt32)) then (0 : Int32) else (1 : Int32)) = false := by
  have r := own_rB_false hf hq h0 h1 h2 h3 h4 h5 hy
  rw [own_ine] at hn
  have hn : n = 5 := by simpa using hn
  subst hn
  rw [own_kw_eq, own_asub, own_kwb_eq]
  generalize y.getD ((f + (4 : Int32))).toNatClampNeg (0 : Int32) = b4 at r ⊢
  obtain ⟨r0, r1, r2, r3, r4⟩ := r
  simp only [own_ine, r0, r1, r2, r3, r4]
  rcases hq with rfl | rfl | rfl | rfl | rfl
  · rw [show ((nar .char (nar .char (((([(102 : Int32), (97 : Int32), (108 : Int32), (115 : Int32), (101 : Int32)] : List Int32).getD (0 : Int32).toNatClampNeg (0 : Int32)) &&& (255 : Int32)).toUInt32.toUInt16.toUInt32.toInt32))).toInt8.toInt32) = (102 : Int32) from by decide]
    by_cases c : v = 102
    · subst c; simp +decide
    · simp +decide [c]
  · rw [show ((nar .char (nar .char (((([(102 : Int32), (97 : Int32), (108 : Int32), (115 : Int32), (101 : Int32)] : List Int32).getD (1 : Int32).toNatClampNeg (0 : Int32)) &&& (255 : Int32)).toUInt32.toUInt16.toUInt32.toInt32))).toInt8.toInt32) = (97 : Int32) from by decide]
    by_cases c : v = 97
    · subst c; simp +decide
    · simp +decide [c]
  · rw [show ((nar .char (nar .char (((([(102 : Int32), (97 : Int32), (108 : Int32), (115 : Int32), (101 : Int32)] : List Int32).getD (2 : Int32).toNatClampNeg (0 : Int32)) &&& (255 : Int32)).toUInt32.toUInt16.toUInt32.toInt32))).toInt8.toInt32) = (108 : Int32) from by decide]
    by_cases c : v = 108
    · subst c; simp +decide
    · simp +decide [c]
  · rw [show ((nar .char (nar .char (((([(102 : Int32), (97 : Int32), (108 : Int32), (115 : Int32), (101 : Int32)] : List Int32).getD (3 : Int32).toNatClampNeg (0 : Int32)) &&& (255 : Int32)).toUInt32.toUInt16.toUInt32.toInt32))).toInt8.toInt32) = (115 : Int32) from by decide]
    by_cases c : v = 115
    · subst c; simp +decide
    · simp +decide [c]
  · rw [show ((nar .char (nar .char (((([(102 : Int32), (97 : Int32), (108 : Int32), (115 : Int32), (101 : Int32)] : List Int32).getD (4 : Int32).toNatClampNeg (0 : Int32)) &&& (255 : Int32)).toUInt32.toUInt16.toUInt32.toInt32))).toInt8.toInt32) = (101 : Int32) from by decide]
    by_cases c : v = 101
    · subst c; simp +decide
    · simp +decide [c]
theorem pd_691884 : parseMethodDescriptor "()I" = some ⟨[], some .int⟩ := by decide +kernel
theorem pd_577923 : parseMethodDescriptor "(JI)B" = some ⟨[.long, .int], some .byte⟩ := by decide +kernel
theorem pd_181558 : parseMethodDescriptor "(I)C" = some ⟨[.int], some .char⟩ := by decide +kernel
theorem pd_634392 : parseMethodDescriptor "([BII)Z" = some ⟨[(.array .byte), .int, .int], some .boolean⟩ := by decide +kernel
theorem ef_rm_law (m : MethodId) (x0 : Int32) (x1 : Int32) (x2 : Int32) (x3 : Int64) (x4 : Int32) : entryFrame m #[(.int x0), (.int x1), (.int x2), (.long x3), (.int x4)] maxLocals = mkF m 0 #[.val (.int x0), .val (.int x1), .val (.int x2), .val (.long x3), .second, .val (.int x4), .unset, .unset, .unset, .unset, .unset, .unset, .unset, .unset, .unset, .unset] [] := by first | (simp [entryFrame, mkF, argsToLocals, Value.category, maxLocals]; done) | rfl
def Q_rm_law (Z : State) (u1 : Int32) (u2 : Int32) (u3 : Int32) (u4 : Int64) (u5 : Int32) (zc : Int32) (fm : Value) (h0 : Heap) (n0 : Nat) (v : Option Value) (h : Heap) (L : List Loc) : Prop := v = some (.int (1 : Int32)) ∧ Fr n0 L
set_option maxRecDepth 65536 in
set_option maxHeartbeats 40000000 in
theorem rm_law (l : Launch) (Z : State) (a0 : Array Value) (hw : ∀ d ∈ tables_1, d.before a0 Z = true) (ws : List Jvm.Cond) (u1 : Int32) (u2 : Int32) (u3 : Int32) (u4 : Int64) (u5 : Int32) (zc : Int32) (fm : Value) (h0 : Heap) (n0 : Nat) (Z0 : n0 ≤ h0.size) (hh0 : Z.heap = h0) (O2 : Sta Z Z.heap "java/lang/String" "COMPACT_STRINGS" "Z" (.int zc)) (hz : ¬ zc = 0) (O4 : Sta Z Z.heap "jdk/internal/util/Preconditions" "SIOOBE_FORMATTER" "Ljava/util/function/BiFunction;" fm) (rf : fm.isRef = true) (X00 : Old Z n0 h0) (hh7 : Jvm.Lit.constHeld Z "com/example/sabac/sabac/ExpressionLexerIsKeywordPinLaw" 7) (hh9 : Jvm.Lit.constHeld Z "com/example/sabac/sabac/ExpressionLexerIsKeywordPinLaw" 9) (hcw : Jvm.Lit.compactW.before a0 Z = true) :
    MetFree l x (head1 (Jvm.Cond.code x code maxLocals ret :: ws) room_1) (fun a U => a = #[(.int u1), (.int u2), (.int u3), (.long u4), (.int u5)] ∧ U = Z) (fun _ _ _ _ _ => True) (fun _ U o U' => ∃ v L, o = .returned v ∧ Q_rm_law Z u1 u2 u3 u4 u5 zc fm h0 n0 v U'.heap L ∧ ReturnedEndW U o U' L room_1.cells room_1.slots) := by
  refine MetFree.of_bodySF (plainFor_of_name pn_203743) hisR ?_
  intro p e s m args below meth c s₁ Bd hml0 hP hK
  obtain ⟨rfl, hsZ⟩ := hP
  have hZ : Z.Warmed39 s.vm := by rw [hsZ]; exact State.Warmed39.refl Z
  have hh : s.heap = h0 := by rw [hsZ]; exact hh0
  have hint : IB Z s.vm [] := by rw [hsZ]; exact IB.start
  have hkeep : ∀ (b : Addr) (cl : Cell), Z.heap[b]? = some cl → s.heap[b]? = some cl := by rw [hsZ]; exact fun _ _ q => q
  have hx := Bd.exec
  have hby := Bd.bytes
  have hml : c.maxLocals = 16 := hml0
  have hown : s.vm.findClass "com/example/sabac/sabac/ExpressionLexerIsKeywordPinLaw" = some m.cls := findClass_of_methodNamed Bd.named
  have hnm := (name_of_methodNamed Bd.named Bd.method).1
  have X0 : Stand p l e room_1 s m #[(.int u1), (.int u2), (.int u3), (.long u4), (.int u5)] below meth c s₁ [] 0 0 := Stand.of_body Bd
  have e0 : s₁.heap = h0 := by rw [← hh, Bd.state]; rfl
  have N0 := Fr.nil n0
  have pre0 : ∀ t, Steps p.tables e below (s₁.setTop (mkF m 0 #[.val (.int u1), .val (.int u2), .val (.int u3), .val (.long u4), .second, .val (.int u5), .unset, .unset, .unset, .unset, .unset, .unset, .unset, .unset, .unset, .unset] [])) t → Steps p.tables e below (s₁.setTop (entryFrame m #[(.int u1), (.int u2), (.int u3), (.long u4), (.int u5)] maxLocals)) t := fun t k => castTop (ef_rm_law m u1 u2 u3 u4 u5) k
  have pre1 : ∀ t, Steps p.tables e below (s₁.setTop (mkF m 3 #[.val (.int u1), .val (.int u2), .val (.int u3), .val (.long u4), .second, .val (.int u5), .unset, .unset, .unset, .unset, .unset, .unset, .unset, .unset, .unset, .unset] [(.int (u1 &&& (1 : Int32)))])) t → Steps p.tables e below (s₁.setTop (entryFrame m #[(.int u1), (.int u2), (.int u3), (.long u4), (.int u5)] maxLocals)) t := by
    intro t k
    refine pre0 t ?_
    show Steps p.tables e below (s₁.setTop (mkF m 0 #[.val (.int u1), .val (.int u2), .val (.int u3), .val (.long u4), .second, .val (.int u5), .unset, .unset, .unset, .unset, .unset, .unset, .unset, .unset, .unset, .unset] [])) _
    refine XS.iloadN X0.here hx rfl (hb hby at_0) rfl ?_
    show Steps p.tables e below (s₁.setTop (mkF m 1 #[.val (.int u1), .val (.int u2), .val (.int u3), .val (.long u4), .second, .val (.int u5), .unset, .unset, .unset, .unset, .unset, .unset, .unset, .unset, .unset, .unset] [(.int u1)])) _
    refine XS.iconst X0.here hx rfl (hb hby at_1) ?_
    show Steps p.tables e below (s₁.setTop (mkF m 2 #[.val (.int u1), .val (.int u2), .val (.int u3), .val (.long u4), .second, .val (.int u5), .unset, .unset, .unset, .unset, .unset, .unset, .unset, .unset, .unset, .unset] [(.int (1 : Int32)), (.int u1)])) _
    refine XS.iand X0.here hx rfl (hb hby at_2) rfl ?_
    exact k
  have pre3 : ∀ t, Steps p.tables e below (s₁.setTop (mkF m 11 #[.val (.int u1), .val (.int u2), .val (.int u3), .val (.long u4), .second, .val (.int u5), .unset, .unset, .unset, .unset, .unset, .unset, .unset, .unset, .unset, .unset] [(.int (bif (ifCond.holds .eq (u1 &&& (1 : Int32))) then (0 : Int32) else (1 : Int32)))])) t → Steps p.tables e below (s₁.setTop (entryFrame m #[(.int u1), (.int u2), (.int u3), (.long u4), (.int u5)] maxLocals)) t := by
    intro t k
    refine pre1 t ?_
    show Steps p.tables e below (s₁.setTop (mkF m 3 #[.val (.int u1), .val (.int u2), .val (.int u3), .val (.long u4), .second, .val (.int u5), .unset, .unset, .unset, .unset, .unset, .unset, .unset, .unset, .unset, .unset] [(.int (u1 &&& (1 : Int32)))])) _
    rcases Bool.eq_false_or_eq_true (ifCond.holds .eq (u1 &&& (1 : Int32))) with hb3_2 | hb3_2
    · refine XS.ifYes X0.here hx rfl (pc0 := 3) (pc' := 10) rfl (hb hby at_3) rfl hb3_2 (by decide) (by decide) ?_
      show Steps p.tables e below (s₁.setTop (mkF m 10 #[.val (.int u1), .val (.int u2), .val (.int u3), .val (.long u4), .second, .val (.int u5), .unset, .unset, .unset, .unset, .unset, .unset, .unset, .unset, .unset, .unset] [])) _
      refine XS.iconst X0.here hx rfl (hb hby at_10) ?_
      have k : Steps p.tables e below (s₁.setTop (mkF m 11 #[.val (.int u1), .val (.int u2), .val (.int u3), .val (.long u4), .second, .val (.int u5), .unset, .unset, .unset, .unset, .unset, .unset, .unset, .unset, .unset, .unset] [(.int (0 : Int32))])) t := by simpa only [hb3_2, cond_true, cond_false] using k
      exact k
    · refine XS.ifNo X0.here hx rfl (hb hby at_3) rfl hb3_2 ?_
      show Steps p.tables e below (s₁.setTop (mkF m 6 #[.val (.int u1), .val (.int u2), .val (.int u3), .val (.long u4), .second, .val (.int u5), .unset, .unset, .unset, .unset, .unset, .unset, .unset, .unset, .unset, .unset] [])) _
      refine XS.iconst X0.here hx rfl (hb hby at_6) ?_
      show Steps p.tables e below (s₁.setTop (mkF m 7 #[.val (.int u1), .val (.int u2), .val (.int u3), .val (.long u4), .second, .val (.int u5), .unset, .unset, .unset, .unset, .unset, .unset, .unset, .unset, .unset, .unset] [(.int (1 : Int32))])) _
      refine XS.goto X0.here hx rfl (pc0 := 7) (pc' := 11) rfl (hb hby at_7) (by decide) (by decide) ?_
      have k : Steps p.tables e below (s₁.setTop (mkF m 11 #[.val (.int u1), .val (.int u2), .val (.int u3), .val (.long u4), .second, .val (.int u5), .unset, .unset, .unset, .unset, .unset, .unset, .unset, .unset, .unset, .unset] [(.int (1 : Int32))])) t := by simpa only [hb3_2, cond_true, cond_false] using k
      exact k
  have pre4 : ∀ t, Steps p.tables e below (s₁.setTop (mkF m 15 #[.val (.int u1), .val (.int u2), .val (.int u3), .val (.long u4), .second, .val (.int u5), .val (.int (bif (ifCond.holds .eq (u1 &&& (1 : Int32))) then (0 : Int32) else (1 : Int32))), .unset, .unset, .unset, .unset, .unset, .unset, .unset, .unset, .unset] [(.int (bif (ifCond.holds .eq (u1 &&& (1 : Int32))) then (0 : Int32) else (1 : Int32)))])) t → Steps p.tables e below (s₁.setTop (entryFrame m #[(.int u1), (.int u2), (.int u3), (.long u4), (.int u5)] maxLocals)) t := by
    intro t k
    refine pre3 t ?_
    show Steps p.tables e below (s₁.setTop (mkF m 11 #[.val (.int u1), .val (.int u2), .val (.int u3), .val (.long u4), .second, .val (.int u5), .unset, .unset, .unset, .unset, .unset, .unset, .unset, .unset, .unset, .unset] [(.int (bif (ifCond.holds .eq (u1 &&& (1 : Int32))) then (0 : Int32) else (1 : Int32)))])) _
    refine XS.istore X0.here hx rfl (hb hby at_11) rfl (l' := #[.val (.int u1), .val (.int u2), .val (.int u3), .val (.long u4), .second, .val (.int u5), .val (.int (bif (ifCond.holds .eq (u1 &&& (1 : Int32))) then (0 : Int32) else (1 : Int32))), .unset, .unset, .unset, .unset, .unset, .unset, .unset, .unset, .unset]) rfl ?_
    show Steps p.tables e below (s₁.setTop (mkF m 13 #[.val (.int u1), .val (.int u2), .val (.int u3), .val (.long u4), .second, .val (.int u5), .val (.int (bif (ifCond.holds .eq (u1 &&& (1 : Int32))) then (0 : Int32) else (1 : Int32))), .unset, .unset, .unset, .unset, .unset, .unset, .unset, .unset, .unset] [])) _
    refine XS.iload X0.here hx rfl (hb hby at_13) rfl ?_
    exact k
  rcases Bool.eq_false_or_eq_true (ifCond.holds .eq (bif (ifCond.holds .eq (u1 &&& (1 : Int32))) then (0 : Int32) else (1 : Int32))) with hb15 | hb15
  · have wS : ∀ a ∈ Bundle.stringAtoms, a.before a0 Z = true := fun d hd => hw d ((by decide +kernel : ∀ d ∈ Bundle.stringAtoms, d ∈ tables_1) d hd)
    obtain ⟨sa5, T5, h5, kc5, sb5, kb5, X5, e5, E5, hS5, kk5, hZ, hown, Ea5, Fc5, Fv5, Vb5, -, -, IB5, st5⟩ := ldcSV (s := s) (vm0 := s.vm) X0 hx hZ hown (own_w hw 0 rfl) wS e0 (k0 := h0.size) ((State.WarmedH.refl s).since _) (Nat.le_refl _) (Fr.nil _) hkeep hint (by simp) hh9 hcw (vs := [(.int (116 : Int32)), (.int (114 : Int32)), (.int (117 : Int32)), (.int (101 : Int32))]) (z := (4 : Int32)) (by decide) (by decide) (by decide) (g := (mkF m 23 #[.val (.int u1), .val (.int u2), .val (.int u3), .val (.long u4), .second, .val (.int u5), .val (.int (bif (ifCond.holds .eq (u1 &&& (1 : Int32))) then (0 : Int32) else (1 : Int32))), .unset, .unset, .unset, .unset, .unset, .unset, .unset, .unset, .unset] [])) rfl (hb hby at_23) (n := 20) (by decide) (by decide) (by decide) (by decide)
    have Z5 : n0 ≤ h5.size := Nat.le_trans Z0 E5.1
    have Od5 : Old Z n0 h5 := X00.ext E5
    obtain ⟨cq6, kq6, q6a, q6b, q6c⟩ := isOf hZ e5 Ea5
    obtain ⟨_, _, ⟨T6, L6, k6, n6⟩, -, X6, ⟨Lc6, hQ6, l6, y6, z6⟩, st6⟩ := X5.virtualBack hx (y := (⟨"java/lang/String", "length", "()I"⟩ : MethodName)) (z := (⟨"java/lang/String", "length", "()I"⟩ : MethodName)) hown (mvT hZ (own_w hw 8 rfl)) (mvT hZ (own_w hw 9 rfl)) (notFace_of_selects (args := #[]) (mvT hZ (own_w hw 11 rfl))) (mvT hZ (own_w hw 11 rfl)) (mvT hZ (own_w hw 10 rfl)) (by decide) (backOf (W := 0) (rm_len l Z a0 hw [] sa5 zc (0 : Int32) sb5 kb5 (4 : Int32) [(.int (116 : Int32)), (.int (114 : Int32)), (.int (117 : Int32)), (.int (101 : Int32))] h5 n0 Z5 (O2.ext Od5.2) hz Ea5 Fc5 Fv5 Vb5) hZ (own_w hw 12 rfl) (own_w hw 1 rfl) (by decide) (by decide)) q6a q6c (g := (mkF m 29 #[.val (.int u1), .val (.int u2), .val (.int u3), .val (.long u4), .second, .val (.int u5), .val (.int (bif (ifCond.holds .eq (u1 &&& (1 : Int32))) then (0 : Int32) else (1 : Int32))), .val (.ref sa5), .unset, .unset, .unset, .unset, .unset, .unset, .unset, .unset] [(.ref sa5)])) rfl (by rw [hml]; rfl) (Steps.refl _) (argsL := []) (rest := []) (lenOf pd_691884 rfl) rfl (by show 2 * 0 + _ ≤ _; exact Nat.le_of_eq rfl) (hb hby at_29) (fun _ _ => ⟨rfl, e5, (by decide : 2 + 0 ≤ _), (by decide : 24 + 0 ≤ _)⟩)
    dsimp only [Pt.U, Pt.locs, Pt.cells, Pt.slots] at X6 l6 y6 z6 st6 hQ6
    replace y6 : k6 = 2 := y6
    replace z6 : n6 = 24 := z6
    subst y6 z6
    obtain ⟨rfl, Nq6, eq6⟩ := hQ6
    have N6 : Fr n0 L6 := by rw [l6]; exact Fr.app N0 Nq6
    have pre7 : ∀ t, Steps p.tables e below (T6.setTop (mkF m 46 #[.val (.int u1), .val (.int u2), .val (.int u3), .val (.long u4), .second, .val (.int u5), .val (.int (bif (ifCond.holds .eq (u1 &&& (1 : Int32))) then (0 : Int32) else (1 : Int32))), .val (.ref sa5), .val (.int (4 : Int32)), .val (.int (((u1.toUInt32 >>> ((1 : Int32) &&& 31).toUInt32).toInt32) &&& (3 : Int32))), .unset, .unset, .unset, .unset, .unset, .unset] [(.int (((u1.toUInt32 >>> ((3 : Int32) &&& 31).toUInt32).toInt32) &&& (1 : Int32)))])) t → Steps p.tables e below (s₁.setTop (entryFrame m #[(.int u1), (.int u2), (.int u3), (.long u4), (.int u5)] maxLocals)) t := by
      intro t k
      refine pre4 t ?_
      show Steps p.tables e below (s₁.setTop (mkF m 15 #[.val (.int u1), .val (.int u2), .val (.int u3), .val (.long u4), .second, .val (.int u5), .val (.int (bif (ifCond.holds .eq (u1 &&& (1 : Int32))) then (0 : Int32) else (1 : Int32))), .unset, .unset, .unset, .unset, .unset, .unset, .unset, .unset, .unset] [(.int (bif (ifCond.holds .eq (u1 &&& (1 : Int32))) then (0 : Int32) else (1 : Int32)))])) _
      refine XS.ifYes X0.here hx rfl (pc0 := 15) (pc' := 23) rfl (hb hby at_15) rfl hb15 (by decide) (by decide) ?_
      show Steps p.tables e below (s₁.setTop (mkF m 23 #[.val (.int u1), .val (.int u2), .val (.int u3), .val (.long u4), .second, .val (.int u5), .val (.int (bif (ifCond.holds .eq (u1 &&& (1 : Int32))) then (0 : Int32) else (1 : Int32))), .unset, .unset, .unset, .unset, .unset, .unset, .unset, .unset, .unset] [])) _
      refine st5 _ ?_
      show Steps p.tables e below (T5.setTop (mkF m 25 #[.val (.int u1), .val (.int u2), .val (.int u3), .val (.long u4), .second, .val (.int u5), .val (.int (bif (ifCond.holds .eq (u1 &&& (1 : Int32))) then (0 : Int32) else (1 : Int32))), .unset, .unset, .unset, .unset, .unset, .unset, .unset, .unset, .unset] [(.ref sa5)])) _
      refine XS.astore X5.here hx rfl (hb hby at_25) rfl rfl (l' := #[.val (.int u1), .val (.int u2), .val (.int u3), .val (.long u4), .second, .val (.int u5), .val (.int (bif (ifCond.holds .eq (u1 &&& (1 : Int32))) then (0 : Int32) else (1 : Int32))), .val (.ref sa5), .unset, .unset, .unset, .unset, .unset, .unset, .unset, .unset]) rfl ?_
      show Steps p.tables e below (T5.setTop (mkF m 27 #[.val (.int u1), .val (.int u2), .val (.int u3), .val (.long u4), .second, .val (.int u5), .val (.int (bif (ifCond.holds .eq (u1 &&& (1 : Int32))) then (0 : Int32) else (1 : Int32))), .val (.ref sa5), .unset, .unset, .unset, .unset, .unset, .unset, .unset, .unset] [])) _
      refine XS.aload X5.here hx rfl (hb hby at_27) rfl rfl ?_
      show Steps p.tables e below (T5.setTop (mkF m 29 #[.val (.int u1), .val (.int u2), .val (.int u3), .val (.long u4), .second, .val (.int u5), .val (.int (bif (ifCond.holds .eq (u1 &&& (1 : Int32))) then (0 : Int32) else (1 : Int32))), .val (.ref sa5), .unset, .unset, .unset, .unset, .unset, .unset, .unset, .unset] [(.ref sa5)])) _
      refine st6.trans ?_
      show Steps p.tables e below (T6.setTop (mkF m 32 #[.val (.int u1), .val (.int u2), .val (.int u3), .val (.long u4), .second, .val (.int u5), .val (.int (bif (ifCond.holds .eq (u1 &&& (1 : Int32))) then (0 : Int32) else (1 : Int32))), .val (.ref sa5), .unset, .unset, .unset, .unset, .unset, .unset, .unset, .unset] [(.int (4 : Int32))])) _
      refine XS.istore X6.here hx rfl (hb hby at_32) rfl (l' := #[.val (.int u1), .val (.int u2), .val (.int u3), .val (.long u4), .second, .val (.int u5), .val (.int (bif (ifCond.holds .eq (u1 &&& (1 : Int32))) then (0 : Int32) else (1 : Int32))), .val (.ref sa5), .val (.int (4 : Int32)), .unset, .unset, .unset, .unset, .unset, .unset, .unset]) rfl ?_
      show Steps p.tables e below (T6.setTop (mkF m 34 #[.val (.int u1), .val (.int u2), .val (.int u3), .val (.long u4), .second, .val (.int u5), .val (.int (bif (ifCond.holds .eq (u1 &&& (1 : Int32))) then (0 : Int32) else (1 : Int32))), .val (.ref sa5), .val (.int (4 : Int32)), .unset, .unset, .unset, .unset, .unset, .unset, .unset] [])) _
      refine XS.iloadN X6.here hx rfl (hb hby at_34) rfl ?_
      show Steps p.tables e below (T6.setTop (mkF m 35 #[.val (.int u1), .val (.int u2), .val (.int u3), .val (.long u4), .second, .val (.int u5), .val (.int (bif (ifCond.holds .eq (u1 &&& (1 : Int32))) then (0 : Int32) else (1 : Int32))), .val (.ref sa5), .val (.int (4 : Int32)), .unset, .unset, .unset, .unset, .unset, .unset, .unset] [(.int u1)])) _
      refine XS.iconst X6.here hx rfl (hb hby at_35) ?_
      show Steps p.tables e below (T6.setTop (mkF m 36 #[.val (.int u1), .val (.int u2), .val (.int u3), .val (.long u4), .second, .val (.int u5), .val (.int (bif (ifCond.holds .eq (u1 &&& (1 : Int32))) then (0 : Int32) else (1 : Int32))), .val (.ref sa5), .val (.int (4 : Int32)), .unset, .unset, .unset, .unset, .unset, .unset, .unset] [(.int (1 : Int32)), (.int u1)])) _
      refine XS.iushr X6.here hx rfl (hb hby at_36) rfl ?_
      show Steps p.tables e below (T6.setTop (mkF m 37 #[.val (.int u1), .val (.int u2), .val (.int u3), .val (.long u4), .second, .val (.int u5), .val (.int (bif (ifCond.holds .eq (u1 &&& (1 : Int32))) then (0 : Int32) else (1 : Int32))), .val (.ref sa5), .val (.int (4 : Int32)), .unset, .unset, .unset, .unset, .unset, .unset, .unset] [(.int ((u1.toUInt32 >>> ((1 : Int32) &&& 31).toUInt32).toInt32))])) _
      refine XS.iconst X6.here hx rfl (hb hby at_37) ?_
      show Steps p.tables e below (T6.setTop (mkF m 38 #[.val (.int u1), .val (.int u2), .val (.int u3), .val (.long u4), .second, .val (.int u5), .val (.int (bif (ifCond.holds .eq (u1 &&& (1 : Int32))) then (0 : Int32) else (1 : Int32))), .val (.ref sa5), .val (.int (4 : Int32)), .unset, .unset, .unset, .unset, .unset, .unset, .unset] [(.int (3 : Int32)), (.int ((u1.toUInt32 >>> ((1 : Int32) &&& 31).toUInt32).toInt32))])) _
      refine XS.iand X6.here hx rfl (hb hby at_38) rfl ?_
      show Steps p.tables e below (T6.setTop (mkF m 39 #[.val (.int u1), .val (.int u2), .val (.int u3), .val (.long u4), .second, .val (.int u5), .val (.int (bif (ifCond.holds .eq (u1 &&& (1 : Int32))) then (0 : Int32) else (1 : Int32))), .val (.ref sa5), .val (.int (4 : Int32)), .unset, .unset, .unset, .unset, .unset, .unset, .unset] [(.int (((u1.toUInt32 >>> ((1 : Int32) &&& 31).toUInt32).toInt32) &&& (3 : Int32)))])) _
      refine XS.istore X6.here hx rfl (hb hby at_39) rfl (l' := #[.val (.int u1), .val (.int u2), .val (.int u3), .val (.long u4), .second, .val (.int u5), .val (.int (bif (ifCond.holds .eq (u1 &&& (1 : Int32))) then (0 : Int32) else (1 : Int32))), .val (.ref sa5), .val (.int (4 : Int32)), .val (.int (((u1.toUInt32 >>> ((1 : Int32) &&& 31).toUInt32).toInt32) &&& (3 : Int32))), .unset, .unset, .unset, .unset, .unset, .unset]) rfl ?_
      show Steps p.tables e below (T6.setTop (mkF m 41 #[.val (.int u1), .val (.int u2), .val (.int u3), .val (.long u4), .second, .val (.int u5), .val (.int (bif (ifCond.holds .eq (u1 &&& (1 : Int32))) then (0 : Int32) else (1 : Int32))), .val (.ref sa5), .val (.int (4 : Int32)), .val (.int (((u1.toUInt32 >>> ((1 : Int32) &&& 31).toUInt32).toInt32) &&& (3 : Int32))), .unset, .unset, .unset, .unset, .unset, .unset] [])) _
      refine XS.iloadN X6.here hx rfl (hb hby at_41) rfl ?_
      show Steps p.tables e below (T6.setTop (mkF m 42 #[.val (.int u1), .val (.int u2), .val (.int u3), .val (.long u4), .second, .val (.int u5), .val (.int (bif (ifCond.holds .eq (u1 &&& (1 : Int32))) then (0 : Int32) else (1 : Int32))), .val (.ref sa5), .val (.int (4 : Int32)), .val (.int (((u1.toUInt32 >>> ((1 : Int32) &&& 31).toUInt32).toInt32) &&& (3 : Int32))), .unset, .unset, .unset, .unset, .unset, .unset] [(.int u1)])) _
      refine XS.iconst X6.here hx rfl (hb hby at_42) ?_
      show Steps p.tables e below (T6.setTop (mkF m 43 #[.val (.int u1), .val (.int u2), .val (.int u3), .val (.long u4), .second, .val (.int u5), .val (.int (bif (ifCond.holds .eq (u1 &&& (1 : Int32))) then (0 : Int32) else (1 : Int32))), .val (.ref sa5), .val (.int (4 : Int32)), .val (.int (((u1.toUInt32 >>> ((1 : Int32) &&& 31).toUInt32).toInt32) &&& (3 : Int32))), .unset, .unset, .unset, .unset, .unset, .unset] [(.int (3 : Int32)), (.int u1)])) _
      refine XS.iushr X6.here hx rfl (hb hby at_43) rfl ?_
      show Steps p.tables e below (T6.setTop (mkF m 44 #[.val (.int u1), .val (.int u2), .val (.int u3), .val (.long u4), .second, .val (.int u5), .val (.int (bif (ifCond.holds .eq (u1 &&& (1 : Int32))) then (0 : Int32) else (1 : Int32))), .val (.ref sa5), .val (.int (4 : Int32)), .val (.int (((u1.toUInt32 >>> ((1 : Int32) &&& 31).toUInt32).toInt32) &&& (3 : Int32))), .unset, .unset, .unset, .unset, .unset, .unset] [(.int ((u1.toUInt32 >>> ((3 : Int32) &&& 31).toUInt32).toInt32))])) _
      refine XS.iconst X6.here hx rfl (hb hby at_44) ?_
      show Steps p.tables e below (T6.setTop (mkF m 45 #[.val (.int u1), .val (.int u2), .val (.int u3), .val (.long u4), .second, .val (.int u5), .val (.int (bif (ifCond.holds .eq (u1 &&& (1 : Int32))) then (0 : Int32) else (1 : Int32))), .val (.ref sa5), .val (.int (4 : Int32)), .val (.int (((u1.toUInt32 >>> ((1 : Int32) &&& 31).toUInt32).toInt32) &&& (3 : Int32))), .unset, .unset, .unset, .unset, .unset, .unset] [(.int (1 : Int32)), (.int ((u1.toUInt32 >>> ((3 : Int32) &&& 31).toUInt32).toInt32))])) _
      refine XS.iand X6.here hx rfl (hb hby at_45) rfl ?_
      exact k
    have pre9 : ∀ t, Steps p.tables e below (T6.setTop (mkF m 60 #[.val (.int u1), .val (.int u2), .val (.int u3), .val (.long u4), .second, .val (.int u5), .val (.int (bif (ifCond.holds .eq (u1 &&& (1 : Int32))) then (0 : Int32) else (1 : Int32))), .val (.ref sa5), .val (.int (4 : Int32)), .val (.int (((u1.toUInt32 >>> ((1 : Int32) &&& 31).toUInt32).toInt32) &&& (3 : Int32))), .unset, .unset, .unset, .unset, .unset, .unset] [(.int (bif (ifCond.holds .ne (((u1.toUInt32 >>> ((3 : Int32) &&& 31).toUInt32).toInt32) &&& (1 : Int32))) then (((u1.toUInt32 >>> ((4 : Int32) &&& 31).toUInt32).toInt32) &&& (7 : Int32)) else (4 : Int32)))])) t → Steps p.tables e below (s₁.setTop (entryFrame m #[(.int u1), (.int u2), (.int u3), (.long u4), (.int u5)] maxLocals)) t := by
      intro t k
      refine pre7 t ?_
      show Steps p.tables e below (T6.setTop (mkF m 46 #[.val (.int u1), .val (.int u2), .val (.int u3), .val (.long u4), .second, .val (.int u5), .val (.int (bif (ifCond.holds .eq (u1 &&& (1 : Int32))) then (0 : Int32) else (1 : Int32))), .val (.ref sa5), .val (.int (4 : Int32)), .val (.int (((u1.toUInt32 >>> ((1 : Int32) &&& 31).toUInt32).toInt32) &&& (3 : Int32))), .unset, .unset, .unset, .unset, .unset, .unset] [(.int (((u1.toUInt32 >>> ((3 : Int32) &&& 31).toUInt32).toInt32) &&& (1 : Int32)))])) _
      rcases Bool.eq_false_or_eq_true (ifCond.holds .ne (((u1.toUInt32 >>> ((3 : Int32) &&& 31).toUInt32).toInt32) &&& (1 : Int32))) with hb46_8 | hb46_8
      · refine XS.ifYes X6.here hx rfl (pc0 := 46) (pc' := 54) rfl (hb hby at_46) rfl hb46_8 (by decide) (by decide) ?_
        show Steps p.tables e below (T6.setTop (mkF m 54 #[.val (.int u1), .val (.int u2), .val (.int u3), .val (.long u4), .second, .val (.int u5), .val (.int (bif (ifCond.holds .eq (u1 &&& (1 : Int32))) then (0 : Int32) else (1 : Int32))), .val (.ref sa5), .val (.int (4 : Int32)), .val (.int (((u1.toUInt32 >>> ((1 : Int32) &&& 31).toUInt32).toInt32) &&& (3 : Int32))), .unset, .unset, .unset, .unset, .unset, .unset] [])) _
        refine XS.iloadN X6.here hx rfl (hb hby at_54) rfl ?_
        show Steps p.tables e below (T6.setTop (mkF m 55 #[.val (.int u1), .val (.int u2), .val (.int u3), .val (.long u4), .second, .val (.int u5), .val (.int (bif (ifCond.holds .eq (u1 &&& (1 : Int32))) then (0 : Int32) else (1 : Int32))), .val (.ref sa5), .val (.int (4 : Int32)), .val (.int (((u1.toUInt32 >>> ((1 : Int32) &&& 31).toUInt32).toInt32) &&& (3 : Int32))), .unset, .unset, .unset, .unset, .unset, .unset] [(.int u1)])) _
        refine XS.iconst X6.here hx rfl (hb hby at_55) ?_
        show Steps p.tables e below (T6.setTop (mkF m 56 #[.val (.int u1), .val (.int u2), .val (.int u3), .val (.long u4), .second, .val (.int u5), .val (.int (bif (ifCond.holds .eq (u1 &&& (1 : Int32))) then (0 : Int32) else (1 : Int32))), .val (.ref sa5), .val (.int (4 : Int32)), .val (.int (((u1.toUInt32 >>> ((1 : Int32) &&& 31).toUInt32).toInt32) &&& (3 : Int32))), .unset, .unset, .unset, .unset, .unset, .unset] [(.int (4 : Int32)), (.int u1)])) _
        refine XS.iushr X6.here hx rfl (hb hby at_56) rfl ?_
        show Steps p.tables e below (T6.setTop (mkF m 57 #[.val (.int u1), .val (.int u2), .val (.int u3), .val (.long u4), .second, .val (.int u5), .val (.int (bif (ifCond.holds .eq (u1 &&& (1 : Int32))) then (0 : Int32) else (1 : Int32))), .val (.ref sa5), .val (.int (4 : Int32)), .val (.int (((u1.toUInt32 >>> ((1 : Int32) &&& 31).toUInt32).toInt32) &&& (3 : Int32))), .unset, .unset, .unset, .unset, .unset, .unset] [(.int ((u1.toUInt32 >>> ((4 : Int32) &&& 31).toUInt32).toInt32))])) _
        refine XS.bipush X6.here hx rfl (hb hby at_57) ?_
        show Steps p.tables e below (T6.setTop (mkF m 59 #[.val (.int u1), .val (.int u2), .val (.int u3), .val (.long u4), .second, .val (.int u5), .val (.int (bif (ifCond.holds .eq (u1 &&& (1 : Int32))) then (0 : Int32) else (1 : Int32))), .val (.ref sa5), .val (.int (4 : Int32)), .val (.int (((u1.toUInt32 >>> ((1 : Int32) &&& 31).toUInt32).toInt32) &&& (3 : Int32))), .unset, .unset, .unset, .unset, .unset, .unset] [(.int (7 : Int32)), (.int ((u1.toUInt32 >>> ((4 : Int32) &&& 31).toUInt32).toInt32))])) _
        refine XS.iand X6.here hx rfl (hb hby at_59) rfl ?_
        have k : Steps p.tables e below (T6.setTop (mkF m 60 #[.val (.int u1), .val (.int u2), .val (.int u3), .val (.long u4), .second, .val (.int u5), .val (.int (bif (ifCond.holds .eq (u1 &&& (1 : Int32))) then (0 : Int32) else (1 : Int32))), .val (.ref sa5), .val (.int (4 : Int32)), .val (.int (((u1.toUInt32 >>> ((1 : Int32) &&& 31).toUInt32).toInt32) &&& (3 : Int32))), .unset, .unset, .unset, .unset, .unset, .unset] [(.int (((u1.toUInt32 >>> ((4 : Int32) &&& 31).toUInt32).toInt32) &&& (7 : Int32)))])) t := by simpa only [hb46_8, cond_true, cond_false] using k
        exact k
      · refine XS.ifNo X6.here hx rfl (hb hby at_46) rfl hb46_8 ?_
        show Steps p.tables e below (T6.setTop (mkF m 49 #[.val (.int u1), .val (.int u2), .val (.int u3), .val (.long u4), .second, .val (.int u5), .val (.int (bif (ifCond.holds .eq (u1 &&& (1 : Int32))) then (0 : Int32) else (1 : Int32))), .val (.ref sa5), .val (.int (4 : Int32)), .val (.int (((u1.toUInt32 >>> ((1 : Int32) &&& 31).toUInt32).toInt32) &&& (3 : Int32))), .unset, .unset, .unset, .unset, .unset, .unset] [])) _
        refine XS.iload X6.here hx rfl (hb hby at_49) rfl ?_
        show Steps p.tables e below (T6.setTop (mkF m 51 #[.val (.int u1), .val (.int u2), .val (.int u3), .val (.long u4), .second, .val (.int u5), .val (.int (bif (ifCond.holds .eq (u1 &&& (1 : Int32))) then (0 : Int32) else (1 : Int32))), .val (.ref sa5), .val (.int (4 : Int32)), .val (.int (((u1.toUInt32 >>> ((1 : Int32) &&& 31).toUInt32).toInt32) &&& (3 : Int32))), .unset, .unset, .unset, .unset, .unset, .unset] [(.int (4 : Int32))])) _
        refine XS.goto X6.here hx rfl (pc0 := 51) (pc' := 60) rfl (hb hby at_51) (by decide) (by decide) ?_
        have k : Steps p.tables e below (T6.setTop (mkF m 60 #[.val (.int u1), .val (.int u2), .val (.int u3), .val (.long u4), .second, .val (.int u5), .val (.int (bif (ifCond.holds .eq (u1 &&& (1 : Int32))) then (0 : Int32) else (1 : Int32))), .val (.ref sa5), .val (.int (4 : Int32)), .val (.int (((u1.toUInt32 >>> ((1 : Int32) &&& 31).toUInt32).toInt32) &&& (3 : Int32))), .unset, .unset, .unset, .unset, .unset, .unset] [(.int (4 : Int32))])) t := by simpa only [hb46_8, cond_true, cond_false] using k
        exact k
    have pre10 : ∀ t, Steps p.tables e below (T6.setTop (mkF m 62 #[.val (.int u1), .val (.int u2), .val (.int u3), .val (.long u4), .second, .val (.int u5), .val (.int (bif (ifCond.holds .eq (u1 &&& (1 : Int32))) then (0 : Int32) else (1 : Int32))), .val (.ref sa5), .val (.int (4 : Int32)), .val (.int (((u1.toUInt32 >>> ((1 : Int32) &&& 31).toUInt32).toInt32) &&& (3 : Int32))), .val (.int (bif (ifCond.holds .ne (((u1.toUInt32 >>> ((3 : Int32) &&& 31).toUInt32).toInt32) &&& (1 : Int32))) then (((u1.toUInt32 >>> ((4 : Int32) &&& 31).toUInt32).toInt32) &&& (7 : Int32)) else (4 : Int32))), .unset, .unset, .unset, .unset, .unset] [])) t → Steps p.tables e below (s₁.setTop (entryFrame m #[(.int u1), (.int u2), (.int u3), (.long u4), (.int u5)] maxLocals)) t := by
      intro t k
      refine pre9 t ?_
      show Steps p.tables e below (T6.setTop (mkF m 60 #[.val (.int u1), .val (.int u2), .val (.int u3), .val (.long u4), .second, .val (.int u5), .val (.int (bif (ifCond.holds .eq (u1 &&& (1 : Int32))) then (0 : Int32) else (1 : Int32))), .val (.ref sa5), .val (.int (4 : Int32)), .val (.int (((u1.toUInt32 >>> ((1 : Int32) &&& 31).toUInt32).toInt32) &&& (3 : Int32))), .unset, .unset, .unset, .unset, .unset, .unset] [(.int (bif (ifCond.holds .ne (((u1.toUInt32 >>> ((3 : Int32) &&& 31).toUInt32).toInt32) &&& (1 : Int32))) then (((u1.toUInt32 >>> ((4 : Int32) &&& 31).toUInt32).toInt32) &&& (7 : Int32)) else (4 : Int32)))])) _
      refine XS.istore X6.here hx rfl (hb hby at_60) rfl (l' := #[.val (.int u1), .val (.int u2), .val (.int u3), .val (.long u4), .second, .val (.int u5), .val (.int (bif (ifCond.holds .eq (u1 &&& (1 : Int32))) then (0 : Int32) else (1 : Int32))), .val (.ref sa5), .val (.int (4 : Int32)), .val (.int (((u1.toUInt32 >>> ((1 : Int32) &&& 31).toUInt32).toInt32) &&& (3 : Int32))), .val (.int (bif (ifCond.holds .ne (((u1.toUInt32 >>> ((3 : Int32) &&& 31).toUInt32).toInt32) &&& (1 : Int32))) then (((u1.toUInt32 >>> ((4 : Int32) &&& 31).toUInt32).toInt32) &&& (7 : Int32)) else (4 : Int32))), .unset, .unset, .unset, .unset, .unset]) rfl ?_
      exact k
    obtain ⟨vf, hvf⟩ : ∃ z : Int32, z = (bif (ifCond.holds .eq (u1 &&& (1 : Int32))) then (0 : Int32) else (1 : Int32)) := ⟨_, rfl⟩
    rw [← hvf] at pre10
    obtain ⟨fr, hfr⟩ : ∃ z : Int32, z = (((u1.toUInt32 >>> ((1 : Int32) &&& 31).toUInt32).toInt32) &&& (3 : Int32)) := ⟨_, rfl⟩
    rw [← hfr] at pre10
    obtain ⟨vl, hvl⟩ : ∃ z : Int32, z = (bif (ifCond.holds .ne (((u1.toUInt32 >>> ((3 : Int32) &&& 31).toUInt32).toInt32) &&& (1 : Int32))) then (((u1.toUInt32 >>> ((4 : Int32) &&& 31).toUInt32).toInt32) &&& (7 : Int32)) else (4 : Int32)) := ⟨_, rfl⟩
    rw [← hvl] at pre10
    have hF : fr = 0 ∨ fr = 1 ∨ fr = 2 ∨ fr = 3 := by rw [hfr]; exact own_from u1
    obtain ⟨T11, h11, k11, X11, e11, E11, A11, st11⟩ := newP X6 hx hZ (own_w hw 3 rfl) eq6 (g := (mkF m 64 #[.val (.int u1), .val (.int u2), .val (.int u3), .val (.long u4), .second, .val (.int u5), .val (.int vf), .val (.ref sa5), .val (.int (4 : Int32)), .val (.int fr), .val (.int vl), .unset, .unset, .unset, .unset, .unset] [(.int (12 : Int32))])) rfl (hb hby at_64) rfl (by decide) (cap := 12) (by decide) (by decide) (by decide) (by decide)
    obtain ⟨b11, g11⟩ : ∃ z, z = h5.size := ⟨_, rfl⟩
    rw [← g11] at A11 st11
    have fr_b11 : n0 ≤ b11 := Nat.le_trans Z5 (Nat.le_of_eq g11.symm)
    have ne_sa5_b11 : sa5 ≠ b11 := Nat.ne_of_lt (Nat.lt_of_lt_of_le Ea5.lt (Nat.le_of_eq g11.symm))
    have ne_sb5_b11 : sb5 ≠ b11 := Nat.ne_of_lt (Nat.lt_of_lt_of_le Vb5.lt (Nat.le_of_eq g11.symm))
    have Z11 : n0 ≤ h11.size := Nat.le_trans Z5 E11.1
    have kk11 : kc5 ≤ h11.size := Nat.le_trans kk5 E11.1
    have Od11 : Old Z n0 h11 := Od5.ext E11
    have V11 := Arv.new A11 (by decide)
    obtain ⟨_, _, ⟨T12, L12, k12, n12⟩, -, X12, ⟨Lc12, hQ12, l12, y12, z12⟩, st12⟩ := Jvm.LawKit.callS X11 hx (y := (⟨"com/example/sabac/sabac/ExpressionLexerIsKeywordPinLaw", "at", "(JI)B"⟩ : MethodName)) hown (mvT hZ (own_w hw 21 rfl)) (mvT hZ (own_w hw 22 rfl)) (mvT hZ (own_w hw 23 rfl)) (mvT hZ (own_w hw 24 rfl)) (by decide) (backOf (W := 2) (rm_at l Z a0 hw [] u4 (0 : Int32) h11 n0 Z11 ) hZ (own_w hw 24 rfl) (own_w hw 23 rfl) (by decide) (by decide)) (g := (mkF m 73 #[.val (.int u1), .val (.int u2), .val (.int u3), .val (.long u4), .second, .val (.int u5), .val (.int vf), .val (.ref sa5), .val (.int (4 : Int32)), .val (.int fr), .val (.int vl), .val (.ref b11), .unset, .unset, .unset, .unset] [(.int (0 : Int32)), (.long u4), (.int (0 : Int32)), (.ref b11)])) rfl (by rw [hml]; rfl) (argsL := [(.long u4), (.int (0 : Int32))]) (rest := [(.int (0 : Int32)), (.ref b11)]) (lenOf pd_577923 rfl) rfl (by show 2 * 0 + _ ≤ _; exact Nat.le_of_eq rfl) (hb hby at_73) (fun _ _ => ⟨rfl, e11, (by decide : 3 + 0 ≤ _), (by decide : 36 + 0 ≤ _)⟩)
    dsimp only [Pt.U, Pt.locs, Pt.cells, Pt.slots] at X12 l12 y12 z12 st12 hQ12
    replace y12 : k12 = 3 := y12
    replace z12 : n12 = 36 := z12
    subst y12 z12
    obtain ⟨rfl, Nq12, eq12⟩ := hQ12
    have N12 : Fr n0 L12 := by rw [l12]; exact Fr.app N6 Nq12
    obtain ⟨at12, hat12⟩ : ∃ z : Int32, z = (nar .byte ((((u4.toUInt64 >>> (((8 : Int32) * (0 : Int32)) &&& 0x3f).toInt64.toUInt64).toInt64).toInt32).toInt8.toInt32)) := ⟨_, rfl⟩
    rw [← hat12] at st12
    have V11p : Arv Z h11 b11 k11 .byte (12 : Int32) [(.int (0 : Int32)), (.int (0 : Int32)), (.int (0 : Int32)), (.int (0 : Int32)), (.int (0 : Int32)), (.int (0 : Int32)), (.int (0 : Int32)), (.int (0 : Int32)), (.int (0 : Int32)), (.int (0 : Int32)), (.int (0 : Int32)), (.int (0 : Int32))] (.int (0 : Int32)) := V11.pad (pad_rep [] (.int (0 : Int32)) 12)
    obtain ⟨cl13, Ar13, q13, S13, M13, H13, G13⟩ := id V11p
    obtain ⟨T13, h13, X13, e13, W13, st13⟩ := stB X12 hx hZ eq12 Ar13 (j := (0 : Int32)) (inb_of S13 ⟨by decide, by decide⟩) (g := (mkF m 76 #[.val (.int u1), .val (.int u2), .val (.int u3), .val (.long u4), .second, .val (.int u5), .val (.int vf), .val (.ref sa5), .val (.int (4 : Int32)), .val (.int fr), .val (.int vl), .val (.ref b11), .unset, .unset, .unset, .unset] [(.int at12), (.int (0 : Int32)), (.ref b11)])) rfl rfl (hb hby at_76)
    have V13 := Arv.set Ar13 q13 S13 M13 H13 G13 (fits_nar_byte _) W13 0 rfl (Nat.le_of_ble_eq_true rfl)
    have N13 := Fr.snoc X13 N12 fr_b11
    have Z13 : n0 ≤ h13.size := Nat.le_trans Z11 (Keep.of_wr W13).1
    have kk13 : kc5 ≤ h13.size := Nat.le_trans kk11 (Keep.of_wr W13).1
    have Od13 : Old Z n0 h13 := Od11.wr W13 fr_b11
    obtain ⟨b13, hb_13⟩ : ∃ y : Int32, y = nar .byte at12 := ⟨_, rfl⟩
    have V13q : Arv Z h13 b11 k11 .byte (12 : Int32) [(.int b13), (.int (0 : Int32)), (.int (0 : Int32)), (.int (0 : Int32)), (.int (0 : Int32)), (.int (0 : Int32)), (.int (0 : Int32)), (.int (0 : Int32)), (.int (0 : Int32)), (.int (0 : Int32)), (.int (0 : Int32)), (.int (0 : Int32))] (.int (0 : Int32)) := by rw [hb_13]; exact V13
    obtain ⟨_, _, ⟨T14, L14, k14, n14⟩, -, X14, ⟨Lc14, hQ14, l14, y14, z14⟩, st14⟩ := Jvm.LawKit.callS X13 hx (y := (⟨"com/example/sabac/sabac/ExpressionLexerIsKeywordPinLaw", "at", "(JI)B"⟩ : MethodName)) hown (mvT hZ (own_w hw 21 rfl)) (mvT hZ (own_w hw 22 rfl)) (mvT hZ (own_w hw 23 rfl)) (mvT hZ (own_w hw 24 rfl)) (by decide) (backOf (W := 2) (rm_at l Z a0 hw [] u4 (1 : Int32) h13 n0 Z13 ) hZ (own_w hw 24 rfl) (own_w hw 23 rfl) (by decide) (by decide)) (g := (mkF m 82 #[.val (.int u1), .val (.int u2), .val (.int u3), .val (.long u4), .second, .val (.int u5), .val (.int vf), .val (.ref sa5), .val (.int (4 : Int32)), .val (.int fr), .val (.int vl), .val (.ref b11), .unset, .unset, .unset, .unset] [(.int (1 : Int32)), (.long u4), (.int (1 : Int32)), (.ref b11)])) rfl (by rw [hml]; rfl) (argsL := [(.long u4), (.int (1 : Int32))]) (rest := [(.int (1 : Int32)), (.ref b11)]) (lenOf pd_577923 rfl) rfl (by show 2 * 0 + _ ≤ _; exact Nat.le_of_eq rfl) (hb hby at_82) (fun _ _ => ⟨rfl, e13, (by decide : 3 + 0 ≤ _), (by decide : 36 + 0 ≤ _)⟩)
    dsimp only [Pt.U, Pt.locs, Pt.cells, Pt.slots] at X14 l14 y14 z14 st14 hQ14
    replace y14 : k14 = 3 := y14
    replace z14 : n14 = 36 := z14
    subst y14 z14
    obtain ⟨rfl, Nq14, eq14⟩ := hQ14
    have N14 : Fr n0 L14 := by rw [l14]; exact Fr.app N13 Nq14
    obtain ⟨at14, hat14⟩ : ∃ z : Int32, z = (nar .byte ((((u4.toUInt64 >>> (((8 : Int32) * (1 : Int32)) &&& 0x3f).toInt64.toUInt64).toInt64).toInt32).toInt8.toInt32)) := ⟨_, rfl⟩
    rw [← hat14] at st14
    obtain ⟨cl15, Ar15, q15, S15, M15, H15, G15⟩ := id V13q
    obtain ⟨T15, h15, X15, e15, W15, st15⟩ := stB X14 hx hZ eq14 Ar15 (j := (1 : Int32)) (inb_of S15 ⟨by decide, by decide⟩) (g := (mkF m 85 #[.val (.int u1), .val (.int u2), .val (.int u3), .val (.long u4), .second, .val (.int u5), .val (.int vf), .val (.ref sa5), .val (.int (4 : Int32)), .val (.int fr), .val (.int vl), .val (.ref b11), .unset, .unset, .unset, .unset] [(.int at14), (.int (1 : Int32)), (.ref b11)])) rfl rfl (hb hby at_85)
    have V15 := Arv.set Ar15 q15 S15 M15 H15 G15 (fits_nar_byte _) W15 1 rfl (Nat.le_of_ble_eq_true rfl)
    have N15 := Fr.snoc X15 N14 fr_b11
    have Z15 : n0 ≤ h15.size := Nat.le_trans Z13 (Keep.of_wr W15).1
    have kk15 : kc5 ≤ h15.size := Nat.le_trans kk13 (Keep.of_wr W15).1
    have Od15 : Old Z n0 h15 := Od13.wr W15 fr_b11
    obtain ⟨b15, hb_15⟩ : ∃ y : Int32, y = nar .byte at14 := ⟨_, rfl⟩
    have V15q : Arv Z h15 b11 k11 .byte (12 : Int32) [(.int b13), (.int b15), (.int (0 : Int32)), (.int (0 : Int32)), (.int (0 : Int32)), (.int (0 : Int32)), (.int (0 : Int32)), (.int (0 : Int32)), (.int (0 : Int32)), (.int (0 : Int32)), (.int (0 : Int32)), (.int (0 : Int32))] (.int (0 : Int32)) := by rw [hb_15]; exact V15
    obtain ⟨_, _, ⟨T16, L16, k16, n16⟩, -, X16, ⟨Lc16, hQ16, l16, y16, z16⟩, st16⟩ := Jvm.LawKit.callS X15 hx (y := (⟨"com/example/sabac/sabac/ExpressionLexerIsKeywordPinLaw", "at", "(JI)B"⟩ : MethodName)) hown (mvT hZ (own_w hw 21 rfl)) (mvT hZ (own_w hw 22 rfl)) (mvT hZ (own_w hw 23 rfl)) (mvT hZ (own_w hw 24 rfl)) (by decide) (backOf (W := 2) (rm_at l Z a0 hw [] u4 (2 : Int32) h15 n0 Z15 ) hZ (own_w hw 24 rfl) (own_w hw 23 rfl) (by decide) (by decide)) (g := (mkF m 91 #[.val (.int u1), .val (.int u2), .val (.int u3), .val (.long u4), .second, .val (.int u5), .val (.int vf), .val (.ref sa5), .val (.int (4 : Int32)), .val (.int fr), .val (.int vl), .val (.ref b11), .unset, .unset, .unset, .unset] [(.int (2 : Int32)), (.long u4), (.int (2 : Int32)), (.ref b11)])) rfl (by rw [hml]; rfl) (argsL := [(.long u4), (.int (2 : Int32))]) (rest := [(.int (2 : Int32)), (.ref b11)]) (lenOf pd_577923 rfl) rfl (by show 2 * 0 + _ ≤ _; exact Nat.le_of_eq rfl) (hb hby at_91) (fun _ _ => ⟨rfl, e15, (by decide : 3 + 0 ≤ _), (by decide : 36 + 0 ≤ _)⟩)
    dsimp only [Pt.U, Pt.locs, Pt.cells, Pt.slots] at X16 l16 y16 z16 st16 hQ16
    replace y16 : k16 = 3 := y16
    replace z16 : n16 = 36 := z16
    subst y16 z16
    obtain ⟨rfl, Nq16, eq16⟩ := hQ16
    have N16 : Fr n0 L16 := by rw [l16]; exact Fr.app N15 Nq16
    obtain ⟨at16, hat16⟩ : ∃ z : Int32, z = (nar .byte ((((u4.toUInt64 >>> (((8 : Int32) * (2 : Int32)) &&& 0x3f).toInt64.toUInt64).toInt64).toInt32).toInt8.toInt32)) := ⟨_, rfl⟩
    rw [← hat16] at st16
    obtain ⟨cl17, Ar17, q17, S17, M17, H17, G17⟩ := id V15q
    obtain ⟨T17, h17, X17, e17, W17, st17⟩ := stB X16 hx hZ eq16 Ar17 (j := (2 : Int32)) (inb_of S17 ⟨by decide, by decide⟩) (g := (mkF m 94 #[.val (.int u1), .val (.int u2), .val (.int u3), .val (.long u4), .second, .val (.int u5), .val (.int vf), .val (.ref sa5), .val (.int (4 : Int32)), .val (.int fr), .val (.int vl), .val (.ref b11), .unset, .unset, .unset, .unset] [(.int at16), (.int (2 : Int32)), (.ref b11)])) rfl rfl (hb hby at_94)
    have V17 := Arv.set Ar17 q17 S17 M17 H17 G17 (fits_nar_byte _) W17 2 rfl (Nat.le_of_ble_eq_true rfl)
    have N17 := Fr.snoc X17 N16 fr_b11
    have Z17 : n0 ≤ h17.size := Nat.le_trans Z15 (Keep.of_wr W17).1
    have kk17 : kc5 ≤ h17.size := Nat.le_trans kk15 (Keep.of_wr W17).1
    have Od17 : Old Z n0 h17 := Od15.wr W17 fr_b11
    obtain ⟨b17, hb_17⟩ : ∃ y : Int32, y = nar .byte at16 := ⟨_, rfl⟩
    have V17q : Arv Z h17 b11 k11 .byte (12 : Int32) [(.int b13), (.int b15), (.int b17), (.int (0 : Int32)), (.int (0 : Int32)), (.int (0 : Int32)), (.int (0 : Int32)), (.int (0 : Int32)), (.int (0 : Int32)), (.int (0 : Int32)), (.int (0 : Int32)), (.int (0 : Int32))] (.int (0 : Int32)) := by rw [hb_17]; exact V17
    obtain ⟨_, _, ⟨T18, L18, k18, n18⟩, -, X18, ⟨Lc18, hQ18, l18, y18, z18⟩, st18⟩ := Jvm.LawKit.callS X17 hx (y := (⟨"com/example/sabac/sabac/ExpressionLexerIsKeywordPinLaw", "at", "(JI)B"⟩ : MethodName)) hown (mvT hZ (own_w hw 21 rfl)) (mvT hZ (own_w hw 22 rfl)) (mvT hZ (own_w hw 23 rfl)) (mvT hZ (own_w hw 24 rfl)) (by decide) (backOf (W := 2) (rm_at l Z a0 hw [] u4 (3 : Int32) h17 n0 Z17 ) hZ (own_w hw 24 rfl) (own_w hw 23 rfl) (by decide) (by decide)) (g := (mkF m 100 #[.val (.int u1), .val (.int u2), .val (.int u3), .val (.long u4), .second, .val (.int u5), .val (.int vf), .val (.ref sa5), .val (.int (4 : Int32)), .val (.int fr), .val (.int vl), .val (.ref b11), .unset, .unset, .unset, .unset] [(.int (3 : Int32)), (.long u4), (.int (3 : Int32)), (.ref b11)])) rfl (by rw [hml]; rfl) (argsL := [(.long u4), (.int (3 : Int32))]) (rest := [(.int (3 : Int32)), (.ref b11)]) (lenOf pd_577923 rfl) rfl (by show 2 * 0 + _ ≤ _; exact Nat.le_of_eq rfl) (hb hby at_100) (fun _ _ => ⟨rfl, e17, (by decide : 3 + 0 ≤ _), (by decide : 36 + 0 ≤ _)⟩)
    dsimp only [Pt.U, Pt.locs, Pt.cells, Pt.slots] at X18 l18 y18 z18 st18 hQ18
    replace y18 : k18 = 3 := y18
    replace z18 : n18 = 36 := z18
    subst y18 z18
    obtain ⟨rfl, Nq18, eq18⟩ := hQ18
    have N18 : Fr n0 L18 := by rw [l18]; exact Fr.app N17 Nq18
    obtain ⟨at18, hat18⟩ : ∃ z : Int32, z = (nar .byte ((((u4.toUInt64 >>> (((8 : Int32) * (3 : Int32)) &&& 0x3f).toInt64.toUInt64).toInt64).toInt32).toInt8.toInt32)) := ⟨_, rfl⟩
    rw [← hat18] at st18
    obtain ⟨cl19, Ar19, q19, S19, M19, H19, G19⟩ := id V17q
    obtain ⟨T19, h19, X19, e19, W19, st19⟩ := stB X18 hx hZ eq18 Ar19 (j := (3 : Int32)) (inb_of S19 ⟨by decide, by decide⟩) (g := (mkF m 103 #[.val (.int u1), .val (.int u2), .val (.int u3), .val (.long u4), .second, .val (.int u5), .val (.int vf), .val (.ref sa5), .val (.int (4 : Int32)), .val (.int fr), .val (.int vl), .val (.ref b11), .unset, .unset, .unset, .unset] [(.int at18), (.int (3 : Int32)), (.ref b11)])) rfl rfl (hb hby at_103)
    have V19 := Arv.set Ar19 q19 S19 M19 H19 G19 (fits_nar_byte _) W19 3 rfl (Nat.le_of_ble_eq_true rfl)
    have N19 := Fr.snoc X19 N18 fr_b11
    have Z19 : n0 ≤ h19.size := Nat.le_trans Z17 (Keep.of_wr W19).1
    have kk19 : kc5 ≤ h19.size := Nat.le_trans kk17 (Keep.of_wr W19).1
    have Od19 : Old Z n0 h19 := Od17.wr W19 fr_b11
    obtain ⟨b19, hb_19⟩ : ∃ y : Int32, y = nar .byte at18 := ⟨_, rfl⟩
    have V19q : Arv Z h19 b11 k11 .byte (12 : Int32) [(.int b13), (.int b15), (.int b17), (.int b19), (.int (0 : Int32)), (.int (0 : Int32)), (.int (0 : Int32)), (.int (0 : Int32)), (.int (0 : Int32)), (.int (0 : Int32)), (.int (0 : Int32)), (.int (0 : Int32))] (.int (0 : Int32)) := by rw [hb_19]; exact V19
    obtain ⟨_, _, ⟨T20, L20, k20, n20⟩, -, X20, ⟨Lc20, hQ20, l20, y20, z20⟩, st20⟩ := Jvm.LawKit.callS X19 hx (y := (⟨"com/example/sabac/sabac/ExpressionLexerIsKeywordPinLaw", "at", "(JI)B"⟩ : MethodName)) hown (mvT hZ (own_w hw 21 rfl)) (mvT hZ (own_w hw 22 rfl)) (mvT hZ (own_w hw 23 rfl)) (mvT hZ (own_w hw 24 rfl)) (by decide) (backOf (W := 2) (rm_at l Z a0 hw [] u4 (4 : Int32) h19 n0 Z19 ) hZ (own_w hw 24 rfl) (own_w hw 23 rfl) (by decide) (by decide)) (g := (mkF m 109 #[.val (.int u1), .val (.int u2), .val (.int u3), .val (.long u4), .second, .val (.int u5), .val (.int vf), .val (.ref sa5), .val (.int (4 : Int32)), .val (.int fr), .val (.int vl), .val (.ref b11), .unset, .unset, .unset, .unset] [(.int (4 : Int32)), (.long u4), (.int (4 : Int32)), (.ref b11)])) rfl (by rw [hml]; rfl) (argsL := [(.long u4), (.int (4 : Int32))]) (rest := [(.int (4 : Int32)), (.ref b11)]) (lenOf pd_577923 rfl) rfl (by show 2 * 0 + _ ≤ _; exact Nat.le_of_eq rfl) (hb hby at_109) (fun _ _ => ⟨rfl, e19, (by decide : 3 + 0 ≤ _), (by decide : 36 + 0 ≤ _)⟩)
    dsimp only [Pt.U, Pt.locs, Pt.cells, Pt.slots] at X20 l20 y20 z20 st20 hQ20
    replace y20 : k20 = 3 := y20
    replace z20 : n20 = 36 := z20
    subst y20 z20
    obtain ⟨rfl, Nq20, eq20⟩ := hQ20
    have N20 : Fr n0 L20 := by rw [l20]; exact Fr.app N19 Nq20
    obtain ⟨at20, hat20⟩ : ∃ z : Int32, z = (nar .byte ((((u4.toUInt64 >>> (((8 : Int32) * (4 : Int32)) &&& 0x3f).toInt64.toUInt64).toInt64).toInt32).toInt8.toInt32)) := ⟨_, rfl⟩
    rw [← hat20] at st20
    obtain ⟨cl21, Ar21, q21, S21, M21, H21, G21⟩ := id V19q
    obtain ⟨T21, h21, X21, e21, W21, st21⟩ := stB X20 hx hZ eq20 Ar21 (j := (4 : Int32)) (inb_of S21 ⟨by decide, by decide⟩) (g := (mkF m 112 #[.val (.int u1), .val (.int u2), .val (.int u3), .val (.long u4), .second, .val (.int u5), .val (.int vf), .val (.ref sa5), .val (.int (4 : Int32)), .val (.int fr), .val (.int vl), .val (.ref b11), .unset, .unset, .unset, .unset] [(.int at20), (.int (4 : Int32)), (.ref b11)])) rfl rfl (hb hby at_112)
    have V21 := Arv.set Ar21 q21 S21 M21 H21 G21 (fits_nar_byte _) W21 4 rfl (Nat.le_of_ble_eq_true rfl)
    have N21 := Fr.snoc X21 N20 fr_b11
    have Z21 : n0 ≤ h21.size := Nat.le_trans Z19 (Keep.of_wr W21).1
    have kk21 : kc5 ≤ h21.size := Nat.le_trans kk19 (Keep.of_wr W21).1
    have Od21 : Old Z n0 h21 := Od19.wr W21 fr_b11
    obtain ⟨b21, hb_21⟩ : ∃ y : Int32, y = nar .byte at20 := ⟨_, rfl⟩
    have V21q : Arv Z h21 b11 k11 .byte (12 : Int32) [(.int b13), (.int b15), (.int b17), (.int b19), (.int b21), (.int (0 : Int32)), (.int (0 : Int32)), (.int (0 : Int32)), (.int (0 : Int32)), (.int (0 : Int32)), (.int (0 : Int32)), (.int (0 : Int32))] (.int (0 : Int32)) := by rw [hb_21]; exact V21
    obtain ⟨_, _, ⟨T22, L22, k22, n22⟩, -, X22, ⟨Lc22, hQ22, l22, y22, z22⟩, st22⟩ := Jvm.LawKit.callS X21 hx (y := (⟨"com/example/sabac/sabac/ExpressionLexerIsKeywordPinLaw", "at", "(JI)B"⟩ : MethodName)) hown (mvT hZ (own_w hw 21 rfl)) (mvT hZ (own_w hw 22 rfl)) (mvT hZ (own_w hw 23 rfl)) (mvT hZ (own_w hw 24 rfl)) (by decide) (backOf (W := 2) (rm_at l Z a0 hw [] u4 (5 : Int32) h21 n0 Z21 ) hZ (own_w hw 24 rfl) (own_w hw 23 rfl) (by decide) (by decide)) (g := (mkF m 118 #[.val (.int u1), .val (.int u2), .val (.int u3), .val (.long u4), .second, .val (.int u5), .val (.int vf), .val (.ref sa5), .val (.int (4 : Int32)), .val (.int fr), .val (.int vl), .val (.ref b11), .unset, .unset, .unset, .unset] [(.int (5 : Int32)), (.long u4), (.int (5 : Int32)), (.ref b11)])) rfl (by rw [hml]; rfl) (argsL := [(.long u4), (.int (5 : Int32))]) (rest := [(.int (5 : Int32)), (.ref b11)]) (lenOf pd_577923 rfl) rfl (by show 2 * 0 + _ ≤ _; exact Nat.le_of_eq rfl) (hb hby at_118) (fun _ _ => ⟨rfl, e21, (by decide : 3 + 0 ≤ _), (by decide : 36 + 0 ≤ _)⟩)
    dsimp only [Pt.U, Pt.locs, Pt.cells, Pt.slots] at X22 l22 y22 z22 st22 hQ22
    replace y22 : k22 = 3 := y22
    replace z22 : n22 = 36 := z22
    subst y22 z22
    obtain ⟨rfl, Nq22, eq22⟩ := hQ22
    have N22 : Fr n0 L22 := by rw [l22]; exact Fr.app N21 Nq22
    obtain ⟨at22, hat22⟩ : ∃ z : Int32, z = (nar .byte ((((u4.toUInt64 >>> (((8 : Int32) * (5 : Int32)) &&& 0x3f).toInt64.toUInt64).toInt64).toInt32).toInt8.toInt32)) := ⟨_, rfl⟩
    rw [← hat22] at st22
    obtain ⟨cl23, Ar23, q23, S23, M23, H23, G23⟩ := id V21q
    obtain ⟨T23, h23, X23, e23, W23, st23⟩ := stB X22 hx hZ eq22 Ar23 (j := (5 : Int32)) (inb_of S23 ⟨by decide, by decide⟩) (g := (mkF m 121 #[.val (.int u1), .val (.int u2), .val (.int u3), .val (.long u4), .second, .val (.int u5), .val (.int vf), .val (.ref sa5), .val (.int (4 : Int32)), .val (.int fr), .val (.int vl), .val (.ref b11), .unset, .unset, .unset, .unset] [(.int at22), (.int (5 : Int32)), (.ref b11)])) rfl rfl (hb hby at_121)
    have V23 := Arv.set Ar23 q23 S23 M23 H23 G23 (fits_nar_byte _) W23 5 rfl (Nat.le_of_ble_eq_true rfl)
    have N23 := Fr.snoc X23 N22 fr_b11
    have Z23 : n0 ≤ h23.size := Nat.le_trans Z21 (Keep.of_wr W23).1
    have kk23 : kc5 ≤ h23.size := Nat.le_trans kk21 (Keep.of_wr W23).1
    have Od23 : Old Z n0 h23 := Od21.wr W23 fr_b11
    obtain ⟨b23, hb_23⟩ : ∃ y : Int32, y = nar .byte at22 := ⟨_, rfl⟩
    have V23q : Arv Z h23 b11 k11 .byte (12 : Int32) [(.int b13), (.int b15), (.int b17), (.int b19), (.int b21), (.int b23), (.int (0 : Int32)), (.int (0 : Int32)), (.int (0 : Int32)), (.int (0 : Int32)), (.int (0 : Int32)), (.int (0 : Int32))] (.int (0 : Int32)) := by rw [hb_23]; exact V23
    obtain ⟨_, _, ⟨T24, L24, k24, n24⟩, -, X24, ⟨Lc24, hQ24, l24, y24, z24⟩, st24⟩ := Jvm.LawKit.callS X23 hx (y := (⟨"com/example/sabac/sabac/ExpressionLexerIsKeywordPinLaw", "at", "(JI)B"⟩ : MethodName)) hown (mvT hZ (own_w hw 21 rfl)) (mvT hZ (own_w hw 22 rfl)) (mvT hZ (own_w hw 23 rfl)) (mvT hZ (own_w hw 24 rfl)) (by decide) (backOf (W := 2) (rm_at l Z a0 hw [] u4 (6 : Int32) h23 n0 Z23 ) hZ (own_w hw 24 rfl) (own_w hw 23 rfl) (by decide) (by decide)) (g := (mkF m 129 #[.val (.int u1), .val (.int u2), .val (.int u3), .val (.long u4), .second, .val (.int u5), .val (.int vf), .val (.ref sa5), .val (.int (4 : Int32)), .val (.int fr), .val (.int vl), .val (.ref b11), .unset, .unset, .unset, .unset] [(.int (6 : Int32)), (.long u4), (.int (6 : Int32)), (.ref b11)])) rfl (by rw [hml]; rfl) (argsL := [(.long u4), (.int (6 : Int32))]) (rest := [(.int (6 : Int32)), (.ref b11)]) (lenOf pd_577923 rfl) rfl (by show 2 * 0 + _ ≤ _; exact Nat.le_of_eq rfl) (hb hby at_129) (fun _ _ => ⟨rfl, e23, (by decide : 3 + 0 ≤ _), (by decide : 36 + 0 ≤ _)⟩)
    dsimp only [Pt.U, Pt.locs, Pt.cells, Pt.slots] at X24 l24 y24 z24 st24 hQ24
    replace y24 : k24 = 3 := y24
    replace z24 : n24 = 36 := z24
    subst y24 z24
    obtain ⟨rfl, Nq24, eq24⟩ := hQ24
    have N24 : Fr n0 L24 := by rw [l24]; exact Fr.app N23 Nq24
    obtain ⟨at24, hat24⟩ : ∃ z : Int32, z = (nar .byte ((((u4.toUInt64 >>> (((8 : Int32) * (6 : Int32)) &&& 0x3f).toInt64.toUInt64).toInt64).toInt32).toInt8.toInt32)) := ⟨_, rfl⟩
    rw [← hat24] at st24
    obtain ⟨cl25, Ar25, q25, S25, M25, H25, G25⟩ := id V23q
    obtain ⟨T25, h25, X25, e25, W25, st25⟩ := stB X24 hx hZ eq24 Ar25 (j := (6 : Int32)) (inb_of S25 ⟨by decide, by decide⟩) (g := (mkF m 132 #[.val (.int u1), .val (.int u2), .val (.int u3), .val (.long u4), .second, .val (.int u5), .val (.int vf), .val (.ref sa5), .val (.int (4 : Int32)), .val (.int fr), .val (.int vl), .val (.ref b11), .unset, .unset, .unset, .unset] [(.int at24), (.int (6 : Int32)), (.ref b11)])) rfl rfl (hb hby at_132)
    have V25 := Arv.set Ar25 q25 S25 M25 H25 G25 (fits_nar_byte _) W25 6 rfl (Nat.le_of_ble_eq_true rfl)
    have N25 := Fr.snoc X25 N24 fr_b11
    have Z25 : n0 ≤ h25.size := Nat.le_trans Z23 (Keep.of_wr W25).1
    have kk25 : kc5 ≤ h25.size := Nat.le_trans kk23 (Keep.of_wr W25).1
    have Od25 : Old Z n0 h25 := Od23.wr W25 fr_b11
    obtain ⟨b25, hb_25⟩ : ∃ y : Int32, y = nar .byte at24 := ⟨_, rfl⟩
    have V25q : Arv Z h25 b11 k11 .byte (12 : Int32) [(.int b13), (.int b15), (.int b17), (.int b19), (.int b21), (.int b23), (.int b25), (.int (0 : Int32)), (.int (0 : Int32)), (.int (0 : Int32)), (.int (0 : Int32)), (.int (0 : Int32))] (.int (0 : Int32)) := by rw [hb_25]; exact V25
    obtain ⟨_, _, ⟨T26, L26, k26, n26⟩, -, X26, ⟨Lc26, hQ26, l26, y26, z26⟩, st26⟩ := Jvm.LawKit.callS X25 hx (y := (⟨"com/example/sabac/sabac/ExpressionLexerIsKeywordPinLaw", "at", "(JI)B"⟩ : MethodName)) hown (mvT hZ (own_w hw 21 rfl)) (mvT hZ (own_w hw 22 rfl)) (mvT hZ (own_w hw 23 rfl)) (mvT hZ (own_w hw 24 rfl)) (by decide) (backOf (W := 2) (rm_at l Z a0 hw [] u4 (7 : Int32) h25 n0 Z25 ) hZ (own_w hw 24 rfl) (own_w hw 23 rfl) (by decide) (by decide)) (g := (mkF m 140 #[.val (.int u1), .val (.int u2), .val (.int u3), .val (.long u4), .second, .val (.int u5), .val (.int vf), .val (.ref sa5), .val (.int (4 : Int32)), .val (.int fr), .val (.int vl), .val (.ref b11), .unset, .unset, .unset, .unset] [(.int (7 : Int32)), (.long u4), (.int (7 : Int32)), (.ref b11)])) rfl (by rw [hml]; rfl) (argsL := [(.long u4), (.int (7 : Int32))]) (rest := [(.int (7 : Int32)), (.ref b11)]) (lenOf pd_577923 rfl) rfl (by show 2 * 0 + _ ≤ _; exact Nat.le_of_eq rfl) (hb hby at_140) (fun _ _ => ⟨rfl, e25, (by decide : 3 + 0 ≤ _), (by decide : 36 + 0 ≤ _)⟩)
    dsimp only [Pt.U, Pt.locs, Pt.cells, Pt.slots] at X26 l26 y26 z26 st26 hQ26
    replace y26 : k26 = 3 := y26
    replace z26 : n26 = 36 := z26
    subst y26 z26
    obtain ⟨rfl, Nq26, eq26⟩ := hQ26
    have N26 : Fr n0 L26 := by rw [l26]; exact Fr.app N25 Nq26
    obtain ⟨at26, hat26⟩ : ∃ z : Int32, z = (nar .byte ((((u4.toUInt64 >>> (((8 : Int32) * (7 : Int32)) &&& 0x3f).toInt64.toUInt64).toInt64).toInt32).toInt8.toInt32)) := ⟨_, rfl⟩
    rw [← hat26] at st26
    obtain ⟨cl27, Ar27, q27, S27, M27, H27, G27⟩ := id V25q
    obtain ⟨T27, h27, X27, e27, W27, st27⟩ := stB X26 hx hZ eq26 Ar27 (j := (7 : Int32)) (inb_of S27 ⟨by decide, by decide⟩) (g := (mkF m 143 #[.val (.int u1), .val (.int u2), .val (.int u3), .val (.long u4), .second, .val (.int u5), .val (.int vf), .val (.ref sa5), .val (.int (4 : Int32)), .val (.int fr), .val (.int vl), .val (.ref b11), .unset, .unset, .unset, .unset] [(.int at26), (.int (7 : Int32)), (.ref b11)])) rfl rfl (hb hby at_143)
    have V27 := Arv.set Ar27 q27 S27 M27 H27 G27 (fits_nar_byte _) W27 7 rfl (Nat.le_of_ble_eq_true rfl)
    have N27 := Fr.snoc X27 N26 fr_b11
    have Z27 : n0 ≤ h27.size := Nat.le_trans Z25 (Keep.of_wr W27).1
    have kk27 : kc5 ≤ h27.size := Nat.le_trans kk25 (Keep.of_wr W27).1
    have Od27 : Old Z n0 h27 := Od25.wr W27 fr_b11
    obtain ⟨b27, hb_27⟩ : ∃ y : Int32, y = nar .byte at26 := ⟨_, rfl⟩
    have V27q : Arv Z h27 b11 k11 .byte (12 : Int32) [(.int b13), (.int b15), (.int b17), (.int b19), (.int b21), (.int b23), (.int b25), (.int b27), (.int (0 : Int32)), (.int (0 : Int32)), (.int (0 : Int32)), (.int (0 : Int32))] (.int (0 : Int32)) := by rw [hb_27]; exact V27
    obtain ⟨_, _, ⟨T28, L28, k28, n28⟩, -, X28, ⟨Lc28, hQ28, l28, y28, z28⟩, st28⟩ := Jvm.LawKit.callS X27 hx (y := (⟨"com/example/sabac/sabac/ExpressionLexerIsKeywordPinLaw", "at", "(JI)B"⟩ : MethodName)) hown (mvT hZ (own_w hw 21 rfl)) (mvT hZ (own_w hw 22 rfl)) (mvT hZ (own_w hw 23 rfl)) (mvT hZ (own_w hw 24 rfl)) (by decide) (backOf (W := 2) (rm_at l Z a0 hw [] (u5.toInt64) (0 : Int32) h27 n0 Z27 ) hZ (own_w hw 24 rfl) (own_w hw 23 rfl) (by decide) (by decide)) (g := (mkF m 152 #[.val (.int u1), .val (.int u2), .val (.int u3), .val (.long u4), .second, .val (.int u5), .val (.int vf), .val (.ref sa5), .val (.int (4 : Int32)), .val (.int fr), .val (.int vl), .val (.ref b11), .unset, .unset, .unset, .unset] [(.int (0 : Int32)), (.long (u5.toInt64)), (.int (8 : Int32)), (.ref b11)])) rfl (by rw [hml]; rfl) (argsL := [(.long (u5.toInt64)), (.int (0 : Int32))]) (rest := [(.int (8 : Int32)), (.ref b11)]) (lenOf pd_577923 rfl) rfl (by show 2 * 0 + _ ≤ _; exact Nat.le_of_eq rfl) (hb hby at_152) (fun _ _ => ⟨rfl, e27, (by decide : 3 + 0 ≤ _), (by decide : 36 + 0 ≤ _)⟩)
    dsimp only [Pt.U, Pt.locs, Pt.cells, Pt.slots] at X28 l28 y28 z28 st28 hQ28
    replace y28 : k28 = 3 := y28
    replace z28 : n28 = 36 := z28
    subst y28 z28
    obtain ⟨rfl, Nq28, eq28⟩ := hQ28
    have N28 : Fr n0 L28 := by rw [l28]; exact Fr.app N27 Nq28
    obtain ⟨at28, hat28⟩ : ∃ z : Int32, z = (nar .byte (((((u5.toInt64).toUInt64 >>> (((8 : Int32) * (0 : Int32)) &&& 0x3f).toInt64.toUInt64).toInt64).toInt32).toInt8.toInt32)) := ⟨_, rfl⟩
    rw [← hat28] at st28
    obtain ⟨cl29, Ar29, q29, S29, M29, H29, G29⟩ := id V27q
    obtain ⟨T29, h29, X29, e29, W29, st29⟩ := stB X28 hx hZ eq28 Ar29 (j := (8 : Int32)) (inb_of S29 ⟨by decide, by decide⟩) (g := (mkF m 155 #[.val (.int u1), .val (.int u2), .val (.int u3), .val (.long u4), .second, .val (.int u5), .val (.int vf), .val (.ref sa5), .val (.int (4 : Int32)), .val (.int fr), .val (.int vl), .val (.ref b11), .unset, .unset, .unset, .unset] [(.int at28), (.int (8 : Int32)), (.ref b11)])) rfl rfl (hb hby at_155)
    have V29 := Arv.set Ar29 q29 S29 M29 H29 G29 (fits_nar_byte _) W29 8 rfl (Nat.le_of_ble_eq_true rfl)
    have N29 := Fr.snoc X29 N28 fr_b11
    have Z29 : n0 ≤ h29.size := Nat.le_trans Z27 (Keep.of_wr W29).1
    have kk29 : kc5 ≤ h29.size := Nat.le_trans kk27 (Keep.of_wr W29).1
    have Od29 : Old Z n0 h29 := Od27.wr W29 fr_b11
    obtain ⟨b29, hb_29⟩ : ∃ y : Int32, y = nar .byte at28 := ⟨_, rfl⟩
    have V29q : Arv Z h29 b11 k11 .byte (12 : Int32) [(.int b13), (.int b15), (.int b17), (.int b19), (.int b21), (.int b23), (.int b25), (.int b27), (.int b29), (.int (0 : Int32)), (.int (0 : Int32)), (.int (0 : Int32))] (.int (0 : Int32)) := by rw [hb_29]; exact V29
    obtain ⟨_, _, ⟨T30, L30, k30, n30⟩, -, X30, ⟨Lc30, hQ30, l30, y30, z30⟩, st30⟩ := Jvm.LawKit.callS X29 hx (y := (⟨"com/example/sabac/sabac/ExpressionLexerIsKeywordPinLaw", "at", "(JI)B"⟩ : MethodName)) hown (mvT hZ (own_w hw 21 rfl)) (mvT hZ (own_w hw 22 rfl)) (mvT hZ (own_w hw 23 rfl)) (mvT hZ (own_w hw 24 rfl)) (by decide) (backOf (W := 2) (rm_at l Z a0 hw [] (u5.toInt64) (1 : Int32) h29 n0 Z29 ) hZ (own_w hw 24 rfl) (own_w hw 23 rfl) (by decide) (by decide)) (g := (mkF m 164 #[.val (.int u1), .val (.int u2), .val (.int u3), .val (.long u4), .second, .val (.int u5), .val (.int vf), .val (.ref sa5), .val (.int (4 : Int32)), .val (.int fr), .val (.int vl), .val (.ref b11), .unset, .unset, .unset, .unset] [(.int (1 : Int32)), (.long (u5.toInt64)), (.int (9 : Int32)), (.ref b11)])) rfl (by rw [hml]; rfl) (argsL := [(.long (u5.toInt64)), (.int (1 : Int32))]) (rest := [(.int (9 : Int32)), (.ref b11)]) (lenOf pd_577923 rfl) rfl (by show 2 * 0 + _ ≤ _; exact Nat.le_of_eq rfl) (hb hby at_164) (fun _ _ => ⟨rfl, e29, (by decide : 3 + 0 ≤ _), (by decide : 36 + 0 ≤ _)⟩)
    dsimp only [Pt.U, Pt.locs, Pt.cells, Pt.slots] at X30 l30 y30 z30 st30 hQ30
    replace y30 : k30 = 3 := y30
    replace z30 : n30 = 36 := z30
    subst y30 z30
    obtain ⟨rfl, Nq30, eq30⟩ := hQ30
    have N30 : Fr n0 L30 := by rw [l30]; exact Fr.app N29 Nq30
    obtain ⟨at30, hat30⟩ : ∃ z : Int32, z = (nar .byte (((((u5.toInt64).toUInt64 >>> (((8 : Int32) * (1 : Int32)) &&& 0x3f).toInt64.toUInt64).toInt64).toInt32).toInt8.toInt32)) := ⟨_, rfl⟩
    rw [← hat30] at st30
    obtain ⟨cl31, Ar31, q31, S31, M31, H31, G31⟩ := id V29q
    obtain ⟨T31, h31, X31, e31, W31, st31⟩ := stB X30 hx hZ eq30 Ar31 (j := (9 : Int32)) (inb_of S31 ⟨by decide, by decide⟩) (g := (mkF m 167 #[.val (.int u1), .val (.int u2), .val (.int u3), .val (.long u4), .second, .val (.int u5), .val (.int vf), .val (.ref sa5), .val (.int (4 : Int32)), .val (.int fr), .val (.int vl), .val (.ref b11), .unset, .unset, .unset, .unset] [(.int at30), (.int (9 : Int32)), (.ref b11)])) rfl rfl (hb hby at_167)
    have V31 := Arv.set Ar31 q31 S31 M31 H31 G31 (fits_nar_byte _) W31 9 rfl (Nat.le_of_ble_eq_true rfl)
    have N31 := Fr.snoc X31 N30 fr_b11
    have Z31 : n0 ≤ h31.size := Nat.le_trans Z29 (Keep.of_wr W31).1
    have kk31 : kc5 ≤ h31.size := Nat.le_trans kk29 (Keep.of_wr W31).1
    have Od31 : Old Z n0 h31 := Od29.wr W31 fr_b11
    obtain ⟨b31, hb_31⟩ : ∃ y : Int32, y = nar .byte at30 := ⟨_, rfl⟩
    have V31q : Arv Z h31 b11 k11 .byte (12 : Int32) [(.int b13), (.int b15), (.int b17), (.int b19), (.int b21), (.int b23), (.int b25), (.int b27), (.int b29), (.int b31), (.int (0 : Int32)), (.int (0 : Int32))] (.int (0 : Int32)) := by rw [hb_31]; exact V31
    obtain ⟨_, _, ⟨T32, L32, k32, n32⟩, -, X32, ⟨Lc32, hQ32, l32, y32, z32⟩, st32⟩ := Jvm.LawKit.callS X31 hx (y := (⟨"com/example/sabac/sabac/ExpressionLexerIsKeywordPinLaw", "at", "(JI)B"⟩ : MethodName)) hown (mvT hZ (own_w hw 21 rfl)) (mvT hZ (own_w hw 22 rfl)) (mvT hZ (own_w hw 23 rfl)) (mvT hZ (own_w hw 24 rfl)) (by decide) (backOf (W := 2) (rm_at l Z a0 hw [] (u5.toInt64) (2 : Int32) h31 n0 Z31 ) hZ (own_w hw 24 rfl) (own_w hw 23 rfl) (by decide) (by decide)) (g := (mkF m 176 #[.val (.int u1), .val (.int u2), .val (.int u3), .val (.long u4), .second, .val (.int u5), .val (.int vf), .val (.ref sa5), .val (.int (4 : Int32)), .val (.int fr), .val (.int vl), .val (.ref b11), .unset, .unset, .unset, .unset] [(.int (2 : Int32)), (.long (u5.toInt64)), (.int (10 : Int32)), (.ref b11)])) rfl (by rw [hml]; rfl) (argsL := [(.long (u5.toInt64)), (.int (2 : Int32))]) (rest := [(.int (10 : Int32)), (.ref b11)]) (lenOf pd_577923 rfl) rfl (by show 2 * 0 + _ ≤ _; exact Nat.le_of_eq rfl) (hb hby at_176) (fun _ _ => ⟨rfl, e31, (by decide : 3 + 0 ≤ _), (by decide : 36 + 0 ≤ _)⟩)
    dsimp only [Pt.U, Pt.locs, Pt.cells, Pt.slots] at X32 l32 y32 z32 st32 hQ32
    replace y32 : k32 = 3 := y32
    replace z32 : n32 = 36 := z32
    subst y32 z32
    obtain ⟨rfl, Nq32, eq32⟩ := hQ32
    have N32 : Fr n0 L32 := by rw [l32]; exact Fr.app N31 Nq32
    obtain ⟨at32, hat32⟩ : ∃ z : Int32, z = (nar .byte (((((u5.toInt64).toUInt64 >>> (((8 : Int32) * (2 : Int32)) &&& 0x3f).toInt64.toUInt64).toInt64).toInt32).toInt8.toInt32)) := ⟨_, rfl⟩
    rw [← hat32] at st32
    obtain ⟨cl33, Ar33, q33, S33, M33, H33, G33⟩ := id V31q
    obtain ⟨T33, h33, X33, e33, W33, st33⟩ := stB X32 hx hZ eq32 Ar33 (j := (10 : Int32)) (inb_of S33 ⟨by decide, by decide⟩) (g := (mkF m 179 #[.val (.int u1), .val (.int u2), .val (.int u3), .val (.long u4), .second, .val (.int u5), .val (.int vf), .val (.ref sa5), .val (.int (4 : Int32)), .val (.int fr), .val (.int vl), .val (.ref b11), .unset, .unset, .unset, .unset] [(.int at32), (.int (10 : Int32)), (.ref b11)])) rfl rfl (hb hby at_179)
    have V33 := Arv.set Ar33 q33 S33 M33 H33 G33 (fits_nar_byte _) W33 10 rfl (Nat.le_of_ble_eq_true rfl)
    have N33 := Fr.snoc X33 N32 fr_b11
    have Z33 : n0 ≤ h33.size := Nat.le_trans Z31 (Keep.of_wr W33).1
    have kk33 : kc5 ≤ h33.size := Nat.le_trans kk31 (Keep.of_wr W33).1
    have Od33 : Old Z n0 h33 := Od31.wr W33 fr_b11
    obtain ⟨b33, hb_33⟩ : ∃ y : Int32, y = nar .byte at32 := ⟨_, rfl⟩
    have V33q : Arv Z h33 b11 k11 .byte (12 : Int32) [(.int b13), (.int b15), (.int b17), (.int b19), (.int b21), (.int b23), (.int b25), (.int b27), (.int b29), (.int b31), (.int b33), (.int (0 : Int32))] (.int (0 : Int32)) := by rw [hb_33]; exact V33
    obtain ⟨_, _, ⟨T34, L34, k34, n34⟩, -, X34, ⟨Lc34, hQ34, l34, y34, z34⟩, st34⟩ := Jvm.LawKit.callS X33 hx (y := (⟨"com/example/sabac/sabac/ExpressionLexerIsKeywordPinLaw", "at", "(JI)B"⟩ : MethodName)) hown (mvT hZ (own_w hw 21 rfl)) (mvT hZ (own_w hw 22 rfl)) (mvT hZ (own_w hw 23 rfl)) (mvT hZ (own_w hw 24 rfl)) (by decide) (backOf (W := 2) (rm_at l Z a0 hw [] (u5.toInt64) (3 : Int32) h33 n0 Z33 ) hZ (own_w hw 24 rfl) (own_w hw 23 rfl) (by decide) (by decide)) (g := (mkF m 188 #[.val (.int u1), .val (.int u2), .val (.int u3), .val (.long u4), .second, .val (.int u5), .val (.int vf), .val (.ref sa5), .val (.int (4 : Int32)), .val (.int fr), .val (.int vl), .val (.ref b11), .unset, .unset, .unset, .unset] [(.int (3 : Int32)), (.long (u5.toInt64)), (.int (11 : Int32)), (.ref b11)])) rfl (by rw [hml]; rfl) (argsL := [(.long (u5.toInt64)), (.int (3 : Int32))]) (rest := [(.int (11 : Int32)), (.ref b11)]) (lenOf pd_577923 rfl) rfl (by show 2 * 0 + _ ≤ _; exact Nat.le_of_eq rfl) (hb hby at_188) (fun _ _ => ⟨rfl, e33, (by decide : 3 + 0 ≤ _), (by decide : 36 + 0 ≤ _)⟩)
    dsimp only [Pt.U, Pt.locs, Pt.cells, Pt.slots] at X34 l34 y34 z34 st34 hQ34
    replace y34 : k34 = 3 := y34
    replace z34 : n34 = 36 := z34
    subst y34 z34
    obtain ⟨rfl, Nq34, eq34⟩ := hQ34
    have N34 : Fr n0 L34 := by rw [l34]; exact Fr.app N33 Nq34
    obtain ⟨at34, hat34⟩ : ∃ z : Int32, z = (nar .byte (((((u5.toInt64).toUInt64 >>> (((8 : Int32) * (3 : Int32)) &&& 0x3f).toInt64.toUInt64).toInt64).toInt32).toInt8.toInt32)) := ⟨_, rfl⟩
    rw [← hat34] at st34
    obtain ⟨cl35, Ar35, q35, S35, M35, H35, G35⟩ := id V33q
    obtain ⟨T35, h35, X35, e35, W35, st35⟩ := stB X34 hx hZ eq34 Ar35 (j := (11 : Int32)) (inb_of S35 ⟨by decide, by decide⟩) (g := (mkF m 191 #[.val (.int u1), .val (.int u2), .val (.int u3), .val (.long u4), .second, .val (.int u5), .val (.int vf), .val (.ref sa5), .val (.int (4 : Int32)), .val (.int fr), .val (.int vl), .val (.ref b11), .unset, .unset, .unset, .unset] [(.int at34), (.int (11 : Int32)), (.ref b11)])) rfl rfl (hb hby at_191)
    have V35 := Arv.set Ar35 q35 S35 M35 H35 G35 (fits_nar_byte _) W35 11 rfl (Nat.le_of_ble_eq_true rfl)
    have N35 := Fr.snoc X35 N34 fr_b11
    have Z35 : n0 ≤ h35.size := Nat.le_trans Z33 (Keep.of_wr W35).1
    have kk35 : kc5 ≤ h35.size := Nat.le_trans kk33 (Keep.of_wr W35).1
    have Od35 : Old Z n0 h35 := Od33.wr W35 fr_b11
    obtain ⟨b35, hb_35⟩ : ∃ y : Int32, y = nar .byte at34 := ⟨_, rfl⟩
    have V35q : Arv Z h35 b11 k11 .byte (12 : Int32) [(.int b13), (.int b15), (.int b17), (.int b19), (.int b21), (.int b23), (.int b25), (.int b27), (.int b29), (.int b31), (.int b33), (.int b35)] (.int (0 : Int32)) := by rw [hb_35]; exact V35
    obtain ⟨xs0, hx0⟩ : ∃ y : List Int32, y = [b13, b15, b17, b19, b21, b23, b25, b27, b29, b31, b33, b35] := ⟨_, rfl⟩
    have V0x : Arv Z h35 b11 k11 .byte (12 : Int32) (xs0.map Value.int) (.int (0 : Int32)) := by rw [hx0]; exact V35q
    have L0x : xs0.length = 12 := by rw [hx0]; rfl
    obtain ⟨cq36, kq36, q36a, q36b, q36c⟩ := isOf hZ e35 (((((((((((((Ea5.ext E11).wr W13).wr W15).wr W17).wr W19).wr W21).wr W23).wr W25).wr W27).wr W29).wr W31).wr W33).wr W35)
    obtain ⟨_, _, ⟨T36, L36, k36, n36⟩, -, X36, ⟨Lc36, hQ36, l36, y36, z36⟩, st36⟩ := X35.virtualBack hx (y := (⟨"java/lang/String", "charAt", "(I)C"⟩ : MethodName)) (z := (⟨"java/lang/String", "charAt", "(I)C"⟩ : MethodName)) hown (mvT hZ (own_w hw 25 rfl)) (mvT hZ (own_w hw 26 rfl)) (notFace_of_selects (args := #[]) (mvT hZ (own_w hw 28 rfl))) (mvT hZ (own_w hw 28 rfl)) (mvT hZ (own_w hw 27 rfl)) (by decide) (backOf (W := 2) (rm_ch l Z a0 hw [] sa5 (0 : Int32) zc fm sb5 kb5 (4 : Int32) [(.int (116 : Int32)), (.int (114 : Int32)), (.int (117 : Int32)), (.int (101 : Int32))] (116 : Int32) h35 n0 Z35 (O2.ext Od35.2) hz (O4.ext Od35.2) rf (((((((((((((Ea5.ext E11).wr W13).wr W15).wr W17).wr W19).wr W21).wr W23).wr W25).wr W27).wr W29).wr W31).wr W33).wr W35) (Fld.other W35 (Fld.other W33 (Fld.other W31 (Fld.other W29 (Fld.other W27 (Fld.other W25 (Fld.other W23 (Fld.other W21 (Fld.other W19 (Fld.other W17 (Fld.other W15 (Fld.other W13 (Fc5.ext E11) (Or.inl ne_sa5_b11)) (Or.inl ne_sa5_b11)) (Or.inl ne_sa5_b11)) (Or.inl ne_sa5_b11)) (Or.inl ne_sa5_b11)) (Or.inl ne_sa5_b11)) (Or.inl ne_sa5_b11)) (Or.inl ne_sa5_b11)) (Or.inl ne_sa5_b11)) (Or.inl ne_sa5_b11)) (Or.inl ne_sa5_b11)) (Or.inl ne_sa5_b11)) (Fld.other W35 (Fld.other W33 (Fld.other W31 (Fld.other W29 (Fld.other W27 (Fld.other W25 (Fld.other W23 (Fld.other W21 (Fld.other W19 (Fld.other W17 (Fld.other W15 (Fld.other W13 (Fv5.ext E11) (Or.inl ne_sa5_b11)) (Or.inl ne_sa5_b11)) (Or.inl ne_sa5_b11)) (Or.inl ne_sa5_b11)) (Or.inl ne_sa5_b11)) (Or.inl ne_sa5_b11)) (Or.inl ne_sa5_b11)) (Or.inl ne_sa5_b11)) (Or.inl ne_sa5_b11)) (Or.inl ne_sa5_b11)) (Or.inl ne_sa5_b11)) (Or.inl ne_sa5_b11)) (((((((((((((Vb5.ext E11).other W13 ne_sb5_b11).other W15 ne_sb5_b11).other W17 ne_sb5_b11).other W19 ne_sb5_b11).other W21 ne_sb5_b11).other W23 ne_sb5_b11).other W25 ne_sb5_b11).other W27 ne_sb5_b11).other W29 ne_sb5_b11).other W31 ne_sb5_b11).other W33 ne_sb5_b11).other W35 ne_sb5_b11) ⟨by decide, by decide⟩ rfl) hZ (own_w hw 29 rfl) (own_w hw 1 rfl) (by decide) (by decide)) q36a q36c (g := (mkF m 199 #[.val (.int u1), .val (.int u2), .val (.int u3), .val (.long u4), .second, .val (.int u5), .val (.int vf), .val (.ref sa5), .val (.int (4 : Int32)), .val (.int fr), .val (.int vl), .val (.ref b11), .unset, .unset, .unset, .unset] [(.int (0 : Int32)), (.ref sa5), (.int fr), (.ref b11)])) rfl (by rw [hml]; rfl) (Steps.refl _) (argsL := [(.int (0 : Int32))]) (rest := [(.int fr), (.ref b11)]) (lenOf pd_181558 rfl) rfl (by show 2 * 0 + _ ≤ _; exact Nat.le_of_eq rfl) (hb hby at_199) (fun _ _ => ⟨rfl, e35, (by decide : 3 + 0 ≤ _), (by decide : 36 + 0 ≤ _)⟩)
    dsimp only [Pt.U, Pt.locs, Pt.cells, Pt.slots] at X36 l36 y36 z36 st36 hQ36
    replace y36 : k36 = 3 := y36
    replace z36 : n36 = 36 := z36
    subst y36 z36
    obtain ⟨rfl, Nq36, eq36⟩ := hQ36
    have N36 : Fr n0 L36 := by rw [l36]; exact Fr.app N35 Nq36
    obtain ⟨cl37, Ar37, q37, S37, M37, H37, G37⟩ := id V0x
    obtain ⟨T37, h37, X37, e37, W37, st37⟩ := stB X36 hx hZ eq36 Ar37 (j := fr) (inb_of S37 (own_fr0 hF)) (g := (mkF m 203 #[.val (.int u1), .val (.int u2), .val (.int u3), .val (.long u4), .second, .val (.int u5), .val (.int vf), .val (.ref sa5), .val (.int (4 : Int32)), .val (.int fr), .val (.int vl), .val (.ref b11), .unset, .unset, .unset, .unset] [(.int ((116 : Int32).toInt8.toInt32)), (.int fr), (.ref b11)])) rfl rfl (hb hby at_203)
    have V37 := Arv.set Ar37 q37 S37 M37 H37 G37 (fits_nar_byte _) W37 (fr).toNatClampNeg rfl (own_lt12 (own_fr0 hF) L0x)
    have N37 := Fr.snoc X37 N36 fr_b11
    have Z37 : n0 ≤ h37.size := Nat.le_trans Z35 (Keep.of_wr W37).1
    have kk37 : kc5 ≤ h37.size := Nat.le_trans kk35 (Keep.of_wr W37).1
    have Od37 : Old Z n0 h37 := Od35.wr W37 fr_b11
    obtain ⟨xs37, hx37⟩ : ∃ y : List Int32, y = xs0.set (fr).toNatClampNeg (116 : Int32) := ⟨_, rfl⟩
    have V37x : Arv Z h37 b11 k11 .byte (12 : Int32) (xs37.map Value.int) (.int (0 : Int32)) := by rw [hx37, List.map_set]; exact V37
    have L37x : xs37.length = 12 := by rw [hx37, List.length_set]; exact L0x
    obtain ⟨cq38, kq38, q38a, q38b, q38c⟩ := isOf hZ e37 ((((((((((((((Ea5.ext E11).wr W13).wr W15).wr W17).wr W19).wr W21).wr W23).wr W25).wr W27).wr W29).wr W31).wr W33).wr W35).wr W37)
    obtain ⟨_, _, ⟨T38, L38, k38, n38⟩, -, X38, ⟨Lc38, hQ38, l38, y38, z38⟩, st38⟩ := X37.virtualBack hx (y := (⟨"java/lang/String", "charAt", "(I)C"⟩ : MethodName)) (z := (⟨"java/lang/String", "charAt", "(I)C"⟩ : MethodName)) hown (mvT hZ (own_w hw 25 rfl)) (mvT hZ (own_w hw 26 rfl)) (notFace_of_selects (args := #[]) (mvT hZ (own_w hw 28 rfl))) (mvT hZ (own_w hw 28 rfl)) (mvT hZ (own_w hw 27 rfl)) (by decide) (backOf (W := 2) (rm_ch l Z a0 hw [] sa5 (1 : Int32) zc fm sb5 kb5 (4 : Int32) [(.int (116 : Int32)), (.int (114 : Int32)), (.int (117 : Int32)), (.int (101 : Int32))] (114 : Int32) h37 n0 Z37 (O2.ext Od37.2) hz (O4.ext Od37.2) rf ((((((((((((((Ea5.ext E11).wr W13).wr W15).wr W17).wr W19).wr W21).wr W23).wr W25).wr W27).wr W29).wr W31).wr W33).wr W35).wr W37) (Fld.other W37 (Fld.other W35 (Fld.other W33 (Fld.other W31 (Fld.other W29 (Fld.other W27 (Fld.other W25 (Fld.other W23 (Fld.other W21 (Fld.other W19 (Fld.other W17 (Fld.other W15 (Fld.other W13 (Fc5.ext E11) (Or.inl ne_sa5_b11)) (Or.inl ne_sa5_b11)) (Or.inl ne_sa5_b11)) (Or.inl ne_sa5_b11)) (Or.inl ne_sa5_b11)) (Or.inl ne_sa5_b11)) (Or.inl ne_sa5_b11)) (Or.inl ne_sa5_b11)) (Or.inl ne_sa5_b11)) (Or.inl ne_sa5_b11)) (Or.inl ne_sa5_b11)) (Or.inl ne_sa5_b11)) (Or.inl ne_sa5_b11)) (Fld.other W37 (Fld.other W35 (Fld.other W33 (Fld.other W31 (Fld.other W29 (Fld.other W27 (Fld.other W25 (Fld.other W23 (Fld.other W21 (Fld.other W19 (Fld.other W17 (Fld.other W15 (Fld.other W13 (Fv5.ext E11) (Or.inl ne_sa5_b11)) (Or.inl ne_sa5_b11)) (Or.inl ne_sa5_b11)) (Or.inl ne_sa5_b11)) (Or.inl ne_sa5_b11)) (Or.inl ne_sa5_b11)) (Or.inl ne_sa5_b11)) (Or.inl ne_sa5_b11)) (Or.inl ne_sa5_b11)) (Or.inl ne_sa5_b11)) (Or.inl ne_sa5_b11)) (Or.inl ne_sa5_b11)) (Or.inl ne_sa5_b11)) ((((((((((((((Vb5.ext E11).other W13 ne_sb5_b11).other W15 ne_sb5_b11).other W17 ne_sb5_b11).other W19 ne_sb5_b11).other W21 ne_sb5_b11).other W23 ne_sb5_b11).other W25 ne_sb5_b11).other W27 ne_sb5_b11).other W29 ne_sb5_b11).other W31 ne_sb5_b11).other W33 ne_sb5_b11).other W35 ne_sb5_b11).other W37 ne_sb5_b11) ⟨by decide, by decide⟩ rfl) hZ (own_w hw 29 rfl) (own_w hw 1 rfl) (by decide) (by decide)) q38a q38c (g := (mkF m 213 #[.val (.int u1), .val (.int u2), .val (.int u3), .val (.long u4), .second, .val (.int u5), .val (.int vf), .val (.ref sa5), .val (.int (4 : Int32)), .val (.int fr), .val (.int vl), .val (.ref b11), .unset, .unset, .unset, .unset] [(.int (1 : Int32)), (.ref sa5), (.int (fr + (1 : Int32))), (.ref b11)])) rfl (by rw [hml]; rfl) (Steps.refl _) (argsL := [(.int (1 : Int32))]) (rest := [(.int (fr + (1 : Int32))), (.ref b11)]) (lenOf pd_181558 rfl) rfl (by show 2 * 0 + _ ≤ _; exact Nat.le_of_eq rfl) (hb hby at_213) (fun _ _ => ⟨rfl, e37, (by decide : 3 + 0 ≤ _), (by decide : 36 + 0 ≤ _)⟩)
    dsimp only [Pt.U, Pt.locs, Pt.cells, Pt.slots] at X38 l38 y38 z38 st38 hQ38
    replace y38 : k38 = 3 := y38
    replace z38 : n38 = 36 := z38
    subst y38 z38
    obtain ⟨rfl, Nq38, eq38⟩ := hQ38
    have N38 : Fr n0 L38 := by rw [l38]; exact Fr.app N37 Nq38
    obtain ⟨cl39, Ar39, q39, S39, M39, H39, G39⟩ := id V37x
    obtain ⟨T39, h39, X39, e39, W39, st39⟩ := stB X38 hx hZ eq38 Ar39 (j := (fr + (1 : Int32))) (inb_of S39 (own_fr hF (1 : Int32) (by decide))) (g := (mkF m 217 #[.val (.int u1), .val (.int u2), .val (.int u3), .val (.long u4), .second, .val (.int u5), .val (.int vf), .val (.ref sa5), .val (.int (4 : Int32)), .val (.int fr), .val (.int vl), .val (.ref b11), .unset, .unset, .unset, .unset] [(.int ((114 : Int32).toInt8.toInt32)), (.int (fr + (1 : Int32))), (.ref b11)])) rfl rfl (hb hby at_217)
    have V39 := Arv.set Ar39 q39 S39 M39 H39 G39 (fits_nar_byte _) W39 ((fr + (1 : Int32))).toNatClampNeg rfl (own_lt12 (own_fr hF (1 : Int32) (by decide)) L37x)
    have N39 := Fr.snoc X39 N38 fr_b11
    have Z39 : n0 ≤ h39.size := Nat.le_trans Z37 (Keep.of_wr W39).1
    have kk39 : kc5 ≤ h39.size := Nat.le_trans kk37 (Keep.of_wr W39).1
    have Od39 : Old Z n0 h39 := Od37.wr W39 fr_b11
    obtain ⟨xs39, hx39⟩ : ∃ y : List Int32, y = xs37.set ((fr + (1 : Int32))).toNatClampNeg (114 : Int32) := ⟨_, rfl⟩
    have V39x : Arv Z h39 b11 k11 .byte (12 : Int32) (xs39.map Value.int) (.int (0 : Int32)) := by rw [hx39, List.map_set]; exact V39
    have L39x : xs39.length = 12 := by rw [hx39, List.length_set]; exact L37x
    obtain ⟨cq40, kq40, q40a, q40b, q40c⟩ := isOf hZ e39 (((((((((((((((Ea5.ext E11).wr W13).wr W15).wr W17).wr W19).wr W21).wr W23).wr W25).wr W27).wr W29).wr W31).wr W33).wr W35).wr W37).wr W39)
    obtain ⟨_, _, ⟨T40, L40, k40, n40⟩, -, X40, ⟨Lc40, hQ40, l40, y40, z40⟩, st40⟩ := X39.virtualBack hx (y := (⟨"java/lang/String", "charAt", "(I)C"⟩ : MethodName)) (z := (⟨"java/lang/String", "charAt", "(I)C"⟩ : MethodName)) hown (mvT hZ (own_w hw 25 rfl)) (mvT hZ (own_w hw 26 rfl)) (notFace_of_selects (args := #[]) (mvT hZ (own_w hw 28 rfl))) (mvT hZ (own_w hw 28 rfl)) (mvT hZ (own_w hw 27 rfl)) (by decide) (backOf (W := 2) (rm_ch l Z a0 hw [] sa5 (2 : Int32) zc fm sb5 kb5 (4 : Int32) [(.int (116 : Int32)), (.int (114 : Int32)), (.int (117 : Int32)), (.int (101 : Int32))] (117 : Int32) h39 n0 Z39 (O2.ext Od39.2) hz (O4.ext Od39.2) rf (((((((((((((((Ea5.ext E11).wr W13).wr W15).wr W17).wr W19).wr W21).wr W23).wr W25).wr W27).wr W29).wr W31).wr W33).wr W35).wr W37).wr W39) (Fld.other W39 (Fld.other W37 (Fld.other W35 (Fld.other W33 (Fld.other W31 (Fld.other W29 (Fld.other W27 (Fld.other W25 (Fld.other W23 (Fld.other W21 (Fld.other W19 (Fld.other W17 (Fld.other W15 (Fld.other W13 (Fc5.ext E11) (Or.inl ne_sa5_b11)) (Or.inl ne_sa5_b11)) (Or.inl ne_sa5_b11)) (Or.inl ne_sa5_b11)) (Or.inl ne_sa5_b11)) (Or.inl ne_sa5_b11)) (Or.inl ne_sa5_b11)) (Or.inl ne_sa5_b11)) (Or.inl ne_sa5_b11)) (Or.inl ne_sa5_b11)) (Or.inl ne_sa5_b11)) (Or.inl ne_sa5_b11)) (Or.inl ne_sa5_b11)) (Or.inl ne_sa5_b11)) (Fld.other W39 (Fld.other W37 (Fld.other W35 (Fld.other W33 (Fld.other W31 (Fld.other W29 (Fld.other W27 (Fld.other W25 (Fld.other W23 (Fld.other W21 (Fld.other W19 (Fld.other W17 (Fld.other W15 (Fld.other W13 (Fv5.ext E11) (Or.inl ne_sa5_b11)) (Or.inl ne_sa5_b11)) (Or.inl ne_sa5_b11)) (Or.inl ne_sa5_b11)) (Or.inl ne_sa5_b11)) (Or.inl ne_sa5_b11)) (Or.inl ne_sa5_b11)) (Or.inl ne_sa5_b11)) (Or.inl ne_sa5_b11)) (Or.inl ne_sa5_b11)) (Or.inl ne_sa5_b11)) (Or.inl ne_sa5_b11)) (Or.inl ne_sa5_b11)) (Or.inl ne_sa5_b11)) (((((((((((((((Vb5.ext E11).other W13 ne_sb5_b11).other W15 ne_sb5_b11).other W17 ne_sb5_b11).other W19 ne_sb5_b11).other W21 ne_sb5_b11).other W23 ne_sb5_b11).other W25 ne_sb5_b11).other W27 ne_sb5_b11).other W29 ne_sb5_b11).other W31 ne_sb5_b11).other W33 ne_sb5_b11).other W35 ne_sb5_b11).other W37 ne_sb5_b11).other W39 ne_sb5_b11) ⟨by decide, by decide⟩ rfl) hZ (own_w hw 29 rfl) (own_w hw 1 rfl) (by decide) (by decide)) q40a q40c (g := (mkF m 227 #[.val (.int u1), .val (.int u2), .val (.int u3), .val (.long u4), .second, .val (.int u5), .val (.int vf), .val (.ref sa5), .val (.int (4 : Int32)), .val (.int fr), .val (.int vl), .val (.ref b11), .unset, .unset, .unset, .unset] [(.int (2 : Int32)), (.ref sa5), (.int (fr + (2 : Int32))), (.ref b11)])) rfl (by rw [hml]; rfl) (Steps.refl _) (argsL := [(.int (2 : Int32))]) (rest := [(.int (fr + (2 : Int32))), (.ref b11)]) (lenOf pd_181558 rfl) rfl (by show 2 * 0 + _ ≤ _; exact Nat.le_of_eq rfl) (hb hby at_227) (fun _ _ => ⟨rfl, e39, (by decide : 3 + 0 ≤ _), (by decide : 36 + 0 ≤ _)⟩)
    dsimp only [Pt.U, Pt.locs, Pt.cells, Pt.slots] at X40 l40 y40 z40 st40 hQ40
    replace y40 : k40 = 3 := y40
    replace z40 : n40 = 36 := z40
    subst y40 z40
    obtain ⟨rfl, Nq40, eq40⟩ := hQ40
    have N40 : Fr n0 L40 := by rw [l40]; exact Fr.app N39 Nq40
    obtain ⟨cl41, Ar41, q41, S41, M41, H41, G41⟩ := id V39x
    obtain ⟨T41, h41, X41, e41, W41, st41⟩ := stB X40 hx hZ eq40 Ar41 (j := (fr + (2 : Int32))) (inb_of S41 (own_fr hF (2 : Int32) (by decide))) (g := (mkF m 231 #[.val (.int u1), .val (.int u2), .val (.int u3), .val (.long u4), .second, .val (.int u5), .val (.int vf), .val (.ref sa5), .val (.int (4 : Int32)), .val (.int fr), .val (.int vl), .val (.ref b11), .unset, .unset, .unset, .unset] [(.int ((117 : Int32).toInt8.toInt32)), (.int (fr + (2 : Int32))), (.ref b11)])) rfl rfl (hb hby at_231)
    have V41 := Arv.set Ar41 q41 S41 M41 H41 G41 (fits_nar_byte _) W41 ((fr + (2 : Int32))).toNatClampNeg rfl (own_lt12 (own_fr hF (2 : Int32) (by decide)) L39x)
    have N41 := Fr.snoc X41 N40 fr_b11
    have Z41 : n0 ≤ h41.size := Nat.le_trans Z39 (Keep.of_wr W41).1
    have kk41 : kc5 ≤ h41.size := Nat.le_trans kk39 (Keep.of_wr W41).1
    have Od41 : Old Z n0 h41 := Od39.wr W41 fr_b11
    obtain ⟨xs41, hx41⟩ : ∃ y : List Int32, y = xs39.set ((fr + (2 : Int32))).toNatClampNeg (117 : Int32) := ⟨_, rfl⟩
    have V41x : Arv Z h41 b11 k11 .byte (12 : Int32) (xs41.map Value.int) (.int (0 : Int32)) := by rw [hx41, List.map_set]; exact V41
    have L41x : xs41.length = 12 := by rw [hx41, List.length_set]; exact L39x
    obtain ⟨cq42, kq42, q42a, q42b, q42c⟩ := isOf hZ e41 ((((((((((((((((Ea5.ext E11).wr W13).wr W15).wr W17).wr W19).wr W21).wr W23).wr W25).wr W27).wr W29).wr W31).wr W33).wr W35).wr W37).wr W39).wr W41)
    obtain ⟨_, _, ⟨T42, L42, k42, n42⟩, -, X42, ⟨Lc42, hQ42, l42, y42, z42⟩, st42⟩ := X41.virtualBack hx (y := (⟨"java/lang/String", "charAt", "(I)C"⟩ : MethodName)) (z := (⟨"java/lang/String", "charAt", "(I)C"⟩ : MethodName)) hown (mvT hZ (own_w hw 25 rfl)) (mvT hZ (own_w hw 26 rfl)) (notFace_of_selects (args := #[]) (mvT hZ (own_w hw 28 rfl))) (mvT hZ (own_w hw 28 rfl)) (mvT hZ (own_w hw 27 rfl)) (by decide) (backOf (W := 2) (rm_ch l Z a0 hw [] sa5 (3 : Int32) zc fm sb5 kb5 (4 : Int32) [(.int (116 : Int32)), (.int (114 : Int32)), (.int (117 : Int32)), (.int (101 : Int32))] (101 : Int32) h41 n0 Z41 (O2.ext Od41.2) hz (O4.ext Od41.2) rf ((((((((((((((((Ea5.ext E11).wr W13).wr W15).wr W17).wr W19).wr W21).wr W23).wr W25).wr W27).wr W29).wr W31).wr W33).wr W35).wr W37).wr W39).wr W41) (Fld.other W41 (Fld.other W39 (Fld.other W37 (Fld.other W35 (Fld.other W33 (Fld.other W31 (Fld.other W29 (Fld.other W27 (Fld.other W25 (Fld.other W23 (Fld.other W21 (Fld.other W19 (Fld.other W17 (Fld.other W15 (Fld.other W13 (Fc5.ext E11) (Or.inl ne_sa5_b11)) (Or.inl ne_sa5_b11)) (Or.inl ne_sa5_b11)) (Or.inl ne_sa5_b11)) (Or.inl ne_sa5_b11)) (Or.inl ne_sa5_b11)) (Or.inl ne_sa5_b11)) (Or.inl ne_sa5_b11)) (Or.inl ne_sa5_b11)) (Or.inl ne_sa5_b11)) (Or.inl ne_sa5_b11)) (Or.inl ne_sa5_b11)) (Or.inl ne_sa5_b11)) (Or.inl ne_sa5_b11)) (Or.inl ne_sa5_b11)) (Fld.other W41 (Fld.other W39 (Fld.other W37 (Fld.other W35 (Fld.other W33 (Fld.other W31 (Fld.other W29 (Fld.other W27 (Fld.other W25 (Fld.other W23 (Fld.other W21 (Fld.other W19 (Fld.other W17 (Fld.other W15 (Fld.other W13 (Fv5.ext E11) (Or.inl ne_sa5_b11)) (Or.inl ne_sa5_b11)) (Or.inl ne_sa5_b11)) (Or.inl ne_sa5_b11)) (Or.inl ne_sa5_b11)) (Or.inl ne_sa5_b11)) (Or.inl ne_sa5_b11)) (Or.inl ne_sa5_b11)) (Or.inl ne_sa5_b11)) (Or.inl ne_sa5_b11)) (Or.inl ne_sa5_b11)) (Or.inl ne_sa5_b11)) (Or.inl ne_sa5_b11)) (Or.inl ne_sa5_b11)) (Or.inl ne_sa5_b11)) ((((((((((((((((Vb5.ext E11).other W13 ne_sb5_b11).other W15 ne_sb5_b11).other W17 ne_sb5_b11).other W19 ne_sb5_b11).other W21 ne_sb5_b11).other W23 ne_sb5_b11).other W25 ne_sb5_b11).other W27 ne_sb5_b11).other W29 ne_sb5_b11).other W31 ne_sb5_b11).other W33 ne_sb5_b11).other W35 ne_sb5_b11).other W37 ne_sb5_b11).other W39 ne_sb5_b11).other W41 ne_sb5_b11) ⟨by decide, by decide⟩ rfl) hZ (own_w hw 29 rfl) (own_w hw 1 rfl) (by decide) (by decide)) q42a q42c (g := (mkF m 241 #[.val (.int u1), .val (.int u2), .val (.int u3), .val (.long u4), .second, .val (.int u5), .val (.int vf), .val (.ref sa5), .val (.int (4 : Int32)), .val (.int fr), .val (.int vl), .val (.ref b11), .unset, .unset, .unset, .unset] [(.int (3 : Int32)), (.ref sa5), (.int (fr + (3 : Int32))), (.ref b11)])) rfl (by rw [hml]; rfl) (Steps.refl _) (argsL := [(.int (3 : Int32))]) (rest := [(.int (fr + (3 : Int32))), (.ref b11)]) (lenOf pd_181558 rfl) rfl (by show 2 * 0 + _ ≤ _; exact Nat.le_of_eq rfl) (hb hby at_241) (fun _ _ => ⟨rfl, e41, (by decide : 3 + 0 ≤ _), (by decide : 36 + 0 ≤ _)⟩)
    dsimp only [Pt.U, Pt.locs, Pt.cells, Pt.slots] at X42 l42 y42 z42 st42 hQ42
    replace y42 : k42 = 3 := y42
    replace z42 : n42 = 36 := z42
    subst y42 z42
    obtain ⟨rfl, Nq42, eq42⟩ := hQ42
    have N42 : Fr n0 L42 := by rw [l42]; exact Fr.app N41 Nq42
    obtain ⟨cl43, Ar43, q43, S43, M43, H43, G43⟩ := id V41x
    obtain ⟨T43, h43, X43, e43, W43, st43⟩ := stB X42 hx hZ eq42 Ar43 (j := (fr + (3 : Int32))) (inb_of S43 (own_fr hF (3 : Int32) (by decide))) (g := (mkF m 245 #[.val (.int u1), .val (.int u2), .val (.int u3), .val (.long u4), .second, .val (.int u5), .val (.int vf), .val (.ref sa5), .val (.int (4 : Int32)), .val (.int fr), .val (.int vl), .val (.ref b11), .unset, .unset, .unset, .unset] [(.int ((101 : Int32).toInt8.toInt32)), (.int (fr + (3 : Int32))), (.ref b11)])) rfl rfl (hb hby at_245)
    have V43 := Arv.set Ar43 q43 S43 M43 H43 G43 (fits_nar_byte _) W43 ((fr + (3 : Int32))).toNatClampNeg rfl (own_lt12 (own_fr hF (3 : Int32) (by decide)) L41x)
    have N43 := Fr.snoc X43 N42 fr_b11
    have Z43 : n0 ≤ h43.size := Nat.le_trans Z41 (Keep.of_wr W43).1
    have kk43 : kc5 ≤ h43.size := Nat.le_trans kk41 (Keep.of_wr W43).1
    have Od43 : Old Z n0 h43 := Od41.wr W43 fr_b11
    obtain ⟨xs43, hx43⟩ : ∃ y : List Int32, y = xs41.set ((fr + (3 : Int32))).toNatClampNeg (101 : Int32) := ⟨_, rfl⟩
    have V43x : Arv Z h43 b11 k11 .byte (12 : Int32) (xs43.map Value.int) (.int (0 : Int32)) := by rw [hx43, List.map_set]; exact V43
    have L43x : xs43.length = 12 := by rw [hx43, List.length_set]; exact L41x
    have pre44 : ∀ t, Steps p.tables e below (T43.setTop (mkF m 270 #[.val (.int u1), .val (.int u2), .val (.int u3), .val (.long u4), .second, .val (.int u5), .val (.int vf), .val (.ref sa5), .val (.int (4 : Int32)), .val (.int fr), .val (.int vl), .val (.ref b11), .unset, .unset, .unset, .unset] [(.int (u3 &&& (8 : Int32)))])) t → Steps p.tables e below (s₁.setTop (entryFrame m #[(.int u1), (.int u2), (.int u3), (.long u4), (.int u5)] maxLocals)) t := by
      intro t k
      refine pre10 t ?_
      show Steps p.tables e below (T6.setTop (mkF m 62 #[.val (.int u1), .val (.int u2), .val (.int u3), .val (.long u4), .second, .val (.int u5), .val (.int vf), .val (.ref sa5), .val (.int (4 : Int32)), .val (.int fr), .val (.int vl), .unset, .unset, .unset, .unset, .unset] [])) _
      refine XS.bipush X6.here hx rfl (hb hby at_62) ?_
      show Steps p.tables e below (T6.setTop (mkF m 64 #[.val (.int u1), .val (.int u2), .val (.int u3), .val (.long u4), .second, .val (.int u5), .val (.int vf), .val (.ref sa5), .val (.int (4 : Int32)), .val (.int fr), .val (.int vl), .unset, .unset, .unset, .unset, .unset] [(.int (12 : Int32))])) _
      refine st11 _ ?_
      show Steps p.tables e below (T11.setTop (mkF m 66 #[.val (.int u1), .val (.int u2), .val (.int u3), .val (.long u4), .second, .val (.int u5), .val (.int vf), .val (.ref sa5), .val (.int (4 : Int32)), .val (.int fr), .val (.int vl), .unset, .unset, .unset, .unset, .unset] [(.ref b11)])) _
      refine XS.astore X11.here hx rfl (hb hby at_66) rfl rfl (l' := #[.val (.int u1), .val (.int u2), .val (.int u3), .val (.long u4), .second, .val (.int u5), .val (.int vf), .val (.ref sa5), .val (.int (4 : Int32)), .val (.int fr), .val (.int vl), .val (.ref b11), .unset, .unset, .unset, .unset]) rfl ?_
      show Steps p.tables e below (T11.setTop (mkF m 68 #[.val (.int u1), .val (.int u2), .val (.int u3), .val (.long u4), .second, .val (.int u5), .val (.int vf), .val (.ref sa5), .val (.int (4 : Int32)), .val (.int fr), .val (.int vl), .val (.ref b11), .unset, .unset, .unset, .unset] [])) _
      refine XS.aload X11.here hx rfl (hb hby at_68) rfl rfl ?_
      show Steps p.tables e below (T11.setTop (mkF m 70 #[.val (.int u1), .val (.int u2), .val (.int u3), .val (.long u4), .second, .val (.int u5), .val (.int vf), .val (.ref sa5), .val (.int (4 : Int32)), .val (.int fr), .val (.int vl), .val (.ref b11), .unset, .unset, .unset, .unset] [(.ref b11)])) _
      refine XS.iconst X11.here hx rfl (hb hby at_70) ?_
      show Steps p.tables e below (T11.setTop (mkF m 71 #[.val (.int u1), .val (.int u2), .val (.int u3), .val (.long u4), .second, .val (.int u5), .val (.int vf), .val (.ref sa5), .val (.int (4 : Int32)), .val (.int fr), .val (.int vl), .val (.ref b11), .unset, .unset, .unset, .unset] [(.int (0 : Int32)), (.ref b11)])) _
      refine XS.lloadN X11.here hx rfl (hb hby at_71) rfl ?_
      show Steps p.tables e below (T11.setTop (mkF m 72 #[.val (.int u1), .val (.int u2), .val (.int u3), .val (.long u4), .second, .val (.int u5), .val (.int vf), .val (.ref sa5), .val (.int (4 : Int32)), .val (.int fr), .val (.int vl), .val (.ref b11), .unset, .unset, .unset, .unset] [(.long u4), (.int (0 : Int32)), (.ref b11)])) _
      refine XS.iconst X11.here hx rfl (hb hby at_72) ?_
      show Steps p.tables e below (T11.setTop (mkF m 73 #[.val (.int u1), .val (.int u2), .val (.int u3), .val (.long u4), .second, .val (.int u5), .val (.int vf), .val (.ref sa5), .val (.int (4 : Int32)), .val (.int fr), .val (.int vl), .val (.ref b11), .unset, .unset, .unset, .unset] [(.int (0 : Int32)), (.long u4), (.int (0 : Int32)), (.ref b11)])) _
      refine st12 _ ?_
      show Steps p.tables e below (T12.setTop (mkF m 76 #[.val (.int u1), .val (.int u2), .val (.int u3), .val (.long u4), .second, .val (.int u5), .val (.int vf), .val (.ref sa5), .val (.int (4 : Int32)), .val (.int fr), .val (.int vl), .val (.ref b11), .unset, .unset, .unset, .unset] [(.int at12), (.int (0 : Int32)), (.ref b11)])) _
      refine st13 _ ?_
      show Steps p.tables e below (T13.setTop (mkF m 77 #[.val (.int u1), .val (.int u2), .val (.int u3), .val (.long u4), .second, .val (.int u5), .val (.int vf), .val (.ref sa5), .val (.int (4 : Int32)), .val (.int fr), .val (.int vl), .val (.ref b11), .unset, .unset, .unset, .unset] [])) _
      refine XS.aload X13.here hx rfl (hb hby at_77) rfl rfl ?_
      show Steps p.tables e below (T13.setTop (mkF m 79 #[.val (.int u1), .val (.int u2), .val (.int u3), .val (.long u4), .second, .val (.int u5), .val (.int vf), .val (.ref sa5), .val (.int (4 : Int32)), .val (.int fr), .val (.int vl), .val (.ref b11), .unset, .unset, .unset, .unset] [(.ref b11)])) _
      refine XS.iconst X13.here hx rfl (hb hby at_79) ?_
      show Steps p.tables e below (T13.setTop (mkF m 80 #[.val (.int u1), .val (.int u2), .val (.int u3), .val (.long u4), .second, .val (.int u5), .val (.int vf), .val (.ref sa5), .val (.int (4 : Int32)), .val (.int fr), .val (.int vl), .val (.ref b11), .unset, .unset, .unset, .unset] [(.int (1 : Int32)), (.ref b11)])) _
      refine XS.lloadN X13.here hx rfl (hb hby at_80) rfl ?_
      show Steps p.tables e below (T13.setTop (mkF m 81 #[.val (.int u1), .val (.int u2), .val (.int u3), .val (.long u4), .second, .val (.int u5), .val (.int vf), .val (.ref sa5), .val (.int (4 : Int32)), .val (.int fr), .val (.int vl), .val (.ref b11), .unset, .unset, .unset, .unset] [(.long u4), (.int (1 : Int32)), (.ref b11)])) _
      refine XS.iconst X13.here hx rfl (hb hby at_81) ?_
      show Steps p.tables e below (T13.setTop (mkF m 82 #[.val (.int u1), .val (.int u2), .val (.int u3), .val (.long u4), .second, .val (.int u5), .val (.int vf), .val (.ref sa5), .val (.int (4 : Int32)), .val (.int fr), .val (.int vl), .val (.ref b11), .unset, .unset, .unset, .unset] [(.int (1 : Int32)), (.long u4), (.int (1 : Int32)), (.ref b11)])) _
      refine st14 _ ?_
      show Steps p.tables e below (T14.setTop (mkF m 85 #[.val (.int u1), .val (.int u2), .val (.int u3), .val (.long u4), .second, .val (.int u5), .val (.int vf), .val (.ref sa5), .val (.int (4 : Int32)), .val (.int fr), .val (.int vl), .val (.ref b11), .unset, .unset, .unset, .unset] [(.int at14), (.int (1 : Int32)), (.ref b11)])) _
      refine st15 _ ?_
      show Steps p.tables e below (T15.setTop (mkF m 86 #[.val (.int u1), .val (.int u2), .val (.int u3), .val (.long u4), .second, .val (.int u5), .val (.int vf), .val (.ref sa5), .val (.int (4 : Int32)), .val (.int fr), .val (.int vl), .val (.ref b11), .unset, .unset, .unset, .unset] [])) _
      refine XS.aload X15.here hx rfl (hb hby at_86) rfl rfl ?_
      show Steps p.tables e below (T15.setTop (mkF m 88 #[.val (.int u1), .val (.int u2), .val (.int u3), .val (.long u4), .second, .val (.int u5), .val (.int vf), .val (.ref sa5), .val (.int (4 : Int32)), .val (.int fr), .val (.int vl), .val (.ref b11), .unset, .unset, .unset, .unset] [(.ref b11)])) _
      refine XS.iconst X15.here hx rfl (hb hby at_88) ?_
      show Steps p.tables e below (T15.setTop (mkF m 89 #[.val (.int u1), .val (.int u2), .val (.int u3), .val (.long u4), .second, .val (.int u5), .val (.int vf), .val (.ref sa5), .val (.int (4 : Int32)), .val (.int fr), .val (.int vl), .val (.ref b11), .unset, .unset, .unset, .unset] [(.int (2 : Int32)), (.ref b11)])) _
      refine XS.lloadN X15.here hx rfl (hb hby at_89) rfl ?_
      show Steps p.tables e below (T15.setTop (mkF m 90 #[.val (.int u1), .val (.int u2), .val (.int u3), .val (.long u4), .second, .val (.int u5), .val (.int vf), .val (.ref sa5), .val (.int (4 : Int32)), .val (.int fr), .val (.int vl), .val (.ref b11), .unset, .unset, .unset, .unset] [(.long u4), (.int (2 : Int32)), (.ref b11)])) _
      refine XS.iconst X15.here hx rfl (hb hby at_90) ?_
      show Steps p.tables e below (T15.setTop (mkF m 91 #[.val (.int u1), .val (.int u2), .val (.int u3), .val (.long u4), .second, .val (.int u5), .val (.int vf), .val (.ref sa5), .val (.int (4 : Int32)), .val (.int fr), .val (.int vl), .val (.ref b11), .unset, .unset, .unset, .unset] [(.int (2 : Int32)), (.long u4), (.int (2 : Int32)), (.ref b11)])) _
      refine st16 _ ?_
      show Steps p.tables e below (T16.setTop (mkF m 94 #[.val (.int u1), .val (.int u2), .val (.int u3), .val (.long u4), .second, .val (.int u5), .val (.int vf), .val (.ref sa5), .val (.int (4 : Int32)), .val (.int fr), .val (.int vl), .val (.ref b11), .unset, .unset, .unset, .unset] [(.int at16), (.int (2 : Int32)), (.ref b11)])) _
      refine st17 _ ?_
      show Steps p.tables e below (T17.setTop (mkF m 95 #[.val (.int u1), .val (.int u2), .val (.int u3), .val (.long u4), .second, .val (.int u5), .val (.int vf), .val (.ref sa5), .val (.int (4 : Int32)), .val (.int fr), .val (.int vl), .val (.ref b11), .unset, .unset, .unset, .unset] [])) _
      refine XS.aload X17.here hx rfl (hb hby at_95) rfl rfl ?_
      show Steps p.tables e below (T17.setTop (mkF m 97 #[.val (.int u1), .val (.int u2), .val (.int u3), .val (.long u4), .second, .val (.int u5), .val (.int vf), .val (.ref sa5), .val (.int (4 : Int32)), .val (.int fr), .val (.int vl), .val (.ref b11), .unset, .unset, .unset, .unset] [(.ref b11)])) _
      refine XS.iconst X17.here hx rfl (hb hby at_97) ?_
      show Steps p.tables e below (T17.setTop (mkF m 98 #[.val (.int u1), .val (.int u2), .val (.int u3), .val (.long u4), .second, .val (.int u5), .val (.int vf), .val (.ref sa5), .val (.int (4 : Int32)), .val (.int fr), .val (.int vl), .val (.ref b11), .unset, .unset, .unset, .unset] [(.int (3 : Int32)), (.ref b11)])) _
      refine XS.lloadN X17.here hx rfl (hb hby at_98) rfl ?_
      show Steps p.tables e below (T17.setTop (mkF m 99 #[.val (.int u1), .val (.int u2), .val (.int u3), .val (.long u4), .second, .val (.int u5), .val (.int vf), .val (.ref sa5), .val (.int (4 : Int32)), .val (.int fr), .val (.int vl), .val (.ref b11), .unset, .unset, .unset, .unset] [(.long u4), (.int (3 : Int32)), (.ref b11)])) _
      refine XS.iconst X17.here hx rfl (hb hby at_99) ?_
      show Steps p.tables e below (T17.setTop (mkF m 100 #[.val (.int u1), .val (.int u2), .val (.int u3), .val (.long u4), .second, .val (.int u5), .val (.int vf), .val (.ref sa5), .val (.int (4 : Int32)), .val (.int fr), .val (.int vl), .val (.ref b11), .unset, .unset, .unset, .unset] [(.int (3 : Int32)), (.long u4), (.int (3 : Int32)), (.ref b11)])) _
      refine st18 _ ?_
      show Steps p.tables e below (T18.setTop (mkF m 103 #[.val (.int u1), .val (.int u2), .val (.int u3), .val (.long u4), .second, .val (.int u5), .val (.int vf), .val (.ref sa5), .val (.int (4 : Int32)), .val (.int fr), .val (.int vl), .val (.ref b11), .unset, .unset, .unset, .unset] [(.int at18), (.int (3 : Int32)), (.ref b11)])) _
      refine st19 _ ?_
      show Steps p.tables e below (T19.setTop (mkF m 104 #[.val (.int u1), .val (.int u2), .val (.int u3), .val (.long u4), .second, .val (.int u5), .val (.int vf), .val (.ref sa5), .val (.int (4 : Int32)), .val (.int fr), .val (.int vl), .val (.ref b11), .unset, .unset, .unset, .unset] [])) _
      refine XS.aload X19.here hx rfl (hb hby at_104) rfl rfl ?_
      show Steps p.tables e below (T19.setTop (mkF m 106 #[.val (.int u1), .val (.int u2), .val (.int u3), .val (.long u4), .second, .val (.int u5), .val (.int vf), .val (.ref sa5), .val (.int (4 : Int32)), .val (.int fr), .val (.int vl), .val (.ref b11), .unset, .unset, .unset, .unset] [(.ref b11)])) _
      refine XS.iconst X19.here hx rfl (hb hby at_106) ?_
      show Steps p.tables e below (T19.setTop (mkF m 107 #[.val (.int u1), .val (.int u2), .val (.int u3), .val (.long u4), .second, .val (.int u5), .val (.int vf), .val (.ref sa5), .val (.int (4 : Int32)), .val (.int fr), .val (.int vl), .val (.ref b11), .unset, .unset, .unset, .unset] [(.int (4 : Int32)), (.ref b11)])) _
      refine XS.lloadN X19.here hx rfl (hb hby at_107) rfl ?_
      show Steps p.tables e below (T19.setTop (mkF m 108 #[.val (.int u1), .val (.int u2), .val (.int u3), .val (.long u4), .second, .val (.int u5), .val (.int vf), .val (.ref sa5), .val (.int (4 : Int32)), .val (.int fr), .val (.int vl), .val (.ref b11), .unset, .unset, .unset, .unset] [(.long u4), (.int (4 : Int32)), (.ref b11)])) _
      refine XS.iconst X19.here hx rfl (hb hby at_108) ?_
      show Steps p.tables e below (T19.setTop (mkF m 109 #[.val (.int u1), .val (.int u2), .val (.int u3), .val (.long u4), .second, .val (.int u5), .val (.int vf), .val (.ref sa5), .val (.int (4 : Int32)), .val (.int fr), .val (.int vl), .val (.ref b11), .unset, .unset, .unset, .unset] [(.int (4 : Int32)), (.long u4), (.int (4 : Int32)), (.ref b11)])) _
      refine st20 _ ?_
      show Steps p.tables e below (T20.setTop (mkF m 112 #[.val (.int u1), .val (.int u2), .val (.int u3), .val (.long u4), .second, .val (.int u5), .val (.int vf), .val (.ref sa5), .val (.int (4 : Int32)), .val (.int fr), .val (.int vl), .val (.ref b11), .unset, .unset, .unset, .unset] [(.int at20), (.int (4 : Int32)), (.ref b11)])) _
      refine st21 _ ?_
      show Steps p.tables e below (T21.setTop (mkF m 113 #[.val (.int u1), .val (.int u2), .val (.int u3), .val (.long u4), .second, .val (.int u5), .val (.int vf), .val (.ref sa5), .val (.int (4 : Int32)), .val (.int fr), .val (.int vl), .val (.ref b11), .unset, .unset, .unset, .unset] [])) _
      refine XS.aload X21.here hx rfl (hb hby at_113) rfl rfl ?_
      show Steps p.tables e below (T21.setTop (mkF m 115 #[.val (.int u1), .val (.int u2), .val (.int u3), .val (.long u4), .second, .val (.int u5), .val (.int vf), .val (.ref sa5), .val (.int (4 : Int32)), .val (.int fr), .val (.int vl), .val (.ref b11), .unset, .unset, .unset, .unset] [(.ref b11)])) _
      refine XS.iconst X21.here hx rfl (hb hby at_115) ?_
      show Steps p.tables e below (T21.setTop (mkF m 116 #[.val (.int u1), .val (.int u2), .val (.int u3), .val (.long u4), .second, .val (.int u5), .val (.int vf), .val (.ref sa5), .val (.int (4 : Int32)), .val (.int fr), .val (.int vl), .val (.ref b11), .unset, .unset, .unset, .unset] [(.int (5 : Int32)), (.ref b11)])) _
      refine XS.lloadN X21.here hx rfl (hb hby at_116) rfl ?_
      show Steps p.tables e below (T21.setTop (mkF m 117 #[.val (.int u1), .val (.int u2), .val (.int u3), .val (.long u4), .second, .val (.int u5), .val (.int vf), .val (.ref sa5), .val (.int (4 : Int32)), .val (.int fr), .val (.int vl), .val (.ref b11), .unset, .unset, .unset, .unset] [(.long u4), (.int (5 : Int32)), (.ref b11)])) _
      refine XS.iconst X21.here hx rfl (hb hby at_117) ?_
      show Steps p.tables e below (T21.setTop (mkF m 118 #[.val (.int u1), .val (.int u2), .val (.int u3), .val (.long u4), .second, .val (.int u5), .val (.int vf), .val (.ref sa5), .val (.int (4 : Int32)), .val (.int fr), .val (.int vl), .val (.ref b11), .unset, .unset, .unset, .unset] [(.int (5 : Int32)), (.long u4), (.int (5 : Int32)), (.ref b11)])) _
      refine st22 _ ?_
      show Steps p.tables e below (T22.setTop (mkF m 121 #[.val (.int u1), .val (.int u2), .val (.int u3), .val (.long u4), .second, .val (.int u5), .val (.int vf), .val (.ref sa5), .val (.int (4 : Int32)), .val (.int fr), .val (.int vl), .val (.ref b11), .unset, .unset, .unset, .unset] [(.int at22), (.int (5 : Int32)), (.ref b11)])) _
      refine st23 _ ?_
      show Steps p.tables e below (T23.setTop (mkF m 122 #[.val (.int u1), .val (.int u2), .val (.int u3), .val (.long u4), .second, .val (.int u5), .val (.int vf), .val (.ref sa5), .val (.int (4 : Int32)), .val (.int fr), .val (.int vl), .val (.ref b11), .unset, .unset, .unset, .unset] [])) _
      refine XS.aload X23.here hx rfl (hb hby at_122) rfl rfl ?_
      show Steps p.tables e below (T23.setTop (mkF m 124 #[.val (.int u1), .val (.int u2), .val (.int u3), .val (.long u4), .second, .val (.int u5), .val (.int vf), .val (.ref sa5), .val (.int (4 : Int32)), .val (.int fr), .val (.int vl), .val (.ref b11), .unset, .unset, .unset, .unset] [(.ref b11)])) _
      refine XS.bipush X23.here hx rfl (hb hby at_124) ?_
      show Steps p.tables e below (T23.setTop (mkF m 126 #[.val (.int u1), .val (.int u2), .val (.int u3), .val (.long u4), .second, .val (.int u5), .val (.int vf), .val (.ref sa5), .val (.int (4 : Int32)), .val (.int fr), .val (.int vl), .val (.ref b11), .unset, .unset, .unset, .unset] [(.int (6 : Int32)), (.ref b11)])) _
      refine XS.lloadN X23.here hx rfl (hb hby at_126) rfl ?_
      show Steps p.tables e below (T23.setTop (mkF m 127 #[.val (.int u1), .val (.int u2), .val (.int u3), .val (.long u4), .second, .val (.int u5), .val (.int vf), .val (.ref sa5), .val (.int (4 : Int32)), .val (.int fr), .val (.int vl), .val (.ref b11), .unset, .unset, .unset, .unset] [(.long u4), (.int (6 : Int32)), (.ref b11)])) _
      refine XS.bipush X23.here hx rfl (hb hby at_127) ?_
      show Steps p.tables e below (T23.setTop (mkF m 129 #[.val (.int u1), .val (.int u2), .val (.int u3), .val (.long u4), .second, .val (.int u5), .val (.int vf), .val (.ref sa5), .val (.int (4 : Int32)), .val (.int fr), .val (.int vl), .val (.ref b11), .unset, .unset, .unset, .unset] [(.int (6 : Int32)), (.long u4), (.int (6 : Int32)), (.ref b11)])) _
      refine st24 _ ?_
      show Steps p.tables e below (T24.setTop (mkF m 132 #[.val (.int u1), .val (.int u2), .val (.int u3), .val (.long u4), .second, .val (.int u5), .val (.int vf), .val (.ref sa5), .val (.int (4 : Int32)), .val (.int fr), .val (.int vl), .val (.ref b11), .unset, .unset, .unset, .unset] [(.int at24), (.int (6 : Int32)), (.ref b11)])) _
      refine st25 _ ?_
      show Steps p.tables e below (T25.setTop (mkF m 133 #[.val (.int u1), .val (.int u2), .val (.int u3), .val (.long u4), .second, .val (.int u5), .val (.int vf), .val (.ref sa5), .val (.int (4 : Int32)), .val (.int fr), .val (.int vl), .val (.ref b11), .unset, .unset, .unset, .unset] [])) _
      refine XS.aload X25.here hx rfl (hb hby at_133) rfl rfl ?_
      show Steps p.tables e below (T25.setTop (mkF m 135 #[.val (.int u1), .val (.int u2), .val (.int u3), .val (.long u4), .second, .val (.int u5), .val (.int vf), .val (.ref sa5), .val (.int (4 : Int32)), .val (.int fr), .val (.int vl), .val (.ref b11), .unset, .unset, .unset, .unset] [(.ref b11)])) _
      refine XS.bipush X25.here hx rfl (hb hby at_135) ?_
      show Steps p.tables e below (T25.setTop (mkF m 137 #[.val (.int u1), .val (.int u2), .val (.int u3), .val (.long u4), .second, .val (.int u5), .val (.int vf), .val (.ref sa5), .val (.int (4 : Int32)), .val (.int fr), .val (.int vl), .val (.ref b11), .unset, .unset, .unset, .unset] [(.int (7 : Int32)), (.ref b11)])) _
      refine XS.lloadN X25.here hx rfl (hb hby at_137) rfl ?_
      show Steps p.tables e below (T25.setTop (mkF m 138 #[.val (.int u1), .val (.int u2), .val (.int u3), .val (.long u4), .second, .val (.int u5), .val (.int vf), .val (.ref sa5), .val (.int (4 : Int32)), .val (.int fr), .val (.int vl), .val (.ref b11), .unset, .unset, .unset, .unset] [(.long u4), (.int (7 : Int32)), (.ref b11)])) _
      refine XS.bipush X25.here hx rfl (hb hby at_138) ?_
      show Steps p.tables e below (T25.setTop (mkF m 140 #[.val (.int u1), .val (.int u2), .val (.int u3), .val (.long u4), .second, .val (.int u5), .val (.int vf), .val (.ref sa5), .val (.int (4 : Int32)), .val (.int fr), .val (.int vl), .val (.ref b11), .unset, .unset, .unset, .unset] [(.int (7 : Int32)), (.long u4), (.int (7 : Int32)), (.ref b11)])) _
      refine st26 _ ?_
      show Steps p.tables e below (T26.setTop (mkF m 143 #[.val (.int u1), .val (.int u2), .val (.int u3), .val (.long u4), .second, .val (.int u5), .val (.int vf), .val (.ref sa5), .val (.int (4 : Int32)), .val (.int fr), .val (.int vl), .val (.ref b11), .unset, .unset, .unset, .unset] [(.int at26), (.int (7 : Int32)), (.ref b11)])) _
      refine st27 _ ?_
      show Steps p.tables e below (T27.setTop (mkF m 144 #[.val (.int u1), .val (.int u2), .val (.int u3), .val (.long u4), .second, .val (.int u5), .val (.int vf), .val (.ref sa5), .val (.int (4 : Int32)), .val (.int fr), .val (.int vl), .val (.ref b11), .unset, .unset, .unset, .unset] [])) _
      refine XS.aload X27.here hx rfl (hb hby at_144) rfl rfl ?_
      show Steps p.tables e below (T27.setTop (mkF m 146 #[.val (.int u1), .val (.int u2), .val (.int u3), .val (.long u4), .second, .val (.int u5), .val (.int vf), .val (.ref sa5), .val (.int (4 : Int32)), .val (.int fr), .val (.int vl), .val (.ref b11), .unset, .unset, .unset, .unset] [(.ref b11)])) _
      refine XS.bipush X27.here hx rfl (hb hby at_146) ?_
      show Steps p.tables e below (T27.setTop (mkF m 148 #[.val (.int u1), .val (.int u2), .val (.int u3), .val (.long u4), .second, .val (.int u5), .val (.int vf), .val (.ref sa5), .val (.int (4 : Int32)), .val (.int fr), .val (.int vl), .val (.ref b11), .unset, .unset, .unset, .unset] [(.int (8 : Int32)), (.ref b11)])) _
      refine XS.iload X27.here hx rfl (hb hby at_148) rfl ?_
      show Steps p.tables e below (T27.setTop (mkF m 150 #[.val (.int u1), .val (.int u2), .val (.int u3), .val (.long u4), .second, .val (.int u5), .val (.int vf), .val (.ref sa5), .val (.int (4 : Int32)), .val (.int fr), .val (.int vl), .val (.ref b11), .unset, .unset, .unset, .unset] [(.int u5), (.int (8 : Int32)), (.ref b11)])) _
      refine XS.i2l X27.here hx rfl (hb hby at_150) rfl ?_
      show Steps p.tables e below (T27.setTop (mkF m 151 #[.val (.int u1), .val (.int u2), .val (.int u3), .val (.long u4), .second, .val (.int u5), .val (.int vf), .val (.ref sa5), .val (.int (4 : Int32)), .val (.int fr), .val (.int vl), .val (.ref b11), .unset, .unset, .unset, .unset] [(.long (u5.toInt64)), (.int (8 : Int32)), (.ref b11)])) _
      refine XS.iconst X27.here hx rfl (hb hby at_151) ?_
      show Steps p.tables e below (T27.setTop (mkF m 152 #[.val (.int u1), .val (.int u2), .val (.int u3), .val (.long u4), .second, .val (.int u5), .val (.int vf), .val (.ref sa5), .val (.int (4 : Int32)), .val (.int fr), .val (.int vl), .val (.ref b11), .unset, .unset, .unset, .unset] [(.int (0 : Int32)), (.long (u5.toInt64)), (.int (8 : Int32)), (.ref b11)])) _
      refine st28 _ ?_
      show Steps p.tables e below (T28.setTop (mkF m 155 #[.val (.int u1), .val (.int u2), .val (.int u3), .val (.long u4), .second, .val (.int u5), .val (.int vf), .val (.ref sa5), .val (.int (4 : Int32)), .val (.int fr), .val (.int vl), .val (.ref b11), .unset, .unset, .unset, .unset] [(.int at28), (.int (8 : Int32)), (.ref b11)])) _
      refine st29 _ ?_
      show Steps p.tables e below (T29.setTop (mkF m 156 #[.val (.int u1), .val (.int u2), .val (.int u3), .val (.long u4), .second, .val (.int u5), .val (.int vf), .val (.ref sa5), .val (.int (4 : Int32)), .val (.int fr), .val (.int vl), .val (.ref b11), .unset, .unset, .unset, .unset] [])) _
      refine XS.aload X29.here hx rfl (hb hby at_156) rfl rfl ?_
      show Steps p.tables e below (T29.setTop (mkF m 158 #[.val (.int u1), .val (.int u2), .val (.int u3), .val (.long u4), .second, .val (.int u5), .val (.int vf), .val (.ref sa5), .val (.int (4 : Int32)), .val (.int fr), .val (.int vl), .val (.ref b11), .unset, .unset, .unset, .unset] [(.ref b11)])) _
      refine XS.bipush X29.here hx rfl (hb hby at_158) ?_
      show Steps p.tables e below (T29.setTop (mkF m 160 #[.val (.int u1), .val (.int u2), .val (.int u3), .val (.long u4), .second, .val (.int u5), .val (.int vf), .val (.ref sa5), .val (.int (4 : Int32)), .val (.int fr), .val (.int vl), .val (.ref b11), .unset, .unset, .unset, .unset] [(.int (9 : Int32)), (.ref b11)])) _
      refine XS.iload X29.here hx rfl (hb hby at_160) rfl ?_
      show Steps p.tables e below (T29.setTop (mkF m 162 #[.val (.int u1), .val (.int u2), .val (.int u3), .val (.long u4), .second, .val (.int u5), .val (.int vf), .val (.ref sa5), .val (.int (4 : Int32)), .val (.int fr), .val (.int vl), .val (.ref b11), .unset, .unset, .unset, .unset] [(.int u5), (.int (9 : Int32)), (.ref b11)])) _
      refine XS.i2l X29.here hx rfl (hb hby at_162) rfl ?_
      show Steps p.tables e below (T29.setTop (mkF m 163 #[.val (.int u1), .val (.int u2), .val (.int u3), .val (.long u4), .second, .val (.int u5), .val (.int vf), .val (.ref sa5), .val (.int (4 : Int32)), .val (.int fr), .val (.int vl), .val (.ref b11), .unset, .unset, .unset, .unset] [(.long (u5.toInt64)), (.int (9 : Int32)), (.ref b11)])) _
      refine XS.iconst X29.here hx rfl (hb hby at_163) ?_
      show Steps p.tables e below (T29.setTop (mkF m 164 #[.val (.int u1), .val (.int u2), .val (.int u3), .val (.long u4), .second, .val (.int u5), .val (.int vf), .val (.ref sa5), .val (.int (4 : Int32)), .val (.int fr), .val (.int vl), .val (.ref b11), .unset, .unset, .unset, .unset] [(.int (1 : Int32)), (.long (u5.toInt64)), (.int (9 : Int32)), (.ref b11)])) _
      refine st30 _ ?_
      show Steps p.tables e below (T30.setTop (mkF m 167 #[.val (.int u1), .val (.int u2), .val (.int u3), .val (.long u4), .second, .val (.int u5), .val (.int vf), .val (.ref sa5), .val (.int (4 : Int32)), .val (.int fr), .val (.int vl), .val (.ref b11), .unset, .unset, .unset, .unset] [(.int at30), (.int (9 : Int32)), (.ref b11)])) _
      refine st31 _ ?_
      show Steps p.tables e below (T31.setTop (mkF m 168 #[.val (.int u1), .val (.int u2), .val (.int u3), .val (.long u4), .second, .val (.int u5), .val (.int vf), .val (.ref sa5), .val (.int (4 : Int32)), .val (.int fr), .val (.int vl), .val (.ref b11), .unset, .unset, .unset, .unset] [])) _
      refine XS.aload X31.here hx rfl (hb hby at_168) rfl rfl ?_
      show Steps p.tables e below (T31.setTop (mkF m 170 #[.val (.int u1), .val (.int u2), .val (.int u3), .val (.long u4), .second, .val (.int u5), .val (.int vf), .val (.ref sa5), .val (.int (4 : Int32)), .val (.int fr), .val (.int vl), .val (.ref b11), .unset, .unset, .unset, .unset] [(.ref b11)])) _
      refine XS.bipush X31.here hx rfl (hb hby at_170) ?_
      show Steps p.tables e below (T31.setTop (mkF m 172 #[.val (.int u1), .val (.int u2), .val (.int u3), .val (.long u4), .second, .val (.int u5), .val (.int vf), .val (.ref sa5), .val (.int (4 : Int32)), .val (.int fr), .val (.int vl), .val (.ref b11), .unset, .unset, .unset, .unset] [(.int (10 : Int32)), (.ref b11)])) _
      refine XS.iload X31.here hx rfl (hb hby at_172) rfl ?_
      show Steps p.tables e below (T31.setTop (mkF m 174 #[.val (.int u1), .val (.int u2), .val (.int u3), .val (.long u4), .second, .val (.int u5), .val (.int vf), .val (.ref sa5), .val (.int (4 : Int32)), .val (.int fr), .val (.int vl), .val (.ref b11), .unset, .unset, .unset, .unset] [(.int u5), (.int (10 : Int32)), (.ref b11)])) _
      refine XS.i2l X31.here hx rfl (hb hby at_174) rfl ?_
      show Steps p.tables e below (T31.setTop (mkF m 175 #[.val (.int u1), .val (.int u2), .val (.int u3), .val (.long u4), .second, .val (.int u5), .val (.int vf), .val (.ref sa5), .val (.int (4 : Int32)), .val (.int fr), .val (.int vl), .val (.ref b11), .unset, .unset, .unset, .unset] [(.long (u5.toInt64)), (.int (10 : Int32)), (.ref b11)])) _
      refine XS.iconst X31.here hx rfl (hb hby at_175) ?_
      show Steps p.tables e below (T31.setTop (mkF m 176 #[.val (.int u1), .val (.int u2), .val (.int u3), .val (.long u4), .second, .val (.int u5), .val (.int vf), .val (.ref sa5), .val (.int (4 : Int32)), .val (.int fr), .val (.int vl), .val (.ref b11), .unset, .unset, .unset, .unset] [(.int (2 : Int32)), (.long (u5.toInt64)), (.int (10 : Int32)), (.ref b11)])) _
      refine st32 _ ?_
      show Steps p.tables e below (T32.setTop (mkF m 179 #[.val (.int u1), .val (.int u2), .val (.int u3), .val (.long u4), .second, .val (.int u5), .val (.int vf), .val (.ref sa5), .val (.int (4 : Int32)), .val (.int fr), .val (.int vl), .val (.ref b11), .unset, .unset, .unset, .unset] [(.int at32), (.int (10 : Int32)), (.ref b11)])) _
      refine st33 _ ?_
      show Steps p.tables e below (T33.setTop (mkF m 180 #[.val (.int u1), .val (.int u2), .val (.int u3), .val (.long u4), .second, .val (.int u5), .val (.int vf), .val (.ref sa5), .val (.int (4 : Int32)), .val (.int fr), .val (.int vl), .val (.ref b11), .unset, .unset, .unset, .unset] [])) _
      refine XS.aload X33.here hx rfl (hb hby at_180) rfl rfl ?_
      show Steps p.tables e below (T33.setTop (mkF m 182 #[.val (.int u1), .val (.int u2), .val (.int u3), .val (.long u4), .second, .val (.int u5), .val (.int vf), .val (.ref sa5), .val (.int (4 : Int32)), .val (.int fr), .val (.int vl), .val (.ref b11), .unset, .unset, .unset, .unset] [(.ref b11)])) _
      refine XS.bipush X33.here hx rfl (hb hby at_182) ?_
      show Steps p.tables e below (T33.setTop (mkF m 184 #[.val (.int u1), .val (.int u2), .val (.int u3), .val (.long u4), .second, .val (.int u5), .val (.int vf), .val (.ref sa5), .val (.int (4 : Int32)), .val (.int fr), .val (.int vl), .val (.ref b11), .unset, .unset, .unset, .unset] [(.int (11 : Int32)), (.ref b11)])) _
      refine XS.iload X33.here hx rfl (hb hby at_184) rfl ?_
      show Steps p.tables e below (T33.setTop (mkF m 186 #[.val (.int u1), .val (.int u2), .val (.int u3), .val (.long u4), .second, .val (.int u5), .val (.int vf), .val (.ref sa5), .val (.int (4 : Int32)), .val (.int fr), .val (.int vl), .val (.ref b11), .unset, .unset, .unset, .unset] [(.int u5), (.int (11 : Int32)), (.ref b11)])) _
      refine XS.i2l X33.here hx rfl (hb hby at_186) rfl ?_
      show Steps p.tables e below (T33.setTop (mkF m 187 #[.val (.int u1), .val (.int u2), .val (.int u3), .val (.long u4), .second, .val (.int u5), .val (.int vf), .val (.ref sa5), .val (.int (4 : Int32)), .val (.int fr), .val (.int vl), .val (.ref b11), .unset, .unset, .unset, .unset] [(.long (u5.toInt64)), (.int (11 : Int32)), (.ref b11)])) _
      refine XS.iconst X33.here hx rfl (hb hby at_187) ?_
      show Steps p.tables e below (T33.setTop (mkF m 188 #[.val (.int u1), .val (.int u2), .val (.int u3), .val (.long u4), .second, .val (.int u5), .val (.int vf), .val (.ref sa5), .val (.int (4 : Int32)), .val (.int fr), .val (.int vl), .val (.ref b11), .unset, .unset, .unset, .unset] [(.int (3 : Int32)), (.long (u5.toInt64)), (.int (11 : Int32)), (.ref b11)])) _
      refine st34 _ ?_
      show Steps p.tables e below (T34.setTop (mkF m 191 #[.val (.int u1), .val (.int u2), .val (.int u3), .val (.long u4), .second, .val (.int u5), .val (.int vf), .val (.ref sa5), .val (.int (4 : Int32)), .val (.int fr), .val (.int vl), .val (.ref b11), .unset, .unset, .unset, .unset] [(.int at34), (.int (11 : Int32)), (.ref b11)])) _
      refine st35 _ ?_
      show Steps p.tables e below (T35.setTop (mkF m 192 #[.val (.int u1), .val (.int u2), .val (.int u3), .val (.long u4), .second, .val (.int u5), .val (.int vf), .val (.ref sa5), .val (.int (4 : Int32)), .val (.int fr), .val (.int vl), .val (.ref b11), .unset, .unset, .unset, .unset] [])) _
      refine XS.aload X35.here hx rfl (hb hby at_192) rfl rfl ?_
      show Steps p.tables e below (T35.setTop (mkF m 194 #[.val (.int u1), .val (.int u2), .val (.int u3), .val (.long u4), .second, .val (.int u5), .val (.int vf), .val (.ref sa5), .val (.int (4 : Int32)), .val (.int fr), .val (.int vl), .val (.ref b11), .unset, .unset, .unset, .unset] [(.ref b11)])) _
      refine XS.iload X35.here hx rfl (hb hby at_194) rfl ?_
      show Steps p.tables e below (T35.setTop (mkF m 196 #[.val (.int u1), .val (.int u2), .val (.int u3), .val (.long u4), .second, .val (.int u5), .val (.int vf), .val (.ref sa5), .val (.int (4 : Int32)), .val (.int fr), .val (.int vl), .val (.ref b11), .unset, .unset, .unset, .unset] [(.int fr), (.ref b11)])) _
      refine XS.aload X35.here hx rfl (hb hby at_196) rfl rfl ?_
      show Steps p.tables e below (T35.setTop (mkF m 198 #[.val (.int u1), .val (.int u2), .val (.int u3), .val (.long u4), .second, .val (.int u5), .val (.int vf), .val (.ref sa5), .val (.int (4 : Int32)), .val (.int fr), .val (.int vl), .val (.ref b11), .unset, .unset, .unset, .unset] [(.ref sa5), (.int fr), (.ref b11)])) _
      refine XS.iconst X35.here hx rfl (hb hby at_198) ?_
      show Steps p.tables e below (T35.setTop (mkF m 199 #[.val (.int u1), .val (.int u2), .val (.int u3), .val (.long u4), .second, .val (.int u5), .val (.int vf), .val (.ref sa5), .val (.int (4 : Int32)), .val (.int fr), .val (.int vl), .val (.ref b11), .unset, .unset, .unset, .unset] [(.int (0 : Int32)), (.ref sa5), (.int fr), (.ref b11)])) _
      refine st36.trans ?_
      show Steps p.tables e below (T36.setTop (mkF m 202 #[.val (.int u1), .val (.int u2), .val (.int u3), .val (.long u4), .second, .val (.int u5), .val (.int vf), .val (.ref sa5), .val (.int (4 : Int32)), .val (.int fr), .val (.int vl), .val (.ref b11), .unset, .unset, .unset, .unset] [(.int (116 : Int32)), (.int fr), (.ref b11)])) _
      refine XS.i2b X36.here hx rfl (hb hby at_202) rfl ?_
      show Steps p.tables e below (T36.setTop (mkF m 203 #[.val (.int u1), .val (.int u2), .val (.int u3), .val (.long u4), .second, .val (.int u5), .val (.int vf), .val (.ref sa5), .val (.int (4 : Int32)), .val (.int fr), .val (.int vl), .val (.ref b11), .unset, .unset, .unset, .unset] [(.int ((116 : Int32).toInt8.toInt32)), (.int fr), (.ref b11)])) _
      refine st37 _ ?_
      show Steps p.tables e below (T37.setTop (mkF m 204 #[.val (.int u1), .val (.int u2), .val (.int u3), .val (.long u4), .second, .val (.int u5), .val (.int vf), .val (.ref sa5), .val (.int (4 : Int32)), .val (.int fr), .val (.int vl), .val (.ref b11), .unset, .unset, .unset, .unset] [])) _
      refine XS.aload X37.here hx rfl (hb hby at_204) rfl rfl ?_
      show Steps p.tables e below (T37.setTop (mkF m 206 #[.val (.int u1), .val (.int u2), .val (.int u3), .val (.long u4), .second, .val (.int u5), .val (.int vf), .val (.ref sa5), .val (.int (4 : Int32)), .val (.int fr), .val (.int vl), .val (.ref b11), .unset, .unset, .unset, .unset] [(.ref b11)])) _
      refine XS.iload X37.here hx rfl (hb hby at_206) rfl ?_
      show Steps p.tables e below (T37.setTop (mkF m 208 #[.val (.int u1), .val (.int u2), .val (.int u3), .val (.long u4), .second, .val (.int u5), .val (.int vf), .val (.ref sa5), .val (.int (4 : Int32)), .val (.int fr), .val (.int vl), .val (.ref b11), .unset, .unset, .unset, .unset] [(.int fr), (.ref b11)])) _
      refine XS.iconst X37.here hx rfl (hb hby at_208) ?_
      show Steps p.tables e below (T37.setTop (mkF m 209 #[.val (.int u1), .val (.int u2), .val (.int u3), .val (.long u4), .second, .val (.int u5), .val (.int vf), .val (.ref sa5), .val (.int (4 : Int32)), .val (.int fr), .val (.int vl), .val (.ref b11), .unset, .unset, .unset, .unset] [(.int (1 : Int32)), (.int fr), (.ref b11)])) _
      refine XS.iadd X37.here hx rfl (hb hby at_209) rfl ?_
      show Steps p.tables e below (T37.setTop (mkF m 210 #[.val (.int u1), .val (.int u2), .val (.int u3), .val (.long u4), .second, .val (.int u5), .val (.int vf), .val (.ref sa5), .val (.int (4 : Int32)), .val (.int fr), .val (.int vl), .val (.ref b11), .unset, .unset, .unset, .unset] [(.int (fr + (1 : Int32))), (.ref b11)])) _
      refine XS.aload X37.here hx rfl (hb hby at_210) rfl rfl ?_
      show Steps p.tables e below (T37.setTop (mkF m 212 #[.val (.int u1), .val (.int u2), .val (.int u3), .val (.long u4), .second, .val (.int u5), .val (.int vf), .val (.ref sa5), .val (.int (4 : Int32)), .val (.int fr), .val (.int vl), .val (.ref b11), .unset, .unset, .unset, .unset] [(.ref sa5), (.int (fr + (1 : Int32))), (.ref b11)])) _
      refine XS.iconst X37.here hx rfl (hb hby at_212) ?_
      show Steps p.tables e below (T37.setTop (mkF m 213 #[.val (.int u1), .val (.int u2), .val (.int u3), .val (.long u4), .second, .val (.int u5), .val (.int vf), .val (.ref sa5), .val (.int (4 : Int32)), .val (.int fr), .val (.int vl), .val (.ref b11), .unset, .unset, .unset, .unset] [(.int (1 : Int32)), (.ref sa5), (.int (fr + (1 : Int32))), (.ref b11)])) _
      refine st38.trans ?_
      show Steps p.tables e below (T38.setTop (mkF m 216 #[.val (.int u1), .val (.int u2), .val (.int u3), .val (.long u4), .second, .val (.int u5), .val (.int vf), .val (.ref sa5), .val (.int (4 : Int32)), .val (.int fr), .val (.int vl), .val (.ref b11), .unset, .unset, .unset, .unset] [(.int (114 : Int32)), (.int (fr + (1 : Int32))), (.ref b11)])) _
      refine XS.i2b X38.here hx rfl (hb hby at_216) rfl ?_
      show Steps p.tables e below (T38.setTop (mkF m 217 #[.val (.int u1), .val (.int u2), .val (.int u3), .val (.long u4), .second, .val (.int u5), .val (.int vf), .val (.ref sa5), .val (.int (4 : Int32)), .val (.int fr), .val (.int vl), .val (.ref b11), .unset, .unset, .unset, .unset] [(.int ((114 : Int32).toInt8.toInt32)), (.int (fr + (1 : Int32))), (.ref b11)])) _
      refine st39 _ ?_
      show Steps p.tables e below (T39.setTop (mkF m 218 #[.val (.int u1), .val (.int u2), .val (.int u3), .val (.long u4), .second, .val (.int u5), .val (.int vf), .val (.ref sa5), .val (.int (4 : Int32)), .val (.int fr), .val (.int vl), .val (.ref b11), .unset, .unset, .unset, .unset] [])) _
      refine XS.aload X39.here hx rfl (hb hby at_218) rfl rfl ?_
      show Steps p.tables e below (T39.setTop (mkF m 220 #[.val (.int u1), .val (.int u2), .val (.int u3), .val (.long u4), .second, .val (.int u5), .val (.int vf), .val (.ref sa5), .val (.int (4 : Int32)), .val (.int fr), .val (.int vl), .val (.ref b11), .unset, .unset, .unset, .unset] [(.ref b11)])) _
      refine XS.iload X39.here hx rfl (hb hby at_220) rfl ?_
      show Steps p.tables e below (T39.setTop (mkF m 222 #[.val (.int u1), .val (.int u2), .val (.int u3), .val (.long u4), .second, .val (.int u5), .val (.int vf), .val (.ref sa5), .val (.int (4 : Int32)), .val (.int fr), .val (.int vl), .val (.ref b11), .unset, .unset, .unset, .unset] [(.int fr), (.ref b11)])) _
      refine XS.iconst X39.here hx rfl (hb hby at_222) ?_
      show Steps p.tables e below (T39.setTop (mkF m 223 #[.val (.int u1), .val (.int u2), .val (.int u3), .val (.long u4), .second, .val (.int u5), .val (.int vf), .val (.ref sa5), .val (.int (4 : Int32)), .val (.int fr), .val (.int vl), .val (.ref b11), .unset, .unset, .unset, .unset] [(.int (2 : Int32)), (.int fr), (.ref b11)])) _
      refine XS.iadd X39.here hx rfl (hb hby at_223) rfl ?_
      show Steps p.tables e below (T39.setTop (mkF m 224 #[.val (.int u1), .val (.int u2), .val (.int u3), .val (.long u4), .second, .val (.int u5), .val (.int vf), .val (.ref sa5), .val (.int (4 : Int32)), .val (.int fr), .val (.int vl), .val (.ref b11), .unset, .unset, .unset, .unset] [(.int (fr + (2 : Int32))), (.ref b11)])) _
      refine XS.aload X39.here hx rfl (hb hby at_224) rfl rfl ?_
      show Steps p.tables e below (T39.setTop (mkF m 226 #[.val (.int u1), .val (.int u2), .val (.int u3), .val (.long u4), .second, .val (.int u5), .val (.int vf), .val (.ref sa5), .val (.int (4 : Int32)), .val (.int fr), .val (.int vl), .val (.ref b11), .unset, .unset, .unset, .unset] [(.ref sa5), (.int (fr + (2 : Int32))), (.ref b11)])) _
      refine XS.iconst X39.here hx rfl (hb hby at_226) ?_
      show Steps p.tables e below (T39.setTop (mkF m 227 #[.val (.int u1), .val (.int u2), .val (.int u3), .val (.long u4), .second, .val (.int u5), .val (.int vf), .val (.ref sa5), .val (.int (4 : Int32)), .val (.int fr), .val (.int vl), .val (.ref b11), .unset, .unset, .unset, .unset] [(.int (2 : Int32)), (.ref sa5), (.int (fr + (2 : Int32))), (.ref b11)])) _
      refine st40.trans ?_
      show Steps p.tables e below (T40.setTop (mkF m 230 #[.val (.int u1), .val (.int u2), .val (.int u3), .val (.long u4), .second, .val (.int u5), .val (.int vf), .val (.ref sa5), .val (.int (4 : Int32)), .val (.int fr), .val (.int vl), .val (.ref b11), .unset, .unset, .unset, .unset] [(.int (117 : Int32)), (.int (fr + (2 : Int32))), (.ref b11)])) _
      refine XS.i2b X40.here hx rfl (hb hby at_230) rfl ?_
      show Steps p.tables e below (T40.setTop (mkF m 231 #[.val (.int u1), .val (.int u2), .val (.int u3), .val (.long u4), .second, .val (.int u5), .val (.int vf), .val (.ref sa5), .val (.int (4 : Int32)), .val (.int fr), .val (.int vl), .val (.ref b11), .unset, .unset, .unset, .unset] [(.int ((117 : Int32).toInt8.toInt32)), (.int (fr + (2 : Int32))), (.ref b11)])) _
      refine st41 _ ?_
      show Steps p.tables e below (T41.setTop (mkF m 232 #[.val (.int u1), .val (.int u2), .val (.int u3), .val (.long u4), .second, .val (.int u5), .val (.int vf), .val (.ref sa5), .val (.int (4 : Int32)), .val (.int fr), .val (.int vl), .val (.ref b11), .unset, .unset, .unset, .unset] [])) _
      refine XS.aload X41.here hx rfl (hb hby at_232) rfl rfl ?_
      show Steps p.tables e below (T41.setTop (mkF m 234 #[.val (.int u1), .val (.int u2), .val (.int u3), .val (.long u4), .second, .val (.int u5), .val (.int vf), .val (.ref sa5), .val (.int (4 : Int32)), .val (.int fr), .val (.int vl), .val (.ref b11), .unset, .unset, .unset, .unset] [(.ref b11)])) _
      refine XS.iload X41.here hx rfl (hb hby at_234) rfl ?_
      show Steps p.tables e below (T41.setTop (mkF m 236 #[.val (.int u1), .val (.int u2), .val (.int u3), .val (.long u4), .second, .val (.int u5), .val (.int vf), .val (.ref sa5), .val (.int (4 : Int32)), .val (.int fr), .val (.int vl), .val (.ref b11), .unset, .unset, .unset, .unset] [(.int fr), (.ref b11)])) _
      refine XS.iconst X41.here hx rfl (hb hby at_236) ?_
      show Steps p.tables e below (T41.setTop (mkF m 237 #[.val (.int u1), .val (.int u2), .val (.int u3), .val (.long u4), .second, .val (.int u5), .val (.int vf), .val (.ref sa5), .val (.int (4 : Int32)), .val (.int fr), .val (.int vl), .val (.ref b11), .unset, .unset, .unset, .unset] [(.int (3 : Int32)), (.int fr), (.ref b11)])) _
      refine XS.iadd X41.here hx rfl (hb hby at_237) rfl ?_
      show Steps p.tables e below (T41.setTop (mkF m 238 #[.val (.int u1), .val (.int u2), .val (.int u3), .val (.long u4), .second, .val (.int u5), .val (.int vf), .val (.ref sa5), .val (.int (4 : Int32)), .val (.int fr), .val (.int vl), .val (.ref b11), .unset, .unset, .unset, .unset] [(.int (fr + (3 : Int32))), (.ref b11)])) _
      refine XS.aload X41.here hx rfl (hb hby at_238) rfl rfl ?_
      show Steps p.tables e below (T41.setTop (mkF m 240 #[.val (.int u1), .val (.int u2), .val (.int u3), .val (.long u4), .second, .val (.int u5), .val (.int vf), .val (.ref sa5), .val (.int (4 : Int32)), .val (.int fr), .val (.int vl), .val (.ref b11), .unset, .unset, .unset, .unset] [(.ref sa5), (.int (fr + (3 : Int32))), (.ref b11)])) _
      refine XS.iconst X41.here hx rfl (hb hby at_240) ?_
      show Steps p.tables e below (T41.setTop (mkF m 241 #[.val (.int u1), .val (.int u2), .val (.int u3), .val (.long u4), .second, .val (.int u5), .val (.int vf), .val (.ref sa5), .val (.int (4 : Int32)), .val (.int fr), .val (.int vl), .val (.ref b11), .unset, .unset, .unset, .unset] [(.int (3 : Int32)), (.ref sa5), (.int (fr + (3 : Int32))), (.ref b11)])) _
      refine st42.trans ?_
      show Steps p.tables e below (T42.setTop (mkF m 244 #[.val (.int u1), .val (.int u2), .val (.int u3), .val (.long u4), .second, .val (.int u5), .val (.int vf), .val (.ref sa5), .val (.int (4 : Int32)), .val (.int fr), .val (.int vl), .val (.ref b11), .unset, .unset, .unset, .unset] [(.int (101 : Int32)), (.int (fr + (3 : Int32))), (.ref b11)])) _
      refine XS.i2b X42.here hx rfl (hb hby at_244) rfl ?_
      show Steps p.tables e below (T42.setTop (mkF m 245 #[.val (.int u1), .val (.int u2), .val (.int u3), .val (.long u4), .second, .val (.int u5), .val (.int vf), .val (.ref sa5), .val (.int (4 : Int32)), .val (.int fr), .val (.int vl), .val (.ref b11), .unset, .unset, .unset, .unset] [(.int ((101 : Int32).toInt8.toInt32)), (.int (fr + (3 : Int32))), (.ref b11)])) _
      refine st43 _ ?_
      show Steps p.tables e below (T43.setTop (mkF m 246 #[.val (.int u1), .val (.int u2), .val (.int u3), .val (.long u4), .second, .val (.int u5), .val (.int vf), .val (.ref sa5), .val (.int (4 : Int32)), .val (.int fr), .val (.int vl), .val (.ref b11), .unset, .unset, .unset, .unset] [])) _
      refine XS.iload X43.here hx rfl (hb hby at_246) rfl ?_
      show Steps p.tables e below (T43.setTop (mkF m 248 #[.val (.int u1), .val (.int u2), .val (.int u3), .val (.long u4), .second, .val (.int u5), .val (.int vf), .val (.ref sa5), .val (.int (4 : Int32)), .val (.int fr), .val (.int vl), .val (.ref b11), .unset, .unset, .unset, .unset] [(.int (4 : Int32))])) _
      refine XS.iconst X43.here hx rfl (hb hby at_248) ?_
      show Steps p.tables e below (T43.setTop (mkF m 249 #[.val (.int u1), .val (.int u2), .val (.int u3), .val (.long u4), .second, .val (.int u5), .val (.int vf), .val (.ref sa5), .val (.int (4 : Int32)), .val (.int fr), .val (.int vl), .val (.ref b11), .unset, .unset, .unset, .unset] [(.int (5 : Int32)), (.int (4 : Int32))])) _
      refine XS.icmpYes X43.here hx rfl (pc0 := 249) (pc' := 266) rfl (hb hby at_249) rfl (by decide) (by decide) (by decide) ?_
      show Steps p.tables e below (T43.setTop (mkF m 266 #[.val (.int u1), .val (.int u2), .val (.int u3), .val (.long u4), .second, .val (.int u5), .val (.int vf), .val (.ref sa5), .val (.int (4 : Int32)), .val (.int fr), .val (.int vl), .val (.ref b11), .unset, .unset, .unset, .unset] [])) _
      refine XS.iloadN X43.here hx rfl (hb hby at_266) rfl ?_
      show Steps p.tables e below (T43.setTop (mkF m 267 #[.val (.int u1), .val (.int u2), .val (.int u3), .val (.long u4), .second, .val (.int u5), .val (.int vf), .val (.ref sa5), .val (.int (4 : Int32)), .val (.int fr), .val (.int vl), .val (.ref b11), .unset, .unset, .unset, .unset] [(.int u3)])) _
      refine XS.bipush X43.here hx rfl (hb hby at_267) ?_
      show Steps p.tables e below (T43.setTop (mkF m 269 #[.val (.int u1), .val (.int u2), .val (.int u3), .val (.long u4), .second, .val (.int u5), .val (.int vf), .val (.ref sa5), .val (.int (4 : Int32)), .val (.int fr), .val (.int vl), .val (.ref b11), .unset, .unset, .unset, .unset] [(.int (8 : Int32)), (.int u3)])) _
      refine XS.iand X43.here hx rfl (hb hby at_269) rfl ?_
      exact k
    have pre46 : ∀ t, Steps p.tables e below (T43.setTop (mkF m 278 #[.val (.int u1), .val (.int u2), .val (.int u3), .val (.long u4), .second, .val (.int u5), .val (.int vf), .val (.ref sa5), .val (.int (4 : Int32)), .val (.int fr), .val (.int vl), .val (.ref b11), .unset, .unset, .unset, .unset] [(.int (bif (ifCond.holds .eq (u3 &&& (8 : Int32))) then (0 : Int32) else (1 : Int32)))])) t → Steps p.tables e below (s₁.setTop (entryFrame m #[(.int u1), (.int u2), (.int u3), (.long u4), (.int u5)] maxLocals)) t := by
      intro t k
      refine pre44 t ?_
      show Steps p.tables e below (T43.setTop (mkF m 270 #[.val (.int u1), .val (.int u2), .val (.int u3), .val (.long u4), .second, .val (.int u5), .val (.int vf), .val (.ref sa5), .val (.int (4 : Int32)), .val (.int fr), .val (.int vl), .val (.ref b11), .unset, .unset, .unset, .unset] [(.int (u3 &&& (8 : Int32)))])) _
      rcases Bool.eq_false_or_eq_true (ifCond.holds .eq (u3 &&& (8 : Int32))) with hb270_45 | hb270_45
      · refine XS.ifYes X43.here hx rfl (pc0 := 270) (pc' := 277) rfl (hb hby at_270) rfl hb270_45 (by decide) (by decide) ?_
        show Steps p.tables e below (T43.setTop (mkF m 277 #[.val (.int u1), .val (.int u2), .val (.int u3), .val (.long u4), .second, .val (.int u5), .val (.int vf), .val (.ref sa5), .val (.int (4 : Int32)), .val (.int fr), .val (.int vl), .val (.ref b11), .unset, .unset, .unset, .unset] [])) _
        refine XS.iconst X43.here hx rfl (hb hby at_277) ?_
        have k : Steps p.tables e below (T43.setTop (mkF m 278 #[.val (.int u1), .val (.int u2), .val (.int u3), .val (.long u4), .second, .val (.int u5), .val (.int vf), .val (.ref sa5), .val (.int (4 : Int32)), .val (.int fr), .val (.int vl), .val (.ref b11), .unset, .unset, .unset, .unset] [(.int (0 : Int32))])) t := by simpa only [hb270_45, cond_true, cond_false] using k
        exact k
      · refine XS.ifNo X43.here hx rfl (hb hby at_270) rfl hb270_45 ?_
        show Steps p.tables e below (T43.setTop (mkF m 273 #[.val (.int u1), .val (.int u2), .val (.int u3), .val (.long u4), .second, .val (.int u5), .val (.int vf), .val (.ref sa5), .val (.int (4 : Int32)), .val (.int fr), .val (.int vl), .val (.ref b11), .unset, .unset, .unset, .unset] [])) _
        refine XS.iconst X43.here hx rfl (hb hby at_273) ?_
        show Steps p.tables e below (T43.setTop (mkF m 274 #[.val (.int u1), .val (.int u2), .val (.int u3), .val (.long u4), .second, .val (.int u5), .val (.int vf), .val (.ref sa5), .val (.int (4 : Int32)), .val (.int fr), .val (.int vl), .val (.ref b11), .unset, .unset, .unset, .unset] [(.int (1 : Int32))])) _
        refine XS.goto X43.here hx rfl (pc0 := 274) (pc' := 278) rfl (hb hby at_274) (by decide) (by decide) ?_
        have k : Steps p.tables e below (T43.setTop (mkF m 278 #[.val (.int u1), .val (.int u2), .val (.int u3), .val (.long u4), .second, .val (.int u5), .val (.int vf), .val (.ref sa5), .val (.int (4 : Int32)), .val (.int fr), .val (.int vl), .val (.ref b11), .unset, .unset, .unset, .unset] [(.int (1 : Int32))])) t := by simpa only [hb270_45, cond_true, cond_false] using k
        exact k
    have pre47 : ∀ t, Steps p.tables e below (T43.setTop (mkF m 293 #[.val (.int u1), .val (.int u2), .val (.int u3), .val (.long u4), .second, .val (.int u5), .val (.int vf), .val (.ref sa5), .val (.int (4 : Int32)), .val (.int fr), .val (.int vl), .val (.ref b11), .val (.int (bif (ifCond.holds .eq (u3 &&& (8 : Int32))) then (0 : Int32) else (1 : Int32))), .val (.int ((u3 &&& (7 : Int32)) % (4 : Int32))), .val (.int (u2.toInt8.toInt32)), .unset] [])) t → Steps p.tables e below (s₁.setTop (entryFrame m #[(.int u1), (.int u2), (.int u3), (.long u4), (.int u5)] maxLocals)) t := by
      intro t k
      refine pre46 t ?_
      show Steps p.tables e below (T43.setTop (mkF m 278 #[.val (.int u1), .val (.int u2), .val (.int u3), .val (.long u4), .second, .val (.int u5), .val (.int vf), .val (.ref sa5), .val (.int (4 : Int32)), .val (.int fr), .val (.int vl), .val (.ref b11), .unset, .unset, .unset, .unset] [(.int (bif (ifCond.holds .eq (u3 &&& (8 : Int32))) then (0 : Int32) else (1 : Int32)))])) _
      refine XS.istore X43.here hx rfl (hb hby at_278) rfl (l' := #[.val (.int u1), .val (.int u2), .val (.int u3), .val (.long u4), .second, .val (.int u5), .val (.int vf), .val (.ref sa5), .val (.int (4 : Int32)), .val (.int fr), .val (.int vl), .val (.ref b11), .val (.int (bif (ifCond.holds .eq (u3 &&& (8 : Int32))) then (0 : Int32) else (1 : Int32))), .unset, .unset, .unset]) rfl ?_
      show Steps p.tables e below (T43.setTop (mkF m 280 #[.val (.int u1), .val (.int u2), .val (.int u3), .val (.long u4), .second, .val (.int u5), .val (.int vf), .val (.ref sa5), .val (.int (4 : Int32)), .val (.int fr), .val (.int vl), .val (.ref b11), .val (.int (bif (ifCond.holds .eq (u3 &&& (8 : Int32))) then (0 : Int32) else (1 : Int32))), .unset, .unset, .unset] [])) _
      refine XS.iloadN X43.here hx rfl (hb hby at_280) rfl ?_
      show Steps p.tables e below (T43.setTop (mkF m 281 #[.val (.int u1), .val (.int u2), .val (.int u3), .val (.long u4), .second, .val (.int u5), .val (.int vf), .val (.ref sa5), .val (.int (4 : Int32)), .val (.int fr), .val (.int vl), .val (.ref b11), .val (.int (bif (ifCond.holds .eq (u3 &&& (8 : Int32))) then (0 : Int32) else (1 : Int32))), .unset, .unset, .unset] [(.int u3)])) _
      refine XS.bipush X43.here hx rfl (hb hby at_281) ?_
      show Steps p.tables e below (T43.setTop (mkF m 283 #[.val (.int u1), .val (.int u2), .val (.int u3), .val (.long u4), .second, .val (.int u5), .val (.int vf), .val (.ref sa5), .val (.int (4 : Int32)), .val (.int fr), .val (.int vl), .val (.ref b11), .val (.int (bif (ifCond.holds .eq (u3 &&& (8 : Int32))) then (0 : Int32) else (1 : Int32))), .unset, .unset, .unset] [(.int (7 : Int32)), (.int u3)])) _
      refine XS.iand X43.here hx rfl (hb hby at_283) rfl ?_
      show Steps p.tables e below (T43.setTop (mkF m 284 #[.val (.int u1), .val (.int u2), .val (.int u3), .val (.long u4), .second, .val (.int u5), .val (.int vf), .val (.ref sa5), .val (.int (4 : Int32)), .val (.int fr), .val (.int vl), .val (.ref b11), .val (.int (bif (ifCond.holds .eq (u3 &&& (8 : Int32))) then (0 : Int32) else (1 : Int32))), .unset, .unset, .unset] [(.int (u3 &&& (7 : Int32)))])) _
      refine XS.iload X43.here hx rfl (hb hby at_284) rfl ?_
      show Steps p.tables e below (T43.setTop (mkF m 286 #[.val (.int u1), .val (.int u2), .val (.int u3), .val (.long u4), .second, .val (.int u5), .val (.int vf), .val (.ref sa5), .val (.int (4 : Int32)), .val (.int fr), .val (.int vl), .val (.ref b11), .val (.int (bif (ifCond.holds .eq (u3 &&& (8 : Int32))) then (0 : Int32) else (1 : Int32))), .unset, .unset, .unset] [(.int (4 : Int32)), (.int (u3 &&& (7 : Int32)))])) _
      refine iremM X43 hx (g := (mkF m 286 #[.val (.int u1), .val (.int u2), .val (.int u3), .val (.long u4), .second, .val (.int u5), .val (.int vf), .val (.ref sa5), .val (.int (4 : Int32)), .val (.int fr), .val (.int vl), .val (.ref b11), .val (.int (bif (ifCond.holds .eq (u3 &&& (8 : Int32))) then (0 : Int32) else (1 : Int32))), .unset, .unset, .unset] [(.int (4 : Int32)), (.int (u3 &&& (7 : Int32)))])) rfl (hb hby at_286) rfl (by decide) ?_
      show Steps p.tables e below (T43.setTop (mkF m 287 #[.val (.int u1), .val (.int u2), .val (.int u3), .val (.long u4), .second, .val (.int u5), .val (.int vf), .val (.ref sa5), .val (.int (4 : Int32)), .val (.int fr), .val (.int vl), .val (.ref b11), .val (.int (bif (ifCond.holds .eq (u3 &&& (8 : Int32))) then (0 : Int32) else (1 : Int32))), .unset, .unset, .unset] [(.int ((u3 &&& (7 : Int32)) % (4 : Int32)))])) _
      refine XS.istore X43.here hx rfl (hb hby at_287) rfl (l' := #[.val (.int u1), .val (.int u2), .val (.int u3), .val (.long u4), .second, .val (.int u5), .val (.int vf), .val (.ref sa5), .val (.int (4 : Int32)), .val (.int fr), .val (.int vl), .val (.ref b11), .val (.int (bif (ifCond.holds .eq (u3 &&& (8 : Int32))) then (0 : Int32) else (1 : Int32))), .val (.int ((u3 &&& (7 : Int32)) % (4 : Int32))), .unset, .unset]) rfl ?_
      show Steps p.tables e below (T43.setTop (mkF m 289 #[.val (.int u1), .val (.int u2), .val (.int u3), .val (.long u4), .second, .val (.int u5), .val (.int vf), .val (.ref sa5), .val (.int (4 : Int32)), .val (.int fr), .val (.int vl), .val (.ref b11), .val (.int (bif (ifCond.holds .eq (u3 &&& (8 : Int32))) then (0 : Int32) else (1 : Int32))), .val (.int ((u3 &&& (7 : Int32)) % (4 : Int32))), .unset, .unset] [])) _
      refine XS.iloadN X43.here hx rfl (hb hby at_289) rfl ?_
      show Steps p.tables e below (T43.setTop (mkF m 290 #[.val (.int u1), .val (.int u2), .val (.int u3), .val (.long u4), .second, .val (.int u5), .val (.int vf), .val (.ref sa5), .val (.int (4 : Int32)), .val (.int fr), .val (.int vl), .val (.ref b11), .val (.int (bif (ifCond.holds .eq (u3 &&& (8 : Int32))) then (0 : Int32) else (1 : Int32))), .val (.int ((u3 &&& (7 : Int32)) % (4 : Int32))), .unset, .unset] [(.int u2)])) _
      refine XS.i2b X43.here hx rfl (hb hby at_290) rfl ?_
      show Steps p.tables e below (T43.setTop (mkF m 291 #[.val (.int u1), .val (.int u2), .val (.int u3), .val (.long u4), .second, .val (.int u5), .val (.int vf), .val (.ref sa5), .val (.int (4 : Int32)), .val (.int fr), .val (.int vl), .val (.ref b11), .val (.int (bif (ifCond.holds .eq (u3 &&& (8 : Int32))) then (0 : Int32) else (1 : Int32))), .val (.int ((u3 &&& (7 : Int32)) % (4 : Int32))), .unset, .unset] [(.int (u2.toInt8.toInt32))])) _
      refine XS.istore X43.here hx rfl (hb hby at_291) rfl (l' := #[.val (.int u1), .val (.int u2), .val (.int u3), .val (.long u4), .second, .val (.int u5), .val (.int vf), .val (.ref sa5), .val (.int (4 : Int32)), .val (.int fr), .val (.int vl), .val (.ref b11), .val (.int (bif (ifCond.holds .eq (u3 &&& (8 : Int32))) then (0 : Int32) else (1 : Int32))), .val (.int ((u3 &&& (7 : Int32)) % (4 : Int32))), .val (.int (u2.toInt8.toInt32)), .unset]) rfl ?_
      exact k
    obtain ⟨vm, hvm⟩ : ∃ z : Int32, z = (bif (ifCond.holds .eq (u3 &&& (8 : Int32))) then (0 : Int32) else (1 : Int32)) := ⟨_, rfl⟩
    rw [← hvm] at pre47
    obtain ⟨vq, hvq⟩ : ∃ z : Int32, z = ((u3 &&& (7 : Int32)) % (4 : Int32)) := ⟨_, rfl⟩
    rw [← hvq] at pre47
    have hQ : vq = 0 ∨ vq = 1 ∨ vq = 2 ∨ vq = 3 := by rw [hvq]; exact own_p4 u3
    have pre48 : ∀ t, Steps p.tables e below (T43.setTop (mkF m 295 #[.val (.int u1), .val (.int u2), .val (.int u3), .val (.long u4), .second, .val (.int u5), .val (.int vf), .val (.ref sa5), .val (.int (4 : Int32)), .val (.int fr), .val (.int vl), .val (.ref b11), .val (.int vm), .val (.int vq), .val (.int (u2.toInt8.toInt32)), .unset] [(.int vm)])) t → Steps p.tables e below (s₁.setTop (entryFrame m #[(.int u1), (.int u2), (.int u3), (.long u4), (.int u5)] maxLocals)) t := by
      intro t k
      refine pre47 t ?_
      show Steps p.tables e below (T43.setTop (mkF m 293 #[.val (.int u1), .val (.int u2), .val (.int u3), .val (.long u4), .second, .val (.int u5), .val (.int vf), .val (.ref sa5), .val (.int (4 : Int32)), .val (.int fr), .val (.int vl), .val (.ref b11), .val (.int vm), .val (.int vq), .val (.int (u2.toInt8.toInt32)), .unset] [])) _
      refine XS.iload X43.here hx rfl (hb hby at_293) rfl ?_
      exact k
    rcases Bool.eq_false_or_eq_true (ifCond.holds .eq vm) with hb295 | hb295
    · have pre49 : ∀ t, Steps p.tables e below (T43.setTop (mkF m 312 #[.val (.int u1), .val (.int u2), .val (.int u3), .val (.long u4), .second, .val (.int u5), .val (.int vf), .val (.ref sa5), .val (.int (4 : Int32)), .val (.int fr), .val (.int vl), .val (.ref b11), .val (.int vm), .val (.int vq), .val (.int (u2.toInt8.toInt32)), .unset] [(.int (4 : Int32)), (.int vl)])) t → Steps p.tables e below (s₁.setTop (entryFrame m #[(.int u1), (.int u2), (.int u3), (.long u4), (.int u5)] maxLocals)) t := by
        intro t k
        refine pre48 t ?_
        show Steps p.tables e below (T43.setTop (mkF m 295 #[.val (.int u1), .val (.int u2), .val (.int u3), .val (.long u4), .second, .val (.int u5), .val (.int vf), .val (.ref sa5), .val (.int (4 : Int32)), .val (.int fr), .val (.int vl), .val (.ref b11), .val (.int vm), .val (.int vq), .val (.int (u2.toInt8.toInt32)), .unset] [(.int vm)])) _
        refine XS.ifYes X43.here hx rfl (pc0 := 295) (pc' := 308) rfl (hb hby at_295) rfl hb295 (by decide) (by decide) ?_
        show Steps p.tables e below (T43.setTop (mkF m 308 #[.val (.int u1), .val (.int u2), .val (.int u3), .val (.long u4), .second, .val (.int u5), .val (.int vf), .val (.ref sa5), .val (.int (4 : Int32)), .val (.int fr), .val (.int vl), .val (.ref b11), .val (.int vm), .val (.int vq), .val (.int (u2.toInt8.toInt32)), .unset] [])) _
        refine XS.iload X43.here hx rfl (hb hby at_308) rfl ?_
        show Steps p.tables e below (T43.setTop (mkF m 310 #[.val (.int u1), .val (.int u2), .val (.int u3), .val (.long u4), .second, .val (.int u5), .val (.int vf), .val (.ref sa5), .val (.int (4 : Int32)), .val (.int fr), .val (.int vl), .val (.ref b11), .val (.int vm), .val (.int vq), .val (.int (u2.toInt8.toInt32)), .unset] [(.int vl)])) _
        refine XS.iload X43.here hx rfl (hb hby at_310) rfl ?_
        exact k
      have pre51 : ∀ t, Steps p.tables e below (T43.setTop (mkF m 338 #[.val (.int u1), .val (.int u2), .val (.int u3), .val (.long u4), .second, .val (.int u5), .val (.int vf), .val (.ref sa5), .val (.int (4 : Int32)), .val (.int fr), .val (.int vl), .val (.ref b11), .val (.int vm), .val (.int vq), .val (.int (u2.toInt8.toInt32)), .unset] [(.int (bif (if_icmp.holds .ne vl (4 : Int32)) then (0 : Int32) else (1 : Int32)))])) t → Steps p.tables e below (s₁.setTop (entryFrame m #[(.int u1), (.int u2), (.int u3), (.long u4), (.int u5)] maxLocals)) t := by
        intro t k
        refine pre49 t ?_
        show Steps p.tables e below (T43.setTop (mkF m 312 #[.val (.int u1), .val (.int u2), .val (.int u3), .val (.long u4), .second, .val (.int u5), .val (.int vf), .val (.ref sa5), .val (.int (4 : Int32)), .val (.int fr), .val (.int vl), .val (.ref b11), .val (.int vm), .val (.int vq), .val (.int (u2.toInt8.toInt32)), .unset] [(.int (4 : Int32)), (.int vl)])) _
        rcases Bool.eq_false_or_eq_true (if_icmp.holds .ne vl (4 : Int32)) with hb312_50 | hb312_50
        · refine XS.icmpYes X43.here hx rfl (pc0 := 312) (pc' := 337) rfl (hb hby at_312) rfl hb312_50 (by decide) (by decide) ?_
          show Steps p.tables e below (T43.setTop (mkF m 337 #[.val (.int u1), .val (.int u2), .val (.int u3), .val (.long u4), .second, .val (.int u5), .val (.int vf), .val (.ref sa5), .val (.int (4 : Int32)), .val (.int fr), .val (.int vl), .val (.ref b11), .val (.int vm), .val (.int vq), .val (.int (u2.toInt8.toInt32)), .unset] [])) _
          refine XS.iconst X43.here hx rfl (hb hby at_337) ?_
          have k : Steps p.tables e below (T43.setTop (mkF m 338 #[.val (.int u1), .val (.int u2), .val (.int u3), .val (.long u4), .second, .val (.int u5), .val (.int vf), .val (.ref sa5), .val (.int (4 : Int32)), .val (.int fr), .val (.int vl), .val (.ref b11), .val (.int vm), .val (.int vq), .val (.int (u2.toInt8.toInt32)), .unset] [(.int (0 : Int32))])) t := by simpa only [hb312_50, cond_true, cond_false] using k
          exact k
        · refine XS.icmpNo X43.here hx rfl (hb hby at_312) rfl hb312_50 ?_
          show Steps p.tables e below (T43.setTop (mkF m 315 #[.val (.int u1), .val (.int u2), .val (.int u3), .val (.long u4), .second, .val (.int u5), .val (.int vf), .val (.ref sa5), .val (.int (4 : Int32)), .val (.int fr), .val (.int vl), .val (.ref b11), .val (.int vm), .val (.int vq), .val (.int (u2.toInt8.toInt32)), .unset] [])) _
          refine XS.iload X43.here hx rfl (hb hby at_315) rfl ?_
          show Steps p.tables e below (T43.setTop (mkF m 317 #[.val (.int u1), .val (.int u2), .val (.int u3), .val (.long u4), .second, .val (.int u5), .val (.int vf), .val (.ref sa5), .val (.int (4 : Int32)), .val (.int fr), .val (.int vl), .val (.ref b11), .val (.int vm), .val (.int vq), .val (.int (u2.toInt8.toInt32)), .unset] [(.int vm)])) _
          refine XS.ifYes X43.here hx rfl (pc0 := 317) (pc' := 333) rfl (hb hby at_317) rfl hb295 (by decide) (by decide) ?_
          show Steps p.tables e below (T43.setTop (mkF m 333 #[.val (.int u1), .val (.int u2), .val (.int u3), .val (.long u4), .second, .val (.int u5), .val (.int vf), .val (.ref sa5), .val (.int (4 : Int32)), .val (.int fr), .val (.int vl), .val (.ref b11), .val (.int vm), .val (.int vq), .val (.int (u2.toInt8.toInt32)), .unset] [])) _
          refine XS.iconst X43.here hx rfl (hb hby at_333) ?_
          show Steps p.tables e below (T43.setTop (mkF m 334 #[.val (.int u1), .val (.int u2), .val (.int u3), .val (.long u4), .second, .val (.int u5), .val (.int vf), .val (.ref sa5), .val (.int (4 : Int32)), .val (.int fr), .val (.int vl), .val (.ref b11), .val (.int vm), .val (.int vq), .val (.int (u2.toInt8.toInt32)), .unset] [(.int (1 : Int32))])) _
          refine XS.goto X43.here hx rfl (pc0 := 334) (pc' := 338) rfl (hb hby at_334) (by decide) (by decide) ?_
          have k : Steps p.tables e below (T43.setTop (mkF m 338 #[.val (.int u1), .val (.int u2), .val (.int u3), .val (.long u4), .second, .val (.int u5), .val (.int vf), .val (.ref sa5), .val (.int (4 : Int32)), .val (.int fr), .val (.int vl), .val (.ref b11), .val (.int vm), .val (.int vq), .val (.int (u2.toInt8.toInt32)), .unset] [(.int (1 : Int32))])) t := by simpa only [hb312_50, cond_true, cond_false] using k
          exact k
      obtain ⟨_, _, ⟨T52, L52, k52, n52⟩, -, X52, ⟨Lc52, hQ52, l52, y52, z52⟩, st52⟩ := Jvm.LawKit.callS X43 hx (y := (⟨"com/example/sabac/sabac/ExpressionLexer", "isKeyword", "([BII)Z"⟩ : MethodName)) hown (mvT hZ (own_w hw 47 rfl)) (mvT hZ (own_w hw 48 rfl)) (mvT hZ (own_w hw 49 rfl)) (mvT hZ (own_w hw 50 rfl)) (by decide) (backOf (W := 0) (rm_kw l Z a0 hw [] b11 fr (fr + vl) k11 xs43 h43 n0 Z43 V43x hF) hZ (own_w hw 50 rfl) (own_w hw 49 rfl) (by decide) (by decide)) (g := (mkF m 349 #[.val (.int u1), .val (.int u2), .val (.int u3), .val (.long u4), .second, .val (.int u5), .val (.int vf), .val (.ref sa5), .val (.int (4 : Int32)), .val (.int fr), .val (.int vl), .val (.ref b11), .val (.int vm), .val (.int vq), .val (.int (u2.toInt8.toInt32)), .val (.int (bif (if_icmp.holds .ne vl (4 : Int32)) then (0 : Int32) else (1 : Int32)))] [(.int (fr + vl)), (.int fr), (.ref b11)])) rfl (by rw [hml]; rfl) (argsL := [(.ref b11), (.int fr), (.int (fr + vl))]) (rest := []) (lenOf pd_634392 rfl) rfl (by show 2 * 0 + _ ≤ _; exact Nat.le_of_eq rfl) (hb hby at_349) (fun _ _ => ⟨rfl, e43, (by decide : 3 + 0 ≤ _), (by decide : 36 + 0 ≤ _)⟩)
      dsimp only [Pt.U, Pt.locs, Pt.cells, Pt.slots] at X52 l52 y52 z52 st52 hQ52
      replace y52 : k52 = 3 := y52
      replace z52 : n52 = 36 := z52
      subst y52 z52
      obtain ⟨rfl, Nq52, eq52⟩ := hQ52
      have N52 : Fr n0 L52 := by rw [l52]; exact Fr.app N43 Nq52
      obtain ⟨fs, hr, hrun, hended, hEnd⟩ := Stand.leaveW (s := s) X52 hS5 (by rw [eq52]; exact kk43) (v := some (.int (1 : Int32))) (fun h => by rw [Bd.returns] at h; cases h)
      refine ⟨_, _, pre51 _ ?_, hrun, hended, _, _, rfl, ?_, hEnd.1, hEnd.2.1, hEnd.2.2.1, hEnd.2.2.2.mono (by decide) (by decide)⟩
      · show Steps p.tables e below (T43.setTop (mkF m 338 #[.val (.int u1), .val (.int u2), .val (.int u3), .val (.long u4), .second, .val (.int u5), .val (.int vf), .val (.ref sa5), .val (.int (4 : Int32)), .val (.int fr), .val (.int vl), .val (.ref b11), .val (.int vm), .val (.int vq), .val (.int (u2.toInt8.toInt32)), .unset] [(.int (bif (if_icmp.holds .ne vl (4 : Int32)) then (0 : Int32) else (1 : Int32)))])) _
        refine XS.istore X43.here hx rfl (hb hby at_338) rfl (l' := #[.val (.int u1), .val (.int u2), .val (.int u3), .val (.long u4), .second, .val (.int u5), .val (.int vf), .val (.ref sa5), .val (.int (4 : Int32)), .val (.int fr), .val (.int vl), .val (.ref b11), .val (.int vm), .val (.int vq), .val (.int (u2.toInt8.toInt32)), .val (.int (bif (if_icmp.holds .ne vl (4 : Int32)) then (0 : Int32) else (1 : Int32)))]) rfl ?_
        show Steps p.tables e below (T43.setTop (mkF m 340 #[.val (.int u1), .val (.int u2), .val (.int u3), .val (.long u4), .second, .val (.int u5), .val (.int vf), .val (.ref sa5), .val (.int (4 : Int32)), .val (.int fr), .val (.int vl), .val (.ref b11), .val (.int vm), .val (.int vq), .val (.int (u2.toInt8.toInt32)), .val (.int (bif (if_icmp.holds .ne vl (4 : Int32)) then (0 : Int32) else (1 : Int32)))] [])) _
        refine XS.aload X43.here hx rfl (hb hby at_340) rfl rfl ?_
        show Steps p.tables e below (T43.setTop (mkF m 342 #[.val (.int u1), .val (.int u2), .val (.int u3), .val (.long u4), .second, .val (.int u5), .val (.int vf), .val (.ref sa5), .val (.int (4 : Int32)), .val (.int fr), .val (.int vl), .val (.ref b11), .val (.int vm), .val (.int vq), .val (.int (u2.toInt8.toInt32)), .val (.int (bif (if_icmp.holds .ne vl (4 : Int32)) then (0 : Int32) else (1 : Int32)))] [(.ref b11)])) _
        refine XS.iload X43.here hx rfl (hb hby at_342) rfl ?_
        show Steps p.tables e below (T43.setTop (mkF m 344 #[.val (.int u1), .val (.int u2), .val (.int u3), .val (.long u4), .second, .val (.int u5), .val (.int vf), .val (.ref sa5), .val (.int (4 : Int32)), .val (.int fr), .val (.int vl), .val (.ref b11), .val (.int vm), .val (.int vq), .val (.int (u2.toInt8.toInt32)), .val (.int (bif (if_icmp.holds .ne vl (4 : Int32)) then (0 : Int32) else (1 : Int32)))] [(.int fr), (.ref b11)])) _
        refine XS.iload X43.here hx rfl (hb hby at_344) rfl ?_
        show Steps p.tables e below (T43.setTop (mkF m 346 #[.val (.int u1), .val (.int u2), .val (.int u3), .val (.long u4), .second, .val (.int u5), .val (.int vf), .val (.ref sa5), .val (.int (4 : Int32)), .val (.int fr), .val (.int vl), .val (.ref b11), .val (.int vm), .val (.int vq), .val (.int (u2.toInt8.toInt32)), .val (.int (bif (if_icmp.holds .ne vl (4 : Int32)) then (0 : Int32) else (1 : Int32)))] [(.int fr), (.int fr), (.ref b11)])) _
        refine XS.iload X43.here hx rfl (hb hby at_346) rfl ?_
        show Steps p.tables e below (T43.setTop (mkF m 348 #[.val (.int u1), .val (.int u2), .val (.int u3), .val (.long u4), .second, .val (.int u5), .val (.int vf), .val (.ref sa5), .val (.int (4 : Int32)), .val (.int fr), .val (.int vl), .val (.ref b11), .val (.int vm), .val (.int vq), .val (.int (u2.toInt8.toInt32)), .val (.int (bif (if_icmp.holds .ne vl (4 : Int32)) then (0 : Int32) else (1 : Int32)))] [(.int vl), (.int fr), (.int fr), (.ref b11)])) _
        refine XS.iadd X43.here hx rfl (hb hby at_348) rfl ?_
        show Steps p.tables e below (T43.setTop (mkF m 349 #[.val (.int u1), .val (.int u2), .val (.int u3), .val (.long u4), .second, .val (.int u5), .val (.int vf), .val (.ref sa5), .val (.int (4 : Int32)), .val (.int fr), .val (.int vl), .val (.ref b11), .val (.int vm), .val (.int vq), .val (.int (u2.toInt8.toInt32)), .val (.int (bif (if_icmp.holds .ne vl (4 : Int32)) then (0 : Int32) else (1 : Int32)))] [(.int (fr + vl)), (.int fr), (.ref b11)])) _
        refine st52 _ ?_
        show Steps p.tables e below (T52.setTop (mkF m 352 #[.val (.int u1), .val (.int u2), .val (.int u3), .val (.long u4), .second, .val (.int u5), .val (.int vf), .val (.ref sa5), .val (.int (4 : Int32)), .val (.int fr), .val (.int vl), .val (.ref b11), .val (.int vm), .val (.int vq), .val (.int (u2.toInt8.toInt32)), .val (.int (bif (if_icmp.holds .ne vl (4 : Int32)) then (0 : Int32) else (1 : Int32)))] [(.int (own_kw fr (fr + vl) xs43))])) _
        refine XS.iload X52.here hx rfl (hb hby at_352) rfl ?_
        show Steps p.tables e below (T52.setTop (mkF m 354 #[.val (.int u1), .val (.int u2), .val (.int u3), .val (.long u4), .second, .val (.int u5), .val (.int vf), .val (.ref sa5), .val (.int (4 : Int32)), .val (.int fr), .val (.int vl), .val (.ref b11), .val (.int vm), .val (.int vq), .val (.int (u2.toInt8.toInt32)), .val (.int (bif (if_icmp.holds .ne vl (4 : Int32)) then (0 : Int32) else (1 : Int32)))] [(.int (bif (if_icmp.holds .ne vl (4 : Int32)) then (0 : Int32) else (1 : Int32))), (.int (own_kw fr (fr + vl) xs43))])) _
        refine XS.icmpNo X52.here hx rfl (hb hby at_354) rfl (own_A_true hF hx0 hx37 hx39 hx41 hx43) ?_
        show Steps p.tables e below (T52.setTop (mkF m 357 #[.val (.int u1), .val (.int u2), .val (.int u3), .val (.long u4), .second, .val (.int u5), .val (.int vf), .val (.ref sa5), .val (.int (4 : Int32)), .val (.int fr), .val (.int vl), .val (.ref b11), .val (.int vm), .val (.int vq), .val (.int (u2.toInt8.toInt32)), .val (.int (bif (if_icmp.holds .ne vl (4 : Int32)) then (0 : Int32) else (1 : Int32)))] [])) _
        refine XS.iconst X52.here hx rfl (hb hby at_357) ?_
        show Steps p.tables e below (T52.setTop (mkF m 358 #[.val (.int u1), .val (.int u2), .val (.int u3), .val (.long u4), .second, .val (.int u5), .val (.int vf), .val (.ref sa5), .val (.int (4 : Int32)), .val (.int fr), .val (.int vl), .val (.ref b11), .val (.int vm), .val (.int vq), .val (.int (u2.toInt8.toInt32)), .val (.int (bif (if_icmp.holds .ne vl (4 : Int32)) then (0 : Int32) else (1 : Int32)))] [(.int (1 : Int32))])) _
        refine XS.goto X52.here hx rfl (pc0 := 358) (pc' := 362) rfl (hb hby at_358) (by decide) (by decide) ?_
        show Steps p.tables e below (T52.setTop (mkF m 362 #[.val (.int u1), .val (.int u2), .val (.int u3), .val (.long u4), .second, .val (.int u5), .val (.int vf), .val (.ref sa5), .val (.int (4 : Int32)), .val (.int fr), .val (.int vl), .val (.ref b11), .val (.int vm), .val (.int vq), .val (.int (u2.toInt8.toInt32)), .val (.int (bif (if_icmp.holds .ne vl (4 : Int32)) then (0 : Int32) else (1 : Int32)))] [(.int (1 : Int32))])) _
        exact retN X52 hx (t := .boolean) Bd.returns (by simp) (hb hby at_362) hr
      · show Q_rm_law Z _ _ _ _ _ _ _ h0 n0 _ T52.heap _
        rw [eq52]
        exact ⟨rfl, N52⟩
    · obtain ⟨cl53, Ar53, q53, S53, M53, H53, G53⟩ := id V43x
      obtain ⟨T53, h53, X53, e53, W53, st53⟩ := stB X43 hx hZ e43 Ar53 (j := (fr + vq)) (inb_of S53 (own_fr hF _ (own_up4 hQ))) (g := (mkF m 307 #[.val (.int u1), .val (.int u2), .val (.int u3), .val (.long u4), .second, .val (.int u5), .val (.int vf), .val (.ref sa5), .val (.int (4 : Int32)), .val (.int fr), .val (.int vl), .val (.ref b11), .val (.int vm), .val (.int vq), .val (.int (u2.toInt8.toInt32)), .unset] [(.int (u2.toInt8.toInt32)), (.int (fr + vq)), (.ref b11)])) rfl rfl (hb hby at_307)
      have V53 := Arv.set Ar53 q53 S53 M53 H53 G53 (fits_nar_byte _) W53 ((fr + vq)).toNatClampNeg rfl (own_lt12 (own_fr hF _ (own_up4 hQ)) L43x)
      have N53 := Fr.snoc X53 N43 fr_b11
      have Z53 : n0 ≤ h53.size := Nat.le_trans Z43 (Keep.of_wr W53).1
      have kk53 : kc5 ≤ h53.size := Nat.le_trans kk43 (Keep.of_wr W53).1
      have Od53 : Old Z n0 h53 := Od43.wr W53 fr_b11
      obtain ⟨xs53, hx53⟩ : ∃ y : List Int32, y = xs43.set ((fr + vq)).toNatClampNeg (u2.toInt8.toInt32) := ⟨_, rfl⟩
      have V53x : Arv Z h53 b11 k11 .byte (12 : Int32) (xs53.map Value.int) (.int (0 : Int32)) := by rw [hx53, List.map_set, ← own_nb u2]; exact V53
      have L53x : xs53.length = 12 := by rw [hx53, List.length_set]; exact L43x
      have pre54 : ∀ t, Steps p.tables e below (T53.setTop (mkF m 312 #[.val (.int u1), .val (.int u2), .val (.int u3), .val (.long u4), .second, .val (.int u5), .val (.int vf), .val (.ref sa5), .val (.int (4 : Int32)), .val (.int fr), .val (.int vl), .val (.ref b11), .val (.int vm), .val (.int vq), .val (.int (u2.toInt8.toInt32)), .unset] [(.int (4 : Int32)), (.int vl)])) t → Steps p.tables e below (s₁.setTop (entryFrame m #[(.int u1), (.int u2), (.int u3), (.long u4), (.int u5)] maxLocals)) t := by
        intro t k
        refine pre48 t ?_
        show Steps p.tables e below (T43.setTop (mkF m 295 #[.val (.int u1), .val (.int u2), .val (.int u3), .val (.long u4), .second, .val (.int u5), .val (.int vf), .val (.ref sa5), .val (.int (4 : Int32)), .val (.int fr), .val (.int vl), .val (.ref b11), .val (.int vm), .val (.int vq), .val (.int (u2.toInt8.toInt32)), .unset] [(.int vm)])) _
        refine XS.ifNo X43.here hx rfl (hb hby at_295) rfl hb295 ?_
        show Steps p.tables e below (T43.setTop (mkF m 298 #[.val (.int u1), .val (.int u2), .val (.int u3), .val (.long u4), .second, .val (.int u5), .val (.int vf), .val (.ref sa5), .val (.int (4 : Int32)), .val (.int fr), .val (.int vl), .val (.ref b11), .val (.int vm), .val (.int vq), .val (.int (u2.toInt8.toInt32)), .unset] [])) _
        refine XS.aload X43.here hx rfl (hb hby at_298) rfl rfl ?_
        show Steps p.tables e below (T43.setTop (mkF m 300 #[.val (.int u1), .val (.int u2), .val (.int u3), .val (.long u4), .second, .val (.int u5), .val (.int vf), .val (.ref sa5), .val (.int (4 : Int32)), .val (.int fr), .val (.int vl), .val (.ref b11), .val (.int vm), .val (.int vq), .val (.int (u2.toInt8.toInt32)), .unset] [(.ref b11)])) _
        refine XS.iload X43.here hx rfl (hb hby at_300) rfl ?_
        show Steps p.tables e below (T43.setTop (mkF m 302 #[.val (.int u1), .val (.int u2), .val (.int u3), .val (.long u4), .second, .val (.int u5), .val (.int vf), .val (.ref sa5), .val (.int (4 : Int32)), .val (.int fr), .val (.int vl), .val (.ref b11), .val (.int vm), .val (.int vq), .val (.int (u2.toInt8.toInt32)), .unset] [(.int fr), (.ref b11)])) _
        refine XS.iload X43.here hx rfl (hb hby at_302) rfl ?_
        show Steps p.tables e below (T43.setTop (mkF m 304 #[.val (.int u1), .val (.int u2), .val (.int u3), .val (.long u4), .second, .val (.int u5), .val (.int vf), .val (.ref sa5), .val (.int (4 : Int32)), .val (.int fr), .val (.int vl), .val (.ref b11), .val (.int vm), .val (.int vq), .val (.int (u2.toInt8.toInt32)), .unset] [(.int vq), (.int fr), (.ref b11)])) _
        refine XS.iadd X43.here hx rfl (hb hby at_304) rfl ?_
        show Steps p.tables e below (T43.setTop (mkF m 305 #[.val (.int u1), .val (.int u2), .val (.int u3), .val (.long u4), .second, .val (.int u5), .val (.int vf), .val (.ref sa5), .val (.int (4 : Int32)), .val (.int fr), .val (.int vl), .val (.ref b11), .val (.int vm), .val (.int vq), .val (.int (u2.toInt8.toInt32)), .unset] [(.int (fr + vq)), (.ref b11)])) _
        refine XS.iload X43.here hx rfl (hb hby at_305) rfl ?_
        show Steps p.tables e below (T43.setTop (mkF m 307 #[.val (.int u1), .val (.int u2), .val (.int u3), .val (.long u4), .second, .val (.int u5), .val (.int vf), .val (.ref sa5), .val (.int (4 : Int32)), .val (.int fr), .val (.int vl), .val (.ref b11), .val (.int vm), .val (.int vq), .val (.int (u2.toInt8.toInt32)), .unset] [(.int (u2.toInt8.toInt32)), (.int (fr + vq)), (.ref b11)])) _
        refine st53 _ ?_
        show Steps p.tables e below (T53.setTop (mkF m 308 #[.val (.int u1), .val (.int u2), .val (.int u3), .val (.long u4), .second, .val (.int u5), .val (.int vf), .val (.ref sa5), .val (.int (4 : Int32)), .val (.int fr), .val (.int vl), .val (.ref b11), .val (.int vm), .val (.int vq), .val (.int (u2.toInt8.toInt32)), .unset] [])) _
        refine XS.iload X53.here hx rfl (hb hby at_308) rfl ?_
        show Steps p.tables e below (T53.setTop (mkF m 310 #[.val (.int u1), .val (.int u2), .val (.int u3), .val (.long u4), .second, .val (.int u5), .val (.int vf), .val (.ref sa5), .val (.int (4 : Int32)), .val (.int fr), .val (.int vl), .val (.ref b11), .val (.int vm), .val (.int vq), .val (.int (u2.toInt8.toInt32)), .unset] [(.int vl)])) _
        refine XS.iload X53.here hx rfl (hb hby at_310) rfl ?_
        exact k
      rcases Bool.eq_false_or_eq_true (if_icmp.holds .ne vl (4 : Int32)) with hb312 | hb312
      · obtain ⟨_, _, ⟨T55, L55, k55, n55⟩, -, X55, ⟨Lc55, hQ55, l55, y55, z55⟩, st55⟩ := Jvm.LawKit.callS X53 hx (y := (⟨"com/example/sabac/sabac/ExpressionLexer", "isKeyword", "([BII)Z"⟩ : MethodName)) hown (mvT hZ (own_w hw 47 rfl)) (mvT hZ (own_w hw 48 rfl)) (mvT hZ (own_w hw 49 rfl)) (mvT hZ (own_w hw 50 rfl)) (by decide) (backOf (W := 0) (rm_kw l Z a0 hw [] b11 fr (fr + vl) k11 xs53 h53 n0 Z53 V53x hF) hZ (own_w hw 50 rfl) (own_w hw 49 rfl) (by decide) (by decide)) (g := (mkF m 349 #[.val (.int u1), .val (.int u2), .val (.int u3), .val (.long u4), .second, .val (.int u5), .val (.int vf), .val (.ref sa5), .val (.int (4 : Int32)), .val (.int fr), .val (.int vl), .val (.ref b11), .val (.int vm), .val (.int vq), .val (.int (u2.toInt8.toInt32)), .val (.int (0 : Int32))] [(.int (fr + vl)), (.int fr), (.ref b11)])) rfl (by rw [hml]; rfl) (argsL := [(.ref b11), (.int fr), (.int (fr + vl))]) (rest := []) (lenOf pd_634392 rfl) rfl (by show 2 * 0 + _ ≤ _; exact Nat.le_of_eq rfl) (hb hby at_349) (fun _ _ => ⟨rfl, e53, (by decide : 3 + 0 ≤ _), (by decide : 36 + 0 ≤ _)⟩)
        dsimp only [Pt.U, Pt.locs, Pt.cells, Pt.slots] at X55 l55 y55 z55 st55 hQ55
        replace y55 : k55 = 3 := y55
        replace z55 : n55 = 36 := z55
        subst y55 z55
        obtain ⟨rfl, Nq55, eq55⟩ := hQ55
        have N55 : Fr n0 L55 := by rw [l55]; exact Fr.app N53 Nq55
        obtain ⟨fs, hr, hrun, hended, hEnd⟩ := Stand.leaveW (s := s) X55 hS5 (by rw [eq55]; exact kk53) (v := some (.int (1 : Int32))) (fun h => by rw [Bd.returns] at h; cases h)
        refine ⟨_, _, pre54 _ ?_, hrun, hended, _, _, rfl, ?_, hEnd.1, hEnd.2.1, hEnd.2.2.1, hEnd.2.2.2.mono (by decide) (by decide)⟩
        · show Steps p.tables e below (T53.setTop (mkF m 312 #[.val (.int u1), .val (.int u2), .val (.int u3), .val (.long u4), .second, .val (.int u5), .val (.int vf), .val (.ref sa5), .val (.int (4 : Int32)), .val (.int fr), .val (.int vl), .val (.ref b11), .val (.int vm), .val (.int vq), .val (.int (u2.toInt8.toInt32)), .unset] [(.int (4 : Int32)), (.int vl)])) _
          refine XS.icmpYes X53.here hx rfl (pc0 := 312) (pc' := 337) rfl (hb hby at_312) rfl hb312 (by decide) (by decide) ?_
          show Steps p.tables e below (T53.setTop (mkF m 337 #[.val (.int u1), .val (.int u2), .val (.int u3), .val (.long u4), .second, .val (.int u5), .val (.int vf), .val (.ref sa5), .val (.int (4 : Int32)), .val (.int fr), .val (.int vl), .val (.ref b11), .val (.int vm), .val (.int vq), .val (.int (u2.toInt8.toInt32)), .unset] [])) _
          refine XS.iconst X53.here hx rfl (hb hby at_337) ?_
          show Steps p.tables e below (T53.setTop (mkF m 338 #[.val (.int u1), .val (.int u2), .val (.int u3), .val (.long u4), .second, .val (.int u5), .val (.int vf), .val (.ref sa5), .val (.int (4 : Int32)), .val (.int fr), .val (.int vl), .val (.ref b11), .val (.int vm), .val (.int vq), .val (.int (u2.toInt8.toInt32)), .unset] [(.int (0 : Int32))])) _
          refine XS.istore X53.here hx rfl (hb hby at_338) rfl (l' := #[.val (.int u1), .val (.int u2), .val (.int u3), .val (.long u4), .second, .val (.int u5), .val (.int vf), .val (.ref sa5), .val (.int (4 : Int32)), .val (.int fr), .val (.int vl), .val (.ref b11), .val (.int vm), .val (.int vq), .val (.int (u2.toInt8.toInt32)), .val (.int (0 : Int32))]) rfl ?_
          show Steps p.tables e below (T53.setTop (mkF m 340 #[.val (.int u1), .val (.int u2), .val (.int u3), .val (.long u4), .second, .val (.int u5), .val (.int vf), .val (.ref sa5), .val (.int (4 : Int32)), .val (.int fr), .val (.int vl), .val (.ref b11), .val (.int vm), .val (.int vq), .val (.int (u2.toInt8.toInt32)), .val (.int (0 : Int32))] [])) _
          refine XS.aload X53.here hx rfl (hb hby at_340) rfl rfl ?_
          show Steps p.tables e below (T53.setTop (mkF m 342 #[.val (.int u1), .val (.int u2), .val (.int u3), .val (.long u4), .second, .val (.int u5), .val (.int vf), .val (.ref sa5), .val (.int (4 : Int32)), .val (.int fr), .val (.int vl), .val (.ref b11), .val (.int vm), .val (.int vq), .val (.int (u2.toInt8.toInt32)), .val (.int (0 : Int32))] [(.ref b11)])) _
          refine XS.iload X53.here hx rfl (hb hby at_342) rfl ?_
          show Steps p.tables e below (T53.setTop (mkF m 344 #[.val (.int u1), .val (.int u2), .val (.int u3), .val (.long u4), .second, .val (.int u5), .val (.int vf), .val (.ref sa5), .val (.int (4 : Int32)), .val (.int fr), .val (.int vl), .val (.ref b11), .val (.int vm), .val (.int vq), .val (.int (u2.toInt8.toInt32)), .val (.int (0 : Int32))] [(.int fr), (.ref b11)])) _
          refine XS.iload X53.here hx rfl (hb hby at_344) rfl ?_
          show Steps p.tables e below (T53.setTop (mkF m 346 #[.val (.int u1), .val (.int u2), .val (.int u3), .val (.long u4), .second, .val (.int u5), .val (.int vf), .val (.ref sa5), .val (.int (4 : Int32)), .val (.int fr), .val (.int vl), .val (.ref b11), .val (.int vm), .val (.int vq), .val (.int (u2.toInt8.toInt32)), .val (.int (0 : Int32))] [(.int fr), (.int fr), (.ref b11)])) _
          refine XS.iload X53.here hx rfl (hb hby at_346) rfl ?_
          show Steps p.tables e below (T53.setTop (mkF m 348 #[.val (.int u1), .val (.int u2), .val (.int u3), .val (.long u4), .second, .val (.int u5), .val (.int vf), .val (.ref sa5), .val (.int (4 : Int32)), .val (.int fr), .val (.int vl), .val (.ref b11), .val (.int vm), .val (.int vq), .val (.int (u2.toInt8.toInt32)), .val (.int (0 : Int32))] [(.int vl), (.int fr), (.int fr), (.ref b11)])) _
          refine XS.iadd X53.here hx rfl (hb hby at_348) rfl ?_
          show Steps p.tables e below (T53.setTop (mkF m 349 #[.val (.int u1), .val (.int u2), .val (.int u3), .val (.long u4), .second, .val (.int u5), .val (.int vf), .val (.ref sa5), .val (.int (4 : Int32)), .val (.int fr), .val (.int vl), .val (.ref b11), .val (.int vm), .val (.int vq), .val (.int (u2.toInt8.toInt32)), .val (.int (0 : Int32))] [(.int (fr + vl)), (.int fr), (.ref b11)])) _
          refine st55 _ ?_
          show Steps p.tables e below (T55.setTop (mkF m 352 #[.val (.int u1), .val (.int u2), .val (.int u3), .val (.long u4), .second, .val (.int u5), .val (.int vf), .val (.ref sa5), .val (.int (4 : Int32)), .val (.int fr), .val (.int vl), .val (.ref b11), .val (.int vm), .val (.int vq), .val (.int (u2.toInt8.toInt32)), .val (.int (0 : Int32))] [(.int (own_kw fr (fr + vl) xs53))])) _
          refine XS.iload X55.here hx rfl (hb hby at_352) rfl ?_
          show Steps p.tables e below (T55.setTop (mkF m 354 #[.val (.int u1), .val (.int u2), .val (.int u3), .val (.long u4), .second, .val (.int u5), .val (.int vf), .val (.ref sa5), .val (.int (4 : Int32)), .val (.int fr), .val (.int vl), .val (.ref b11), .val (.int vm), .val (.int vq), .val (.int (u2.toInt8.toInt32)), .val (.int (0 : Int32))] [(.int (0 : Int32)), (.int (own_kw fr (fr + vl) xs53))])) _
          refine XS.icmpNo X55.here hx rfl (hb hby at_354) rfl (own_B_true hF hQ hx0 hx37 hx39 hx41 hx43 hx53 hb312) ?_
          show Steps p.tables e below (T55.setTop (mkF m 357 #[.val (.int u1), .val (.int u2), .val (.int u3), .val (.long u4), .second, .val (.int u5), .val (.int vf), .val (.ref sa5), .val (.int (4 : Int32)), .val (.int fr), .val (.int vl), .val (.ref b11), .val (.int vm), .val (.int vq), .val (.int (u2.toInt8.toInt32)), .val (.int (0 : Int32))] [])) _
          refine XS.iconst X55.here hx rfl (hb hby at_357) ?_
          show Steps p.tables e below (T55.setTop (mkF m 358 #[.val (.int u1), .val (.int u2), .val (.int u3), .val (.long u4), .second, .val (.int u5), .val (.int vf), .val (.ref sa5), .val (.int (4 : Int32)), .val (.int fr), .val (.int vl), .val (.ref b11), .val (.int vm), .val (.int vq), .val (.int (u2.toInt8.toInt32)), .val (.int (0 : Int32))] [(.int (1 : Int32))])) _
          refine XS.goto X55.here hx rfl (pc0 := 358) (pc' := 362) rfl (hb hby at_358) (by decide) (by decide) ?_
          show Steps p.tables e below (T55.setTop (mkF m 362 #[.val (.int u1), .val (.int u2), .val (.int u3), .val (.long u4), .second, .val (.int u5), .val (.int vf), .val (.ref sa5), .val (.int (4 : Int32)), .val (.int fr), .val (.int vl), .val (.ref b11), .val (.int vm), .val (.int vq), .val (.int (u2.toInt8.toInt32)), .val (.int (0 : Int32))] [(.int (1 : Int32))])) _
          exact retN X55 hx (t := .boolean) Bd.returns (by simp) (hb hby at_362) hr
        · show Q_rm_law Z _ _ _ _ _ _ _ h0 n0 _ T55.heap _
          rw [eq55]
          exact ⟨rfl, N55⟩
      · obtain ⟨cq56, kq56, q56a, q56b, q56c⟩ := isOf hZ e53 ((((((((((((((((((Ea5.ext E11).wr W13).wr W15).wr W17).wr W19).wr W21).wr W23).wr W25).wr W27).wr W29).wr W31).wr W33).wr W35).wr W37).wr W39).wr W41).wr W43).wr W53)
        obtain ⟨_, _, ⟨T56, L56, k56, n56⟩, -, X56, ⟨Lc56, hQ56, l56, y56, z56⟩, st56⟩ := X53.virtualBack hx (y := (⟨"java/lang/String", "charAt", "(I)C"⟩ : MethodName)) (z := (⟨"java/lang/String", "charAt", "(I)C"⟩ : MethodName)) hown (mvT hZ (own_w hw 25 rfl)) (mvT hZ (own_w hw 26 rfl)) (notFace_of_selects (args := #[]) (mvT hZ (own_w hw 28 rfl))) (mvT hZ (own_w hw 28 rfl)) (mvT hZ (own_w hw 27 rfl)) (by decide) (backOf (W := 1) (rm_ch l Z a0 hw [] sa5 vq zc fm sb5 kb5 (4 : Int32) [(.int (116 : Int32)), (.int (114 : Int32)), (.int (117 : Int32)), (.int (101 : Int32))] (([(116 : Int32), (114 : Int32), (117 : Int32), (101 : Int32)] : List Int32).getD vq.toNatClampNeg (0 : Int32)) h53 n0 Z53 (O2.ext Od53.2) hz (O4.ext Od53.2) rf ((((((((((((((((((Ea5.ext E11).wr W13).wr W15).wr W17).wr W19).wr W21).wr W23).wr W25).wr W27).wr W29).wr W31).wr W33).wr W35).wr W37).wr W39).wr W41).wr W43).wr W53) (Fld.other W53 (Fld.other W43 (Fld.other W41 (Fld.other W39 (Fld.other W37 (Fld.other W35 (Fld.other W33 (Fld.other W31 (Fld.other W29 (Fld.other W27 (Fld.other W25 (Fld.other W23 (Fld.other W21 (Fld.other W19 (Fld.other W17 (Fld.other W15 (Fld.other W13 (Fc5.ext E11) (Or.inl ne_sa5_b11)) (Or.inl ne_sa5_b11)) (Or.inl ne_sa5_b11)) (Or.inl ne_sa5_b11)) (Or.inl ne_sa5_b11)) (Or.inl ne_sa5_b11)) (Or.inl ne_sa5_b11)) (Or.inl ne_sa5_b11)) (Or.inl ne_sa5_b11)) (Or.inl ne_sa5_b11)) (Or.inl ne_sa5_b11)) (Or.inl ne_sa5_b11)) (Or.inl ne_sa5_b11)) (Or.inl ne_sa5_b11)) (Or.inl ne_sa5_b11)) (Or.inl ne_sa5_b11)) (Or.inl ne_sa5_b11)) (Fld.other W53 (Fld.other W43 (Fld.other W41 (Fld.other W39 (Fld.other W37 (Fld.other W35 (Fld.other W33 (Fld.other W31 (Fld.other W29 (Fld.other W27 (Fld.other W25 (Fld.other W23 (Fld.other W21 (Fld.other W19 (Fld.other W17 (Fld.other W15 (Fld.other W13 (Fv5.ext E11) (Or.inl ne_sa5_b11)) (Or.inl ne_sa5_b11)) (Or.inl ne_sa5_b11)) (Or.inl ne_sa5_b11)) (Or.inl ne_sa5_b11)) (Or.inl ne_sa5_b11)) (Or.inl ne_sa5_b11)) (Or.inl ne_sa5_b11)) (Or.inl ne_sa5_b11)) (Or.inl ne_sa5_b11)) (Or.inl ne_sa5_b11)) (Or.inl ne_sa5_b11)) (Or.inl ne_sa5_b11)) (Or.inl ne_sa5_b11)) (Or.inl ne_sa5_b11)) (Or.inl ne_sa5_b11)) (Or.inl ne_sa5_b11)) ((((((((((((((((((Vb5.ext E11).other W13 ne_sb5_b11).other W15 ne_sb5_b11).other W17 ne_sb5_b11).other W19 ne_sb5_b11).other W21 ne_sb5_b11).other W23 ne_sb5_b11).other W25 ne_sb5_b11).other W27 ne_sb5_b11).other W29 ne_sb5_b11).other W31 ne_sb5_b11).other W33 ne_sb5_b11).other W35 ne_sb5_b11).other W37 ne_sb5_b11).other W39 ne_sb5_b11).other W41 ne_sb5_b11).other W43 ne_sb5_b11).other W53 ne_sb5_b11) (own_in4 hQ) (own_getD ([(116 : Int32), (114 : Int32), (117 : Int32), (101 : Int32)] : List Int32) _)) hZ (own_w hw 29 rfl) (own_w hw 1 rfl) (by decide) (by decide)) q56a q56c (g := (mkF m 326 #[.val (.int u1), .val (.int u2), .val (.int u3), .val (.long u4), .second, .val (.int u5), .val (.int vf), .val (.ref sa5), .val (.int (4 : Int32)), .val (.int fr), .val (.int vl), .val (.ref b11), .val (.int vm), .val (.int vq), .val (.int (u2.toInt8.toInt32)), .unset] [(.int vq), (.ref sa5), (.int (u2.toInt8.toInt32))])) rfl (by rw [hml]; rfl) (Steps.refl _) (argsL := [(.int vq)]) (rest := [(.int (u2.toInt8.toInt32))]) (lenOf pd_181558 rfl) rfl (by show 2 * 0 + _ ≤ _; exact Nat.le_of_eq rfl) (hb hby at_326) (fun _ _ => ⟨rfl, e53, (by decide : 3 + 0 ≤ _), (by decide : 36 + 0 ≤ _)⟩)
        dsimp only [Pt.U, Pt.locs, Pt.cells, Pt.slots] at X56 l56 y56 z56 st56 hQ56
        replace y56 : k56 = 3 := y56
        replace z56 : n56 = 36 := z56
        subst y56 z56
        obtain ⟨rfl, Nq56, eq56⟩ := hQ56
        have N56 : Fr n0 L56 := by rw [l56]; exact Fr.app N53 Nq56
        have pre57 : ∀ t, Steps p.tables e below (T56.setTop (mkF m 330 #[.val (.int u1), .val (.int u2), .val (.int u3), .val (.long u4), .second, .val (.int u5), .val (.int vf), .val (.ref sa5), .val (.int (4 : Int32)), .val (.int fr), .val (.int vl), .val (.ref b11), .val (.int vm), .val (.int vq), .val (.int (u2.toInt8.toInt32)), .unset] [(.int ((nar .char (nar .char (((([(116 : Int32), (114 : Int32), (117 : Int32), (101 : Int32)] : List Int32).getD vq.toNatClampNeg (0 : Int32)) &&& (255 : Int32)).toUInt32.toUInt16.toUInt32.toInt32))).toInt8.toInt32)), (.int (u2.toInt8.toInt32))])) t → Steps p.tables e below (s₁.setTop (entryFrame m #[(.int u1), (.int u2), (.int u3), (.long u4), (.int u5)] maxLocals)) t := by
          intro t k
          refine pre54 t ?_
          show Steps p.tables e below (T53.setTop (mkF m 312 #[.val (.int u1), .val (.int u2), .val (.int u3), .val (.long u4), .second, .val (.int u5), .val (.int vf), .val (.ref sa5), .val (.int (4 : Int32)), .val (.int fr), .val (.int vl), .val (.ref b11), .val (.int vm), .val (.int vq), .val (.int (u2.toInt8.toInt32)), .unset] [(.int (4 : Int32)), (.int vl)])) _
          refine XS.icmpNo X53.here hx rfl (hb hby at_312) rfl hb312 ?_
          show Steps p.tables e below (T53.setTop (mkF m 315 #[.val (.int u1), .val (.int u2), .val (.int u3), .val (.long u4), .second, .val (.int u5), .val (.int vf), .val (.ref sa5), .val (.int (4 : Int32)), .val (.int fr), .val (.int vl), .val (.ref b11), .val (.int vm), .val (.int vq), .val (.int (u2.toInt8.toInt32)), .unset] [])) _
          refine XS.iload X53.here hx rfl (hb hby at_315) rfl ?_
          show Steps p.tables e below (T53.setTop (mkF m 317 #[.val (.int u1), .val (.int u2), .val (.int u3), .val (.long u4), .second, .val (.int u5), .val (.int vf), .val (.ref sa5), .val (.int (4 : Int32)), .val (.int fr), .val (.int vl), .val (.ref b11), .val (.int vm), .val (.int vq), .val (.int (u2.toInt8.toInt32)), .unset] [(.int vm)])) _
          refine XS.ifNo X53.here hx rfl (hb hby at_317) rfl hb295 ?_
          show Steps p.tables e below (T53.setTop (mkF m 320 #[.val (.int u1), .val (.int u2), .val (.int u3), .val (.long u4), .second, .val (.int u5), .val (.int vf), .val (.ref sa5), .val (.int (4 : Int32)), .val (.int fr), .val (.int vl), .val (.ref b11), .val (.int vm), .val (.int vq), .val (.int (u2.toInt8.toInt32)), .unset] [])) _
          refine XS.iload X53.here hx rfl (hb hby at_320) rfl ?_
          show Steps p.tables e below (T53.setTop (mkF m 322 #[.val (.int u1), .val (.int u2), .val (.int u3), .val (.long u4), .second, .val (.int u5), .val (.int vf), .val (.ref sa5), .val (.int (4 : Int32)), .val (.int fr), .val (.int vl), .val (.ref b11), .val (.int vm), .val (.int vq), .val (.int (u2.toInt8.toInt32)), .unset] [(.int (u2.toInt8.toInt32))])) _
          refine XS.aload X53.here hx rfl (hb hby at_322) rfl rfl ?_
          show Steps p.tables e below (T53.setTop (mkF m 324 #[.val (.int u1), .val (.int u2), .val (.int u3), .val (.long u4), .second, .val (.int u5), .val (.int vf), .val (.ref sa5), .val (.int (4 : Int32)), .val (.int fr), .val (.int vl), .val (.ref b11), .val (.int vm), .val (.int vq), .val (.int (u2.toInt8.toInt32)), .unset] [(.ref sa5), (.int (u2.toInt8.toInt32))])) _
          refine XS.iload X53.here hx rfl (hb hby at_324) rfl ?_
          show Steps p.tables e below (T53.setTop (mkF m 326 #[.val (.int u1), .val (.int u2), .val (.int u3), .val (.long u4), .second, .val (.int u5), .val (.int vf), .val (.ref sa5), .val (.int (4 : Int32)), .val (.int fr), .val (.int vl), .val (.ref b11), .val (.int vm), .val (.int vq), .val (.int (u2.toInt8.toInt32)), .unset] [(.int vq), (.ref sa5), (.int (u2.toInt8.toInt32))])) _
          refine st56.trans ?_
          show Steps p.tables e below (T56.setTop (mkF m 329 #[.val (.int u1), .val (.int u2), .val (.int u3), .val (.long u4), .second, .val (.int u5), .val (.int vf), .val (.ref sa5), .val (.int (4 : Int32)), .val (.int fr), .val (.int vl), .val (.ref b11), .val (.int vm), .val (.int vq), .val (.int (u2.toInt8.toInt32)), .unset] [(.int (nar .char (nar .char (((([(116 : Int32), (114 : Int32), (117 : Int32), (101 : Int32)] : List Int32).getD vq.toNatClampNeg (0 : Int32)) &&& (255 : Int32)).toUInt32.toUInt16.toUInt32.toInt32)))), (.int (u2.toInt8.toInt32))])) _
          refine XS.i2b X56.here hx rfl (hb hby at_329) rfl ?_
          exact k
        have pre59 : ∀ t, Steps p.tables e below (T56.setTop (mkF m 338 #[.val (.int u1), .val (.int u2), .val (.int u3), .val (.long u4), .second, .val (.int u5), .val (.int vf), .val (.ref sa5), .val (.int (4 : Int32)), .val (.int fr), .val (.int vl), .val (.ref b11), .val (.int vm), .val (.int vq), .val (.int (u2.toInt8.toInt32)), .unset] [(.int (bif (if_icmp.holds .ne (u2.toInt8.toInt32) ((nar .char (nar .char (((([(116 : Int32), (114 : Int32), (117 : Int32), (101 : Int32)] : List Int32).getD vq.toNatClampNeg (0 : Int32)) &&& (255 : Int32)).toUInt32.toUInt16.toUInt32.toInt32))).toInt8.toInt32)) then (0 : Int32) else (1 : Int32)))])) t → Steps p.tables e below (s₁.setTop (entryFrame m #[(.int u1), (.int u2), (.int u3), (.long u4), (.int u5)] maxLocals)) t := by
          intro t k
          refine pre57 t ?_
          show Steps p.tables e below (T56.setTop (mkF m 330 #[.val (.int u1), .val (.int u2), .val (.int u3), .val (.long u4), .second, .val (.int u5), .val (.int vf), .val (.ref sa5), .val (.int (4 : Int32)), .val (.int fr), .val (.int vl), .val (.ref b11), .val (.int vm), .val (.int vq), .val (.int (u2.toInt8.toInt32)), .unset] [(.int ((nar .char (nar .char (((([(116 : Int32), (114 : Int32), (117 : Int32), (101 : Int32)] : List Int32).getD vq.toNatClampNeg (0 : Int32)) &&& (255 : Int32)).toUInt32.toUInt16.toUInt32.toInt32))).toInt8.toInt32)), (.int (u2.toInt8.toInt32))])) _
          rcases Bool.eq_false_or_eq_true (if_icmp.holds .ne (u2.toInt8.toInt32) ((nar .char (nar .char (((([(116 : Int32), (114 : Int32), (117 : Int32), (101 : Int32)] : List Int32).getD vq.toNatClampNeg (0 : Int32)) &&& (255 : Int32)).toUInt32.toUInt16.toUInt32.toInt32))).toInt8.toInt32)) with hb330_58 | hb330_58
          · refine XS.icmpYes X56.here hx rfl (pc0 := 330) (pc' := 337) rfl (hb hby at_330) rfl hb330_58 (by decide) (by decide) ?_
            show Steps p.tables e below (T56.setTop (mkF m 337 #[.val (.int u1), .val (.int u2), .val (.int u3), .val (.long u4), .second, .val (.int u5), .val (.int vf), .val (.ref sa5), .val (.int (4 : Int32)), .val (.int fr), .val (.int vl), .val (.ref b11), .val (.int vm), .val (.int vq), .val (.int (u2.toInt8.toInt32)), .unset] [])) _
            refine XS.iconst X56.here hx rfl (hb hby at_337) ?_
            have k : Steps p.tables e below (T56.setTop (mkF m 338 #[.val (.int u1), .val (.int u2), .val (.int u3), .val (.long u4), .second, .val (.int u5), .val (.int vf), .val (.ref sa5), .val (.int (4 : Int32)), .val (.int fr), .val (.int vl), .val (.ref b11), .val (.int vm), .val (.int vq), .val (.int (u2.toInt8.toInt32)), .unset] [(.int (0 : Int32))])) t := by simpa only [hb330_58, cond_true, cond_false] using k
            exact k
          · refine XS.icmpNo X56.here hx rfl (hb hby at_330) rfl hb330_58 ?_
            show Steps p.tables e below (T56.setTop (mkF m 333 #[.val (.int u1), .val (.int u2), .val (.int u3), .val (.long u4), .second, .val (.int u5), .val (.int vf), .val (.ref sa5), .val (.int (4 : Int32)), .val (.int fr), .val (.int vl), .val (.ref b11), .val (.int vm), .val (.int vq), .val (.int (u2.toInt8.toInt32)), .unset] [])) _
            refine XS.iconst X56.here hx rfl (hb hby at_333) ?_
            show Steps p.tables e below (T56.setTop (mkF m 334 #[.val (.int u1), .val (.int u2), .val (.int u3), .val (.long u4), .second, .val (.int u5), .val (.int vf), .val (.ref sa5), .val (.int (4 : Int32)), .val (.int fr), .val (.int vl), .val (.ref b11), .val (.int vm), .val (.int vq), .val (.int (u2.toInt8.toInt32)), .unset] [(.int (1 : Int32))])) _
            refine XS.goto X56.here hx rfl (pc0 := 334) (pc' := 338) rfl (hb hby at_334) (by decide) (by decide) ?_
            have k : Steps p.tables e below (T56.setTop (mkF m 338 #[.val (.int u1), .val (.int u2), .val (.int u3), .val (.long u4), .second, .val (.int u5), .val (.int vf), .val (.ref sa5), .val (.int (4 : Int32)), .val (.int fr), .val (.int vl), .val (.ref b11), .val (.int vm), .val (.int vq), .val (.int (u2.toInt8.toInt32)), .unset] [(.int (1 : Int32))])) t := by simpa only [hb330_58, cond_true, cond_false] using k
            exact k
        obtain ⟨_, _, ⟨T60, L60, k60, n60⟩, -, X60, ⟨Lc60, hQ60, l60, y60, z60⟩, st60⟩ := Jvm.LawKit.callS X56 hx (y := (⟨"com/example/sabac/sabac/ExpressionLexer", "isKeyword", "([BII)Z"⟩ : MethodName)) hown (mvT hZ (own_w hw 47 rfl)) (mvT hZ (own_w hw 48 rfl)) (mvT hZ (own_w hw 49 rfl)) (mvT hZ (own_w hw 50 rfl)) (by decide) (backOf (W := 0) (rm_kw l Z a0 hw [] b11 fr (fr + vl) k11 xs53 h53 n0 Z53 V53x hF) hZ (own_w hw 50 rfl) (own_w hw 49 rfl) (by decide) (by decide)) (g := (mkF m 349 #[.val (.int u1), .val (.int u2), .val (.int u3), .val (.long u4), .second, .val (.int u5), .val (.int vf), .val (.ref sa5), .val (.int (4 : Int32)), .val (.int fr), .val (.int vl), .val (.ref b11), .val (.int vm), .val (.int vq), .val (.int (u2.toInt8.toInt32)), .val (.int (bif (if_icmp.holds .ne (u2.toInt8.toInt32) ((nar .char (nar .char (((([(116 : Int32), (114 : Int32), (117 : Int32), (101 : Int32)] : List Int32).getD vq.toNatClampNeg (0 : Int32)) &&& (255 : Int32)).toUInt32.toUInt16.toUInt32.toInt32))).toInt8.toInt32)) then (0 : Int32) else (1 : Int32)))] [(.int (fr + vl)), (.int fr), (.ref b11)])) rfl (by rw [hml]; rfl) (argsL := [(.ref b11), (.int fr), (.int (fr + vl))]) (rest := []) (lenOf pd_634392 rfl) rfl (by show 2 * 0 + _ ≤ _; exact Nat.le_of_eq rfl) (hb hby at_349) (fun _ _ => ⟨rfl, eq56, (by decide : 3 + 0 ≤ _), (by decide : 36 + 0 ≤ _)⟩)
        dsimp only [Pt.U, Pt.locs, Pt.cells, Pt.slots] at X60 l60 y60 z60 st60 hQ60
        replace y60 : k60 = 3 := y60
        replace z60 : n60 = 36 := z60
        subst y60 z60
        obtain ⟨rfl, Nq60, eq60⟩ := hQ60
        have N60 : Fr n0 L60 := by rw [l60]; exact Fr.app N56 Nq60
        obtain ⟨fs, hr, hrun, hended, hEnd⟩ := Stand.leaveW (s := s) X60 hS5 (by rw [eq60]; exact kk53) (v := some (.int (1 : Int32))) (fun h => by rw [Bd.returns] at h; cases h)
        refine ⟨_, _, pre59 _ ?_, hrun, hended, _, _, rfl, ?_, hEnd.1, hEnd.2.1, hEnd.2.2.1, hEnd.2.2.2.mono (by decide) (by decide)⟩
        · show Steps p.tables e below (T56.setTop (mkF m 338 #[.val (.int u1), .val (.int u2), .val (.int u3), .val (.long u4), .second, .val (.int u5), .val (.int vf), .val (.ref sa5), .val (.int (4 : Int32)), .val (.int fr), .val (.int vl), .val (.ref b11), .val (.int vm), .val (.int vq), .val (.int (u2.toInt8.toInt32)), .unset] [(.int (bif (if_icmp.holds .ne (u2.toInt8.toInt32) ((nar .char (nar .char (((([(116 : Int32), (114 : Int32), (117 : Int32), (101 : Int32)] : List Int32).getD vq.toNatClampNeg (0 : Int32)) &&& (255 : Int32)).toUInt32.toUInt16.toUInt32.toInt32))).toInt8.toInt32)) then (0 : Int32) else (1 : Int32)))])) _
          refine XS.istore X56.here hx rfl (hb hby at_338) rfl (l' := #[.val (.int u1), .val (.int u2), .val (.int u3), .val (.long u4), .second, .val (.int u5), .val (.int vf), .val (.ref sa5), .val (.int (4 : Int32)), .val (.int fr), .val (.int vl), .val (.ref b11), .val (.int vm), .val (.int vq), .val (.int (u2.toInt8.toInt32)), .val (.int (bif (if_icmp.holds .ne (u2.toInt8.toInt32) ((nar .char (nar .char (((([(116 : Int32), (114 : Int32), (117 : Int32), (101 : Int32)] : List Int32).getD vq.toNatClampNeg (0 : Int32)) &&& (255 : Int32)).toUInt32.toUInt16.toUInt32.toInt32))).toInt8.toInt32)) then (0 : Int32) else (1 : Int32)))]) rfl ?_
          show Steps p.tables e below (T56.setTop (mkF m 340 #[.val (.int u1), .val (.int u2), .val (.int u3), .val (.long u4), .second, .val (.int u5), .val (.int vf), .val (.ref sa5), .val (.int (4 : Int32)), .val (.int fr), .val (.int vl), .val (.ref b11), .val (.int vm), .val (.int vq), .val (.int (u2.toInt8.toInt32)), .val (.int (bif (if_icmp.holds .ne (u2.toInt8.toInt32) ((nar .char (nar .char (((([(116 : Int32), (114 : Int32), (117 : Int32), (101 : Int32)] : List Int32).getD vq.toNatClampNeg (0 : Int32)) &&& (255 : Int32)).toUInt32.toUInt16.toUInt32.toInt32))).toInt8.toInt32)) then (0 : Int32) else (1 : Int32)))] [])) _
          refine XS.aload X56.here hx rfl (hb hby at_340) rfl rfl ?_
          show Steps p.tables e below (T56.setTop (mkF m 342 #[.val (.int u1), .val (.int u2), .val (.int u3), .val (.long u4), .second, .val (.int u5), .val (.int vf), .val (.ref sa5), .val (.int (4 : Int32)), .val (.int fr), .val (.int vl), .val (.ref b11), .val (.int vm), .val (.int vq), .val (.int (u2.toInt8.toInt32)), .val (.int (bif (if_icmp.holds .ne (u2.toInt8.toInt32) ((nar .char (nar .char (((([(116 : Int32), (114 : Int32), (117 : Int32), (101 : Int32)] : List Int32).getD vq.toNatClampNeg (0 : Int32)) &&& (255 : Int32)).toUInt32.toUInt16.toUInt32.toInt32))).toInt8.toInt32)) then (0 : Int32) else (1 : Int32)))] [(.ref b11)])) _
          refine XS.iload X56.here hx rfl (hb hby at_342) rfl ?_
          show Steps p.tables e below (T56.setTop (mkF m 344 #[.val (.int u1), .val (.int u2), .val (.int u3), .val (.long u4), .second, .val (.int u5), .val (.int vf), .val (.ref sa5), .val (.int (4 : Int32)), .val (.int fr), .val (.int vl), .val (.ref b11), .val (.int vm), .val (.int vq), .val (.int (u2.toInt8.toInt32)), .val (.int (bif (if_icmp.holds .ne (u2.toInt8.toInt32) ((nar .char (nar .char (((([(116 : Int32), (114 : Int32), (117 : Int32), (101 : Int32)] : List Int32).getD vq.toNatClampNeg (0 : Int32)) &&& (255 : Int32)).toUInt32.toUInt16.toUInt32.toInt32))).toInt8.toInt32)) then (0 : Int32) else (1 : Int32)))] [(.int fr), (.ref b11)])) _
          refine XS.iload X56.here hx rfl (hb hby at_344) rfl ?_
          show Steps p.tables e below (T56.setTop (mkF m 346 #[.val (.int u1), .val (.int u2), .val (.int u3), .val (.long u4), .second, .val (.int u5), .val (.int vf), .val (.ref sa5), .val (.int (4 : Int32)), .val (.int fr), .val (.int vl), .val (.ref b11), .val (.int vm), .val (.int vq), .val (.int (u2.toInt8.toInt32)), .val (.int (bif (if_icmp.holds .ne (u2.toInt8.toInt32) ((nar .char (nar .char (((([(116 : Int32), (114 : Int32), (117 : Int32), (101 : Int32)] : List Int32).getD vq.toNatClampNeg (0 : Int32)) &&& (255 : Int32)).toUInt32.toUInt16.toUInt32.toInt32))).toInt8.toInt32)) then (0 : Int32) else (1 : Int32)))] [(.int fr), (.int fr), (.ref b11)])) _
          refine XS.iload X56.here hx rfl (hb hby at_346) rfl ?_
          show Steps p.tables e below (T56.setTop (mkF m 348 #[.val (.int u1), .val (.int u2), .val (.int u3), .val (.long u4), .second, .val (.int u5), .val (.int vf), .val (.ref sa5), .val (.int (4 : Int32)), .val (.int fr), .val (.int vl), .val (.ref b11), .val (.int vm), .val (.int vq), .val (.int (u2.toInt8.toInt32)), .val (.int (bif (if_icmp.holds .ne (u2.toInt8.toInt32) ((nar .char (nar .char (((([(116 : Int32), (114 : Int32), (117 : Int32), (101 : Int32)] : List Int32).getD vq.toNatClampNeg (0 : Int32)) &&& (255 : Int32)).toUInt32.toUInt16.toUInt32.toInt32))).toInt8.toInt32)) then (0 : Int32) else (1 : Int32)))] [(.int vl), (.int fr), (.int fr), (.ref b11)])) _
          refine XS.iadd X56.here hx rfl (hb hby at_348) rfl ?_
          show Steps p.tables e below (T56.setTop (mkF m 349 #[.val (.int u1), .val (.int u2), .val (.int u3), .val (.long u4), .second, .val (.int u5), .val (.int vf), .val (.ref sa5), .val (.int (4 : Int32)), .val (.int fr), .val (.int vl), .val (.ref b11), .val (.int vm), .val (.int vq), .val (.int (u2.toInt8.toInt32)), .val (.int (bif (if_icmp.holds .ne (u2.toInt8.toInt32) ((nar .char (nar .char (((([(116 : Int32), (114 : Int32), (117 : Int32), (101 : Int32)] : List Int32).getD vq.toNatClampNeg (0 : Int32)) &&& (255 : Int32)).toUInt32.toUInt16.toUInt32.toInt32))).toInt8.toInt32)) then (0 : Int32) else (1 : Int32)))] [(.int (fr + vl)), (.int fr), (.ref b11)])) _
          refine st60 _ ?_
          show Steps p.tables e below (T60.setTop (mkF m 352 #[.val (.int u1), .val (.int u2), .val (.int u3), .val (.long u4), .second, .val (.int u5), .val (.int vf), .val (.ref sa5), .val (.int (4 : Int32)), .val (.int fr), .val (.int vl), .val (.ref b11), .val (.int vm), .val (.int vq), .val (.int (u2.toInt8.toInt32)), .val (.int (bif (if_icmp.holds .ne (u2.toInt8.toInt32) ((nar .char (nar .char (((([(116 : Int32), (114 : Int32), (117 : Int32), (101 : Int32)] : List Int32).getD vq.toNatClampNeg (0 : Int32)) &&& (255 : Int32)).toUInt32.toUInt16.toUInt32.toInt32))).toInt8.toInt32)) then (0 : Int32) else (1 : Int32)))] [(.int (own_kw fr (fr + vl) xs53))])) _
          refine XS.iload X60.here hx rfl (hb hby at_352) rfl ?_
          show Steps p.tables e below (T60.setTop (mkF m 354 #[.val (.int u1), .val (.int u2), .val (.int u3), .val (.long u4), .second, .val (.int u5), .val (.int vf), .val (.ref sa5), .val (.int (4 : Int32)), .val (.int fr), .val (.int vl), .val (.ref b11), .val (.int vm), .val (.int vq), .val (.int (u2.toInt8.toInt32)), .val (.int (bif (if_icmp.holds .ne (u2.toInt8.toInt32) ((nar .char (nar .char (((([(116 : Int32), (114 : Int32), (117 : Int32), (101 : Int32)] : List Int32).getD vq.toNatClampNeg (0 : Int32)) &&& (255 : Int32)).toUInt32.toUInt16.toUInt32.toInt32))).toInt8.toInt32)) then (0 : Int32) else (1 : Int32)))] [(.int (bif (if_icmp.holds .ne (u2.toInt8.toInt32) ((nar .char (nar .char (((([(116 : Int32), (114 : Int32), (117 : Int32), (101 : Int32)] : List Int32).getD vq.toNatClampNeg (0 : Int32)) &&& (255 : Int32)).toUInt32.toUInt16.toUInt32.toInt32))).toInt8.toInt32)) then (0 : Int32) else (1 : Int32))), (.int (own_kw fr (fr + vl) xs53))])) _
          refine XS.icmpNo X60.here hx rfl (hb hby at_354) rfl (own_C_true hF hQ hx0 hx37 hx39 hx41 hx43 hx53 hb312) ?_
          show Steps p.tables e below (T60.setTop (mkF m 357 #[.val (.int u1), .val (.int u2), .val (.int u3), .val (.long u4), .second, .val (.int u5), .val (.int vf), .val (.ref sa5), .val (.int (4 : Int32)), .val (.int fr), .val (.int vl), .val (.ref b11), .val (.int vm), .val (.int vq), .val (.int (u2.toInt8.toInt32)), .val (.int (bif (if_icmp.holds .ne (u2.toInt8.toInt32) ((nar .char (nar .char (((([(116 : Int32), (114 : Int32), (117 : Int32), (101 : Int32)] : List Int32).getD vq.toNatClampNeg (0 : Int32)) &&& (255 : Int32)).toUInt32.toUInt16.toUInt32.toInt32))).toInt8.toInt32)) then (0 : Int32) else (1 : Int32)))] [])) _
          refine XS.iconst X60.here hx rfl (hb hby at_357) ?_
          show Steps p.tables e below (T60.setTop (mkF m 358 #[.val (.int u1), .val (.int u2), .val (.int u3), .val (.long u4), .second, .val (.int u5), .val (.int vf), .val (.ref sa5), .val (.int (4 : Int32)), .val (.int fr), .val (.int vl), .val (.ref b11), .val (.int vm), .val (.int vq), .val (.int (u2.toInt8.toInt32)), .val (.int (bif (if_icmp.holds .ne (u2.toInt8.toInt32) ((nar .char (nar .char (((([(116 : Int32), (114 : Int32), (117 : Int32), (101 : Int32)] : List Int32).getD vq.toNatClampNeg (0 : Int32)) &&& (255 : Int32)).toUInt32.toUInt16.toUInt32.toInt32))).toInt8.toInt32)) then (0 : Int32) else (1 : Int32)))] [(.int (1 : Int32))])) _
          refine XS.goto X60.here hx rfl (pc0 := 358) (pc' := 362) rfl (hb hby at_358) (by decide) (by decide) ?_
          show Steps p.tables e below (T60.setTop (mkF m 362 #[.val (.int u1), .val (.int u2), .val (.int u3), .val (.long u4), .second, .val (.int u5), .val (.int vf), .val (.ref sa5), .val (.int (4 : Int32)), .val (.int fr), .val (.int vl), .val (.ref b11), .val (.int vm), .val (.int vq), .val (.int (u2.toInt8.toInt32)), .val (.int (bif (if_icmp.holds .ne (u2.toInt8.toInt32) ((nar .char (nar .char (((([(116 : Int32), (114 : Int32), (117 : Int32), (101 : Int32)] : List Int32).getD vq.toNatClampNeg (0 : Int32)) &&& (255 : Int32)).toUInt32.toUInt16.toUInt32.toInt32))).toInt8.toInt32)) then (0 : Int32) else (1 : Int32)))] [(.int (1 : Int32))])) _
          exact retN X60 hx (t := .boolean) Bd.returns (by simp) (hb hby at_362) hr
        · show Q_rm_law Z _ _ _ _ _ _ _ h0 n0 _ T60.heap _
          rw [eq60]
          exact ⟨rfl, N60⟩
  · have wS : ∀ a ∈ Bundle.stringAtoms, a.before a0 Z = true := fun d hd => hw d ((by decide +kernel : ∀ d ∈ Bundle.stringAtoms, d ∈ tables_1) d hd)
    obtain ⟨sa61, T61, h61, kc61, sb61, kb61, X61, e61, E61, hS61, kk61, hZ, hown, Ea61, Fc61, Fv61, Vb61, -, -, IB61, st61⟩ := ldcSV (s := s) (vm0 := s.vm) X0 hx hZ hown (own_w hw 51 rfl) wS e0 (k0 := h0.size) ((State.WarmedH.refl s).since _) (Nat.le_refl _) (Fr.nil _) hkeep hint (by simp) hh7 hcw (vs := [(.int (102 : Int32)), (.int (97 : Int32)), (.int (108 : Int32)), (.int (115 : Int32)), (.int (101 : Int32))]) (z := (5 : Int32)) (by decide) (by decide) (by decide) (g := (mkF m 18 #[.val (.int u1), .val (.int u2), .val (.int u3), .val (.long u4), .second, .val (.int u5), .val (.int (bif (ifCond.holds .eq (u1 &&& (1 : Int32))) then (0 : Int32) else (1 : Int32))), .unset, .unset, .unset, .unset, .unset, .unset, .unset, .unset, .unset] [])) rfl (hb hby at_18) (n := 20) (by decide) (by decide) (by decide) (by decide)
    have Z61 : n0 ≤ h61.size := Nat.le_trans Z0 E61.1
    have Od61 : Old Z n0 h61 := X00.ext E61
    obtain ⟨cq62, kq62, q62a, q62b, q62c⟩ := isOf hZ e61 Ea61
    obtain ⟨_, _, ⟨T62, L62, k62, n62⟩, -, X62, ⟨Lc62, hQ62, l62, y62, z62⟩, st62⟩ := X61.virtualBack hx (y := (⟨"java/lang/String", "length", "()I"⟩ : MethodName)) (z := (⟨"java/lang/String", "length", "()I"⟩ : MethodName)) hown (mvT hZ (own_w hw 8 rfl)) (mvT hZ (own_w hw 9 rfl)) (notFace_of_selects (args := #[]) (mvT hZ (own_w hw 11 rfl))) (mvT hZ (own_w hw 11 rfl)) (mvT hZ (own_w hw 10 rfl)) (by decide) (backOf (W := 0) (rm_len l Z a0 hw [] sa61 zc (0 : Int32) sb61 kb61 (5 : Int32) [(.int (102 : Int32)), (.int (97 : Int32)), (.int (108 : Int32)), (.int (115 : Int32)), (.int (101 : Int32))] h61 n0 Z61 (O2.ext Od61.2) hz Ea61 Fc61 Fv61 Vb61) hZ (own_w hw 12 rfl) (own_w hw 1 rfl) (by decide) (by decide)) q62a q62c (g := (mkF m 29 #[.val (.int u1), .val (.int u2), .val (.int u3), .val (.long u4), .second, .val (.int u5), .val (.int (bif (ifCond.holds .eq (u1 &&& (1 : Int32))) then (0 : Int32) else (1 : Int32))), .val (.ref sa61), .unset, .unset, .unset, .unset, .unset, .unset, .unset, .unset] [(.ref sa61)])) rfl (by rw [hml]; rfl) (Steps.refl _) (argsL := []) (rest := []) (lenOf pd_691884 rfl) rfl (by show 2 * 0 + _ ≤ _; exact Nat.le_of_eq rfl) (hb hby at_29) (fun _ _ => ⟨rfl, e61, (by decide : 2 + 0 ≤ _), (by decide : 24 + 0 ≤ _)⟩)
    dsimp only [Pt.U, Pt.locs, Pt.cells, Pt.slots] at X62 l62 y62 z62 st62 hQ62
    replace y62 : k62 = 2 := y62
    replace z62 : n62 = 24 := z62
    subst y62 z62
    obtain ⟨rfl, Nq62, eq62⟩ := hQ62
    have N62 : Fr n0 L62 := by rw [l62]; exact Fr.app N0 Nq62
    have pre63 : ∀ t, Steps p.tables e below (T62.setTop (mkF m 46 #[.val (.int u1), .val (.int u2), .val (.int u3), .val (.long u4), .second, .val (.int u5), .val (.int (bif (ifCond.holds .eq (u1 &&& (1 : Int32))) then (0 : Int32) else (1 : Int32))), .val (.ref sa61), .val (.int (5 : Int32)), .val (.int (((u1.toUInt32 >>> ((1 : Int32) &&& 31).toUInt32).toInt32) &&& (3 : Int32))), .unset, .unset, .unset, .unset, .unset, .unset] [(.int (((u1.toUInt32 >>> ((3 : Int32) &&& 31).toUInt32).toInt32) &&& (1 : Int32)))])) t → Steps p.tables e below (s₁.setTop (entryFrame m #[(.int u1), (.int u2), (.int u3), (.long u4), (.int u5)] maxLocals)) t := by
      intro t k
      refine pre4 t ?_
      show Steps p.tables e below (s₁.setTop (mkF m 15 #[.val (.int u1), .val (.int u2), .val (.int u3), .val (.long u4), .second, .val (.int u5), .val (.int (bif (ifCond.holds .eq (u1 &&& (1 : Int32))) then (0 : Int32) else (1 : Int32))), .unset, .unset, .unset, .unset, .unset, .unset, .unset, .unset, .unset] [(.int (bif (ifCond.holds .eq (u1 &&& (1 : Int32))) then (0 : Int32) else (1 : Int32)))])) _
      refine XS.ifNo X0.here hx rfl (hb hby at_15) rfl hb15 ?_
      show Steps p.tables e below (s₁.setTop (mkF m 18 #[.val (.int u1), .val (.int u2), .val (.int u3), .val (.long u4), .second, .val (.int u5), .val (.int (bif (ifCond.holds .eq (u1 &&& (1 : Int32))) then (0 : Int32) else (1 : Int32))), .unset, .unset, .unset, .unset, .unset, .unset, .unset, .unset, .unset] [])) _
      refine st61 _ ?_
      show Steps p.tables e below (T61.setTop (mkF m 20 #[.val (.int u1), .val (.int u2), .val (.int u3), .val (.long u4), .second, .val (.int u5), .val (.int (bif (ifCond.holds .eq (u1 &&& (1 : Int32))) then (0 : Int32) else (1 : Int32))), .unset, .unset, .unset, .unset, .unset, .unset, .unset, .unset, .unset] [(.ref sa61)])) _
      refine XS.goto X61.here hx rfl (pc0 := 20) (pc' := 25) rfl (hb hby at_20) (by decide) (by decide) ?_
      show Steps p.tables e below (T61.setTop (mkF m 25 #[.val (.int u1), .val (.int u2), .val (.int u3), .val (.long u4), .second, .val (.int u5), .val (.int (bif (ifCond.holds .eq (u1 &&& (1 : Int32))) then (0 : Int32) else (1 : Int32))), .unset, .unset, .unset, .unset, .unset, .unset, .unset, .unset, .unset] [(.ref sa61)])) _
      refine XS.astore X61.here hx rfl (hb hby at_25) rfl rfl (l' := #[.val (.int u1), .val (.int u2), .val (.int u3), .val (.long u4), .second, .val (.int u5), .val (.int (bif (ifCond.holds .eq (u1 &&& (1 : Int32))) then (0 : Int32) else (1 : Int32))), .val (.ref sa61), .unset, .unset, .unset, .unset, .unset, .unset, .unset, .unset]) rfl ?_
      show Steps p.tables e below (T61.setTop (mkF m 27 #[.val (.int u1), .val (.int u2), .val (.int u3), .val (.long u4), .second, .val (.int u5), .val (.int (bif (ifCond.holds .eq (u1 &&& (1 : Int32))) then (0 : Int32) else (1 : Int32))), .val (.ref sa61), .unset, .unset, .unset, .unset, .unset, .unset, .unset, .unset] [])) _
      refine XS.aload X61.here hx rfl (hb hby at_27) rfl rfl ?_
      show Steps p.tables e below (T61.setTop (mkF m 29 #[.val (.int u1), .val (.int u2), .val (.int u3), .val (.long u4), .second, .val (.int u5), .val (.int (bif (ifCond.holds .eq (u1 &&& (1 : Int32))) then (0 : Int32) else (1 : Int32))), .val (.ref sa61), .unset, .unset, .unset, .unset, .unset, .unset, .unset, .unset] [(.ref sa61)])) _
      refine st62.trans ?_
      show Steps p.tables e below (T62.setTop (mkF m 32 #[.val (.int u1), .val (.int u2), .val (.int u3), .val (.long u4), .second, .val (.int u5), .val (.int (bif (ifCond.holds .eq (u1 &&& (1 : Int32))) then (0 : Int32) else (1 : Int32))), .val (.ref sa61), .unset, .unset, .unset, .unset, .unset, .unset, .unset, .unset] [(.int (5 : Int32))])) _
      refine XS.istore X62.here hx rfl (hb hby at_32) rfl (l' := #[.val (.int u1), .val (.int u2), .val (.int u3), .val (.long u4), .second, .val (.int u5), .val (.int (bif (ifCond.holds .eq (u1 &&& (1 : Int32))) then (0 : Int32) else (1 : Int32))), .val (.ref sa61), .val (.int (5 : Int32)), .unset, .unset, .unset, .unset, .unset, .unset, .unset]) rfl ?_
      show Steps p.tables e below (T62.setTop (mkF m 34 #[.val (.int u1), .val (.int u2), .val (.int u3), .val (.long u4), .second, .val (.int u5), .val (.int (bif (ifCond.holds .eq (u1 &&& (1 : Int32))) then (0 : Int32) else (1 : Int32))), .val (.ref sa61), .val (.int (5 : Int32)), .unset, .unset, .unset, .unset, .unset, .unset, .unset] [])) _
      refine XS.iloadN X62.here hx rfl (hb hby at_34) rfl ?_
      show Steps p.tables e below (T62.setTop (mkF m 35 #[.val (.int u1), .val (.int u2), .val (.int u3), .val (.long u4), .second, .val (.int u5), .val (.int (bif (ifCond.holds .eq (u1 &&& (1 : Int32))) then (0 : Int32) else (1 : Int32))), .val (.ref sa61), .val (.int (5 : Int32)), .unset, .unset, .unset, .unset, .unset, .unset, .unset] [(.int u1)])) _
      refine XS.iconst X62.here hx rfl (hb hby at_35) ?_
      show Steps p.tables e below (T62.setTop (mkF m 36 #[.val (.int u1), .val (.int u2), .val (.int u3), .val (.long u4), .second, .val (.int u5), .val (.int (bif (ifCond.holds .eq (u1 &&& (1 : Int32))) then (0 : Int32) else (1 : Int32))), .val (.ref sa61), .val (.int (5 : Int32)), .unset, .unset, .unset, .unset, .unset, .unset, .unset] [(.int (1 : Int32)), (.int u1)])) _
      refine XS.iushr X62.here hx rfl (hb hby at_36) rfl ?_
      show Steps p.tables e below (T62.setTop (mkF m 37 #[.val (.int u1), .val (.int u2), .val (.int u3), .val (.long u4), .second, .val (.int u5), .val (.int (bif (ifCond.holds .eq (u1 &&& (1 : Int32))) then (0 : Int32) else (1 : Int32))), .val (.ref sa61), .val (.int (5 : Int32)), .unset, .unset, .unset, .unset, .unset, .unset, .unset] [(.int ((u1.toUInt32 >>> ((1 : Int32) &&& 31).toUInt32).toInt32))])) _
      refine XS.iconst X62.here hx rfl (hb hby at_37) ?_
      show Steps p.tables e below (T62.setTop (mkF m 38 #[.val (.int u1), .val (.int u2), .val (.int u3), .val (.long u4), .second, .val (.int u5), .val (.int (bif (ifCond.holds .eq (u1 &&& (1 : Int32))) then (0 : Int32) else (1 : Int32))), .val (.ref sa61), .val (.int (5 : Int32)), .unset, .unset, .unset, .unset, .unset, .unset, .unset] [(.int (3 : Int32)), (.int ((u1.toUInt32 >>> ((1 : Int32) &&& 31).toUInt32).toInt32))])) _
      refine XS.iand X62.here hx rfl (hb hby at_38) rfl ?_
      show Steps p.tables e below (T62.setTop (mkF m 39 #[.val (.int u1), .val (.int u2), .val (.int u3), .val (.long u4), .second, .val (.int u5), .val (.int (bif (ifCond.holds .eq (u1 &&& (1 : Int32))) then (0 : Int32) else (1 : Int32))), .val (.ref sa61), .val (.int (5 : Int32)), .unset, .unset, .unset, .unset, .unset, .unset, .unset] [(.int (((u1.toUInt32 >>> ((1 : Int32) &&& 31).toUInt32).toInt32) &&& (3 : Int32)))])) _
      refine XS.istore X62.here hx rfl (hb hby at_39) rfl (l' := #[.val (.int u1), .val (.int u2), .val (.int u3), .val (.long u4), .second, .val (.int u5), .val (.int (bif (ifCond.holds .eq (u1 &&& (1 : Int32))) then (0 : Int32) else (1 : Int32))), .val (.ref sa61), .val (.int (5 : Int32)), .val (.int (((u1.toUInt32 >>> ((1 : Int32) &&& 31).toUInt32).toInt32) &&& (3 : Int32))), .unset, .unset, .unset, .unset, .unset, .unset]) rfl ?_
      show Steps p.tables e below (T62.setTop (mkF m 41 #[.val (.int u1), .val (.int u2), .val (.int u3), .val (.long u4), .second, .val (.int u5), .val (.int (bif (ifCond.holds .eq (u1 &&& (1 : Int32))) then (0 : Int32) else (1 : Int32))), .val (.ref sa61), .val (.int (5 : Int32)), .val (.int (((u1.toUInt32 >>> ((1 : Int32) &&& 31).toUInt32).toInt32) &&& (3 : Int32))), .unset, .unset, .unset, .unset, .unset, .unset] [])) _
      refine XS.iloadN X62.here hx rfl (hb hby at_41) rfl ?_
      show Steps p.tables e below (T62.setTop (mkF m 42 #[.val (.int u1), .val (.int u2), .val (.int u3), .val (.long u4), .second, .val (.int u5), .val (.int (bif (ifCond.holds .eq (u1 &&& (1 : Int32))) then (0 : Int32) else (1 : Int32))), .val (.ref sa61), .val (.int (5 : Int32)), .val (.int (((u1.toUInt32 >>> ((1 : Int32) &&& 31).toUInt32).toInt32) &&& (3 : Int32))), .unset, .unset, .unset, .unset, .unset, .unset] [(.int u1)])) _
      refine XS.iconst X62.here hx rfl (hb hby at_42) ?_
      show Steps p.tables e below (T62.setTop (mkF m 43 #[.val (.int u1), .val (.int u2), .val (.int u3), .val (.long u4), .second, .val (.int u5), .val (.int (bif (ifCond.holds .eq (u1 &&& (1 : Int32))) then (0 : Int32) else (1 : Int32))), .val (.ref sa61), .val (.int (5 : Int32)), .val (.int (((u1.toUInt32 >>> ((1 : Int32) &&& 31).toUInt32).toInt32) &&& (3 : Int32))), .unset, .unset, .unset, .unset, .unset, .unset] [(.int (3 : Int32)), (.int u1)])) _
      refine XS.iushr X62.here hx rfl (hb hby at_43) rfl ?_
      show Steps p.tables e below (T62.setTop (mkF m 44 #[.val (.int u1), .val (.int u2), .val (.int u3), .val (.long u4), .second, .val (.int u5), .val (.int (bif (ifCond.holds .eq (u1 &&& (1 : Int32))) then (0 : Int32) else (1 : Int32))), .val (.ref sa61), .val (.int (5 : Int32)), .val (.int (((u1.toUInt32 >>> ((1 : Int32) &&& 31).toUInt32).toInt32) &&& (3 : Int32))), .unset, .unset, .unset, .unset, .unset, .unset] [(.int ((u1.toUInt32 >>> ((3 : Int32) &&& 31).toUInt32).toInt32))])) _
      refine XS.iconst X62.here hx rfl (hb hby at_44) ?_
      show Steps p.tables e below (T62.setTop (mkF m 45 #[.val (.int u1), .val (.int u2), .val (.int u3), .val (.long u4), .second, .val (.int u5), .val (.int (bif (ifCond.holds .eq (u1 &&& (1 : Int32))) then (0 : Int32) else (1 : Int32))), .val (.ref sa61), .val (.int (5 : Int32)), .val (.int (((u1.toUInt32 >>> ((1 : Int32) &&& 31).toUInt32).toInt32) &&& (3 : Int32))), .unset, .unset, .unset, .unset, .unset, .unset] [(.int (1 : Int32)), (.int ((u1.toUInt32 >>> ((3 : Int32) &&& 31).toUInt32).toInt32))])) _
      refine XS.iand X62.here hx rfl (hb hby at_45) rfl ?_
      exact k
    have pre65 : ∀ t, Steps p.tables e below (T62.setTop (mkF m 60 #[.val (.int u1), .val (.int u2), .val (.int u3), .val (.long u4), .second, .val (.int u5), .val (.int (bif (ifCond.holds .eq (u1 &&& (1 : Int32))) then (0 : Int32) else (1 : Int32))), .val (.ref sa61), .val (.int (5 : Int32)), .val (.int (((u1.toUInt32 >>> ((1 : Int32) &&& 31).toUInt32).toInt32) &&& (3 : Int32))), .unset, .unset, .unset, .unset, .unset, .unset] [(.int (bif (ifCond.holds .ne (((u1.toUInt32 >>> ((3 : Int32) &&& 31).toUInt32).toInt32) &&& (1 : Int32))) then (((u1.toUInt32 >>> ((4 : Int32) &&& 31).toUInt32).toInt32) &&& (7 : Int32)) else (5 : Int32)))])) t → Steps p.tables e below (s₁.setTop (entryFrame m #[(.int u1), (.int u2), (.int u3), (.long u4), (.int u5)] maxLocals)) t := by
      intro t k
      refine pre63 t ?_
      show Steps p.tables e below (T62.setTop (mkF m 46 #[.val (.int u1), .val (.int u2), .val (.int u3), .val (.long u4), .second, .val (.int u5), .val (.int (bif (ifCond.holds .eq (u1 &&& (1 : Int32))) then (0 : Int32) else (1 : Int32))), .val (.ref sa61), .val (.int (5 : Int32)), .val (.int (((u1.toUInt32 >>> ((1 : Int32) &&& 31).toUInt32).toInt32) &&& (3 : Int32))), .unset, .unset, .unset, .unset, .unset, .unset] [(.int (((u1.toUInt32 >>> ((3 : Int32) &&& 31).toUInt32).toInt32) &&& (1 : Int32)))])) _
      rcases Bool.eq_false_or_eq_true (ifCond.holds .ne (((u1.toUInt32 >>> ((3 : Int32) &&& 31).toUInt32).toInt32) &&& (1 : Int32))) with hb46_64 | hb46_64
      · refine XS.ifYes X62.here hx rfl (pc0 := 46) (pc' := 54) rfl (hb hby at_46) rfl hb46_64 (by decide) (by decide) ?_
        show Steps p.tables e below (T62.setTop (mkF m 54 #[.val (.int u1), .val (.int u2), .val (.int u3), .val (.long u4), .second, .val (.int u5), .val (.int (bif (ifCond.holds .eq (u1 &&& (1 : Int32))) then (0 : Int32) else (1 : Int32))), .val (.ref sa61), .val (.int (5 : Int32)), .val (.int (((u1.toUInt32 >>> ((1 : Int32) &&& 31).toUInt32).toInt32) &&& (3 : Int32))), .unset, .unset, .unset, .unset, .unset, .unset] [])) _
        refine XS.iloadN X62.here hx rfl (hb hby at_54) rfl ?_
        show Steps p.tables e below (T62.setTop (mkF m 55 #[.val (.int u1), .val (.int u2), .val (.int u3), .val (.long u4), .second, .val (.int u5), .val (.int (bif (ifCond.holds .eq (u1 &&& (1 : Int32))) then (0 : Int32) else (1 : Int32))), .val (.ref sa61), .val (.int (5 : Int32)), .val (.int (((u1.toUInt32 >>> ((1 : Int32) &&& 31).toUInt32).toInt32) &&& (3 : Int32))), .unset, .unset, .unset, .unset, .unset, .unset] [(.int u1)])) _
        refine XS.iconst X62.here hx rfl (hb hby at_55) ?_
        show Steps p.tables e below (T62.setTop (mkF m 56 #[.val (.int u1), .val (.int u2), .val (.int u3), .val (.long u4), .second, .val (.int u5), .val (.int (bif (ifCond.holds .eq (u1 &&& (1 : Int32))) then (0 : Int32) else (1 : Int32))), .val (.ref sa61), .val (.int (5 : Int32)), .val (.int (((u1.toUInt32 >>> ((1 : Int32) &&& 31).toUInt32).toInt32) &&& (3 : Int32))), .unset, .unset, .unset, .unset, .unset, .unset] [(.int (4 : Int32)), (.int u1)])) _
        refine XS.iushr X62.here hx rfl (hb hby at_56) rfl ?_
        show Steps p.tables e below (T62.setTop (mkF m 57 #[.val (.int u1), .val (.int u2), .val (.int u3), .val (.long u4), .second, .val (.int u5), .val (.int (bif (ifCond.holds .eq (u1 &&& (1 : Int32))) then (0 : Int32) else (1 : Int32))), .val (.ref sa61), .val (.int (5 : Int32)), .val (.int (((u1.toUInt32 >>> ((1 : Int32) &&& 31).toUInt32).toInt32) &&& (3 : Int32))), .unset, .unset, .unset, .unset, .unset, .unset] [(.int ((u1.toUInt32 >>> ((4 : Int32) &&& 31).toUInt32).toInt32))])) _
        refine XS.bipush X62.here hx rfl (hb hby at_57) ?_
        show Steps p.tables e below (T62.setTop (mkF m 59 #[.val (.int u1), .val (.int u2), .val (.int u3), .val (.long u4), .second, .val (.int u5), .val (.int (bif (ifCond.holds .eq (u1 &&& (1 : Int32))) then (0 : Int32) else (1 : Int32))), .val (.ref sa61), .val (.int (5 : Int32)), .val (.int (((u1.toUInt32 >>> ((1 : Int32) &&& 31).toUInt32).toInt32) &&& (3 : Int32))), .unset, .unset, .unset, .unset, .unset, .unset] [(.int (7 : Int32)), (.int ((u1.toUInt32 >>> ((4 : Int32) &&& 31).toUInt32).toInt32))])) _
        refine XS.iand X62.here hx rfl (hb hby at_59) rfl ?_
        have k : Steps p.tables e below (T62.setTop (mkF m 60 #[.val (.int u1), .val (.int u2), .val (.int u3), .val (.long u4), .second, .val (.int u5), .val (.int (bif (ifCond.holds .eq (u1 &&& (1 : Int32))) then (0 : Int32) else (1 : Int32))), .val (.ref sa61), .val (.int (5 : Int32)), .val (.int (((u1.toUInt32 >>> ((1 : Int32) &&& 31).toUInt32).toInt32) &&& (3 : Int32))), .unset, .unset, .unset, .unset, .unset, .unset] [(.int (((u1.toUInt32 >>> ((4 : Int32) &&& 31).toUInt32).toInt32) &&& (7 : Int32)))])) t := by simpa only [hb46_64, cond_true, cond_false] using k
        exact k
      · refine XS.ifNo X62.here hx rfl (hb hby at_46) rfl hb46_64 ?_
        show Steps p.tables e below (T62.setTop (mkF m 49 #[.val (.int u1), .val (.int u2), .val (.int u3), .val (.long u4), .second, .val (.int u5), .val (.int (bif (ifCond.holds .eq (u1 &&& (1 : Int32))) then (0 : Int32) else (1 : Int32))), .val (.ref sa61), .val (.int (5 : Int32)), .val (.int (((u1.toUInt32 >>> ((1 : Int32) &&& 31).toUInt32).toInt32) &&& (3 : Int32))), .unset, .unset, .unset, .unset, .unset, .unset] [])) _
        refine XS.iload X62.here hx rfl (hb hby at_49) rfl ?_
        show Steps p.tables e below (T62.setTop (mkF m 51 #[.val (.int u1), .val (.int u2), .val (.int u3), .val (.long u4), .second, .val (.int u5), .val (.int (bif (ifCond.holds .eq (u1 &&& (1 : Int32))) then (0 : Int32) else (1 : Int32))), .val (.ref sa61), .val (.int (5 : Int32)), .val (.int (((u1.toUInt32 >>> ((1 : Int32) &&& 31).toUInt32).toInt32) &&& (3 : Int32))), .unset, .unset, .unset, .unset, .unset, .unset] [(.int (5 : Int32))])) _
        refine XS.goto X62.here hx rfl (pc0 := 51) (pc' := 60) rfl (hb hby at_51) (by decide) (by decide) ?_
        have k : Steps p.tables e below (T62.setTop (mkF m 60 #[.val (.int u1), .val (.int u2), .val (.int u3), .val (.long u4), .second, .val (.int u5), .val (.int (bif (ifCond.holds .eq (u1 &&& (1 : Int32))) then (0 : Int32) else (1 : Int32))), .val (.ref sa61), .val (.int (5 : Int32)), .val (.int (((u1.toUInt32 >>> ((1 : Int32) &&& 31).toUInt32).toInt32) &&& (3 : Int32))), .unset, .unset, .unset, .unset, .unset, .unset] [(.int (5 : Int32))])) t := by simpa only [hb46_64, cond_true, cond_false] using k
        exact k
    have pre66 : ∀ t, Steps p.tables e below (T62.setTop (mkF m 62 #[.val (.int u1), .val (.int u2), .val (.int u3), .val (.long u4), .second, .val (.int u5), .val (.int (bif (ifCond.holds .eq (u1 &&& (1 : Int32))) then (0 : Int32) else (1 : Int32))), .val (.ref sa61), .val (.int (5 : Int32)), .val (.int (((u1.toUInt32 >>> ((1 : Int32) &&& 31).toUInt32).toInt32) &&& (3 : Int32))), .val (.int (bif (ifCond.holds .ne (((u1.toUInt32 >>> ((3 : Int32) &&& 31).toUInt32).toInt32) &&& (1 : Int32))) then (((u1.toUInt32 >>> ((4 : Int32) &&& 31).toUInt32).toInt32) &&& (7 : Int32)) else (5 : Int32))), .unset, .unset, .unset, .unset, .unset] [])) t → Steps p.tables e below (s₁.setTop (entryFrame m #[(.int u1), (.int u2), (.int u3), (.long u4), (.int u5)] maxLocals)) t := by
      intro t k
      refine pre65 t ?_
      show Steps p.tables e below (T62.setTop (mkF m 60 #[.val (.int u1), .val (.int u2), .val (.int u3), .val (.long u4), .second, .val (.int u5), .val (.int (bif (ifCond.holds .eq (u1 &&& (1 : Int32))) then (0 : Int32) else (1 : Int32))), .val (.ref sa61), .val (.int (5 : Int32)), .val (.int (((u1.toUInt32 >>> ((1 : Int32) &&& 31).toUInt32).toInt32) &&& (3 : Int32))), .unset, .unset, .unset, .unset, .unset, .unset] [(.int (bif (ifCond.holds .ne (((u1.toUInt32 >>> ((3 : Int32) &&& 31).toUInt32).toInt32) &&& (1 : Int32))) then (((u1.toUInt32 >>> ((4 : Int32) &&& 31).toUInt32).toInt32) &&& (7 : Int32)) else (5 : Int32)))])) _
      refine XS.istore X62.here hx rfl (hb hby at_60) rfl (l' := #[.val (.int u1), .val (.int u2), .val (.int u3), .val (.long u4), .second, .val (.int u5), .val (.int (bif (ifCond.holds .eq (u1 &&& (1 : Int32))) then (0 : Int32) else (1 : Int32))), .val (.ref sa61), .val (.int (5 : Int32)), .val (.int (((u1.toUInt32 >>> ((1 : Int32) &&& 31).toUInt32).toInt32) &&& (3 : Int32))), .val (.int (bif (ifCond.holds .ne (((u1.toUInt32 >>> ((3 : Int32) &&& 31).toUInt32).toInt32) &&& (1 : Int32))) then (((u1.toUInt32 >>> ((4 : Int32) &&& 31).toUInt32).toInt32) &&& (7 : Int32)) else (5 : Int32))), .unset, .unset, .unset, .unset, .unset]) rfl ?_
      exact k
    obtain ⟨vf, hvf⟩ : ∃ z : Int32, z = (bif (ifCond.holds .eq (u1 &&& (1 : Int32))) then (0 : Int32) else (1 : Int32)) := ⟨_, rfl⟩
    rw [← hvf] at pre66
    obtain ⟨fr, hfr⟩ : ∃ z : Int32, z = (((u1.toUInt32 >>> ((1 : Int32) &&& 31).toUInt32).toInt32) &&& (3 : Int32)) := ⟨_, rfl⟩
    rw [← hfr] at pre66
    obtain ⟨vl, hvl⟩ : ∃ z : Int32, z = (bif (ifCond.holds .ne (((u1.toUInt32 >>> ((3 : Int32) &&& 31).toUInt32).toInt32) &&& (1 : Int32))) then (((u1.toUInt32 >>> ((4 : Int32) &&& 31).toUInt32).toInt32) &&& (7 : Int32)) else (5 : Int32)) := ⟨_, rfl⟩
    rw [← hvl] at pre66
    have hF : fr = 0 ∨ fr = 1 ∨ fr = 2 ∨ fr = 3 := by rw [hfr]; exact own_from u1
    obtain ⟨T67, h67, k67, X67, e67, E67, A67, st67⟩ := newP X62 hx hZ (own_w hw 3 rfl) eq62 (g := (mkF m 64 #[.val (.int u1), .val (.int u2), .val (.int u3), .val (.long u4), .second, .val (.int u5), .val (.int vf), .val (.ref sa61), .val (.int (5 : Int32)), .val (.int fr), .val (.int vl), .unset, .unset, .unset, .unset, .unset] [(.int (12 : Int32))])) rfl (hb hby at_64) rfl (by decide) (cap := 12) (by decide) (by decide) (by decide) (by decide)
    obtain ⟨b67, g67⟩ : ∃ z, z = h61.size := ⟨_, rfl⟩
    rw [← g67] at A67 st67
    have fr_b67 : n0 ≤ b67 := Nat.le_trans Z61 (Nat.le_of_eq g67.symm)
    have ne_sa61_b67 : sa61 ≠ b67 := Nat.ne_of_lt (Nat.lt_of_lt_of_le Ea61.lt (Nat.le_of_eq g67.symm))
    have ne_sb61_b67 : sb61 ≠ b67 := Nat.ne_of_lt (Nat.lt_of_lt_of_le Vb61.lt (Nat.le_of_eq g67.symm))
    have Z67 : n0 ≤ h67.size := Nat.le_trans Z61 E67.1
    have kk67 : kc61 ≤ h67.size := Nat.le_trans kk61 E67.1
    have Od67 : Old Z n0 h67 := Od61.ext E67
    have V67 := Arv.new A67 (by decide)
    obtain ⟨_, _, ⟨T68, L68, k68, n68⟩, -, X68, ⟨Lc68, hQ68, l68, y68, z68⟩, st68⟩ := Jvm.LawKit.callS X67 hx (y := (⟨"com/example/sabac/sabac/ExpressionLexerIsKeywordPinLaw", "at", "(JI)B"⟩ : MethodName)) hown (mvT hZ (own_w hw 21 rfl)) (mvT hZ (own_w hw 22 rfl)) (mvT hZ (own_w hw 23 rfl)) (mvT hZ (own_w hw 24 rfl)) (by decide) (backOf (W := 2) (rm_at l Z a0 hw [] u4 (0 : Int32) h67 n0 Z67 ) hZ (own_w hw 24 rfl) (own_w hw 23 rfl) (by decide) (by decide)) (g := (mkF m 73 #[.val (.int u1), .val (.int u2), .val (.int u3), .val (.long u4), .second, .val (.int u5), .val (.int vf), .val (.ref sa61), .val (.int (5 : Int32)), .val (.int fr), .val (.int vl), .val (.ref b67), .unset, .unset, .unset, .unset] [(.int (0 : Int32)), (.long u4), (.int (0 : Int32)), (.ref b67)])) rfl (by rw [hml]; rfl) (argsL := [(.long u4), (.int (0 : Int32))]) (rest := [(.int (0 : Int32)), (.ref b67)]) (lenOf pd_577923 rfl) rfl (by show 2 * 0 + _ ≤ _; exact Nat.le_of_eq rfl) (hb hby at_73) (fun _ _ => ⟨rfl, e67, (by decide : 3 + 0 ≤ _), (by decide : 36 + 0 ≤ _)⟩)
    dsimp only [Pt.U, Pt.locs, Pt.cells, Pt.slots] at X68 l68 y68 z68 st68 hQ68
    replace y68 : k68 = 3 := y68
    replace z68 : n68 = 36 := z68
    subst y68 z68
    obtain ⟨rfl, Nq68, eq68⟩ := hQ68
    have N68 : Fr n0 L68 := by rw [l68]; exact Fr.app N62 Nq68
    obtain ⟨at68, hat68⟩ : ∃ z : Int32, z = (nar .byte ((((u4.toUInt64 >>> (((8 : Int32) * (0 : Int32)) &&& 0x3f).toInt64.toUInt64).toInt64).toInt32).toInt8.toInt32)) := ⟨_, rfl⟩
    rw [← hat68] at st68
    have V67p : Arv Z h67 b67 k67 .byte (12 : Int32) [(.int (0 : Int32)), (.int (0 : Int32)), (.int (0 : Int32)), (.int (0 : Int32)), (.int (0 : Int32)), (.int (0 : Int32)), (.int (0 : Int32)), (.int (0 : Int32)), (.int (0 : Int32)), (.int (0 : Int32)), (.int (0 : Int32)), (.int (0 : Int32))] (.int (0 : Int32)) := V67.pad (pad_rep [] (.int (0 : Int32)) 12)
    obtain ⟨cl69, Ar69, q69, S69, M69, H69, G69⟩ := id V67p
    obtain ⟨T69, h69, X69, e69, W69, st69⟩ := stB X68 hx hZ eq68 Ar69 (j := (0 : Int32)) (inb_of S69 ⟨by decide, by decide⟩) (g := (mkF m 76 #[.val (.int u1), .val (.int u2), .val (.int u3), .val (.long u4), .second, .val (.int u5), .val (.int vf), .val (.ref sa61), .val (.int (5 : Int32)), .val (.int fr), .val (.int vl), .val (.ref b67), .unset, .unset, .unset, .unset] [(.int at68), (.int (0 : Int32)), (.ref b67)])) rfl rfl (hb hby at_76)
    have V69 := Arv.set Ar69 q69 S69 M69 H69 G69 (fits_nar_byte _) W69 0 rfl (Nat.le_of_ble_eq_true rfl)
    have N69 := Fr.snoc X69 N68 fr_b67
    have Z69 : n0 ≤ h69.size := Nat.le_trans Z67 (Keep.of_wr W69).1
    have kk69 : kc61 ≤ h69.size := Nat.le_trans kk67 (Keep.of_wr W69).1
    have Od69 : Old Z n0 h69 := Od67.wr W69 fr_b67
    obtain ⟨b69, hb_69⟩ : ∃ y : Int32, y = nar .byte at68 := ⟨_, rfl⟩
    have V69q : Arv Z h69 b67 k67 .byte (12 : Int32) [(.int b69), (.int (0 : Int32)), (.int (0 : Int32)), (.int (0 : Int32)), (.int (0 : Int32)), (.int (0 : Int32)), (.int (0 : Int32)), (.int (0 : Int32)), (.int (0 : Int32)), (.int (0 : Int32)), (.int (0 : Int32)), (.int (0 : Int32))] (.int (0 : Int32)) := by rw [hb_69]; exact V69
    obtain ⟨_, _, ⟨T70, L70, k70, n70⟩, -, X70, ⟨Lc70, hQ70, l70, y70, z70⟩, st70⟩ := Jvm.LawKit.callS X69 hx (y := (⟨"com/example/sabac/sabac/ExpressionLexerIsKeywordPinLaw", "at", "(JI)B"⟩ : MethodName)) hown (mvT hZ (own_w hw 21 rfl)) (mvT hZ (own_w hw 22 rfl)) (mvT hZ (own_w hw 23 rfl)) (mvT hZ (own_w hw 24 rfl)) (by decide) (backOf (W := 2) (rm_at l Z a0 hw [] u4 (1 : Int32) h69 n0 Z69 ) hZ (own_w hw 24 rfl) (own_w hw 23 rfl) (by decide) (by decide)) (g := (mkF m 82 #[.val (.int u1), .val (.int u2), .val (.int u3), .val (.long u4), .second, .val (.int u5), .val (.int vf), .val (.ref sa61), .val (.int (5 : Int32)), .val (.int fr), .val (.int vl), .val (.ref b67), .unset, .unset, .unset, .unset] [(.int (1 : Int32)), (.long u4), (.int (1 : Int32)), (.ref b67)])) rfl (by rw [hml]; rfl) (argsL := [(.long u4), (.int (1 : Int32))]) (rest := [(.int (1 : Int32)), (.ref b67)]) (lenOf pd_577923 rfl) rfl (by show 2 * 0 + _ ≤ _; exact Nat.le_of_eq rfl) (hb hby at_82) (fun _ _ => ⟨rfl, e69, (by decide : 3 + 0 ≤ _), (by decide : 36 + 0 ≤ _)⟩)
    dsimp only [Pt.U, Pt.locs, Pt.cells, Pt.slots] at X70 l70 y70 z70 st70 hQ70
    replace y70 : k70 = 3 := y70
    replace z70 : n70 = 36 := z70
    subst y70 z70
    obtain ⟨rfl, Nq70, eq70⟩ := hQ70
    have N70 : Fr n0 L70 := by rw [l70]; exact Fr.app N69 Nq70
    obtain ⟨at70, hat70⟩ : ∃ z : Int32, z = (nar .byte ((((u4.toUInt64 >>> (((8 : Int32) * (1 : Int32)) &&& 0x3f).toInt64.toUInt64).toInt64).toInt32).toInt8.toInt32)) := ⟨_, rfl⟩
    rw [← hat70] at st70
    obtain ⟨cl71, Ar71, q71, S71, M71, H71, G71⟩ := id V69q
    obtain ⟨T71, h71, X71, e71, W71, st71⟩ := stB X70 hx hZ eq70 Ar71 (j := (1 : Int32)) (inb_of S71 ⟨by decide, by decide⟩) (g := (mkF m 85 #[.val (.int u1), .val (.int u2), .val (.int u3), .val (.long u4), .second, .val (.int u5), .val (.int vf), .val (.ref sa61), .val (.int (5 : Int32)), .val (.int fr), .val (.int vl), .val (.ref b67), .unset, .unset, .unset, .unset] [(.int at70), (.int (1 : Int32)), (.ref b67)])) rfl rfl (hb hby at_85)
    have V71 := Arv.set Ar71 q71 S71 M71 H71 G71 (fits_nar_byte _) W71 1 rfl (Nat.le_of_ble_eq_true rfl)
    have N71 := Fr.snoc X71 N70 fr_b67
    have Z71 : n0 ≤ h71.size := Nat.le_trans Z69 (Keep.of_wr W71).1
    have kk71 : kc61 ≤ h71.size := Nat.le_trans kk69 (Keep.of_wr W71).1
    have Od71 : Old Z n0 h71 := Od69.wr W71 fr_b67
    obtain ⟨b71, hb_71⟩ : ∃ y : Int32, y = nar .byte at70 := ⟨_, rfl⟩
    have V71q : Arv Z h71 b67 k67 .byte (12 : Int32) [(.int b69), (.int b71), (.int (0 : Int32)), (.int (0 : Int32)), (.int (0 : Int32)), (.int (0 : Int32)), (.int (0 : Int32)), (.int (0 : Int32)), (.int (0 : Int32)), (.int (0 : Int32)), (.int (0 : Int32)), (.int (0 : Int32))] (.int (0 : Int32)) := by rw [hb_71]; exact V71
    obtain ⟨_, _, ⟨T72, L72, k72, n72⟩, -, X72, ⟨Lc72, hQ72, l72, y72, z72⟩, st72⟩ := Jvm.LawKit.callS X71 hx (y := (⟨"com/example/sabac/sabac/ExpressionLexerIsKeywordPinLaw", "at", "(JI)B"⟩ : MethodName)) hown (mvT hZ (own_w hw 21 rfl)) (mvT hZ (own_w hw 22 rfl)) (mvT hZ (own_w hw 23 rfl)) (mvT hZ (own_w hw 24 rfl)) (by decide) (backOf (W := 2) (rm_at l Z a0 hw [] u4 (2 : Int32) h71 n0 Z71 ) hZ (own_w hw 24 rfl) (own_w hw 23 rfl) (by decide) (by decide)) (g := (mkF m 91 #[.val (.int u1), .val (.int u2), .val (.int u3), .val (.long u4), .second, .val (.int u5), .val (.int vf), .val (.ref sa61), .val (.int (5 : Int32)), .val (.int fr), .val (.int vl), .val (.ref b67), .unset, .unset, .unset, .unset] [(.int (2 : Int32)), (.long u4), (.int (2 : Int32)), (.ref b67)])) rfl (by rw [hml]; rfl) (argsL := [(.long u4), (.int (2 : Int32))]) (rest := [(.int (2 : Int32)), (.ref b67)]) (lenOf pd_577923 rfl) rfl (by show 2 * 0 + _ ≤ _; exact Nat.le_of_eq rfl) (hb hby at_91) (fun _ _ => ⟨rfl, e71, (by decide : 3 + 0 ≤ _), (by decide : 36 + 0 ≤ _)⟩)
    dsimp only [Pt.U, Pt.locs, Pt.cells, Pt.slots] at X72 l72 y72 z72 st72 hQ72
    replace y72 : k72 = 3 := y72
    replace z72 : n72 = 36 := z72
    subst y72 z72
    obtain ⟨rfl, Nq72, eq72⟩ := hQ72
    have N72 : Fr n0 L72 := by rw [l72]; exact Fr.app N71 Nq72
    obtain ⟨at72, hat72⟩ : ∃ z : Int32, z = (nar .byte ((((u4.toUInt64 >>> (((8 : Int32) * (2 : Int32)) &&& 0x3f).toInt64.toUInt64).toInt64).toInt32).toInt8.toInt32)) := ⟨_, rfl⟩
    rw [← hat72] at st72
    obtain ⟨cl73, Ar73, q73, S73, M73, H73, G73⟩ := id V71q
    obtain ⟨T73, h73, X73, e73, W73, st73⟩ := stB X72 hx hZ eq72 Ar73 (j := (2 : Int32)) (inb_of S73 ⟨by decide, by decide⟩) (g := (mkF m 94 #[.val (.int u1), .val (.int u2), .val (.int u3), .val (.long u4), .second, .val (.int u5), .val (.int vf), .val (.ref sa61), .val (.int (5 : Int32)), .val (.int fr), .val (.int vl), .val (.ref b67), .unset, .unset, .unset, .unset] [(.int at72), (.int (2 : Int32)), (.ref b67)])) rfl rfl (hb hby at_94)
    have V73 := Arv.set Ar73 q73 S73 M73 H73 G73 (fits_nar_byte _) W73 2 rfl (Nat.le_of_ble_eq_true rfl)
    have N73 := Fr.snoc X73 N72 fr_b67
    have Z73 : n0 ≤ h73.size := Nat.le_trans Z71 (Keep.of_wr W73).1
    have kk73 : kc61 ≤ h73.size := Nat.le_trans kk71 (Keep.of_wr W73).1
    have Od73 : Old Z n0 h73 := Od71.wr W73 fr_b67
    obtain ⟨b73, hb_73⟩ : ∃ y : Int32, y = nar .byte at72 := ⟨_, rfl⟩
    have V73q : Arv Z h73 b67 k67 .byte (12 : Int32) [(.int b69), (.int b71), (.int b73), (.int (0 : Int32)), (.int (0 : Int32)), (.int (0 : Int32)), (.int (0 : Int32)), (.int (0 : Int32)), (.int (0 : Int32)), (.int (0 : Int32)), (.int (0 : Int32)), (.int (0 : Int32))] (.int (0 : Int32)) := by rw [hb_73]; exact V73
    obtain ⟨_, _, ⟨T74, L74, k74, n74⟩, -, X74, ⟨Lc74, hQ74, l74, y74, z74⟩, st74⟩ := Jvm.LawKit.callS X73 hx (y := (⟨"com/example/sabac/sabac/ExpressionLexerIsKeywordPinLaw", "at", "(JI)B"⟩ : MethodName)) hown (mvT hZ (own_w hw 21 rfl)) (mvT hZ (own_w hw 22 rfl)) (mvT hZ (own_w hw 23 rfl)) (mvT hZ (own_w hw 24 rfl)) (by decide) (backOf (W := 2) (rm_at l Z a0 hw [] u4 (3 : Int32) h73 n0 Z73 ) hZ (own_w hw 24 rfl) (own_w hw 23 rfl) (by decide) (by decide)) (g := (mkF m 100 #[.val (.int u1), .val (.int u2), .val (.int u3), .val (.long u4), .second, .val (.int u5), .val (.int vf), .val (.ref sa61), .val (.int (5 : Int32)), .val (.int fr), .val (.int vl), .val (.ref b67), .unset, .unset, .unset, .unset] [(.int (3 : Int32)), (.long u4), (.int (3 : Int32)), (.ref b67)])) rfl (by rw [hml]; rfl) (argsL := [(.long u4), (.int (3 : Int32))]) (rest := [(.int (3 : Int32)), (.ref b67)]) (lenOf pd_577923 rfl) rfl (by show 2 * 0 + _ ≤ _; exact Nat.le_of_eq rfl) (hb hby at_100) (fun _ _ => ⟨rfl, e73, (by decide : 3 + 0 ≤ _), (by decide : 36 + 0 ≤ _)⟩)
    dsimp only [Pt.U, Pt.locs, Pt.cells, Pt.slots] at X74 l74 y74 z74 st74 hQ74
    replace y74 : k74 = 3 := y74
    replace z74 : n74 = 36 := z74
    subst y74 z74
    obtain ⟨rfl, Nq74, eq74⟩ := hQ74
    have N74 : Fr n0 L74 := by rw [l74]; exact Fr.app N73 Nq74
    obtain ⟨at74, hat74⟩ : ∃ z : Int32, z = (nar .byte ((((u4.toUInt64 >>> (((8 : Int32) * (3 : Int32)) &&& 0x3f).toInt64.toUInt64).toInt64).toInt32).toInt8.toInt32)) := ⟨_, rfl⟩
    rw [← hat74] at st74
    obtain ⟨cl75, Ar75, q75, S75, M75, H75, G75⟩ := id V73q
    obtain ⟨T75, h75, X75, e75, W75, st75⟩ := stB X74 hx hZ eq74 Ar75 (j := (3 : Int32)) (inb_of S75 ⟨by decide, by decide⟩) (g := (mkF m 103 #[.val (.int u1), .val (.int u2), .val (.int u3), .val (.long u4), .second, .val (.int u5), .val (.int vf), .val (.ref sa61), .val (.int (5 : Int32)), .val (.int fr), .val (.int vl), .val (.ref b67), .unset, .unset, .unset, .unset] [(.int at74), (.int (3 : Int32)), (.ref b67)])) rfl rfl (hb hby at_103)
    have V75 := Arv.set Ar75 q75 S75 M75 H75 G75 (fits_nar_byte _) W75 3 rfl (Nat.le_of_ble_eq_true rfl)
    have N75 := Fr.snoc X75 N74 fr_b67
    have Z75 : n0 ≤ h75.size := Nat.le_trans Z73 (Keep.of_wr W75).1
    have kk75 : kc61 ≤ h75.size := Nat.le_trans kk73 (Keep.of_wr W75).1
    have Od75 : Old Z n0 h75 := Od73.wr W75 fr_b67
    obtain ⟨b75, hb_75⟩ : ∃ y : Int32, y = nar .byte at74 := ⟨_, rfl⟩
    have V75q : Arv Z h75 b67 k67 .byte (12 : Int32) [(.int b69), (.int b71), (.int b73), (.int b75), (.int (0 : Int32)), (.int (0 : Int32)), (.int (0 : Int32)), (.int (0 : Int32)), (.int (0 : Int32)), (.int (0 : Int32)), (.int (0 : Int32)), (.int (0 : Int32))] (.int (0 : Int32)) := by rw [hb_75]; exact V75
    obtain ⟨_, _, ⟨T76, L76, k76, n76⟩, -, X76, ⟨Lc76, hQ76, l76, y76, z76⟩, st76⟩ := Jvm.LawKit.callS X75 hx (y := (⟨"com/example/sabac/sabac/ExpressionLexerIsKeywordPinLaw", "at", "(JI)B"⟩ : MethodName)) hown (mvT hZ (own_w hw 21 rfl)) (mvT hZ (own_w hw 22 rfl)) (mvT hZ (own_w hw 23 rfl)) (mvT hZ (own_w hw 24 rfl)) (by decide) (backOf (W := 2) (rm_at l Z a0 hw [] u4 (4 : Int32) h75 n0 Z75 ) hZ (own_w hw 24 rfl) (own_w hw 23 rfl) (by decide) (by decide)) (g := (mkF m 109 #[.val (.int u1), .val (.int u2), .val (.int u3), .val (.long u4), .second, .val (.int u5), .val (.int vf), .val (.ref sa61), .val (.int (5 : Int32)), .val (.int fr), .val (.int vl), .val (.ref b67), .unset, .unset, .unset, .unset] [(.int (4 : Int32)), (.long u4), (.int (4 : Int32)), (.ref b67)])) rfl (by rw [hml]; rfl) (argsL := [(.long u4), (.int (4 : Int32))]) (rest := [(.int (4 : Int32)), (.ref b67)]) (lenOf pd_577923 rfl) rfl (by show 2 * 0 + _ ≤ _; exact Nat.le_of_eq rfl) (hb hby at_109) (fun _ _ => ⟨rfl, e75, (by decide : 3 + 0 ≤ _), (by decide : 36 + 0 ≤ _)⟩)
    dsimp only [Pt.U, Pt.locs, Pt.cells, Pt.slots] at X76 l76 y76 z76 st76 hQ76
    replace y76 : k76 = 3 := y76
    replace z76 : n76 = 36 := z76
    subst y76 z76
    obtain ⟨rfl, Nq76, eq76⟩ := hQ76
    have N76 : Fr n0 L76 := by rw [l76]; exact Fr.app N75 Nq76
    obtain ⟨at76, hat76⟩ : ∃ z : Int32, z = (nar .byte ((((u4.toUInt64 >>> (((8 : Int32) * (4 : Int32)) &&& 0x3f).toInt64.toUInt64).toInt64).toInt32).toInt8.toInt32)) := ⟨_, rfl⟩
    rw [← hat76] at st76
    obtain ⟨cl77, Ar77, q77, S77, M77, H77, G77⟩ := id V75q
    obtain ⟨T77, h77, X77, e77, W77, st77⟩ := stB X76 hx hZ eq76 Ar77 (j := (4 : Int32)) (inb_of S77 ⟨by decide, by decide⟩) (g := (mkF m 112 #[.val (.int u1), .val (.int u2), .val (.int u3), .val (.long u4), .second, .val (.int u5), .val (.int vf), .val (.ref sa61), .val (.int (5 : Int32)), .val (.int fr), .val (.int vl), .val (.ref b67), .unset, .unset, .unset, .unset] [(.int at76), (.int (4 : Int32)), (.ref b67)])) rfl rfl (hb hby at_112)
    have V77 := Arv.set Ar77 q77 S77 M77 H77 G77 (fits_nar_byte _) W77 4 rfl (Nat.le_of_ble_eq_true rfl)
    have N77 := Fr.snoc X77 N76 fr_b67
    have Z77 : n0 ≤ h77.size := Nat.le_trans Z75 (Keep.of_wr W77).1
    have kk77 : kc61 ≤ h77.size := Nat.le_trans kk75 (Keep.of_wr W77).1
    have Od77 : Old Z n0 h77 := Od75.wr W77 fr_b67
    obtain ⟨b77, hb_77⟩ : ∃ y : Int32, y = nar .byte at76 := ⟨_, rfl⟩
    have V77q : Arv Z h77 b67 k67 .byte (12 : Int32) [(.int b69), (.int b71), (.int b73), (.int b75), (.int b77), (.int (0 : Int32)), (.int (0 : Int32)), (.int (0 : Int32)), (.int (0 : Int32)), (.int (0 : Int32)), (.int (0 : Int32)), (.int (0 : Int32))] (.int (0 : Int32)) := by rw [hb_77]; exact V77
    obtain ⟨_, _, ⟨T78, L78, k78, n78⟩, -, X78, ⟨Lc78, hQ78, l78, y78, z78⟩, st78⟩ := Jvm.LawKit.callS X77 hx (y := (⟨"com/example/sabac/sabac/ExpressionLexerIsKeywordPinLaw", "at", "(JI)B"⟩ : MethodName)) hown (mvT hZ (own_w hw 21 rfl)) (mvT hZ (own_w hw 22 rfl)) (mvT hZ (own_w hw 23 rfl)) (mvT hZ (own_w hw 24 rfl)) (by decide) (backOf (W := 2) (rm_at l Z a0 hw [] u4 (5 : Int32) h77 n0 Z77 ) hZ (own_w hw 24 rfl) (own_w hw 23 rfl) (by decide) (by decide)) (g := (mkF m 118 #[.val (.int u1), .val (.int u2), .val (.int u3), .val (.long u4), .second, .val (.int u5), .val (.int vf), .val (.ref sa61), .val (.int (5 : Int32)), .val (.int fr), .val (.int vl), .val (.ref b67), .unset, .unset, .unset, .unset] [(.int (5 : Int32)), (.long u4), (.int (5 : Int32)), (.ref b67)])) rfl (by rw [hml]; rfl) (argsL := [(.long u4), (.int (5 : Int32))]) (rest := [(.int (5 : Int32)), (.ref b67)]) (lenOf pd_577923 rfl) rfl (by show 2 * 0 + _ ≤ _; exact Nat.le_of_eq rfl) (hb hby at_118) (fun _ _ => ⟨rfl, e77, (by decide : 3 + 0 ≤ _), (by decide : 36 + 0 ≤ _)⟩)
    dsimp only [Pt.U, Pt.locs, Pt.cells, Pt.slots] at X78 l78 y78 z78 st78 hQ78
    replace y78 : k78 = 3 := y78
    replace z78 : n78 = 36 := z78
    subst y78 z78
    obtain ⟨rfl, Nq78, eq78⟩ := hQ78
    have N78 : Fr n0 L78 := by rw [l78]; exact Fr.app N77 Nq78
    obtain ⟨at78, hat78⟩ : ∃ z : Int32, z = (nar .byte ((((u4.toUInt64 >>> (((8 : Int32) * (5 : Int32)) &&& 0x3f).toInt64.toUInt64).toInt64).toInt32).toInt8.toInt32)) := ⟨_, rfl⟩
    rw [← hat78] at st78
    obtain ⟨cl79, Ar79, q79, S79, M79, H79, G79⟩ := id V77q
    obtain ⟨T79, h79, X79, e79, W79, st79⟩ := stB X78 hx hZ eq78 Ar79 (j := (5 : Int32)) (inb_of S79 ⟨by decide, by decide⟩) (g := (mkF m 121 #[.val (.int u1), .val (.int u2), .val (.int u3), .val (.long u4), .second, .val (.int u5), .val (.int vf), .val (.ref sa61), .val (.int (5 : Int32)), .val (.int fr), .val (.int vl), .val (.ref b67), .unset, .unset, .unset, .unset] [(.int at78), (.int (5 : Int32)), (.ref b67)])) rfl rfl (hb hby at_121)
    have V79 := Arv.set Ar79 q79 S79 M79 H79 G79 (fits_nar_byte _) W79 5 rfl (Nat.le_of_ble_eq_true rfl)
    have N79 := Fr.snoc X79 N78 fr_b67
    have Z79 : n0 ≤ h79.size := Nat.le_trans Z77 (Keep.of_wr W79).1
    have kk79 : kc61 ≤ h79.size := Nat.le_trans kk77 (Keep.of_wr W79).1
    have Od79 : Old Z n0 h79 := Od77.wr W79 fr_b67
    obtain ⟨b79, hb_79⟩ : ∃ y : Int32, y = nar .byte at78 := ⟨_, rfl⟩
    have V79q : Arv Z h79 b67 k67 .byte (12 : Int32) [(.int b69), (.int b71), (.int b73), (.int b75), (.int b77), (.int b79), (.int (0 : Int32)), (.int (0 : Int32)), (.int (0 : Int32)), (.int (0 : Int32)), (.int (0 : Int32)), (.int (0 : Int32))] (.int (0 : Int32)) := by rw [hb_79]; exact V79
    obtain ⟨_, _, ⟨T80, L80, k80, n80⟩, -, X80, ⟨Lc80, hQ80, l80, y80, z80⟩, st80⟩ := Jvm.LawKit.callS X79 hx (y := (⟨"com/example/sabac/sabac/ExpressionLexerIsKeywordPinLaw", "at", "(JI)B"⟩ : MethodName)) hown (mvT hZ (own_w hw 21 rfl)) (mvT hZ (own_w hw 22 rfl)) (mvT hZ (own_w hw 23 rfl)) (mvT hZ (own_w hw 24 rfl)) (by decide) (backOf (W := 2) (rm_at l Z a0 hw [] u4 (6 : Int32) h79 n0 Z79 ) hZ (own_w hw 24 rfl) (own_w hw 23 rfl) (by decide) (by decide)) (g := (mkF m 129 #[.val (.int u1), .val (.int u2), .val (.int u3), .val (.long u4), .second, .val (.int u5), .val (.int vf), .val (.ref sa61), .val (.int (5 : Int32)), .val (.int fr), .val (.int vl), .val (.ref b67), .unset, .unset, .unset, .unset] [(.int (6 : Int32)), (.long u4), (.int (6 : Int32)), (.ref b67)])) rfl (by rw [hml]; rfl) (argsL := [(.long u4), (.int (6 : Int32))]) (rest := [(.int (6 : Int32)), (.ref b67)]) (lenOf pd_577923 rfl) rfl (by show 2 * 0 + _ ≤ _; exact Nat.le_of_eq rfl) (hb hby at_129) (fun _ _ => ⟨rfl, e79, (by decide : 3 + 0 ≤ _), (by decide : 36 + 0 ≤ _)⟩)
    dsimp only [Pt.U, Pt.locs, Pt.cells, Pt.slots] at X80 l80 y80 z80 st80 hQ80
    replace y80 : k80 = 3 := y80
    replace z80 : n80 = 36 := z80
    subst y80 z80
    obtain ⟨rfl, Nq80, eq80⟩ := hQ80
    have N80 : Fr n0 L80 := by rw [l80]; exact Fr.app N79 Nq80
    obtain ⟨at80, hat80⟩ : ∃ z : Int32, z = (nar .byte ((((u4.toUInt64 >>> (((8 : Int32) * (6 : Int32)) &&& 0x3f).toInt64.toUInt64).toInt64).toInt32).toInt8.toInt32)) := ⟨_, rfl⟩
    rw [← hat80] at st80
    obtain ⟨cl81, Ar81, q81, S81, M81, H81, G81⟩ := id V79q
    obtain ⟨T81, h81, X81, e81, W81, st81⟩ := stB X80 hx hZ eq80 Ar81 (j := (6 : Int32)) (inb_of S81 ⟨by decide, by decide⟩) (g := (mkF m 132 #[.val (.int u1), .val (.int u2), .val (.int u3), .val (.long u4), .second, .val (.int u5), .val (.int vf), .val (.ref sa61), .val (.int (5 : Int32)), .val (.int fr), .val (.int vl), .val (.ref b67), .unset, .unset, .unset, .unset] [(.int at80), (.int (6 : Int32)), (.ref b67)])) rfl rfl (hb hby at_132)
    have V81 := Arv.set Ar81 q81 S81 M81 H81 G81 (fits_nar_byte _) W81 6 rfl (Nat.le_of_ble_eq_true rfl)
    have N81 := Fr.snoc X81 N80 fr_b67
    have Z81 : n0 ≤ h81.size := Nat.le_trans Z79 (Keep.of_wr W81).1
    have kk81 : kc61 ≤ h81.size := Nat.le_trans kk79 (Keep.of_wr W81).1
    have Od81 : Old Z n0 h81 := Od79.wr W81 fr_b67
    obtain ⟨b81, hb_81⟩ : ∃ y : Int32, y = nar .byte at80 := ⟨_, rfl⟩
    have V81q : Arv Z h81 b67 k67 .byte (12 : Int32) [(.int b69), (.int b71), (.int b73), (.int b75), (.int b77), (.int b79), (.int b81), (.int (0 : Int32)), (.int (0 : Int32)), (.int (0 : Int32)), (.int (0 : Int32)), (.int (0 : Int32))] (.int (0 : Int32)) := by rw [hb_81]; exact V81
    obtain ⟨_, _, ⟨T82, L82, k82, n82⟩, -, X82, ⟨Lc82, hQ82, l82, y82, z82⟩, st82⟩ := Jvm.LawKit.callS X81 hx (y := (⟨"com/example/sabac/sabac/ExpressionLexerIsKeywordPinLaw", "at", "(JI)B"⟩ : MethodName)) hown (mvT hZ (own_w hw 21 rfl)) (mvT hZ (own_w hw 22 rfl)) (mvT hZ (own_w hw 23 rfl)) (mvT hZ (own_w hw 24 rfl)) (by decide) (backOf (W := 2) (rm_at l Z a0 hw [] u4 (7 : Int32) h81 n0 Z81 ) hZ (own_w hw 24 rfl) (own_w hw 23 rfl) (by decide) (by decide)) (g := (mkF m 140 #[.val (.int u1), .val (.int u2), .val (.int u3), .val (.long u4), .second, .val (.int u5), .val (.int vf), .val (.ref sa61), .val (.int (5 : Int32)), .val (.int fr), .val (.int vl), .val (.ref b67), .unset, .unset, .unset, .unset] [(.int (7 : Int32)), (.long u4), (.int (7 : Int32)), (.ref b67)])) rfl (by rw [hml]; rfl) (argsL := [(.long u4), (.int (7 : Int32))]) (rest := [(.int (7 : Int32)), (.ref b67)]) (lenOf pd_577923 rfl) rfl (by show 2 * 0 + _ ≤ _; exact Nat.le_of_eq rfl) (hb hby at_140) (fun _ _ => ⟨rfl, e81, (by decide : 3 + 0 ≤ _), (by decide : 36 + 0 ≤ _)⟩)
    dsimp only [Pt.U, Pt.locs, Pt.cells, Pt.slots] at X82 l82 y82 z82 st82 hQ82
    replace y82 : k82 = 3 := y82
    replace z82 : n82 = 36 := z82
    subst y82 z82
    obtain ⟨rfl, Nq82, eq82⟩ := hQ82
    have N82 : Fr n0 L82 := by rw [l82]; exact Fr.app N81 Nq82
    obtain ⟨at82, hat82⟩ : ∃ z : Int32, z = (nar .byte ((((u4.toUInt64 >>> (((8 : Int32) * (7 : Int32)) &&& 0x3f).toInt64.toUInt64).toInt64).toInt32).toInt8.toInt32)) := ⟨_, rfl⟩
    rw [← hat82] at st82
    obtain ⟨cl83, Ar83, q83, S83, M83, H83, G83⟩ := id V81q
    obtain ⟨T83, h83, X83, e83, W83, st83⟩ := stB X82 hx hZ eq82 Ar83 (j := (7 : Int32)) (inb_of S83 ⟨by decide, by decide⟩) (g := (mkF m 143 #[.val (.int u1), .val (.int u2), .val (.int u3), .val (.long u4), .second, .val (.int u5), .val (.int vf), .val (.ref sa61), .val (.int (5 : Int32)), .val (.int fr), .val (.int vl), .val (.ref b67), .unset, .unset, .unset, .unset] [(.int at82), (.int (7 : Int32)), (.ref b67)])) rfl rfl (hb hby at_143)
    have V83 := Arv.set Ar83 q83 S83 M83 H83 G83 (fits_nar_byte _) W83 7 rfl (Nat.le_of_ble_eq_true rfl)
    have N83 := Fr.snoc X83 N82 fr_b67
    have Z83 : n0 ≤ h83.size := Nat.le_trans Z81 (Keep.of_wr W83).1
    have kk83 : kc61 ≤ h83.size := Nat.le_trans kk81 (Keep.of_wr W83).1
    have Od83 : Old Z n0 h83 := Od81.wr W83 fr_b67
    obtain ⟨b83, hb_83⟩ : ∃ y : Int32, y = nar .byte at82 := ⟨_, rfl⟩
    have V83q : Arv Z h83 b67 k67 .byte (12 : Int32) [(.int b69), (.int b71), (.int b73), (.int b75), (.int b77), (.int b79), (.int b81), (.int b83), (.int (0 : Int32)), (.int (0 : Int32)), (.int (0 : Int32)), (.int (0 : Int32))] (.int (0 : Int32)) := by rw [hb_83]; exact V83
    obtain ⟨_, _, ⟨T84, L84, k84, n84⟩, -, X84, ⟨Lc84, hQ84, l84, y84, z84⟩, st84⟩ := Jvm.LawKit.callS X83 hx (y := (⟨"com/example/sabac/sabac/ExpressionLexerIsKeywordPinLaw", "at", "(JI)B"⟩ : MethodName)) hown (mvT hZ (own_w hw 21 rfl)) (mvT hZ (own_w hw 22 rfl)) (mvT hZ (own_w hw 23 rfl)) (mvT hZ (own_w hw 24 rfl)) (by decide) (backOf (W := 2) (rm_at l Z a0 hw [] (u5.toInt64) (0 : Int32) h83 n0 Z83 ) hZ (own_w hw 24 rfl) (own_w hw 23 rfl) (by decide) (by decide)) (g := (mkF m 152 #[.val (.int u1), .val (.int u2), .val (.int u3), .val (.long u4), .second, .val (.int u5), .val (.int vf), .val (.ref sa61), .val (.int (5 : Int32)), .val (.int fr), .val (.int vl), .val (.ref b67), .unset, .unset, .unset, .unset] [(.int (0 : Int32)), (.long (u5.toInt64)), (.int (8 : Int32)), (.ref b67)])) rfl (by rw [hml]; rfl) (argsL := [(.long (u5.toInt64)), (.int (0 : Int32))]) (rest := [(.int (8 : Int32)), (.ref b67)]) (lenOf pd_577923 rfl) rfl (by show 2 * 0 + _ ≤ _; exact Nat.le_of_eq rfl) (hb hby at_152) (fun _ _ => ⟨rfl, e83, (by decide : 3 + 0 ≤ _), (by decide : 36 + 0 ≤ _)⟩)
    dsimp only [Pt.U, Pt.locs, Pt.cells, Pt.slots] at X84 l84 y84 z84 st84 hQ84
    replace y84 : k84 = 3 := y84
    replace z84 : n84 = 36 := z84
    subst y84 z84
    obtain ⟨rfl, Nq84, eq84⟩ := hQ84
    have N84 : Fr n0 L84 := by rw [l84]; exact Fr.app N83 Nq84
    obtain ⟨at84, hat84⟩ : ∃ z : Int32, z = (nar .byte (((((u5.toInt64).toUInt64 >>> (((8 : Int32) * (0 : Int32)) &&& 0x3f).toInt64.toUInt64).toInt64).toInt32).toInt8.toInt32)) := ⟨_, rfl⟩
    rw [← hat84] at st84
    obtain ⟨cl85, Ar85, q85, S85, M85, H85, G85⟩ := id V83q
    obtain ⟨T85, h85, X85, e85, W85, st85⟩ := stB X84 hx hZ eq84 Ar85 (j := (8 : Int32)) (inb_of S85 ⟨by decide, by decide⟩) (g := (mkF m 155 #[.val (.int u1), .val (.int u2), .val (.int u3), .val (.long u4), .second, .val (.int u5), .val (.int vf), .val (.ref sa61), .val (.int (5 : Int32)), .val (.int fr), .val (.int vl), .val (.ref b67), .unset, .unset, .unset, .unset] [(.int at84), (.int (8 : Int32)), (.ref b67)])) rfl rfl (hb hby at_155)
    have V85 := Arv.set Ar85 q85 S85 M85 H85 G85 (fits_nar_byte _) W85 8 rfl (Nat.le_of_ble_eq_true rfl)
    have N85 := Fr.snoc X85 N84 fr_b67
    have Z85 : n0 ≤ h85.size := Nat.le_trans Z83 (Keep.of_wr W85).1
    have kk85 : kc61 ≤ h85.size := Nat.le_trans kk83 (Keep.of_wr W85).1
    have Od85 : Old Z n0 h85 := Od83.wr W85 fr_b67
    obtain ⟨b85, hb_85⟩ : ∃ y : Int32, y = nar .byte at84 := ⟨_, rfl⟩
    have V85q : Arv Z h85 b67 k67 .byte (12 : Int32) [(.int b69), (.int b71), (.int b73), (.int b75), (.int b77), (.int b79), (.int b81), (.int b83), (.int b85), (.int (0 : Int32)), (.int (0 : Int32)), (.int (0 : Int32))] (.int (0 : Int32)) := by rw [hb_85]; exact V85
    obtain ⟨_, _, ⟨T86, L86, k86, n86⟩, -, X86, ⟨Lc86, hQ86, l86, y86, z86⟩, st86⟩ := Jvm.LawKit.callS X85 hx (y := (⟨"com/example/sabac/sabac/ExpressionLexerIsKeywordPinLaw", "at", "(JI)B"⟩ : MethodName)) hown (mvT hZ (own_w hw 21 rfl)) (mvT hZ (own_w hw 22 rfl)) (mvT hZ (own_w hw 23 rfl)) (mvT hZ (own_w hw 24 rfl)) (by decide) (backOf (W := 2) (rm_at l Z a0 hw [] (u5.toInt64) (1 : Int32) h85 n0 Z85 ) hZ (own_w hw 24 rfl) (own_w hw 23 rfl) (by decide) (by decide)) (g := (mkF m 164 #[.val (.int u1), .val (.int u2), .val (.int u3), .val (.long u4), .second, .val (.int u5), .val (.int vf), .val (.ref sa61), .val (.int (5 : Int32)), .val (.int fr), .val (.int vl), .val (.ref b67), .unset, .unset, .unset, .unset] [(.int (1 : Int32)), (.long (u5.toInt64)), (.int (9 : Int32)), (.ref b67)])) rfl (by rw [hml]; rfl) (argsL := [(.long (u5.toInt64)), (.int (1 : Int32))]) (rest := [(.int (9 : Int32)), (.ref b67)]) (lenOf pd_577923 rfl) rfl (by show 2 * 0 + _ ≤ _; exact Nat.le_of_eq rfl) (hb hby at_164) (fun _ _ => ⟨rfl, e85, (by decide : 3 + 0 ≤ _), (by decide : 36 + 0 ≤ _)⟩)
    dsimp only [Pt.U, Pt.locs, Pt.cells, Pt.slots] at X86 l86 y86 z86 st86 hQ86
    replace y86 : k86 = 3 := y86
    replace z86 : n86 = 36 := z86
    subst y86 z86
    obtain ⟨rfl, Nq86, eq86⟩ := hQ86
    have N86 : Fr n0 L86 := by rw [l86]; exact Fr.app N85 Nq86
    obtain ⟨at86, hat86⟩ : ∃ z : Int32, z = (nar .byte (((((u5.toInt64).toUInt64 >>> (((8 : Int32) * (1 : Int32)) &&& 0x3f).toInt64.toUInt64).toInt64).toInt32).toInt8.toInt32)) := ⟨_, rfl⟩
    rw [← hat86] at st86
    obtain ⟨cl87, Ar87, q87, S87, M87, H87, G87⟩ := id V85q
    obtain ⟨T87, h87, X87, e87, W87, st87⟩ := stB X86 hx hZ eq86 Ar87 (j := (9 : Int32)) (inb_of S87 ⟨by decide, by decide⟩) (g := (mkF m 167 #[.val (.int u1), .val (.int u2), .val (.int u3), .val (.long u4), .second, .val (.int u5), .val (.int vf), .val (.ref sa61), .val (.int (5 : Int32)), .val (.int fr), .val (.int vl), .val (.ref b67), .unset, .unset, .unset, .unset] [(.int at86), (.int (9 : Int32)), (.ref b67)])) rfl rfl (hb hby at_167)
    have V87 := Arv.set Ar87 q87 S87 M87 H87 G87 (fits_nar_byte _) W87 9 rfl (Nat.le_of_ble_eq_true rfl)
    have N87 := Fr.snoc X87 N86 fr_b67
    have Z87 : n0 ≤ h87.size := Nat.le_trans Z85 (Keep.of_wr W87).1
    have kk87 : kc61 ≤ h87.size := Nat.le_trans kk85 (Keep.of_wr W87).1
    have Od87 : Old Z n0 h87 := Od85.wr W87 fr_b67
    obtain ⟨b87, hb_87⟩ : ∃ y : Int32, y = nar .byte at86 := ⟨_, rfl⟩
    have V87q : Arv Z h87 b67 k67 .byte (12 : Int32) [(.int b69), (.int b71), (.int b73), (.int b75), (.int b77), (.int b79), (.int b81), (.int b83), (.int b85), (.int b87), (.int (0 : Int32)), (.int (0 : Int32))] (.int (0 : Int32)) := by rw [hb_87]; exact V87
    obtain ⟨_, _, ⟨T88, L88, k88, n88⟩, -, X88, ⟨Lc88, hQ88, l88, y88, z88⟩, st88⟩ := Jvm.LawKit.callS X87 hx (y := (⟨"com/example/sabac/sabac/ExpressionLexerIsKeywordPinLaw", "at", "(JI)B"⟩ : MethodName)) hown (mvT hZ (own_w hw 21 rfl)) (mvT hZ (own_w hw 22 rfl)) (mvT hZ (own_w hw 23 rfl)) (mvT hZ (own_w hw 24 rfl)) (by decide) (backOf (W := 2) (rm_at l Z a0 hw [] (u5.toInt64) (2 : Int32) h87 n0 Z87 ) hZ (own_w hw 24 rfl) (own_w hw 23 rfl) (by decide) (by decide)) (g := (mkF m 176 #[.val (.int u1), .val (.int u2), .val (.int u3), .val (.long u4), .second, .val (.int u5), .val (.int vf), .val (.ref sa61), .val (.int (5 : Int32)), .val (.int fr), .val (.int vl), .val (.ref b67), .unset, .unset, .unset, .unset] [(.int (2 : Int32)), (.long (u5.toInt64)), (.int (10 : Int32)), (.ref b67)])) rfl (by rw [hml]; rfl) (argsL := [(.long (u5.toInt64)), (.int (2 : Int32))]) (rest := [(.int (10 : Int32)), (.ref b67)]) (lenOf pd_577923 rfl) rfl (by show 2 * 0 + _ ≤ _; exact Nat.le_of_eq rfl) (hb hby at_176) (fun _ _ => ⟨rfl, e87, (by decide : 3 + 0 ≤ _), (by decide : 36 + 0 ≤ _)⟩)
    dsimp only [Pt.U, Pt.locs, Pt.cells, Pt.slots] at X88 l88 y88 z88 st88 hQ88
    replace y88 : k88 = 3 := y88
    replace z88 : n88 = 36 := z88
    subst y88 z88
    obtain ⟨rfl, Nq88, eq88⟩ := hQ88
    have N88 : Fr n0 L88 := by rw [l88]; exact Fr.app N87 Nq88
    obtain ⟨at88, hat88⟩ : ∃ z : Int32, z = (nar .byte (((((u5.toInt64).toUInt64 >>> (((8 : Int32) * (2 : Int32)) &&& 0x3f).toInt64.toUInt64).toInt64).toInt32).toInt8.toInt32)) := ⟨_, rfl⟩
    rw [← hat88] at st88
    obtain ⟨cl89, Ar89, q89, S89, M89, H89, G89⟩ := id V87q
    obtain ⟨T89, h89, X89, e89, W89, st89⟩ := stB X88 hx hZ eq88 Ar89 (j := (10 : Int32)) (inb_of S89 ⟨by decide, by decide⟩) (g := (mkF m 179 #[.val (.int u1), .val (.int u2), .val (.int u3), .val (.long u4), .second, .val (.int u5), .val (.int vf), .val (.ref sa61), .val (.int (5 : Int32)), .val (.int fr), .val (.int vl), .val (.ref b67), .unset, .unset, .unset, .unset] [(.int at88), (.int (10 : Int32)), (.ref b67)])) rfl rfl (hb hby at_179)
    have V89 := Arv.set Ar89 q89 S89 M89 H89 G89 (fits_nar_byte _) W89 10 rfl (Nat.le_of_ble_eq_true rfl)
    have N89 := Fr.snoc X89 N88 fr_b67
    have Z89 : n0 ≤ h89.size := Nat.le_trans Z87 (Keep.of_wr W89).1
    have kk89 : kc61 ≤ h89.size := Nat.le_trans kk87 (Keep.of_wr W89).1
    have Od89 : Old Z n0 h89 := Od87.wr W89 fr_b67
    obtain ⟨b89, hb_89⟩ : ∃ y : Int32, y = nar .byte at88 := ⟨_, rfl⟩
    have V89q : Arv Z h89 b67 k67 .byte (12 : Int32) [(.int b69), (.int b71), (.int b73), (.int b75), (.int b77), (.int b79), (.int b81), (.int b83), (.int b85), (.int b87), (.int b89), (.int (0 : Int32))] (.int (0 : Int32)) := by rw [hb_89]; exact V89
    obtain ⟨_, _, ⟨T90, L90, k90, n90⟩, -, X90, ⟨Lc90, hQ90, l90, y90, z90⟩, st90⟩ := Jvm.LawKit.callS X89 hx (y := (⟨"com/example/sabac/sabac/ExpressionLexerIsKeywordPinLaw", "at", "(JI)B"⟩ : MethodName)) hown (mvT hZ (own_w hw 21 rfl)) (mvT hZ (own_w hw 22 rfl)) (mvT hZ (own_w hw 23 rfl)) (mvT hZ (own_w hw 24 rfl)) (by decide) (backOf (W := 2) (rm_at l Z a0 hw [] (u5.toInt64) (3 : Int32) h89 n0 Z89 ) hZ (own_w hw 24 rfl) (own_w hw 23 rfl) (by decide) (by decide)) (g := (mkF m 188 #[.val (.int u1), .val (.int u2), .val (.int u3), .val (.long u4), .second, .val (.int u5), .val (.int vf), .val (.ref sa61), .val (.int (5 : Int32)), .val (.int fr), .val (.int vl), .val (.ref b67), .unset, .unset, .unset, .unset] [(.int (3 : Int32)), (.long (u5.toInt64)), (.int (11 : Int32)), (.ref b67)])) rfl (by rw [hml]; rfl) (argsL := [(.long (u5.toInt64)), (.int (3 : Int32))]) (rest := [(.int (11 : Int32)), (.ref b67)]) (lenOf pd_577923 rfl) rfl (by show 2 * 0 + _ ≤ _; exact Nat.le_of_eq rfl) (hb hby at_188) (fun _ _ => ⟨rfl, e89, (by decide : 3 + 0 ≤ _), (by decide : 36 + 0 ≤ _)⟩)
    dsimp only [Pt.U, Pt.locs, Pt.cells, Pt.slots] at X90 l90 y90 z90 st90 hQ90
    replace y90 : k90 = 3 := y90
    replace z90 : n90 = 36 := z90
    subst y90 z90
    obtain ⟨rfl, Nq90, eq90⟩ := hQ90
    have N90 : Fr n0 L90 := by rw [l90]; exact Fr.app N89 Nq90
    obtain ⟨at90, hat90⟩ : ∃ z : Int32, z = (nar .byte (((((u5.toInt64).toUInt64 >>> (((8 : Int32) * (3 : Int32)) &&& 0x3f).toInt64.toUInt64).toInt64).toInt32).toInt8.toInt32)) := ⟨_, rfl⟩
    rw [← hat90] at st90
    obtain ⟨cl91, Ar91, q91, S91, M91, H91, G91⟩ := id V89q
    obtain ⟨T91, h91, X91, e91, W91, st91⟩ := stB X90 hx hZ eq90 Ar91 (j := (11 : Int32)) (inb_of S91 ⟨by decide, by decide⟩) (g := (mkF m 191 #[.val (.int u1), .val (.int u2), .val (.int u3), .val (.long u4), .second, .val (.int u5), .val (.int vf), .val (.ref sa61), .val (.int (5 : Int32)), .val (.int fr), .val (.int vl), .val (.ref b67), .unset, .unset, .unset, .unset] [(.int at90), (.int (11 : Int32)), (.ref b67)])) rfl rfl (hb hby at_191)
    have V91 := Arv.set Ar91 q91 S91 M91 H91 G91 (fits_nar_byte _) W91 11 rfl (Nat.le_of_ble_eq_true rfl)
    have N91 := Fr.snoc X91 N90 fr_b67
    have Z91 : n0 ≤ h91.size := Nat.le_trans Z89 (Keep.of_wr W91).1
    have kk91 : kc61 ≤ h91.size := Nat.le_trans kk89 (Keep.of_wr W91).1
    have Od91 : Old Z n0 h91 := Od89.wr W91 fr_b67
    obtain ⟨b91, hb_91⟩ : ∃ y : Int32, y = nar .byte at90 := ⟨_, rfl⟩
    have V91q : Arv Z h91 b67 k67 .byte (12 : Int32) [(.int b69), (.int b71), (.int b73), (.int b75), (.int b77), (.int b79), (.int b81), (.int b83), (.int b85), (.int b87), (.int b89), (.int b91)] (.int (0 : Int32)) := by rw [hb_91]; exact V91
    obtain ⟨xs0, hx0⟩ : ∃ y : List Int32, y = [b69, b71, b73, b75, b77, b79, b81, b83, b85, b87, b89, b91] := ⟨_, rfl⟩
    have V0x : Arv Z h91 b67 k67 .byte (12 : Int32) (xs0.map Value.int) (.int (0 : Int32)) := by rw [hx0]; exact V91q
    have L0x : xs0.length = 12 := by rw [hx0]; rfl
    obtain ⟨cq92, kq92, q92a, q92b, q92c⟩ := isOf hZ e91 (((((((((((((Ea61.ext E67).wr W69).wr W71).wr W73).wr W75).wr W77).wr W79).wr W81).wr W83).wr W85).wr W87).wr W89).wr W91)
    obtain ⟨_, _, ⟨T92, L92, k92, n92⟩, -, X92, ⟨Lc92, hQ92, l92, y92, z92⟩, st92⟩ := X91.virtualBack hx (y := (⟨"java/lang/String", "charAt", "(I)C"⟩ : MethodName)) (z := (⟨"java/lang/String", "charAt", "(I)C"⟩ : MethodName)) hown (mvT hZ (own_w hw 25 rfl)) (mvT hZ (own_w hw 26 rfl)) (notFace_of_selects (args := #[]) (mvT hZ (own_w hw 28 rfl))) (mvT hZ (own_w hw 28 rfl)) (mvT hZ (own_w hw 27 rfl)) (by decide) (backOf (W := 2) (rm_ch l Z a0 hw [] sa61 (0 : Int32) zc fm sb61 kb61 (5 : Int32) [(.int (102 : Int32)), (.int (97 : Int32)), (.int (108 : Int32)), (.int (115 : Int32)), (.int (101 : Int32))] (102 : Int32) h91 n0 Z91 (O2.ext Od91.2) hz (O4.ext Od91.2) rf (((((((((((((Ea61.ext E67).wr W69).wr W71).wr W73).wr W75).wr W77).wr W79).wr W81).wr W83).wr W85).wr W87).wr W89).wr W91) (Fld.other W91 (Fld.other W89 (Fld.other W87 (Fld.other W85 (Fld.other W83 (Fld.other W81 (Fld.other W79 (Fld.other W77 (Fld.other W75 (Fld.other W73 (Fld.other W71 (Fld.other W69 (Fc61.ext E67) (Or.inl ne_sa61_b67)) (Or.inl ne_sa61_b67)) (Or.inl ne_sa61_b67)) (Or.inl ne_sa61_b67)) (Or.inl ne_sa61_b67)) (Or.inl ne_sa61_b67)) (Or.inl ne_sa61_b67)) (Or.inl ne_sa61_b67)) (Or.inl ne_sa61_b67)) (Or.inl ne_sa61_b67)) (Or.inl ne_sa61_b67)) (Or.inl ne_sa61_b67)) (Fld.other W91 (Fld.other W89 (Fld.other W87 (Fld.other W85 (Fld.other W83 (Fld.other W81 (Fld.other W79 (Fld.other W77 (Fld.other W75 (Fld.other W73 (Fld.other W71 (Fld.other W69 (Fv61.ext E67) (Or.inl ne_sa61_b67)) (Or.inl ne_sa61_b67)) (Or.inl ne_sa61_b67)) (Or.inl ne_sa61_b67)) (Or.inl ne_sa61_b67)) (Or.inl ne_sa61_b67)) (Or.inl ne_sa61_b67)) (Or.inl ne_sa61_b67)) (Or.inl ne_sa61_b67)) (Or.inl ne_sa61_b67)) (Or.inl ne_sa61_b67)) (Or.inl ne_sa61_b67)) (((((((((((((Vb61.ext E67).other W69 ne_sb61_b67).other W71 ne_sb61_b67).other W73 ne_sb61_b67).other W75 ne_sb61_b67).other W77 ne_sb61_b67).other W79 ne_sb61_b67).other W81 ne_sb61_b67).other W83 ne_sb61_b67).other W85 ne_sb61_b67).other W87 ne_sb61_b67).other W89 ne_sb61_b67).other W91 ne_sb61_b67) ⟨by decide, by decide⟩ rfl) hZ (own_w hw 29 rfl) (own_w hw 1 rfl) (by decide) (by decide)) q92a q92c (g := (mkF m 199 #[.val (.int u1), .val (.int u2), .val (.int u3), .val (.long u4), .second, .val (.int u5), .val (.int vf), .val (.ref sa61), .val (.int (5 : Int32)), .val (.int fr), .val (.int vl), .val (.ref b67), .unset, .unset, .unset, .unset] [(.int (0 : Int32)), (.ref sa61), (.int fr), (.ref b67)])) rfl (by rw [hml]; rfl) (Steps.refl _) (argsL := [(.int (0 : Int32))]) (rest := [(.int fr), (.ref b67)]) (lenOf pd_181558 rfl) rfl (by show 2 * 0 + _ ≤ _; exact Nat.le_of_eq rfl) (hb hby at_199) (fun _ _ => ⟨rfl, e91, (by decide : 3 + 0 ≤ _), (by decide : 36 + 0 ≤ _)⟩)
    dsimp only [Pt.U, Pt.locs, Pt.cells, Pt.slots] at X92 l92 y92 z92 st92 hQ92
    replace y92 : k92 = 3 := y92
    replace z92 : n92 = 36 := z92
    subst y92 z92
    obtain ⟨rfl, Nq92, eq92⟩ := hQ92
    have N92 : Fr n0 L92 := by rw [l92]; exact Fr.app N91 Nq92
    obtain ⟨cl93, Ar93, q93, S93, M93, H93, G93⟩ := id V0x
    obtain ⟨T93, h93, X93, e93, W93, st93⟩ := stB X92 hx hZ eq92 Ar93 (j := fr) (inb_of S93 (own_fr0 hF)) (g := (mkF m 203 #[.val (.int u1), .val (.int u2), .val (.int u3), .val (.long u4), .second, .val (.int u5), .val (.int vf), .val (.ref sa61), .val (.int (5 : Int32)), .val (.int fr), .val (.int vl), .val (.ref b67), .unset, .unset, .unset, .unset] [(.int ((102 : Int32).toInt8.toInt32)), (.int fr), (.ref b67)])) rfl rfl (hb hby at_203)
    have V93 := Arv.set Ar93 q93 S93 M93 H93 G93 (fits_nar_byte _) W93 (fr).toNatClampNeg rfl (own_lt12 (own_fr0 hF) L0x)
    have N93 := Fr.snoc X93 N92 fr_b67
    have Z93 : n0 ≤ h93.size := Nat.le_trans Z91 (Keep.of_wr W93).1
    have kk93 : kc61 ≤ h93.size := Nat.le_trans kk91 (Keep.of_wr W93).1
    have Od93 : Old Z n0 h93 := Od91.wr W93 fr_b67
    obtain ⟨xs93, hx93⟩ : ∃ y : List Int32, y = xs0.set (fr).toNatClampNeg (102 : Int32) := ⟨_, rfl⟩
    have V93x : Arv Z h93 b67 k67 .byte (12 : Int32) (xs93.map Value.int) (.int (0 : Int32)) := by rw [hx93, List.map_set]; exact V93
    have L93x : xs93.length = 12 := by rw [hx93, List.length_set]; exact L0x
    obtain ⟨cq94, kq94, q94a, q94b, q94c⟩ := isOf hZ e93 ((((((((((((((Ea61.ext E67).wr W69).wr W71).wr W73).wr W75).wr W77).wr W79).wr W81).wr W83).wr W85).wr W87).wr W89).wr W91).wr W93)
    obtain ⟨_, _, ⟨T94, L94, k94, n94⟩, -, X94, ⟨Lc94, hQ94, l94, y94, z94⟩, st94⟩ := X93.virtualBack hx (y := (⟨"java/lang/String", "charAt", "(I)C"⟩ : MethodName)) (z := (⟨"java/lang/String", "charAt", "(I)C"⟩ : MethodName)) hown (mvT hZ (own_w hw 25 rfl)) (mvT hZ (own_w hw 26 rfl)) (notFace_of_selects (args := #[]) (mvT hZ (own_w hw 28 rfl))) (mvT hZ (own_w hw 28 rfl)) (mvT hZ (own_w hw 27 rfl)) (by decide) (backOf (W := 2) (rm_ch l Z a0 hw [] sa61 (1 : Int32) zc fm sb61 kb61 (5 : Int32) [(.int (102 : Int32)), (.int (97 : Int32)), (.int (108 : Int32)), (.int (115 : Int32)), (.int (101 : Int32))] (97 : Int32) h93 n0 Z93 (O2.ext Od93.2) hz (O4.ext Od93.2) rf ((((((((((((((Ea61.ext E67).wr W69).wr W71).wr W73).wr W75).wr W77).wr W79).wr W81).wr W83).wr W85).wr W87).wr W89).wr W91).wr W93) (Fld.other W93 (Fld.other W91 (Fld.other W89 (Fld.other W87 (Fld.other W85 (Fld.other W83 (Fld.other W81 (Fld.other W79 (Fld.other W77 (Fld.other W75 (Fld.other W73 (Fld.other W71 (Fld.other W69 (Fc61.ext E67) (Or.inl ne_sa61_b67)) (Or.inl ne_sa61_b67)) (Or.inl ne_sa61_b67)) (Or.inl ne_sa61_b67)) (Or.inl ne_sa61_b67)) (Or.inl ne_sa61_b67)) (Or.inl ne_sa61_b67)) (Or.inl ne_sa61_b67)) (Or.inl ne_sa61_b67)) (Or.inl ne_sa61_b67)) (Or.inl ne_sa61_b67)) (Or.inl ne_sa61_b67)) (Or.inl ne_sa61_b67)) (Fld.other W93 (Fld.other W91 (Fld.other W89 (Fld.other W87 (Fld.other W85 (Fld.other W83 (Fld.other W81 (Fld.other W79 (Fld.other W77 (Fld.other W75 (Fld.other W73 (Fld.other W71 (Fld.other W69 (Fv61.ext E67) (Or.inl ne_sa61_b67)) (Or.inl ne_sa61_b67)) (Or.inl ne_sa61_b67)) (Or.inl ne_sa61_b67)) (Or.inl ne_sa61_b67)) (Or.inl ne_sa61_b67)) (Or.inl ne_sa61_b67)) (Or.inl ne_sa61_b67)) (Or.inl ne_sa61_b67)) (Or.inl ne_sa61_b67)) (Or.inl ne_sa61_b67)) (Or.inl ne_sa61_b67)) (Or.inl ne_sa61_b67)) ((((((((((((((Vb61.ext E67).other W69 ne_sb61_b67).other W71 ne_sb61_b67).other W73 ne_sb61_b67).other W75 ne_sb61_b67).other W77 ne_sb61_b67).other W79 ne_sb61_b67).other W81 ne_sb61_b67).other W83 ne_sb61_b67).other W85 ne_sb61_b67).other W87 ne_sb61_b67).other W89 ne_sb61_b67).other W91 ne_sb61_b67).other W93 ne_sb61_b67) ⟨by decide, by decide⟩ rfl) hZ (own_w hw 29 rfl) (own_w hw 1 rfl) (by decide) (by decide)) q94a q94c (g := (mkF m 213 #[.val (.int u1), .val (.int u2), .val (.int u3), .val (.long u4), .second, .val (.int u5), .val (.int vf), .val (.ref sa61), .val (.int (5 : Int32)), .val (.int fr), .val (.int vl), .val (.ref b67), .unset, .unset, .unset, .unset] [(.int (1 : Int32)), (.ref sa61), (.int (fr + (1 : Int32))), (.ref b67)])) rfl (by rw [hml]; rfl) (Steps.refl _) (argsL := [(.int (1 : Int32))]) (rest := [(.int (fr + (1 : Int32))), (.ref b67)]) (lenOf pd_181558 rfl) rfl (by show 2 * 0 + _ ≤ _; exact Nat.le_of_eq rfl) (hb hby at_213) (fun _ _ => ⟨rfl, e93, (by decide : 3 + 0 ≤ _), (by decide : 36 + 0 ≤ _)⟩)
    dsimp only [Pt.U, Pt.locs, Pt.cells, Pt.slots] at X94 l94 y94 z94 st94 hQ94
    replace y94 : k94 = 3 := y94
    replace z94 : n94 = 36 := z94
    subst y94 z94
    obtain ⟨rfl, Nq94, eq94⟩ := hQ94
    have N94 : Fr n0 L94 := by rw [l94]; exact Fr.app N93 Nq94
    obtain ⟨cl95, Ar95, q95, S95, M95, H95, G95⟩ := id V93x
    obtain ⟨T95, h95, X95, e95, W95, st95⟩ := stB X94 hx hZ eq94 Ar95 (j := (fr + (1 : Int32))) (inb_of S95 (own_fr hF (1 : Int32) (by decide))) (g := (mkF m 217 #[.val (.int u1), .val (.int u2), .val (.int u3), .val (.long u4), .second, .val (.int u5), .val (.int vf), .val (.ref sa61), .val (.int (5 : Int32)), .val (.int fr), .val (.int vl), .val (.ref b67), .unset, .unset, .unset, .unset] [(.int ((97 : Int32).toInt8.toInt32)), (.int (fr + (1 : Int32))), (.ref b67)])) rfl rfl (hb hby at_217)
    have V95 := Arv.set Ar95 q95 S95 M95 H95 G95 (fits_nar_byte _) W95 ((fr + (1 : Int32))).toNatClampNeg rfl (own_lt12 (own_fr hF (1 : Int32) (by decide)) L93x)
    have N95 := Fr.snoc X95 N94 fr_b67
    have Z95 : n0 ≤ h95.size := Nat.le_trans Z93 (Keep.of_wr W95).1
    have kk95 : kc61 ≤ h95.size := Nat.le_trans kk93 (Keep.of_wr W95).1
    have Od95 : Old Z n0 h95 := Od93.wr W95 fr_b67
    obtain ⟨xs95, hx95⟩ : ∃ y : List Int32, y = xs93.set ((fr + (1 : Int32))).toNatClampNeg (97 : Int32) := ⟨_, rfl⟩
    have V95x : Arv Z h95 b67 k67 .byte (12 : Int32) (xs95.map Value.int) (.int (0 : Int32)) := by rw [hx95, List.map_set]; exact V95
    have L95x : xs95.length = 12 := by rw [hx95, List.length_set]; exact L93x
    obtain ⟨cq96, kq96, q96a, q96b, q96c⟩ := isOf hZ e95 (((((((((((((((Ea61.ext E67).wr W69).wr W71).wr W73).wr W75).wr W77).wr W79).wr W81).wr W83).wr W85).wr W87).wr W89).wr W91).wr W93).wr W95)
    obtain ⟨_, _, ⟨T96, L96, k96, n96⟩, -, X96, ⟨Lc96, hQ96, l96, y96, z96⟩, st96⟩ := X95.virtualBack hx (y := (⟨"java/lang/String", "charAt", "(I)C"⟩ : MethodName)) (z := (⟨"java/lang/String", "charAt", "(I)C"⟩ : MethodName)) hown (mvT hZ (own_w hw 25 rfl)) (mvT hZ (own_w hw 26 rfl)) (notFace_of_selects (args := #[]) (mvT hZ (own_w hw 28 rfl))) (mvT hZ (own_w hw 28 rfl)) (mvT hZ (own_w hw 27 rfl)) (by decide) (backOf (W := 2) (rm_ch l Z a0 hw [] sa61 (2 : Int32) zc fm sb61 kb61 (5 : Int32) [(.int (102 : Int32)), (.int (97 : Int32)), (.int (108 : Int32)), (.int (115 : Int32)), (.int (101 : Int32))] (108 : Int32) h95 n0 Z95 (O2.ext Od95.2) hz (O4.ext Od95.2) rf (((((((((((((((Ea61.ext E67).wr W69).wr W71).wr W73).wr W75).wr W77).wr W79).wr W81).wr W83).wr W85).wr W87).wr W89).wr W91).wr W93).wr W95) (Fld.other W95 (Fld.other W93 (Fld.other W91 (Fld.other W89 (Fld.other W87 (Fld.other W85 (Fld.other W83 (Fld.other W81 (Fld.other W79 (Fld.other W77 (Fld.other W75 (Fld.other W73 (Fld.other W71 (Fld.other W69 (Fc61.ext E67) (Or.inl ne_sa61_b67)) (Or.inl ne_sa61_b67)) (Or.inl ne_sa61_b67)) (Or.inl ne_sa61_b67)) (Or.inl ne_sa61_b67)) (Or.inl ne_sa61_b67)) (Or.inl ne_sa61_b67)) (Or.inl ne_sa61_b67)) (Or.inl ne_sa61_b67)) (Or.inl ne_sa61_b67)) (Or.inl ne_sa61_b67)) (Or.inl ne_sa61_b67)) (Or.inl ne_sa61_b67)) (Or.inl ne_sa61_b67)) (Fld.other W95 (Fld.other W93 (Fld.other W91 (Fld.other W89 (Fld.other W87 (Fld.other W85 (Fld.other W83 (Fld.other W81 (Fld.other W79 (Fld.other W77 (Fld.other W75 (Fld.other W73 (Fld.other W71 (Fld.other W69 (Fv61.ext E67) (Or.inl ne_sa61_b67)) (Or.inl ne_sa61_b67)) (Or.inl ne_sa61_b67)) (Or.inl ne_sa61_b67)) (Or.inl ne_sa61_b67)) (Or.inl ne_sa61_b67)) (Or.inl ne_sa61_b67)) (Or.inl ne_sa61_b67)) (Or.inl ne_sa61_b67)) (Or.inl ne_sa61_b67)) (Or.inl ne_sa61_b67)) (Or.inl ne_sa61_b67)) (Or.inl ne_sa61_b67)) (Or.inl ne_sa61_b67)) (((((((((((((((Vb61.ext E67).other W69 ne_sb61_b67).other W71 ne_sb61_b67).other W73 ne_sb61_b67).other W75 ne_sb61_b67).other W77 ne_sb61_b67).other W79 ne_sb61_b67).other W81 ne_sb61_b67).other W83 ne_sb61_b67).other W85 ne_sb61_b67).other W87 ne_sb61_b67).other W89 ne_sb61_b67).other W91 ne_sb61_b67).other W93 ne_sb61_b67).other W95 ne_sb61_b67) ⟨by decide, by decide⟩ rfl) hZ (own_w hw 29 rfl) (own_w hw 1 rfl) (by decide) (by decide)) q96a q96c (g := (mkF m 227 #[.val (.int u1), .val (.int u2), .val (.int u3), .val (.long u4), .second, .val (.int u5), .val (.int vf), .val (.ref sa61), .val (.int (5 : Int32)), .val (.int fr), .val (.int vl), .val (.ref b67), .unset, .unset, .unset, .unset] [(.int (2 : Int32)), (.ref sa61), (.int (fr + (2 : Int32))), (.ref b67)])) rfl (by rw [hml]; rfl) (Steps.refl _) (argsL := [(.int (2 : Int32))]) (rest := [(.int (fr + (2 : Int32))), (.ref b67)]) (lenOf pd_181558 rfl) rfl (by show 2 * 0 + _ ≤ _; exact Nat.le_of_eq rfl) (hb hby at_227) (fun _ _ => ⟨rfl, e95, (by decide : 3 + 0 ≤ _), (by decide : 36 + 0 ≤ _)⟩)
    dsimp only [Pt.U, Pt.locs, Pt.cells, Pt.slots] at X96 l96 y96 z96 st96 hQ96
    replace y96 : k96 = 3 := y96
    replace z96 : n96 = 36 := z96
    subst y96 z96
    obtain ⟨rfl, Nq96, eq96⟩ := hQ96
    have N96 : Fr n0 L96 := by rw [l96]; exact Fr.app N95 Nq96
    obtain ⟨cl97, Ar97, q97, S97, M97, H97, G97⟩ := id V95x
    obtain ⟨T97, h97, X97, e97, W97, st97⟩ := stB X96 hx hZ eq96 Ar97 (j := (fr + (2 : Int32))) (inb_of S97 (own_fr hF (2 : Int32) (by decide))) (g := (mkF m 231 #[.val (.int u1), .val (.int u2), .val (.int u3), .val (.long u4), .second, .val (.int u5), .val (.int vf), .val (.ref sa61), .val (.int (5 : Int32)), .val (.int fr), .val (.int vl), .val (.ref b67), .unset, .unset, .unset, .unset] [(.int ((108 : Int32).toInt8.toInt32)), (.int (fr + (2 : Int32))), (.ref b67)])) rfl rfl (hb hby at_231)
    have V97 := Arv.set Ar97 q97 S97 M97 H97 G97 (fits_nar_byte _) W97 ((fr + (2 : Int32))).toNatClampNeg rfl (own_lt12 (own_fr hF (2 : Int32) (by decide)) L95x)
    have N97 := Fr.snoc X97 N96 fr_b67
    have Z97 : n0 ≤ h97.size := Nat.le_trans Z95 (Keep.of_wr W97).1
    have kk97 : kc61 ≤ h97.size := Nat.le_trans kk95 (Keep.of_wr W97).1
    have Od97 : Old Z n0 h97 := Od95.wr W97 fr_b67
    obtain ⟨xs97, hx97⟩ : ∃ y : List Int32, y = xs95.set ((fr + (2 : Int32))).toNatClampNeg (108 : Int32) := ⟨_, rfl⟩
    have V97x : Arv Z h97 b67 k67 .byte (12 : Int32) (xs97.map Value.int) (.int (0 : Int32)) := by rw [hx97, List.map_set]; exact V97
    have L97x : xs97.length = 12 := by rw [hx97, List.length_set]; exact L95x
    obtain ⟨cq98, kq98, q98a, q98b, q98c⟩ := isOf hZ e97 ((((((((((((((((Ea61.ext E67).wr W69).wr W71).wr W73).wr W75).wr W77).wr W79).wr W81).wr W83).wr W85).wr W87).wr W89).wr W91).wr W93).wr W95).wr W97)
    obtain ⟨_, _, ⟨T98, L98, k98, n98⟩, -, X98, ⟨Lc98, hQ98, l98, y98, z98⟩, st98⟩ := X97.virtualBack hx (y := (⟨"java/lang/String", "charAt", "(I)C"⟩ : MethodName)) (z := (⟨"java/lang/String", "charAt", "(I)C"⟩ : MethodName)) hown (mvT hZ (own_w hw 25 rfl)) (mvT hZ (own_w hw 26 rfl)) (notFace_of_selects (args := #[]) (mvT hZ (own_w hw 28 rfl))) (mvT hZ (own_w hw 28 rfl)) (mvT hZ (own_w hw 27 rfl)) (by decide) (backOf (W := 2) (rm_ch l Z a0 hw [] sa61 (3 : Int32) zc fm sb61 kb61 (5 : Int32) [(.int (102 : Int32)), (.int (97 : Int32)), (.int (108 : Int32)), (.int (115 : Int32)), (.int (101 : Int32))] (115 : Int32) h97 n0 Z97 (O2.ext Od97.2) hz (O4.ext Od97.2) rf ((((((((((((((((Ea61.ext E67).wr W69).wr W71).wr W73).wr W75).wr W77).wr W79).wr W81).wr W83).wr W85).wr W87).wr W89).wr W91).wr W93).wr W95).wr W97) (Fld.other W97 (Fld.other W95 (Fld.other W93 (Fld.other W91 (Fld.other W89 (Fld.other W87 (Fld.other W85 (Fld.other W83 (Fld.other W81 (Fld.other W79 (Fld.other W77 (Fld.other W75 (Fld.other W73 (Fld.other W71 (Fld.other W69 (Fc61.ext E67) (Or.inl ne_sa61_b67)) (Or.inl ne_sa61_b67)) (Or.inl ne_sa61_b67)) (Or.inl ne_sa61_b67)) (Or.inl ne_sa61_b67)) (Or.inl ne_sa61_b67)) (Or.inl ne_sa61_b67)) (Or.inl ne_sa61_b67)) (Or.inl ne_sa61_b67)) (Or.inl ne_sa61_b67)) (Or.inl ne_sa61_b67)) (Or.inl ne_sa61_b67)) (Or.inl ne_sa61_b67)) (Or.inl ne_sa61_b67)) (Or.inl ne_sa61_b67)) (Fld.other W97 (Fld.other W95 (Fld.other W93 (Fld.other W91 (Fld.other W89 (Fld.other W87 (Fld.other W85 (Fld.other W83 (Fld.other W81 (Fld.other W79 (Fld.other W77 (Fld.other W75 (Fld.other W73 (Fld.other W71 (Fld.other W69 (Fv61.ext E67) (Or.inl ne_sa61_b67)) (Or.inl ne_sa61_b67)) (Or.inl ne_sa61_b67)) (Or.inl ne_sa61_b67)) (Or.inl ne_sa61_b67)) (Or.inl ne_sa61_b67)) (Or.inl ne_sa61_b67)) (Or.inl ne_sa61_b67)) (Or.inl ne_sa61_b67)) (Or.inl ne_sa61_b67)) (Or.inl ne_sa61_b67)) (Or.inl ne_sa61_b67)) (Or.inl ne_sa61_b67)) (Or.inl ne_sa61_b67)) (Or.inl ne_sa61_b67)) ((((((((((((((((Vb61.ext E67).other W69 ne_sb61_b67).other W71 ne_sb61_b67).other W73 ne_sb61_b67).other W75 ne_sb61_b67).other W77 ne_sb61_b67).other W79 ne_sb61_b67).other W81 ne_sb61_b67).other W83 ne_sb61_b67).other W85 ne_sb61_b67).other W87 ne_sb61_b67).other W89 ne_sb61_b67).other W91 ne_sb61_b67).other W93 ne_sb61_b67).other W95 ne_sb61_b67).other W97 ne_sb61_b67) ⟨by decide, by decide⟩ rfl) hZ (own_w hw 29 rfl) (own_w hw 1 rfl) (by decide) (by decide)) q98a q98c (g := (mkF m 241 #[.val (.int u1), .val (.int u2), .val (.int u3), .val (.long u4), .second, .val (.int u5), .val (.int vf), .val (.ref sa61), .val (.int (5 : Int32)), .val (.int fr), .val (.int vl), .val (.ref b67), .unset, .unset, .unset, .unset] [(.int (3 : Int32)), (.ref sa61), (.int (fr + (3 : Int32))), (.ref b67)])) rfl (by rw [hml]; rfl) (Steps.refl _) (argsL := [(.int (3 : Int32))]) (rest := [(.int (fr + (3 : Int32))), (.ref b67)]) (lenOf pd_181558 rfl) rfl (by show 2 * 0 + _ ≤ _; exact Nat.le_of_eq rfl) (hb hby at_241) (fun _ _ => ⟨rfl, e97, (by decide : 3 + 0 ≤ _), (by decide : 36 + 0 ≤ _)⟩)
    dsimp only [Pt.U, Pt.locs, Pt.cells, Pt.slots] at X98 l98 y98 z98 st98 hQ98
    replace y98 : k98 = 3 := y98
    replace z98 : n98 = 36 := z98
    subst y98 z98
    obtain ⟨rfl, Nq98, eq98⟩ := hQ98
    have N98 : Fr n0 L98 := by rw [l98]; exact Fr.app N97 Nq98
    obtain ⟨cl99, Ar99, q99, S99, M99, H99, G99⟩ := id V97x
    obtain ⟨T99, h99, X99, e99, W99, st99⟩ := stB X98 hx hZ eq98 Ar99 (j := (fr + (3 : Int32))) (inb_of S99 (own_fr hF (3 : Int32) (by decide))) (g := (mkF m 245 #[.val (.int u1), .val (.int u2), .val (.int u3), .val (.long u4), .second, .val (.int u5), .val (.int vf), .val (.ref sa61), .val (.int (5 : Int32)), .val (.int fr), .val (.int vl), .val (.ref b67), .unset, .unset, .unset, .unset] [(.int ((115 : Int32).toInt8.toInt32)), (.int (fr + (3 : Int32))), (.ref b67)])) rfl rfl (hb hby at_245)
    have V99 := Arv.set Ar99 q99 S99 M99 H99 G99 (fits_nar_byte _) W99 ((fr + (3 : Int32))).toNatClampNeg rfl (own_lt12 (own_fr hF (3 : Int32) (by decide)) L97x)
    have N99 := Fr.snoc X99 N98 fr_b67
    have Z99 : n0 ≤ h99.size := Nat.le_trans Z97 (Keep.of_wr W99).1
    have kk99 : kc61 ≤ h99.size := Nat.le_trans kk97 (Keep.of_wr W99).1
    have Od99 : Old Z n0 h99 := Od97.wr W99 fr_b67
    obtain ⟨xs99, hx99⟩ : ∃ y : List Int32, y = xs97.set ((fr + (3 : Int32))).toNatClampNeg (115 : Int32) := ⟨_, rfl⟩
    have V99x : Arv Z h99 b67 k67 .byte (12 : Int32) (xs99.map Value.int) (.int (0 : Int32)) := by rw [hx99, List.map_set]; exact V99
    have L99x : xs99.length = 12 := by rw [hx99, List.length_set]; exact L97x
    obtain ⟨cq100, kq100, q100a, q100b, q100c⟩ := isOf hZ e99 (((((((((((((((((Ea61.ext E67).wr W69).wr W71).wr W73).wr W75).wr W77).wr W79).wr W81).wr W83).wr W85).wr W87).wr W89).wr W91).wr W93).wr W95).wr W97).wr W99)
    obtain ⟨_, _, ⟨T100, L100, k100, n100⟩, -, X100, ⟨Lc100, hQ100, l100, y100, z100⟩, st100⟩ := X99.virtualBack hx (y := (⟨"java/lang/String", "charAt", "(I)C"⟩ : MethodName)) (z := (⟨"java/lang/String", "charAt", "(I)C"⟩ : MethodName)) hown (mvT hZ (own_w hw 25 rfl)) (mvT hZ (own_w hw 26 rfl)) (notFace_of_selects (args := #[]) (mvT hZ (own_w hw 28 rfl))) (mvT hZ (own_w hw 28 rfl)) (mvT hZ (own_w hw 27 rfl)) (by decide) (backOf (W := 2) (rm_ch l Z a0 hw [] sa61 (4 : Int32) zc fm sb61 kb61 (5 : Int32) [(.int (102 : Int32)), (.int (97 : Int32)), (.int (108 : Int32)), (.int (115 : Int32)), (.int (101 : Int32))] (101 : Int32) h99 n0 Z99 (O2.ext Od99.2) hz (O4.ext Od99.2) rf (((((((((((((((((Ea61.ext E67).wr W69).wr W71).wr W73).wr W75).wr W77).wr W79).wr W81).wr W83).wr W85).wr W87).wr W89).wr W91).wr W93).wr W95).wr W97).wr W99) (Fld.other W99 (Fld.other W97 (Fld.other W95 (Fld.other W93 (Fld.other W91 (Fld.other W89 (Fld.other W87 (Fld.other W85 (Fld.other W83 (Fld.other W81 (Fld.other W79 (Fld.other W77 (Fld.other W75 (Fld.other W73 (Fld.other W71 (Fld.other W69 (Fc61.ext E67) (Or.inl ne_sa61_b67)) (Or.inl ne_sa61_b67)) (Or.inl ne_sa61_b67)) (Or.inl ne_sa61_b67)) (Or.inl ne_sa61_b67)) (Or.inl ne_sa61_b67)) (Or.inl ne_sa61_b67)) (Or.inl ne_sa61_b67)) (Or.inl ne_sa61_b67)) (Or.inl ne_sa61_b67)) (Or.inl ne_sa61_b67)) (Or.inl ne_sa61_b67)) (Or.inl ne_sa61_b67)) (Or.inl ne_sa61_b67)) (Or.inl ne_sa61_b67)) (Or.inl ne_sa61_b67)) (Fld.other W99 (Fld.other W97 (Fld.other W95 (Fld.other W93 (Fld.other W91 (Fld.other W89 (Fld.other W87 (Fld.other W85 (Fld.other W83 (Fld.other W81 (Fld.other W79 (Fld.other W77 (Fld.other W75 (Fld.other W73 (Fld.other W71 (Fld.other W69 (Fv61.ext E67) (Or.inl ne_sa61_b67)) (Or.inl ne_sa61_b67)) (Or.inl ne_sa61_b67)) (Or.inl ne_sa61_b67)) (Or.inl ne_sa61_b67)) (Or.inl ne_sa61_b67)) (Or.inl ne_sa61_b67)) (Or.inl ne_sa61_b67)) (Or.inl ne_sa61_b67)) (Or.inl ne_sa61_b67)) (Or.inl ne_sa61_b67)) (Or.inl ne_sa61_b67)) (Or.inl ne_sa61_b67)) (Or.inl ne_sa61_b67)) (Or.inl ne_sa61_b67)) (Or.inl ne_sa61_b67)) (((((((((((((((((Vb61.ext E67).other W69 ne_sb61_b67).other W71 ne_sb61_b67).other W73 ne_sb61_b67).other W75 ne_sb61_b67).other W77 ne_sb61_b67).other W79 ne_sb61_b67).other W81 ne_sb61_b67).other W83 ne_sb61_b67).other W85 ne_sb61_b67).other W87 ne_sb61_b67).other W89 ne_sb61_b67).other W91 ne_sb61_b67).other W93 ne_sb61_b67).other W95 ne_sb61_b67).other W97 ne_sb61_b67).other W99 ne_sb61_b67) ⟨by decide, by decide⟩ rfl) hZ (own_w hw 29 rfl) (own_w hw 1 rfl) (by decide) (by decide)) q100a q100c (g := (mkF m 261 #[.val (.int u1), .val (.int u2), .val (.int u3), .val (.long u4), .second, .val (.int u5), .val (.int vf), .val (.ref sa61), .val (.int (5 : Int32)), .val (.int fr), .val (.int vl), .val (.ref b67), .unset, .unset, .unset, .unset] [(.int (4 : Int32)), (.ref sa61), (.int (fr + (4 : Int32))), (.ref b67)])) rfl (by rw [hml]; rfl) (Steps.refl _) (argsL := [(.int (4 : Int32))]) (rest := [(.int (fr + (4 : Int32))), (.ref b67)]) (lenOf pd_181558 rfl) rfl (by show 2 * 0 + _ ≤ _; exact Nat.le_of_eq rfl) (hb hby at_261) (fun _ _ => ⟨rfl, e99, (by decide : 3 + 0 ≤ _), (by decide : 36 + 0 ≤ _)⟩)
    dsimp only [Pt.U, Pt.locs, Pt.cells, Pt.slots] at X100 l100 y100 z100 st100 hQ100
    replace y100 : k100 = 3 := y100
    replace z100 : n100 = 36 := z100
    subst y100 z100
    obtain ⟨rfl, Nq100, eq100⟩ := hQ100
    have N100 : Fr n0 L100 := by rw [l100]; exact Fr.app N99 Nq100
    obtain ⟨cl101, Ar101, q101, S101, M101, H101, G101⟩ := id V99x
    obtain ⟨T101, h101, X101, e101, W101, st101⟩ := stB X100 hx hZ eq100 Ar101 (j := (fr + (4 : Int32))) (inb_of S101 (own_fr hF (4 : Int32) (by decide))) (g := (mkF m 265 #[.val (.int u1), .val (.int u2), .val (.int u3), .val (.long u4), .second, .val (.int u5), .val (.int vf), .val (.ref sa61), .val (.int (5 : Int32)), .val (.int fr), .val (.int vl), .val (.ref b67), .unset, .unset, .unset, .unset] [(.int ((101 : Int32).toInt8.toInt32)), (.int (fr + (4 : Int32))), (.ref b67)])) rfl rfl (hb hby at_265)
    have V101 := Arv.set Ar101 q101 S101 M101 H101 G101 (fits_nar_byte _) W101 ((fr + (4 : Int32))).toNatClampNeg rfl (own_lt12 (own_fr hF (4 : Int32) (by decide)) L99x)
    have N101 := Fr.snoc X101 N100 fr_b67
    have Z101 : n0 ≤ h101.size := Nat.le_trans Z99 (Keep.of_wr W101).1
    have kk101 : kc61 ≤ h101.size := Nat.le_trans kk99 (Keep.of_wr W101).1
    have Od101 : Old Z n0 h101 := Od99.wr W101 fr_b67
    obtain ⟨xs101, hx101⟩ : ∃ y : List Int32, y = xs99.set ((fr + (4 : Int32))).toNatClampNeg (101 : Int32) := ⟨_, rfl⟩
    have V101x : Arv Z h101 b67 k67 .byte (12 : Int32) (xs101.map Value.int) (.int (0 : Int32)) := by rw [hx101, List.map_set]; exact V101
    have L101x : xs101.length = 12 := by rw [hx101, List.length_set]; exact L99x
    have pre102 : ∀ t, Steps p.tables e below (T101.setTop (mkF m 270 #[.val (.int u1), .val (.int u2), .val (.int u3), .val (.long u4), .second, .val (.int u5), .val (.int vf), .val (.ref sa61), .val (.int (5 : Int32)), .val (.int fr), .val (.int vl), .val (.ref b67), .unset, .unset, .unset, .unset] [(.int (u3 &&& (8 : Int32)))])) t → Steps p.tables e below (s₁.setTop (entryFrame m #[(.int u1), (.int u2), (.int u3), (.long u4), (.int u5)] maxLocals)) t := by
      intro t k
      refine pre66 t ?_
      show Steps p.tables e below (T62.setTop (mkF m 62 #[.val (.int u1), .val (.int u2), .val (.int u3), .val (.long u4), .second, .val (.int u5), .val (.int vf), .val (.ref sa61), .val (.int (5 : Int32)), .val (.int fr), .val (.int vl), .unset, .unset, .unset, .unset, .unset] [])) _
      refine XS.bipush X62.here hx rfl (hb hby at_62) ?_
      show Steps p.tables e below (T62.setTop (mkF m 64 #[.val (.int u1), .val (.int u2), .val (.int u3), .val (.long u4), .second, .val (.int u5), .val (.int vf), .val (.ref sa61), .val (.int (5 : Int32)), .val (.int fr), .val (.int vl), .unset, .unset, .unset, .unset, .unset] [(.int (12 : Int32))])) _
      refine st67 _ ?_
      show Steps p.tables e below (T67.setTop (mkF m 66 #[.val (.int u1), .val (.int u2), .val (.int u3), .val (.long u4), .second, .val (.int u5), .val (.int vf), .val (.ref sa61), .val (.int (5 : Int32)), .val (.int fr), .val (.int vl), .unset, .unset, .unset, .unset, .unset] [(.ref b67)])) _
      refine XS.astore X67.here hx rfl (hb hby at_66) rfl rfl (l' := #[.val (.int u1), .val (.int u2), .val (.int u3), .val (.long u4), .second, .val (.int u5), .val (.int vf), .val (.ref sa61), .val (.int (5 : Int32)), .val (.int fr), .val (.int vl), .val (.ref b67), .unset, .unset, .unset, .unset]) rfl ?_
      show Steps p.tables e below (T67.setTop (mkF m 68 #[.val (.int u1), .val (.int u2), .val (.int u3), .val (.long u4), .second, .val (.int u5), .val (.int vf), .val (.ref sa61), .val (.int (5 : Int32)), .val (.int fr), .val (.int vl), .val (.ref b67), .unset, .unset, .unset, .unset] [])) _
      refine XS.aload X67.here hx rfl (hb hby at_68) rfl rfl ?_
      show Steps p.tables e below (T67.setTop (mkF m 70 #[.val (.int u1), .val (.int u2), .val (.int u3), .val (.long u4), .second, .val (.int u5), .val (.int vf), .val (.ref sa61), .val (.int (5 : Int32)), .val (.int fr), .val (.int vl), .val (.ref b67), .unset, .unset, .unset, .unset] [(.ref b67)])) _
      refine XS.iconst X67.here hx rfl (hb hby at_70) ?_
      show Steps p.tables e below (T67.setTop (mkF m 71 #[.val (.int u1), .val (.int u2), .val (.int u3), .val (.long u4), .second, .val (.int u5), .val (.int vf), .val (.ref sa61), .val (.int (5 : Int32)), .val (.int fr), .val (.int vl), .val (.ref b67), .unset, .unset, .unset, .unset] [(.int (0 : Int32)), (.ref b67)])) _
      refine XS.lloadN X67.here hx rfl (hb hby at_71) rfl ?_
      show Steps p.tables e below (T67.setTop (mkF m 72 #[.val (.int u1), .val (.int u2), .val (.int u3), .val (.long u4), .second, .val (.int u5), .val (.int vf), .val (.ref sa61), .val (.int (5 : Int32)), .val (.int fr), .val (.int vl), .val (.ref b67), .unset, .unset, .unset, .unset] [(.long u4), (.int (0 : Int32)), (.ref b67)])) _
      refine XS.iconst X67.here hx rfl (hb hby at_72) ?_
      show Steps p.tables e below (T67.setTop (mkF m 73 #[.val (.int u1), .val (.int u2), .val (.int u3), .val (.long u4), .second, .val (.int u5), .val (.int vf), .val (.ref sa61), .val (.int (5 : Int32)), .val (.int fr), .val (.int vl), .val (.ref b67), .unset, .unset, .unset, .unset] [(.int (0 : Int32)), (.long u4), (.int (0 : Int32)), (.ref b67)])) _
      refine st68 _ ?_
      show Steps p.tables e below (T68.setTop (mkF m 76 #[.val (.int u1), .val (.int u2), .val (.int u3), .val (.long u4), .second, .val (.int u5), .val (.int vf), .val (.ref sa61), .val (.int (5 : Int32)), .val (.int fr), .val (.int vl), .val (.ref b67), .unset, .unset, .unset, .unset] [(.int at68), (.int (0 : Int32)), (.ref b67)])) _
      refine st69 _ ?_
      show Steps p.tables e below (T69.setTop (mkF m 77 #[.val (.int u1), .val (.int u2), .val (.int u3), .val (.long u4), .second, .val (.int u5), .val (.int vf), .val (.ref sa61), .val (.int (5 : Int32)), .val (.int fr), .val (.int vl), .val (.ref b67), .unset, .unset, .unset, .unset] [])) _
      refine XS.aload X69.here hx rfl (hb hby at_77) rfl rfl ?_
      show Steps p.tables e below (T69.setTop (mkF m 79 #[.val (.int u1), .val (.int u2), .val (.int u3), .val (.long u4), .second, .val (.int u5), .val (.int vf), .val (.ref sa61), .val (.int (5 : Int32)), .val (.int fr), .val (.int vl), .val (.ref b67), .unset, .unset, .unset, .unset] [(.ref b67)])) _
      refine XS.iconst X69.here hx rfl (hb hby at_79) ?_
      show Steps p.tables e below (T69.setTop (mkF m 80 #[.val (.int u1), .val (.int u2), .val (.int u3), .val (.long u4), .second, .val (.int u5), .val (.int vf), .val (.ref sa61), .val (.int (5 : Int32)), .val (.int fr), .val (.int vl), .val (.ref b67), .unset, .unset, .unset, .unset] [(.int (1 : Int32)), (.ref b67)])) _
      refine XS.lloadN X69.here hx rfl (hb hby at_80) rfl ?_
      show Steps p.tables e below (T69.setTop (mkF m 81 #[.val (.int u1), .val (.int u2), .val (.int u3), .val (.long u4), .second, .val (.int u5), .val (.int vf), .val (.ref sa61), .val (.int (5 : Int32)), .val (.int fr), .val (.int vl), .val (.ref b67), .unset, .unset, .unset, .unset] [(.long u4), (.int (1 : Int32)), (.ref b67)])) _
      refine XS.iconst X69.here hx rfl (hb hby at_81) ?_
      show Steps p.tables e below (T69.setTop (mkF m 82 #[.val (.int u1), .val (.int u2), .val (.int u3), .val (.long u4), .second, .val (.int u5), .val (.int vf), .val (.ref sa61), .val (.int (5 : Int32)), .val (.int fr), .val (.int vl), .val (.ref b67), .unset, .unset, .unset, .unset] [(.int (1 : Int32)), (.long u4), (.int (1 : Int32)), (.ref b67)])) _
      refine st70 _ ?_
      show Steps p.tables e below (T70.setTop (mkF m 85 #[.val (.int u1), .val (.int u2), .val (.int u3), .val (.long u4), .second, .val (.int u5), .val (.int vf), .val (.ref sa61), .val (.int (5 : Int32)), .val (.int fr), .val (.int vl), .val (.ref b67), .unset, .unset, .unset, .unset] [(.int at70), (.int (1 : Int32)), (.ref b67)])) _
      refine st71 _ ?_
      show Steps p.tables e below (T71.setTop (mkF m 86 #[.val (.int u1), .val (.int u2), .val (.int u3), .val (.long u4), .second, .val (.int u5), .val (.int vf), .val (.ref sa61), .val (.int (5 : Int32)), .val (.int fr), .val (.int vl), .val (.ref b67), .unset, .unset, .unset, .unset] [])) _
      refine XS.aload X71.here hx rfl (hb hby at_86) rfl rfl ?_
      show Steps p.tables e below (T71.setTop (mkF m 88 #[.val (.int u1), .val (.int u2), .val (.int u3), .val (.long u4), .second, .val (.int u5), .val (.int vf), .val (.ref sa61), .val (.int (5 : Int32)), .val (.int fr), .val (.int vl), .val (.ref b67), .unset, .unset, .unset, .unset] [(.ref b67)])) _
      refine XS.iconst X71.here hx rfl (hb hby at_88) ?_
      show Steps p.tables e below (T71.setTop (mkF m 89 #[.val (.int u1), .val (.int u2), .val (.int u3), .val (.long u4), .second, .val (.int u5), .val (.int vf), .val (.ref sa61), .val (.int (5 : Int32)), .val (.int fr), .val (.int vl), .val (.ref b67), .unset, .unset, .unset, .unset] [(.int (2 : Int32)), (.ref b67)])) _
      refine XS.lloadN X71.here hx rfl (hb hby at_89) rfl ?_
      show Steps p.tables e below (T71.setTop (mkF m 90 #[.val (.int u1), .val (.int u2), .val (.int u3), .val (.long u4), .second, .val (.int u5), .val (.int vf), .val (.ref sa61), .val (.int (5 : Int32)), .val (.int fr), .val (.int vl), .val (.ref b67), .unset, .unset, .unset, .unset] [(.long u4), (.int (2 : Int32)), (.ref b67)])) _
      refine XS.iconst X71.here hx rfl (hb hby at_90) ?_
      show Steps p.tables e below (T71.setTop (mkF m 91 #[.val (.int u1), .val (.int u2), .val (.int u3), .val (.long u4), .second, .val (.int u5), .val (.int vf), .val (.ref sa61), .val (.int (5 : Int32)), .val (.int fr), .val (.int vl), .val (.ref b67), .unset, .unset, .unset, .unset] [(.int (2 : Int32)), (.long u4), (.int (2 : Int32)), (.ref b67)])) _
      refine st72 _ ?_
      show Steps p.tables e below (T72.setTop (mkF m 94 #[.val (.int u1), .val (.int u2), .val (.int u3), .val (.long u4), .second, .val (.int u5), .val (.int vf), .val (.ref sa61), .val (.int (5 : Int32)), .val (.int fr), .val (.int vl), .val (.ref b67), .unset, .unset, .unset, .unset] [(.int at72), (.int (2 : Int32)), (.ref b67)])) _
      refine st73 _ ?_
      show Steps p.tables e below (T73.setTop (mkF m 95 #[.val (.int u1), .val (.int u2), .val (.int u3), .val (.long u4), .second, .val (.int u5), .val (.int vf), .val (.ref sa61), .val (.int (5 : Int32)), .val (.int fr), .val (.int vl), .val (.ref b67), .unset, .unset, .unset, .unset] [])) _
      refine XS.aload X73.here hx rfl (hb hby at_95) rfl rfl ?_
      show Steps p.tables e below (T73.setTop (mkF m 97 #[.val (.int u1), .val (.int u2), .val (.int u3), .val (.long u4), .second, .val (.int u5), .val (.int vf), .val (.ref sa61), .val (.int (5 : Int32)), .val (.int fr), .val (.int vl), .val (.ref b67), .unset, .unset, .unset, .unset] [(.ref b67)])) _
      refine XS.iconst X73.here hx rfl (hb hby at_97) ?_
      show Steps p.tables e below (T73.setTop (mkF m 98 #[.val (.int u1), .val (.int u2), .val (.int u3), .val (.long u4), .second, .val (.int u5), .val (.int vf), .val (.ref sa61), .val (.int (5 : Int32)), .val (.int fr), .val (.int vl), .val (.ref b67), .unset, .unset, .unset, .unset] [(.int (3 : Int32)), (.ref b67)])) _
      refine XS.lloadN X73.here hx rfl (hb hby at_98) rfl ?_
      show Steps p.tables e below (T73.setTop (mkF m 99 #[.val (.int u1), .val (.int u2), .val (.int u3), .val (.long u4), .second, .val (.int u5), .val (.int vf), .val (.ref sa61), .val (.int (5 : Int32)), .val (.int fr), .val (.int vl), .val (.ref b67), .unset, .unset, .unset, .unset] [(.long u4), (.int (3 : Int32)), (.ref b67)])) _
      refine XS.iconst X73.here hx rfl (hb hby at_99) ?_
      show Steps p.tables e below (T73.setTop (mkF m 100 #[.val (.int u1), .val (.int u2), .val (.int u3), .val (.long u4), .second, .val (.int u5), .val (.int vf), .val (.ref sa61), .val (.int (5 : Int32)), .val (.int fr), .val (.int vl), .val (.ref b67), .unset, .unset, .unset, .unset] [(.int (3 : Int32)), (.long u4), (.int (3 : Int32)), (.ref b67)])) _
      refine st74 _ ?_
      show Steps p.tables e below (T74.setTop (mkF m 103 #[.val (.int u1), .val (.int u2), .val (.int u3), .val (.long u4), .second, .val (.int u5), .val (.int vf), .val (.ref sa61), .val (.int (5 : Int32)), .val (.int fr), .val (.int vl), .val (.ref b67), .unset, .unset, .unset, .unset] [(.int at74), (.int (3 : Int32)), (.ref b67)])) _
      refine st75 _ ?_
      show Steps p.tables e below (T75.setTop (mkF m 104 #[.val (.int u1), .val (.int u2), .val (.int u3), .val (.long u4), .second, .val (.int u5), .val (.int vf), .val (.ref sa61), .val (.int (5 : Int32)), .val (.int fr), .val (.int vl), .val (.ref b67), .unset, .unset, .unset, .unset] [])) _
      refine XS.aload X75.here hx rfl (hb hby at_104) rfl rfl ?_
      show Steps p.tables e below (T75.setTop (mkF m 106 #[.val (.int u1), .val (.int u2), .val (.int u3), .val (.long u4), .second, .val (.int u5), .val (.int vf), .val (.ref sa61), .val (.int (5 : Int32)), .val (.int fr), .val (.int vl), .val (.ref b67), .unset, .unset, .unset, .unset] [(.ref b67)])) _
      refine XS.iconst X75.here hx rfl (hb hby at_106) ?_
      show Steps p.tables e below (T75.setTop (mkF m 107 #[.val (.int u1), .val (.int u2), .val (.int u3), .val (.long u4), .second, .val (.int u5), .val (.int vf), .val (.ref sa61), .val (.int (5 : Int32)), .val (.int fr), .val (.int vl), .val (.ref b67), .unset, .unset, .unset, .unset] [(.int (4 : Int32)), (.ref b67)])) _
      refine XS.lloadN X75.here hx rfl (hb hby at_107) rfl ?_
      show Steps p.tables e below (T75.setTop (mkF m 108 #[.val (.int u1), .val (.int u2), .val (.int u3), .val (.long u4), .second, .val (.int u5), .val (.int vf), .val (.ref sa61), .val (.int (5 : Int32)), .val (.int fr), .val (.int vl), .val (.ref b67), .unset, .unset, .unset, .unset] [(.long u4), (.int (4 : Int32)), (.ref b67)])) _
      refine XS.iconst X75.here hx rfl (hb hby at_108) ?_
      show Steps p.tables e below (T75.setTop (mkF m 109 #[.val (.int u1), .val (.int u2), .val (.int u3), .val (.long u4), .second, .val (.int u5), .val (.int vf), .val (.ref sa61), .val (.int (5 : Int32)), .val (.int fr), .val (.int vl), .val (.ref b67), .unset, .unset, .unset, .unset] [(.int (4 : Int32)), (.long u4), (.int (4 : Int32)), (.ref b67)])) _
      refine st76 _ ?_
      show Steps p.tables e below (T76.setTop (mkF m 112 #[.val (.int u1), .val (.int u2), .val (.int u3), .val (.long u4), .second, .val (.int u5), .val (.int vf), .val (.ref sa61), .val (.int (5 : Int32)), .val (.int fr), .val (.int vl), .val (.ref b67), .unset, .unset, .unset, .unset] [(.int at76), (.int (4 : Int32)), (.ref b67)])) _
      refine st77 _ ?_
      show Steps p.tables e below (T77.setTop (mkF m 113 #[.val (.int u1), .val (.int u2), .val (.int u3), .val (.long u4), .second, .val (.int u5), .val (.int vf), .val (.ref sa61), .val (.int (5 : Int32)), .val (.int fr), .val (.int vl), .val (.ref b67), .unset, .unset, .unset, .unset] [])) _
      refine XS.aload X77.here hx rfl (hb hby at_113) rfl rfl ?_
      show Steps p.tables e below (T77.setTop (mkF m 115 #[.val (.int u1), .val (.int u2), .val (.int u3), .val (.long u4), .second, .val (.int u5), .val (.int vf), .val (.ref sa61), .val (.int (5 : Int32)), .val (.int fr), .val (.int vl), .val (.ref b67), .unset, .unset, .unset, .unset] [(.ref b67)])) _
      refine XS.iconst X77.here hx rfl (hb hby at_115) ?_
      show Steps p.tables e below (T77.setTop (mkF m 116 #[.val (.int u1), .val (.int u2), .val (.int u3), .val (.long u4), .second, .val (.int u5), .val (.int vf), .val (.ref sa61), .val (.int (5 : Int32)), .val (.int fr), .val (.int vl), .val (.ref b67), .unset, .unset, .unset, .unset] [(.int (5 : Int32)), (.ref b67)])) _
      refine XS.lloadN X77.here hx rfl (hb hby at_116) rfl ?_
      show Steps p.tables e below (T77.setTop (mkF m 117 #[.val (.int u1), .val (.int u2), .val (.int u3), .val (.long u4), .second, .val (.int u5), .val (.int vf), .val (.ref sa61), .val (.int (5 : Int32)), .val (.int fr), .val (.int vl), .val (.ref b67), .unset, .unset, .unset, .unset] [(.long u4), (.int (5 : Int32)), (.ref b67)])) _
      refine XS.iconst X77.here hx rfl (hb hby at_117) ?_
      show Steps p.tables e below (T77.setTop (mkF m 118 #[.val (.int u1), .val (.int u2), .val (.int u3), .val (.long u4), .second, .val (.int u5), .val (.int vf), .val (.ref sa61), .val (.int (5 : Int32)), .val (.int fr), .val (.int vl), .val (.ref b67), .unset, .unset, .unset, .unset] [(.int (5 : Int32)), (.long u4), (.int (5 : Int32)), (.ref b67)])) _
      refine st78 _ ?_
      show Steps p.tables e below (T78.setTop (mkF m 121 #[.val (.int u1), .val (.int u2), .val (.int u3), .val (.long u4), .second, .val (.int u5), .val (.int vf), .val (.ref sa61), .val (.int (5 : Int32)), .val (.int fr), .val (.int vl), .val (.ref b67), .unset, .unset, .unset, .unset] [(.int at78), (.int (5 : Int32)), (.ref b67)])) _
      refine st79 _ ?_
      show Steps p.tables e below (T79.setTop (mkF m 122 #[.val (.int u1), .val (.int u2), .val (.int u3), .val (.long u4), .second, .val (.int u5), .val (.int vf), .val (.ref sa61), .val (.int (5 : Int32)), .val (.int fr), .val (.int vl), .val (.ref b67), .unset, .unset, .unset, .unset] [])) _
      refine XS.aload X79.here hx rfl (hb hby at_122) rfl rfl ?_
      show Steps p.tables e below (T79.setTop (mkF m 124 #[.val (.int u1), .val (.int u2), .val (.int u3), .val (.long u4), .second, .val (.int u5), .val (.int vf), .val (.ref sa61), .val (.int (5 : Int32)), .val (.int fr), .val (.int vl), .val (.ref b67), .unset, .unset, .unset, .unset] [(.ref b67)])) _
      refine XS.bipush X79.here hx rfl (hb hby at_124) ?_
      show Steps p.tables e below (T79.setTop (mkF m 126 #[.val (.int u1), .val (.int u2), .val (.int u3), .val (.long u4), .second, .val (.int u5), .val (.int vf), .val (.ref sa61), .val (.int (5 : Int32)), .val (.int fr), .val (.int vl), .val (.ref b67), .unset, .unset, .unset, .unset] [(.int (6 : Int32)), (.ref b67)])) _
      refine XS.lloadN X79.here hx rfl (hb hby at_126) rfl ?_
      show Steps p.tables e below (T79.setTop (mkF m 127 #[.val (.int u1), .val (.int u2), .val (.int u3), .val (.long u4), .second, .val (.int u5), .val (.int vf), .val (.ref sa61), .val (.int (5 : Int32)), .val (.int fr), .val (.int vl), .val (.ref b67), .unset, .unset, .unset, .unset] [(.long u4), (.int (6 : Int32)), (.ref b67)])) _
      refine XS.bipush X79.here hx rfl (hb hby at_127) ?_
      show Steps p.tables e below (T79.setTop (mkF m 129 #[.val (.int u1), .val (.int u2), .val (.int u3), .val (.long u4), .second, .val (.int u5), .val (.int vf), .val (.ref sa61), .val (.int (5 : Int32)), .val (.int fr), .val (.int vl), .val (.ref b67), .unset, .unset, .unset, .unset] [(.int (6 : Int32)), (.long u4), (.int (6 : Int32)), (.ref b67)])) _
      refine st80 _ ?_
      show Steps p.tables e below (T80.setTop (mkF m 132 #[.val (.int u1), .val (.int u2), .val (.int u3), .val (.long u4), .second, .val (.int u5), .val (.int vf), .val (.ref sa61), .val (.int (5 : Int32)), .val (.int fr), .val (.int vl), .val (.ref b67), .unset, .unset, .unset, .unset] [(.int at80), (.int (6 : Int32)), (.ref b67)])) _
      refine st81 _ ?_
      show Steps p.tables e below (T81.setTop (mkF m 133 #[.val (.int u1), .val (.int u2), .val (.int u3), .val (.long u4), .second, .val (.int u5), .val (.int vf), .val (.ref sa61), .val (.int (5 : Int32)), .val (.int fr), .val (.int vl), .val (.ref b67), .unset, .unset, .unset, .unset] [])) _
      refine XS.aload X81.here hx rfl (hb hby at_133) rfl rfl ?_
      show Steps p.tables e below (T81.setTop (mkF m 135 #[.val (.int u1), .val (.int u2), .val (.int u3), .val (.long u4), .second, .val (.int u5), .val (.int vf), .val (.ref sa61), .val (.int (5 : Int32)), .val (.int fr), .val (.int vl), .val (.ref b67), .unset, .unset, .unset, .unset] [(.ref b67)])) _
      refine XS.bipush X81.here hx rfl (hb hby at_135) ?_
      show Steps p.tables e below (T81.setTop (mkF m 137 #[.val (.int u1), .val (.int u2), .val (.int u3), .val (.long u4), .second, .val (.int u5), .val (.int vf), .val (.ref sa61), .val (.int (5 : Int32)), .val (.int fr), .val (.int vl), .val (.ref b67), .unset, .unset, .unset, .unset] [(.int (7 : Int32)), (.ref b67)])) _
      refine XS.lloadN X81.here hx rfl (hb hby at_137) rfl ?_
      show Steps p.tables e below (T81.setTop (mkF m 138 #[.val (.int u1), .val (.int u2), .val (.int u3), .val (.long u4), .second, .val (.int u5), .val (.int vf), .val (.ref sa61), .val (.int (5 : Int32)), .val (.int fr), .val (.int vl), .val (.ref b67), .unset, .unset, .unset, .unset] [(.long u4), (.int (7 : Int32)), (.ref b67)])) _
      refine XS.bipush X81.here hx rfl (hb hby at_138) ?_
      show Steps p.tables e below (T81.setTop (mkF m 140 #[.val (.int u1), .val (.int u2), .val (.int u3), .val (.long u4), .second, .val (.int u5), .val (.int vf), .val (.ref sa61), .val (.int (5 : Int32)), .val (.int fr), .val (.int vl), .val (.ref b67), .unset, .unset, .unset, .unset] [(.int (7 : Int32)), (.long u4), (.int (7 : Int32)), (.ref b67)])) _
      refine st82 _ ?_
      show Steps p.tables e below (T82.setTop (mkF m 143 #[.val (.int u1), .val (.int u2), .val (.int u3), .val (.long u4), .second, .val (.int u5), .val (.int vf), .val (.ref sa61), .val (.int (5 : Int32)), .val (.int fr), .val (.int vl), .val (.ref b67), .unset, .unset, .unset, .unset] [(.int at82), (.int (7 : Int32)), (.ref b67)])) _
      refine st83 _ ?_
      show Steps p.tables e below (T83.setTop (mkF m 144 #[.val (.int u1), .val (.int u2), .val (.int u3), .val (.long u4), .second, .val (.int u5), .val (.int vf), .val (.ref sa61), .val (.int (5 : Int32)), .val (.int fr), .val (.int vl), .val (.ref b67), .unset, .unset, .unset, .unset] [])) _
      refine XS.aload X83.here hx rfl (hb hby at_144) rfl rfl ?_
      show Steps p.tables e below (T83.setTop (mkF m 146 #[.val (.int u1), .val (.int u2), .val (.int u3), .val (.long u4), .second, .val (.int u5), .val (.int vf), .val (.ref sa61), .val (.int (5 : Int32)), .val (.int fr), .val (.int vl), .val (.ref b67), .unset, .unset, .unset, .unset] [(.ref b67)])) _
      refine XS.bipush X83.here hx rfl (hb hby at_146) ?_
      show Steps p.tables e below (T83.setTop (mkF m 148 #[.val (.int u1), .val (.int u2), .val (.int u3), .val (.long u4), .second, .val (.int u5), .val (.int vf), .val (.ref sa61), .val (.int (5 : Int32)), .val (.int fr), .val (.int vl), .val (.ref b67), .unset, .unset, .unset, .unset] [(.int (8 : Int32)), (.ref b67)])) _
      refine XS.iload X83.here hx rfl (hb hby at_148) rfl ?_
      show Steps p.tables e below (T83.setTop (mkF m 150 #[.val (.int u1), .val (.int u2), .val (.int u3), .val (.long u4), .second, .val (.int u5), .val (.int vf), .val (.ref sa61), .val (.int (5 : Int32)), .val (.int fr), .val (.int vl), .val (.ref b67), .unset, .unset, .unset, .unset] [(.int u5), (.int (8 : Int32)), (.ref b67)])) _
      refine XS.i2l X83.here hx rfl (hb hby at_150) rfl ?_
      show Steps p.tables e below (T83.setTop (mkF m 151 #[.val (.int u1), .val (.int u2), .val (.int u3), .val (.long u4), .second, .val (.int u5), .val (.int vf), .val (.ref sa61), .val (.int (5 : Int32)), .val (.int fr), .val (.int vl), .val (.ref b67), .unset, .unset, .unset, .unset] [(.long (u5.toInt64)), (.int (8 : Int32)), (.ref b67)])) _
      refine XS.iconst X83.here hx rfl (hb hby at_151) ?_
      show Steps p.tables e below (T83.setTop (mkF m 152 #[.val (.int u1), .val (.int u2), .val (.int u3), .val (.long u4), .second, .val (.int u5), .val (.int vf), .val (.ref sa61), .val (.int (5 : Int32)), .val (.int fr), .val (.int vl), .val (.ref b67), .unset, .unset, .unset, .unset] [(.int (0 : Int32)), (.long (u5.toInt64)), (.int (8 : Int32)), (.ref b67)])) _
      refine st84 _ ?_
      show Steps p.tables e below (T84.setTop (mkF m 155 #[.val (.int u1), .val (.int u2), .val (.int u3), .val (.long u4), .second, .val (.int u5), .val (.int vf), .val (.ref sa61), .val (.int (5 : Int32)), .val (.int fr), .val (.int vl), .val (.ref b67), .unset, .unset, .unset, .unset] [(.int at84), (.int (8 : Int32)), (.ref b67)])) _
      refine st85 _ ?_
      show Steps p.tables e below (T85.setTop (mkF m 156 #[.val (.int u1), .val (.int u2), .val (.int u3), .val (.long u4), .second, .val (.int u5), .val (.int vf), .val (.ref sa61), .val (.int (5 : Int32)), .val (.int fr), .val (.int vl), .val (.ref b67), .unset, .unset, .unset, .unset] [])) _
      refine XS.aload X85.here hx rfl (hb hby at_156) rfl rfl ?_
      show Steps p.tables e below (T85.setTop (mkF m 158 #[.val (.int u1), .val (.int u2), .val (.int u3), .val (.long u4), .second, .val (.int u5), .val (.int vf), .val (.ref sa61), .val (.int (5 : Int32)), .val (.int fr), .val (.int vl), .val (.ref b67), .unset, .unset, .unset, .unset] [(.ref b67)])) _
      refine XS.bipush X85.here hx rfl (hb hby at_158) ?_
      show Steps p.tables e below (T85.setTop (mkF m 160 #[.val (.int u1), .val (.int u2), .val (.int u3), .val (.long u4), .second, .val (.int u5), .val (.int vf), .val (.ref sa61), .val (.int (5 : Int32)), .val (.int fr), .val (.int vl), .val (.ref b67), .unset, .unset, .unset, .unset] [(.int (9 : Int32)), (.ref b67)])) _
      refine XS.iload X85.here hx rfl (hb hby at_160) rfl ?_
      show Steps p.tables e below (T85.setTop (mkF m 162 #[.val (.int u1), .val (.int u2), .val (.int u3), .val (.long u4), .second, .val (.int u5), .val (.int vf), .val (.ref sa61), .val (.int (5 : Int32)), .val (.int fr), .val (.int vl), .val (.ref b67), .unset, .unset, .unset, .unset] [(.int u5), (.int (9 : Int32)), (.ref b67)])) _
      refine XS.i2l X85.here hx rfl (hb hby at_162) rfl ?_
      show Steps p.tables e below (T85.setTop (mkF m 163 #[.val (.int u1), .val (.int u2), .val (.int u3), .val (.long u4), .second, .val (.int u5), .val (.int vf), .val (.ref sa61), .val (.int (5 : Int32)), .val (.int fr), .val (.int vl), .val (.ref b67), .unset, .unset, .unset, .unset] [(.long (u5.toInt64)), (.int (9 : Int32)), (.ref b67)])) _
      refine XS.iconst X85.here hx rfl (hb hby at_163) ?_
      show Steps p.tables e below (T85.setTop (mkF m 164 #[.val (.int u1), .val (.int u2), .val (.int u3), .val (.long u4), .second, .val (.int u5), .val (.int vf), .val (.ref sa61), .val (.int (5 : Int32)), .val (.int fr), .val (.int vl), .val (.ref b67), .unset, .unset, .unset, .unset] [(.int (1 : Int32)), (.long (u5.toInt64)), (.int (9 : Int32)), (.ref b67)])) _
      refine st86 _ ?_
      show Steps p.tables e below (T86.setTop (mkF m 167 #[.val (.int u1), .val (.int u2), .val (.int u3), .val (.long u4), .second, .val (.int u5), .val (.int vf), .val (.ref sa61), .val (.int (5 : Int32)), .val (.int fr), .val (.int vl), .val (.ref b67), .unset, .unset, .unset, .unset] [(.int at86), (.int (9 : Int32)), (.ref b67)])) _
      refine st87 _ ?_
      show Steps p.tables e below (T87.setTop (mkF m 168 #[.val (.int u1), .val (.int u2), .val (.int u3), .val (.long u4), .second, .val (.int u5), .val (.int vf), .val (.ref sa61), .val (.int (5 : Int32)), .val (.int fr), .val (.int vl), .val (.ref b67), .unset, .unset, .unset, .unset] [])) _
      refine XS.aload X87.here hx rfl (hb hby at_168) rfl rfl ?_
      show Steps p.tables e below (T87.setTop (mkF m 170 #[.val (.int u1), .val (.int u2), .val (.int u3), .val (.long u4), .second, .val (.int u5), .val (.int vf), .val (.ref sa61), .val (.int (5 : Int32)), .val (.int fr), .val (.int vl), .val (.ref b67), .unset, .unset, .unset, .unset] [(.ref b67)])) _
      refine XS.bipush X87.here hx rfl (hb hby at_170) ?_
      show Steps p.tables e below (T87.setTop (mkF m 172 #[.val (.int u1), .val (.int u2), .val (.int u3), .val (.long u4), .second, .val (.int u5), .val (.int vf), .val (.ref sa61), .val (.int (5 : Int32)), .val (.int fr), .val (.int vl), .val (.ref b67), .unset, .unset, .unset, .unset] [(.int (10 : Int32)), (.ref b67)])) _
      refine XS.iload X87.here hx rfl (hb hby at_172) rfl ?_
      show Steps p.tables e below (T87.setTop (mkF m 174 #[.val (.int u1), .val (.int u2), .val (.int u3), .val (.long u4), .second, .val (.int u5), .val (.int vf), .val (.ref sa61), .val (.int (5 : Int32)), .val (.int fr), .val (.int vl), .val (.ref b67), .unset, .unset, .unset, .unset] [(.int u5), (.int (10 : Int32)), (.ref b67)])) _
      refine XS.i2l X87.here hx rfl (hb hby at_174) rfl ?_
      show Steps p.tables e below (T87.setTop (mkF m 175 #[.val (.int u1), .val (.int u2), .val (.int u3), .val (.long u4), .second, .val (.int u5), .val (.int vf), .val (.ref sa61), .val (.int (5 : Int32)), .val (.int fr), .val (.int vl), .val (.ref b67), .unset, .unset, .unset, .unset] [(.long (u5.toInt64)), (.int (10 : Int32)), (.ref b67)])) _
      refine XS.iconst X87.here hx rfl (hb hby at_175) ?_
      show Steps p.tables e below (T87.setTop (mkF m 176 #[.val (.int u1), .val (.int u2), .val (.int u3), .val (.long u4), .second, .val (.int u5), .val (.int vf), .val (.ref sa61), .val (.int (5 : Int32)), .val (.int fr), .val (.int vl), .val (.ref b67), .unset, .unset, .unset, .unset] [(.int (2 : Int32)), (.long (u5.toInt64)), (.int (10 : Int32)), (.ref b67)])) _
      refine st88 _ ?_
      show Steps p.tables e below (T88.setTop (mkF m 179 #[.val (.int u1), .val (.int u2), .val (.int u3), .val (.long u4), .second, .val (.int u5), .val (.int vf), .val (.ref sa61), .val (.int (5 : Int32)), .val (.int fr), .val (.int vl), .val (.ref b67), .unset, .unset, .unset, .unset] [(.int at88), (.int (10 : Int32)), (.ref b67)])) _
      refine st89 _ ?_
      show Steps p.tables e below (T89.setTop (mkF m 180 #[.val (.int u1), .val (.int u2), .val (.int u3), .val (.long u4), .second, .val (.int u5), .val (.int vf), .val (.ref sa61), .val (.int (5 : Int32)), .val (.int fr), .val (.int vl), .val (.ref b67), .unset, .unset, .unset, .unset] [])) _
      refine XS.aload X89.here hx rfl (hb hby at_180) rfl rfl ?_
      show Steps p.tables e below (T89.setTop (mkF m 182 #[.val (.int u1), .val (.int u2), .val (.int u3), .val (.long u4), .second, .val (.int u5), .val (.int vf), .val (.ref sa61), .val (.int (5 : Int32)), .val (.int fr), .val (.int vl), .val (.ref b67), .unset, .unset, .unset, .unset] [(.ref b67)])) _
      refine XS.bipush X89.here hx rfl (hb hby at_182) ?_
      show Steps p.tables e below (T89.setTop (mkF m 184 #[.val (.int u1), .val (.int u2), .val (.int u3), .val (.long u4), .second, .val (.int u5), .val (.int vf), .val (.ref sa61), .val (.int (5 : Int32)), .val (.int fr), .val (.int vl), .val (.ref b67), .unset, .unset, .unset, .unset] [(.int (11 : Int32)), (.ref b67)])) _
      refine XS.iload X89.here hx rfl (hb hby at_184) rfl ?_
      show Steps p.tables e below (T89.setTop (mkF m 186 #[.val (.int u1), .val (.int u2), .val (.int u3), .val (.long u4), .second, .val (.int u5), .val (.int vf), .val (.ref sa61), .val (.int (5 : Int32)), .val (.int fr), .val (.int vl), .val (.ref b67), .unset, .unset, .unset, .unset] [(.int u5), (.int (11 : Int32)), (.ref b67)])) _
      refine XS.i2l X89.here hx rfl (hb hby at_186) rfl ?_
      show Steps p.tables e below (T89.setTop (mkF m 187 #[.val (.int u1), .val (.int u2), .val (.int u3), .val (.long u4), .second, .val (.int u5), .val (.int vf), .val (.ref sa61), .val (.int (5 : Int32)), .val (.int fr), .val (.int vl), .val (.ref b67), .unset, .unset, .unset, .unset] [(.long (u5.toInt64)), (.int (11 : Int32)), (.ref b67)])) _
      refine XS.iconst X89.here hx rfl (hb hby at_187) ?_
      show Steps p.tables e below (T89.setTop (mkF m 188 #[.val (.int u1), .val (.int u2), .val (.int u3), .val (.long u4), .second, .val (.int u5), .val (.int vf), .val (.ref sa61), .val (.int (5 : Int32)), .val (.int fr), .val (.int vl), .val (.ref b67), .unset, .unset, .unset, .unset] [(.int (3 : Int32)), (.long (u5.toInt64)), (.int (11 : Int32)), (.ref b67)])) _
      refine st90 _ ?_
      show Steps p.tables e below (T90.setTop (mkF m 191 #[.val (.int u1), .val (.int u2), .val (.int u3), .val (.long u4), .second, .val (.int u5), .val (.int vf), .val (.ref sa61), .val (.int (5 : Int32)), .val (.int fr), .val (.int vl), .val (.ref b67), .unset, .unset, .unset, .unset] [(.int at90), (.int (11 : Int32)), (.ref b67)])) _
      refine st91 _ ?_
      show Steps p.tables e below (T91.setTop (mkF m 192 #[.val (.int u1), .val (.int u2), .val (.int u3), .val (.long u4), .second, .val (.int u5), .val (.int vf), .val (.ref sa61), .val (.int (5 : Int32)), .val (.int fr), .val (.int vl), .val (.ref b67), .unset, .unset, .unset, .unset] [])) _
      refine XS.aload X91.here hx rfl (hb hby at_192) rfl rfl ?_
      show Steps p.tables e below (T91.setTop (mkF m 194 #[.val (.int u1), .val (.int u2), .val (.int u3), .val (.long u4), .second, .val (.int u5), .val (.int vf), .val (.ref sa61), .val (.int (5 : Int32)), .val (.int fr), .val (.int vl), .val (.ref b67), .unset, .unset, .unset, .unset] [(.ref b67)])) _
      refine XS.iload X91.here hx rfl (hb hby at_194) rfl ?_
      show Steps p.tables e below (T91.setTop (mkF m 196 #[.val (.int u1), .val (.int u2), .val (.int u3), .val (.long u4), .second, .val (.int u5), .val (.int vf), .val (.ref sa61), .val (.int (5 : Int32)), .val (.int fr), .val (.int vl), .val (.ref b67), .unset, .unset, .unset, .unset] [(.int fr), (.ref b67)])) _
      refine XS.aload X91.here hx rfl (hb hby at_196) rfl rfl ?_
      show Steps p.tables e below (T91.setTop (mkF m 198 #[.val (.int u1), .val (.int u2), .val (.int u3), .val (.long u4), .second, .val (.int u5), .val (.int vf), .val (.ref sa61), .val (.int (5 : Int32)), .val (.int fr), .val (.int vl), .val (.ref b67), .unset, .unset, .unset, .unset] [(.ref sa61), (.int fr), (.ref b67)])) _
      refine XS.iconst X91.here hx rfl (hb hby at_198) ?_
      show Steps p.tables e below (T91.setTop (mkF m 199 #[.val (.int u1), .val (.int u2), .val (.int u3), .val (.long u4), .second, .val (.int u5), .val (.int vf), .val (.ref sa61), .val (.int (5 : Int32)), .val (.int fr), .val (.int vl), .val (.ref b67), .unset, .unset, .unset, .unset] [(.int (0 : Int32)), (.ref sa61), (.int fr), (.ref b67)])) _
      refine st92.trans ?_
      show Steps p.tables e below (T92.setTop (mkF m 202 #[.val (.int u1), .val (.int u2), .val (.int u3), .val (.long u4), .second, .val (.int u5), .val (.int vf), .val (.ref sa61), .val (.int (5 : Int32)), .val (.int fr), .val (.int vl), .val (.ref b67), .unset, .unset, .unset, .unset] [(.int (102 : Int32)), (.int fr), (.ref b67)])) _
      refine XS.i2b X92.here hx rfl (hb hby at_202) rfl ?_
      show Steps p.tables e below (T92.setTop (mkF m 203 #[.val (.int u1), .val (.int u2), .val (.int u3), .val (.long u4), .second, .val (.int u5), .val (.int vf), .val (.ref sa61), .val (.int (5 : Int32)), .val (.int fr), .val (.int vl), .val (.ref b67), .unset, .unset, .unset, .unset] [(.int ((102 : Int32).toInt8.toInt32)), (.int fr), (.ref b67)])) _
      refine st93 _ ?_
      show Steps p.tables e below (T93.setTop (mkF m 204 #[.val (.int u1), .val (.int u2), .val (.int u3), .val (.long u4), .second, .val (.int u5), .val (.int vf), .val (.ref sa61), .val (.int (5 : Int32)), .val (.int fr), .val (.int vl), .val (.ref b67), .unset, .unset, .unset, .unset] [])) _
      refine XS.aload X93.here hx rfl (hb hby at_204) rfl rfl ?_
      show Steps p.tables e below (T93.setTop (mkF m 206 #[.val (.int u1), .val (.int u2), .val (.int u3), .val (.long u4), .second, .val (.int u5), .val (.int vf), .val (.ref sa61), .val (.int (5 : Int32)), .val (.int fr), .val (.int vl), .val (.ref b67), .unset, .unset, .unset, .unset] [(.ref b67)])) _
      refine XS.iload X93.here hx rfl (hb hby at_206) rfl ?_
      show Steps p.tables e below (T93.setTop (mkF m 208 #[.val (.int u1), .val (.int u2), .val (.int u3), .val (.long u4), .second, .val (.int u5), .val (.int vf), .val (.ref sa61), .val (.int (5 : Int32)), .val (.int fr), .val (.int vl), .val (.ref b67), .unset, .unset, .unset, .unset] [(.int fr), (.ref b67)])) _
      refine XS.iconst X93.here hx rfl (hb hby at_208) ?_
      show Steps p.tables e below (T93.setTop (mkF m 209 #[.val (.int u1), .val (.int u2), .val (.int u3), .val (.long u4), .second, .val (.int u5), .val (.int vf), .val (.ref sa61), .val (.int (5 : Int32)), .val (.int fr), .val (.int vl), .val (.ref b67), .unset, .unset, .unset, .unset] [(.int (1 : Int32)), (.int fr), (.ref b67)])) _
      refine XS.iadd X93.here hx rfl (hb hby at_209) rfl ?_
      show Steps p.tables e below (T93.setTop (mkF m 210 #[.val (.int u1), .val (.int u2), .val (.int u3), .val (.long u4), .second, .val (.int u5), .val (.int vf), .val (.ref sa61), .val (.int (5 : Int32)), .val (.int fr), .val (.int vl), .val (.ref b67), .unset, .unset, .unset, .unset] [(.int (fr + (1 : Int32))), (.ref b67)])) _
      refine XS.aload X93.here hx rfl (hb hby at_210) rfl rfl ?_
      show Steps p.tables e below (T93.setTop (mkF m 212 #[.val (.int u1), .val (.int u2), .val (.int u3), .val (.long u4), .second, .val (.int u5), .val (.int vf), .val (.ref sa61), .val (.int (5 : Int32)), .val (.int fr), .val (.int vl), .val (.ref b67), .unset, .unset, .unset, .unset] [(.ref sa61), (.int (fr + (1 : Int32))), (.ref b67)])) _
      refine XS.iconst X93.here hx rfl (hb hby at_212) ?_
      show Steps p.tables e below (T93.setTop (mkF m 213 #[.val (.int u1), .val (.int u2), .val (.int u3), .val (.long u4), .second, .val (.int u5), .val (.int vf), .val (.ref sa61), .val (.int (5 : Int32)), .val (.int fr), .val (.int vl), .val (.ref b67), .unset, .unset, .unset, .unset] [(.int (1 : Int32)), (.ref sa61), (.int (fr + (1 : Int32))), (.ref b67)])) _
      refine st94.trans ?_
      show Steps p.tables e below (T94.setTop (mkF m 216 #[.val (.int u1), .val (.int u2), .val (.int u3), .val (.long u4), .second, .val (.int u5), .val (.int vf), .val (.ref sa61), .val (.int (5 : Int32)), .val (.int fr), .val (.int vl), .val (.ref b67), .unset, .unset, .unset, .unset] [(.int (97 : Int32)), (.int (fr + (1 : Int32))), (.ref b67)])) _
      refine XS.i2b X94.here hx rfl (hb hby at_216) rfl ?_
      show Steps p.tables e below (T94.setTop (mkF m 217 #[.val (.int u1), .val (.int u2), .val (.int u3), .val (.long u4), .second, .val (.int u5), .val (.int vf), .val (.ref sa61), .val (.int (5 : Int32)), .val (.int fr), .val (.int vl), .val (.ref b67), .unset, .unset, .unset, .unset] [(.int ((97 : Int32).toInt8.toInt32)), (.int (fr + (1 : Int32))), (.ref b67)])) _
      refine st95 _ ?_
      show Steps p.tables e below (T95.setTop (mkF m 218 #[.val (.int u1), .val (.int u2), .val (.int u3), .val (.long u4), .second, .val (.int u5), .val (.int vf), .val (.ref sa61), .val (.int (5 : Int32)), .val (.int fr), .val (.int vl), .val (.ref b67), .unset, .unset, .unset, .unset] [])) _
      refine XS.aload X95.here hx rfl (hb hby at_218) rfl rfl ?_
      show Steps p.tables e below (T95.setTop (mkF m 220 #[.val (.int u1), .val (.int u2), .val (.int u3), .val (.long u4), .second, .val (.int u5), .val (.int vf), .val (.ref sa61), .val (.int (5 : Int32)), .val (.int fr), .val (.int vl), .val (.ref b67), .unset, .unset, .unset, .unset] [(.ref b67)])) _
      refine XS.iload X95.here hx rfl (hb hby at_220) rfl ?_
      show Steps p.tables e below (T95.setTop (mkF m 222 #[.val (.int u1), .val (.int u2), .val (.int u3), .val (.long u4), .second, .val (.int u5), .val (.int vf), .val (.ref sa61), .val (.int (5 : Int32)), .val (.int fr), .val (.int vl), .val (.ref b67), .unset, .unset, .unset, .unset] [(.int fr), (.ref b67)])) _
      refine XS.iconst X95.here hx rfl (hb hby at_222) ?_
      show Steps p.tables e below (T95.setTop (mkF m 223 #[.val (.int u1), .val (.int u2), .val (.int u3), .val (.long u4), .second, .val (.int u5), .val (.int vf), .val (.ref sa61), .val (.int (5 : Int32)), .val (.int fr), .val (.int vl), .val (.ref b67), .unset, .unset, .unset, .unset] [(.int (2 : Int32)), (.int fr), (.ref b67)])) _
      refine XS.iadd X95.here hx rfl (hb hby at_223) rfl ?_
      show Steps p.tables e below (T95.setTop (mkF m 224 #[.val (.int u1), .val (.int u2), .val (.int u3), .val (.long u4), .second, .val (.int u5), .val (.int vf), .val (.ref sa61), .val (.int (5 : Int32)), .val (.int fr), .val (.int vl), .val (.ref b67), .unset, .unset, .unset, .unset] [(.int (fr + (2 : Int32))), (.ref b67)])) _
      refine XS.aload X95.here hx rfl (hb hby at_224) rfl rfl ?_
      show Steps p.tables e below (T95.setTop (mkF m 226 #[.val (.int u1), .val (.int u2), .val (.int u3), .val (.long u4), .second, .val (.int u5), .val (.int vf), .val (.ref sa61), .val (.int (5 : Int32)), .val (.int fr), .val (.int vl), .val (.ref b67), .unset, .unset, .unset, .unset] [(.ref sa61), (.int (fr + (2 : Int32))), (.ref b67)])) _
      refine XS.iconst X95.here hx rfl (hb hby at_226) ?_
      show Steps p.tables e below (T95.setTop (mkF m 227 #[.val (.int u1), .val (.int u2), .val (.int u3), .val (.long u4), .second, .val (.int u5), .val (.int vf), .val (.ref sa61), .val (.int (5 : Int32)), .val (.int fr), .val (.int vl), .val (.ref b67), .unset, .unset, .unset, .unset] [(.int (2 : Int32)), (.ref sa61), (.int (fr + (2 : Int32))), (.ref b67)])) _
      refine st96.trans ?_
      show Steps p.tables e below (T96.setTop (mkF m 230 #[.val (.int u1), .val (.int u2), .val (.int u3), .val (.long u4), .second, .val (.int u5), .val (.int vf), .val (.ref sa61), .val (.int (5 : Int32)), .val (.int fr), .val (.int vl), .val (.ref b67), .unset, .unset, .unset, .unset] [(.int (108 : Int32)), (.int (fr + (2 : Int32))), (.ref b67)])) _
      refine XS.i2b X96.here hx rfl (hb hby at_230) rfl ?_
      show Steps p.tables e below (T96.setTop (mkF m 231 #[.val (.int u1), .val (.int u2), .val (.int u3), .val (.long u4), .second, .val (.int u5), .val (.int vf), .val (.ref sa61), .val (.int (5 : Int32)), .val (.int fr), .val (.int vl), .val (.ref b67), .unset, .unset, .unset, .unset] [(.int ((108 : Int32).toInt8.toInt32)), (.int (fr + (2 : Int32))), (.ref b67)])) _
      refine st97 _ ?_
      show Steps p.tables e below (T97.setTop (mkF m 232 #[.val (.int u1), .val (.int u2), .val (.int u3), .val (.long u4), .second, .val (.int u5), .val (.int vf), .val (.ref sa61), .val (.int (5 : Int32)), .val (.int fr), .val (.int vl), .val (.ref b67), .unset, .unset, .unset, .unset] [])) _
      refine XS.aload X97.here hx rfl (hb hby at_232) rfl rfl ?_
      show Steps p.tables e below (T97.setTop (mkF m 234 #[.val (.int u1), .val (.int u2), .val (.int u3), .val (.long u4), .second, .val (.int u5), .val (.int vf), .val (.ref sa61), .val (.int (5 : Int32)), .val (.int fr), .val (.int vl), .val (.ref b67), .unset, .unset, .unset, .unset] [(.ref b67)])) _
      refine XS.iload X97.here hx rfl (hb hby at_234) rfl ?_
      show Steps p.tables e below (T97.setTop (mkF m 236 #[.val (.int u1), .val (.int u2), .val (.int u3), .val (.long u4), .second, .val (.int u5), .val (.int vf), .val (.ref sa61), .val (.int (5 : Int32)), .val (.int fr), .val (.int vl), .val (.ref b67), .unset, .unset, .unset, .unset] [(.int fr), (.ref b67)])) _
      refine XS.iconst X97.here hx rfl (hb hby at_236) ?_
      show Steps p.tables e below (T97.setTop (mkF m 237 #[.val (.int u1), .val (.int u2), .val (.int u3), .val (.long u4), .second, .val (.int u5), .val (.int vf), .val (.ref sa61), .val (.int (5 : Int32)), .val (.int fr), .val (.int vl), .val (.ref b67), .unset, .unset, .unset, .unset] [(.int (3 : Int32)), (.int fr), (.ref b67)])) _
      refine XS.iadd X97.here hx rfl (hb hby at_237) rfl ?_
      show Steps p.tables e below (T97.setTop (mkF m 238 #[.val (.int u1), .val (.int u2), .val (.int u3), .val (.long u4), .second, .val (.int u5), .val (.int vf), .val (.ref sa61), .val (.int (5 : Int32)), .val (.int fr), .val (.int vl), .val (.ref b67), .unset, .unset, .unset, .unset] [(.int (fr + (3 : Int32))), (.ref b67)])) _
      refine XS.aload X97.here hx rfl (hb hby at_238) rfl rfl ?_
      show Steps p.tables e below (T97.setTop (mkF m 240 #[.val (.int u1), .val (.int u2), .val (.int u3), .val (.long u4), .second, .val (.int u5), .val (.int vf), .val (.ref sa61), .val (.int (5 : Int32)), .val (.int fr), .val (.int vl), .val (.ref b67), .unset, .unset, .unset, .unset] [(.ref sa61), (.int (fr + (3 : Int32))), (.ref b67)])) _
      refine XS.iconst X97.here hx rfl (hb hby at_240) ?_
      show Steps p.tables e below (T97.setTop (mkF m 241 #[.val (.int u1), .val (.int u2), .val (.int u3), .val (.long u4), .second, .val (.int u5), .val (.int vf), .val (.ref sa61), .val (.int (5 : Int32)), .val (.int fr), .val (.int vl), .val (.ref b67), .unset, .unset, .unset, .unset] [(.int (3 : Int32)), (.ref sa61), (.int (fr + (3 : Int32))), (.ref b67)])) _
      refine st98.trans ?_
      show Steps p.tables e below (T98.setTop (mkF m 244 #[.val (.int u1), .val (.int u2), .val (.int u3), .val (.long u4), .second, .val (.int u5), .val (.int vf), .val (.ref sa61), .val (.int (5 : Int32)), .val (.int fr), .val (.int vl), .val (.ref b67), .unset, .unset, .unset, .unset] [(.int (115 : Int32)), (.int (fr + (3 : Int32))), (.ref b67)])) _
      refine XS.i2b X98.here hx rfl (hb hby at_244) rfl ?_
      show Steps p.tables e below (T98.setTop (mkF m 245 #[.val (.int u1), .val (.int u2), .val (.int u3), .val (.long u4), .second, .val (.int u5), .val (.int vf), .val (.ref sa61), .val (.int (5 : Int32)), .val (.int fr), .val (.int vl), .val (.ref b67), .unset, .unset, .unset, .unset] [(.int ((115 : Int32).toInt8.toInt32)), (.int (fr + (3 : Int32))), (.ref b67)])) _
      refine st99 _ ?_
      show Steps p.tables e below (T99.setTop (mkF m 246 #[.val (.int u1), .val (.int u2), .val (.int u3), .val (.long u4), .second, .val (.int u5), .val (.int vf), .val (.ref sa61), .val (.int (5 : Int32)), .val (.int fr), .val (.int vl), .val (.ref b67), .unset, .unset, .unset, .unset] [])) _
      refine XS.iload X99.here hx rfl (hb hby at_246) rfl ?_
      show Steps p.tables e below (T99.setTop (mkF m 248 #[.val (.int u1), .val (.int u2), .val (.int u3), .val (.long u4), .second, .val (.int u5), .val (.int vf), .val (.ref sa61), .val (.int (5 : Int32)), .val (.int fr), .val (.int vl), .val (.ref b67), .unset, .unset, .unset, .unset] [(.int (5 : Int32))])) _
      refine XS.iconst X99.here hx rfl (hb hby at_248) ?_
      show Steps p.tables e below (T99.setTop (mkF m 249 #[.val (.int u1), .val (.int u2), .val (.int u3), .val (.long u4), .second, .val (.int u5), .val (.int vf), .val (.ref sa61), .val (.int (5 : Int32)), .val (.int fr), .val (.int vl), .val (.ref b67), .unset, .unset, .unset, .unset] [(.int (5 : Int32)), (.int (5 : Int32))])) _
      refine XS.icmpNo X99.here hx rfl (hb hby at_249) rfl (by decide) ?_
      show Steps p.tables e below (T99.setTop (mkF m 252 #[.val (.int u1), .val (.int u2), .val (.int u3), .val (.long u4), .second, .val (.int u5), .val (.int vf), .val (.ref sa61), .val (.int (5 : Int32)), .val (.int fr), .val (.int vl), .val (.ref b67), .unset, .unset, .unset, .unset] [])) _
      refine XS.aload X99.here hx rfl (hb hby at_252) rfl rfl ?_
      show Steps p.tables e below (T99.setTop (mkF m 254 #[.val (.int u1), .val (.int u2), .val (.int u3), .val (.long u4), .second, .val (.int u5), .val (.int vf), .val (.ref sa61), .val (.int (5 : Int32)), .val (.int fr), .val (.int vl), .val (.ref b67), .unset, .unset, .unset, .unset] [(.ref b67)])) _
      refine XS.iload X99.here hx rfl (hb hby at_254) rfl ?_
      show Steps p.tables e below (T99.setTop (mkF m 256 #[.val (.int u1), .val (.int u2), .val (.int u3), .val (.long u4), .second, .val (.int u5), .val (.int vf), .val (.ref sa61), .val (.int (5 : Int32)), .val (.int fr), .val (.int vl), .val (.ref b67), .unset, .unset, .unset, .unset] [(.int fr), (.ref b67)])) _
      refine XS.iconst X99.here hx rfl (hb hby at_256) ?_
      show Steps p.tables e below (T99.setTop (mkF m 257 #[.val (.int u1), .val (.int u2), .val (.int u3), .val (.long u4), .second, .val (.int u5), .val (.int vf), .val (.ref sa61), .val (.int (5 : Int32)), .val (.int fr), .val (.int vl), .val (.ref b67), .unset, .unset, .unset, .unset] [(.int (4 : Int32)), (.int fr), (.ref b67)])) _
      refine XS.iadd X99.here hx rfl (hb hby at_257) rfl ?_
      show Steps p.tables e below (T99.setTop (mkF m 258 #[.val (.int u1), .val (.int u2), .val (.int u3), .val (.long u4), .second, .val (.int u5), .val (.int vf), .val (.ref sa61), .val (.int (5 : Int32)), .val (.int fr), .val (.int vl), .val (.ref b67), .unset, .unset, .unset, .unset] [(.int (fr + (4 : Int32))), (.ref b67)])) _
      refine XS.aload X99.here hx rfl (hb hby at_258) rfl rfl ?_
      show Steps p.tables e below (T99.setTop (mkF m 260 #[.val (.int u1), .val (.int u2), .val (.int u3), .val (.long u4), .second, .val (.int u5), .val (.int vf), .val (.ref sa61), .val (.int (5 : Int32)), .val (.int fr), .val (.int vl), .val (.ref b67), .unset, .unset, .unset, .unset] [(.ref sa61), (.int (fr + (4 : Int32))), (.ref b67)])) _
      refine XS.iconst X99.here hx rfl (hb hby at_260) ?_
      show Steps p.tables e below (T99.setTop (mkF m 261 #[.val (.int u1), .val (.int u2), .val (.int u3), .val (.long u4), .second, .val (.int u5), .val (.int vf), .val (.ref sa61), .val (.int (5 : Int32)), .val (.int fr), .val (.int vl), .val (.ref b67), .unset, .unset, .unset, .unset] [(.int (4 : Int32)), (.ref sa61), (.int (fr + (4 : Int32))), (.ref b67)])) _
      refine st100.trans ?_
      show Steps p.tables e below (T100.setTop (mkF m 264 #[.val (.int u1), .val (.int u2), .val (.int u3), .val (.long u4), .second, .val (.int u5), .val (.int vf), .val (.ref sa61), .val (.int (5 : Int32)), .val (.int fr), .val (.int vl), .val (.ref b67), .unset, .unset, .unset, .unset] [(.int (101 : Int32)), (.int (fr + (4 : Int32))), (.ref b67)])) _
      refine XS.i2b X100.here hx rfl (hb hby at_264) rfl ?_
      show Steps p.tables e below (T100.setTop (mkF m 265 #[.val (.int u1), .val (.int u2), .val (.int u3), .val (.long u4), .second, .val (.int u5), .val (.int vf), .val (.ref sa61), .val (.int (5 : Int32)), .val (.int fr), .val (.int vl), .val (.ref b67), .unset, .unset, .unset, .unset] [(.int ((101 : Int32).toInt8.toInt32)), (.int (fr + (4 : Int32))), (.ref b67)])) _
      refine st101 _ ?_
      show Steps p.tables e below (T101.setTop (mkF m 266 #[.val (.int u1), .val (.int u2), .val (.int u3), .val (.long u4), .second, .val (.int u5), .val (.int vf), .val (.ref sa61), .val (.int (5 : Int32)), .val (.int fr), .val (.int vl), .val (.ref b67), .unset, .unset, .unset, .unset] [])) _
      refine XS.iloadN X101.here hx rfl (hb hby at_266) rfl ?_
      show Steps p.tables e below (T101.setTop (mkF m 267 #[.val (.int u1), .val (.int u2), .val (.int u3), .val (.long u4), .second, .val (.int u5), .val (.int vf), .val (.ref sa61), .val (.int (5 : Int32)), .val (.int fr), .val (.int vl), .val (.ref b67), .unset, .unset, .unset, .unset] [(.int u3)])) _
      refine XS.bipush X101.here hx rfl (hb hby at_267) ?_
      show Steps p.tables e below (T101.setTop (mkF m 269 #[.val (.int u1), .val (.int u2), .val (.int u3), .val (.long u4), .second, .val (.int u5), .val (.int vf), .val (.ref sa61), .val (.int (5 : Int32)), .val (.int fr), .val (.int vl), .val (.ref b67), .unset, .unset, .unset, .unset] [(.int (8 : Int32)), (.int u3)])) _
      refine XS.iand X101.here hx rfl (hb hby at_269) rfl ?_
      exact k
    have pre104 : ∀ t, Steps p.tables e below (T101.setTop (mkF m 278 #[.val (.int u1), .val (.int u2), .val (.int u3), .val (.long u4), .second, .val (.int u5), .val (.int vf), .val (.ref sa61), .val (.int (5 : Int32)), .val (.int fr), .val (.int vl), .val (.ref b67), .unset, .unset, .unset, .unset] [(.int (bif (ifCond.holds .eq (u3 &&& (8 : Int32))) then (0 : Int32) else (1 : Int32)))])) t → Steps p.tables e below (s₁.setTop (entryFrame m #[(.int u1), (.int u2), (.int u3), (.long u4), (.int u5)] maxLocals)) t := by
      intro t k
      refine pre102 t ?_
      show Steps p.tables e below (T101.setTop (mkF m 270 #[.val (.int u1), .val (.int u2), .val (.int u3), .val (.long u4), .second, .val (.int u5), .val (.int vf), .val (.ref sa61), .val (.int (5 : Int32)), .val (.int fr), .val (.int vl), .val (.ref b67), .unset, .unset, .unset, .unset] [(.int (u3 &&& (8 : Int32)))])) _
      rcases Bool.eq_false_or_eq_true (ifCond.holds .eq (u3 &&& (8 : Int32))) with hb270_103 | hb270_103
      · refine XS.ifYes X101.here hx rfl (pc0 := 270) (pc' := 277) rfl (hb hby at_270) rfl hb270_103 (by decide) (by decide) ?_
        show Steps p.tables e below (T101.setTop (mkF m 277 #[.val (.int u1), .val (.int u2), .val (.int u3), .val (.long u4), .second, .val (.int u5), .val (.int vf), .val (.ref sa61), .val (.int (5 : Int32)), .val (.int fr), .val (.int vl), .val (.ref b67), .unset, .unset, .unset, .unset] [])) _
        refine XS.iconst X101.here hx rfl (hb hby at_277) ?_
        have k : Steps p.tables e below (T101.setTop (mkF m 278 #[.val (.int u1), .val (.int u2), .val (.int u3), .val (.long u4), .second, .val (.int u5), .val (.int vf), .val (.ref sa61), .val (.int (5 : Int32)), .val (.int fr), .val (.int vl), .val (.ref b67), .unset, .unset, .unset, .unset] [(.int (0 : Int32))])) t := by simpa only [hb270_103, cond_true, cond_false] using k
        exact k
      · refine XS.ifNo X101.here hx rfl (hb hby at_270) rfl hb270_103 ?_
        show Steps p.tables e below (T101.setTop (mkF m 273 #[.val (.int u1), .val (.int u2), .val (.int u3), .val (.long u4), .second, .val (.int u5), .val (.int vf), .val (.ref sa61), .val (.int (5 : Int32)), .val (.int fr), .val (.int vl), .val (.ref b67), .unset, .unset, .unset, .unset] [])) _
        refine XS.iconst X101.here hx rfl (hb hby at_273) ?_
        show Steps p.tables e below (T101.setTop (mkF m 274 #[.val (.int u1), .val (.int u2), .val (.int u3), .val (.long u4), .second, .val (.int u5), .val (.int vf), .val (.ref sa61), .val (.int (5 : Int32)), .val (.int fr), .val (.int vl), .val (.ref b67), .unset, .unset, .unset, .unset] [(.int (1 : Int32))])) _
        refine XS.goto X101.here hx rfl (pc0 := 274) (pc' := 278) rfl (hb hby at_274) (by decide) (by decide) ?_
        have k : Steps p.tables e below (T101.setTop (mkF m 278 #[.val (.int u1), .val (.int u2), .val (.int u3), .val (.long u4), .second, .val (.int u5), .val (.int vf), .val (.ref sa61), .val (.int (5 : Int32)), .val (.int fr), .val (.int vl), .val (.ref b67), .unset, .unset, .unset, .unset] [(.int (1 : Int32))])) t := by simpa only [hb270_103, cond_true, cond_false] using k
        exact k
    have pre105 : ∀ t, Steps p.tables e below (T101.setTop (mkF m 293 #[.val (.int u1), .val (.int u2), .val (.int u3), .val (.long u4), .second, .val (.int u5), .val (.int vf), .val (.ref sa61), .val (.int (5 : Int32)), .val (.int fr), .val (.int vl), .val (.ref b67), .val (.int (bif (ifCond.holds .eq (u3 &&& (8 : Int32))) then (0 : Int32) else (1 : Int32))), .val (.int ((u3 &&& (7 : Int32)) % (5 : Int32))), .val (.int (u2.toInt8.toInt32)), .unset] [])) t → Steps p.tables e below (s₁.setTop (entryFrame m #[(.int u1), (.int u2), (.int u3), (.long u4), (.int u5)] maxLocals)) t := by
      intro t k
      refine pre104 t ?_
      show Steps p.tables e below (T101.setTop (mkF m 278 #[.val (.int u1), .val (.int u2), .val (.int u3), .val (.long u4), .second, .val (.int u5), .val (.int vf), .val (.ref sa61), .val (.int (5 : Int32)), .val (.int fr), .val (.int vl), .val (.ref b67), .unset, .unset, .unset, .unset] [(.int (bif (ifCond.holds .eq (u3 &&& (8 : Int32))) then (0 : Int32) else (1 : Int32)))])) _
      refine XS.istore X101.here hx rfl (hb hby at_278) rfl (l' := #[.val (.int u1), .val (.int u2), .val (.int u3), .val (.long u4), .second, .val (.int u5), .val (.int vf), .val (.ref sa61), .val (.int (5 : Int32)), .val (.int fr), .val (.int vl), .val (.ref b67), .val (.int (bif (ifCond.holds .eq (u3 &&& (8 : Int32))) then (0 : Int32) else (1 : Int32))), .unset, .unset, .unset]) rfl ?_
      show Steps p.tables e below (T101.setTop (mkF m 280 #[.val (.int u1), .val (.int u2), .val (.int u3), .val (.long u4), .second, .val (.int u5), .val (.int vf), .val (.ref sa61), .val (.int (5 : Int32)), .val (.int fr), .val (.int vl), .val (.ref b67), .val (.int (bif (ifCond.holds .eq (u3 &&& (8 : Int32))) then (0 : Int32) else (1 : Int32))), .unset, .unset, .unset] [])) _
      refine XS.iloadN X101.here hx rfl (hb hby at_280) rfl ?_
      show Steps p.tables e below (T101.setTop (mkF m 281 #[.val (.int u1), .val (.int u2), .val (.int u3), .val (.long u4), .second, .val (.int u5), .val (.int vf), .val (.ref sa61), .val (.int (5 : Int32)), .val (.int fr), .val (.int vl), .val (.ref b67), .val (.int (bif (ifCond.holds .eq (u3 &&& (8 : Int32))) then (0 : Int32) else (1 : Int32))), .unset, .unset, .unset] [(.int u3)])) _
      refine XS.bipush X101.here hx rfl (hb hby at_281) ?_
      show Steps p.tables e below (T101.setTop (mkF m 283 #[.val (.int u1), .val (.int u2), .val (.int u3), .val (.long u4), .second, .val (.int u5), .val (.int vf), .val (.ref sa61), .val (.int (5 : Int32)), .val (.int fr), .val (.int vl), .val (.ref b67), .val (.int (bif (ifCond.holds .eq (u3 &&& (8 : Int32))) then (0 : Int32) else (1 : Int32))), .unset, .unset, .unset] [(.int (7 : Int32)), (.int u3)])) _
      refine XS.iand X101.here hx rfl (hb hby at_283) rfl ?_
      show Steps p.tables e below (T101.setTop (mkF m 284 #[.val (.int u1), .val (.int u2), .val (.int u3), .val (.long u4), .second, .val (.int u5), .val (.int vf), .val (.ref sa61), .val (.int (5 : Int32)), .val (.int fr), .val (.int vl), .val (.ref b67), .val (.int (bif (ifCond.holds .eq (u3 &&& (8 : Int32))) then (0 : Int32) else (1 : Int32))), .unset, .unset, .unset] [(.int (u3 &&& (7 : Int32)))])) _
      refine XS.iload X101.here hx rfl (hb hby at_284) rfl ?_
      show Steps p.tables e below (T101.setTop (mkF m 286 #[.val (.int u1), .val (.int u2), .val (.int u3), .val (.long u4), .second, .val (.int u5), .val (.int vf), .val (.ref sa61), .val (.int (5 : Int32)), .val (.int fr), .val (.int vl), .val (.ref b67), .val (.int (bif (ifCond.holds .eq (u3 &&& (8 : Int32))) then (0 : Int32) else (1 : Int32))), .unset, .unset, .unset] [(.int (5 : Int32)), (.int (u3 &&& (7 : Int32)))])) _
      refine iremM X101 hx (g := (mkF m 286 #[.val (.int u1), .val (.int u2), .val (.int u3), .val (.long u4), .second, .val (.int u5), .val (.int vf), .val (.ref sa61), .val (.int (5 : Int32)), .val (.int fr), .val (.int vl), .val (.ref b67), .val (.int (bif (ifCond.holds .eq (u3 &&& (8 : Int32))) then (0 : Int32) else (1 : Int32))), .unset, .unset, .unset] [(.int (5 : Int32)), (.int (u3 &&& (7 : Int32)))])) rfl (hb hby at_286) rfl (by decide) ?_
      show Steps p.tables e below (T101.setTop (mkF m 287 #[.val (.int u1), .val (.int u2), .val (.int u3), .val (.long u4), .second, .val (.int u5), .val (.int vf), .val (.ref sa61), .val (.int (5 : Int32)), .val (.int fr), .val (.int vl), .val (.ref b67), .val (.int (bif (ifCond.holds .eq (u3 &&& (8 : Int32))) then (0 : Int32) else (1 : Int32))), .unset, .unset, .unset] [(.int ((u3 &&& (7 : Int32)) % (5 : Int32)))])) _
      refine XS.istore X101.here hx rfl (hb hby at_287) rfl (l' := #[.val (.int u1), .val (.int u2), .val (.int u3), .val (.long u4), .second, .val (.int u5), .val (.int vf), .val (.ref sa61), .val (.int (5 : Int32)), .val (.int fr), .val (.int vl), .val (.ref b67), .val (.int (bif (ifCond.holds .eq (u3 &&& (8 : Int32))) then (0 : Int32) else (1 : Int32))), .val (.int ((u3 &&& (7 : Int32)) % (5 : Int32))), .unset, .unset]) rfl ?_
      show Steps p.tables e below (T101.setTop (mkF m 289 #[.val (.int u1), .val (.int u2), .val (.int u3), .val (.long u4), .second, .val (.int u5), .val (.int vf), .val (.ref sa61), .val (.int (5 : Int32)), .val (.int fr), .val (.int vl), .val (.ref b67), .val (.int (bif (ifCond.holds .eq (u3 &&& (8 : Int32))) then (0 : Int32) else (1 : Int32))), .val (.int ((u3 &&& (7 : Int32)) % (5 : Int32))), .unset, .unset] [])) _
      refine XS.iloadN X101.here hx rfl (hb hby at_289) rfl ?_
      show Steps p.tables e below (T101.setTop (mkF m 290 #[.val (.int u1), .val (.int u2), .val (.int u3), .val (.long u4), .second, .val (.int u5), .val (.int vf), .val (.ref sa61), .val (.int (5 : Int32)), .val (.int fr), .val (.int vl), .val (.ref b67), .val (.int (bif (ifCond.holds .eq (u3 &&& (8 : Int32))) then (0 : Int32) else (1 : Int32))), .val (.int ((u3 &&& (7 : Int32)) % (5 : Int32))), .unset, .unset] [(.int u2)])) _
      refine XS.i2b X101.here hx rfl (hb hby at_290) rfl ?_
      show Steps p.tables e below (T101.setTop (mkF m 291 #[.val (.int u1), .val (.int u2), .val (.int u3), .val (.long u4), .second, .val (.int u5), .val (.int vf), .val (.ref sa61), .val (.int (5 : Int32)), .val (.int fr), .val (.int vl), .val (.ref b67), .val (.int (bif (ifCond.holds .eq (u3 &&& (8 : Int32))) then (0 : Int32) else (1 : Int32))), .val (.int ((u3 &&& (7 : Int32)) % (5 : Int32))), .unset, .unset] [(.int (u2.toInt8.toInt32))])) _
      refine XS.istore X101.here hx rfl (hb hby at_291) rfl (l' := #[.val (.int u1), .val (.int u2), .val (.int u3), .val (.long u4), .second, .val (.int u5), .val (.int vf), .val (.ref sa61), .val (.int (5 : Int32)), .val (.int fr), .val (.int vl), .val (.ref b67), .val (.int (bif (ifCond.holds .eq (u3 &&& (8 : Int32))) then (0 : Int32) else (1 : Int32))), .val (.int ((u3 &&& (7 : Int32)) % (5 : Int32))), .val (.int (u2.toInt8.toInt32)), .unset]) rfl ?_
      exact k
    obtain ⟨vm, hvm⟩ : ∃ z : Int32, z = (bif (ifCond.holds .eq (u3 &&& (8 : Int32))) then (0 : Int32) else (1 : Int32)) := ⟨_, rfl⟩
    rw [← hvm] at pre105
    obtain ⟨vq, hvq⟩ : ∃ z : Int32, z = ((u3 &&& (7 : Int32)) % (5 : Int32)) := ⟨_, rfl⟩
    rw [← hvq] at pre105
    have hQ : vq = 0 ∨ vq = 1 ∨ vq = 2 ∨ vq = 3 ∨ vq = 4 := by rw [hvq]; exact own_p5 u3
    have pre106 : ∀ t, Steps p.tables e below (T101.setTop (mkF m 295 #[.val (.int u1), .val (.int u2), .val (.int u3), .val (.long u4), .second, .val (.int u5), .val (.int vf), .val (.ref sa61), .val (.int (5 : Int32)), .val (.int fr), .val (.int vl), .val (.ref b67), .val (.int vm), .val (.int vq), .val (.int (u2.toInt8.toInt32)), .unset] [(.int vm)])) t → Steps p.tables e below (s₁.setTop (entryFrame m #[(.int u1), (.int u2), (.int u3), (.long u4), (.int u5)] maxLocals)) t := by
      intro t k
      refine pre105 t ?_
      show Steps p.tables e below (T101.setTop (mkF m 293 #[.val (.int u1), .val (.int u2), .val (.int u3), .val (.long u4), .second, .val (.int u5), .val (.int vf), .val (.ref sa61), .val (.int (5 : Int32)), .val (.int fr), .val (.int vl), .val (.ref b67), .val (.int vm), .val (.int vq), .val (.int (u2.toInt8.toInt32)), .unset] [])) _
      refine XS.iload X101.here hx rfl (hb hby at_293) rfl ?_
      exact k
    rcases Bool.eq_false_or_eq_true (ifCond.holds .eq vm) with hb295 | hb295
    · have pre107 : ∀ t, Steps p.tables e below (T101.setTop (mkF m 312 #[.val (.int u1), .val (.int u2), .val (.int u3), .val (.long u4), .second, .val (.int u5), .val (.int vf), .val (.ref sa61), .val (.int (5 : Int32)), .val (.int fr), .val (.int vl), .val (.ref b67), .val (.int vm), .val (.int vq), .val (.int (u2.toInt8.toInt32)), .unset] [(.int (5 : Int32)), (.int vl)])) t → Steps p.tables e below (s₁.setTop (entryFrame m #[(.int u1), (.int u2), (.int u3), (.long u4), (.int u5)] maxLocals)) t := by
        intro t k
        refine pre106 t ?_
        show Steps p.tables e below (T101.setTop (mkF m 295 #[.val (.int u1), .val (.int u2), .val (.int u3), .val (.long u4), .second, .val (.int u5), .val (.int vf), .val (.ref sa61), .val (.int (5 : Int32)), .val (.int fr), .val (.int vl), .val (.ref b67), .val (.int vm), .val (.int vq), .val (.int (u2.toInt8.toInt32)), .unset] [(.int vm)])) _
        refine XS.ifYes X101.here hx rfl (pc0 := 295) (pc' := 308) rfl (hb hby at_295) rfl hb295 (by decide) (by decide) ?_
        show Steps p.tables e below (T101.setTop (mkF m 308 #[.val (.int u1), .val (.int u2), .val (.int u3), .val (.long u4), .second, .val (.int u5), .val (.int vf), .val (.ref sa61), .val (.int (5 : Int32)), .val (.int fr), .val (.int vl), .val (.ref b67), .val (.int vm), .val (.int vq), .val (.int (u2.toInt8.toInt32)), .unset] [])) _
        refine XS.iload X101.here hx rfl (hb hby at_308) rfl ?_
        show Steps p.tables e below (T101.setTop (mkF m 310 #[.val (.int u1), .val (.int u2), .val (.int u3), .val (.long u4), .second, .val (.int u5), .val (.int vf), .val (.ref sa61), .val (.int (5 : Int32)), .val (.int fr), .val (.int vl), .val (.ref b67), .val (.int vm), .val (.int vq), .val (.int (u2.toInt8.toInt32)), .unset] [(.int vl)])) _
        refine XS.iload X101.here hx rfl (hb hby at_310) rfl ?_
        exact k
      have pre109 : ∀ t, Steps p.tables e below (T101.setTop (mkF m 338 #[.val (.int u1), .val (.int u2), .val (.int u3), .val (.long u4), .second, .val (.int u5), .val (.int vf), .val (.ref sa61), .val (.int (5 : Int32)), .val (.int fr), .val (.int vl), .val (.ref b67), .val (.int vm), .val (.int vq), .val (.int (u2.toInt8.toInt32)), .unset] [(.int (bif (if_icmp.holds .ne vl (5 : Int32)) then (0 : Int32) else (1 : Int32)))])) t → Steps p.tables e below (s₁.setTop (entryFrame m #[(.int u1), (.int u2), (.int u3), (.long u4), (.int u5)] maxLocals)) t := by
        intro t k
        refine pre107 t ?_
        show Steps p.tables e below (T101.setTop (mkF m 312 #[.val (.int u1), .val (.int u2), .val (.int u3), .val (.long u4), .second, .val (.int u5), .val (.int vf), .val (.ref sa61), .val (.int (5 : Int32)), .val (.int fr), .val (.int vl), .val (.ref b67), .val (.int vm), .val (.int vq), .val (.int (u2.toInt8.toInt32)), .unset] [(.int (5 : Int32)), (.int vl)])) _
        rcases Bool.eq_false_or_eq_true (if_icmp.holds .ne vl (5 : Int32)) with hb312_108 | hb312_108
        · refine XS.icmpYes X101.here hx rfl (pc0 := 312) (pc' := 337) rfl (hb hby at_312) rfl hb312_108 (by decide) (by decide) ?_
          show Steps p.tables e below (T101.setTop (mkF m 337 #[.val (.int u1), .val (.int u2), .val (.int u3), .val (.long u4), .second, .val (.int u5), .val (.int vf), .val (.ref sa61), .val (.int (5 : Int32)), .val (.int fr), .val (.int vl), .val (.ref b67), .val (.int vm), .val (.int vq), .val (.int (u2.toInt8.toInt32)), .unset] [])) _
          refine XS.iconst X101.here hx rfl (hb hby at_337) ?_
          have k : Steps p.tables e below (T101.setTop (mkF m 338 #[.val (.int u1), .val (.int u2), .val (.int u3), .val (.long u4), .second, .val (.int u5), .val (.int vf), .val (.ref sa61), .val (.int (5 : Int32)), .val (.int fr), .val (.int vl), .val (.ref b67), .val (.int vm), .val (.int vq), .val (.int (u2.toInt8.toInt32)), .unset] [(.int (0 : Int32))])) t := by simpa only [hb312_108, cond_true, cond_false] using k
          exact k
        · refine XS.icmpNo X101.here hx rfl (hb hby at_312) rfl hb312_108 ?_
          show Steps p.tables e below (T101.setTop (mkF m 315 #[.val (.int u1), .val (.int u2), .val (.int u3), .val (.long u4), .second, .val (.int u5), .val (.int vf), .val (.ref sa61), .val (.int (5 : Int32)), .val (.int fr), .val (.int vl), .val (.ref b67), .val (.int vm), .val (.int vq), .val (.int (u2.toInt8.toInt32)), .unset] [])) _
          refine XS.iload X101.here hx rfl (hb hby at_315) rfl ?_
          show Steps p.tables e below (T101.setTop (mkF m 317 #[.val (.int u1), .val (.int u2), .val (.int u3), .val (.long u4), .second, .val (.int u5), .val (.int vf), .val (.ref sa61), .val (.int (5 : Int32)), .val (.int fr), .val (.int vl), .val (.ref b67), .val (.int vm), .val (.int vq), .val (.int (u2.toInt8.toInt32)), .unset] [(.int vm)])) _
          refine XS.ifYes X101.here hx rfl (pc0 := 317) (pc' := 333) rfl (hb hby at_317) rfl hb295 (by decide) (by decide) ?_
          show Steps p.tables e below (T101.setTop (mkF m 333 #[.val (.int u1), .val (.int u2), .val (.int u3), .val (.long u4), .second, .val (.int u5), .val (.int vf), .val (.ref sa61), .val (.int (5 : Int32)), .val (.int fr), .val (.int vl), .val (.ref b67), .val (.int vm), .val (.int vq), .val (.int (u2.toInt8.toInt32)), .unset] [])) _
          refine XS.iconst X101.here hx rfl (hb hby at_333) ?_
          show Steps p.tables e below (T101.setTop (mkF m 334 #[.val (.int u1), .val (.int u2), .val (.int u3), .val (.long u4), .second, .val (.int u5), .val (.int vf), .val (.ref sa61), .val (.int (5 : Int32)), .val (.int fr), .val (.int vl), .val (.ref b67), .val (.int vm), .val (.int vq), .val (.int (u2.toInt8.toInt32)), .unset] [(.int (1 : Int32))])) _
          refine XS.goto X101.here hx rfl (pc0 := 334) (pc' := 338) rfl (hb hby at_334) (by decide) (by decide) ?_
          have k : Steps p.tables e below (T101.setTop (mkF m 338 #[.val (.int u1), .val (.int u2), .val (.int u3), .val (.long u4), .second, .val (.int u5), .val (.int vf), .val (.ref sa61), .val (.int (5 : Int32)), .val (.int fr), .val (.int vl), .val (.ref b67), .val (.int vm), .val (.int vq), .val (.int (u2.toInt8.toInt32)), .unset] [(.int (1 : Int32))])) t := by simpa only [hb312_108, cond_true, cond_false] using k
          exact k
      obtain ⟨_, _, ⟨T110, L110, k110, n110⟩, -, X110, ⟨Lc110, hQ110, l110, y110, z110⟩, st110⟩ := Jvm.LawKit.callS X101 hx (y := (⟨"com/example/sabac/sabac/ExpressionLexer", "isKeyword", "([BII)Z"⟩ : MethodName)) hown (mvT hZ (own_w hw 47 rfl)) (mvT hZ (own_w hw 48 rfl)) (mvT hZ (own_w hw 49 rfl)) (mvT hZ (own_w hw 50 rfl)) (by decide) (backOf (W := 0) (rm_kw l Z a0 hw [] b67 fr (fr + vl) k67 xs101 h101 n0 Z101 V101x hF) hZ (own_w hw 50 rfl) (own_w hw 49 rfl) (by decide) (by decide)) (g := (mkF m 349 #[.val (.int u1), .val (.int u2), .val (.int u3), .val (.long u4), .second, .val (.int u5), .val (.int vf), .val (.ref sa61), .val (.int (5 : Int32)), .val (.int fr), .val (.int vl), .val (.ref b67), .val (.int vm), .val (.int vq), .val (.int (u2.toInt8.toInt32)), .val (.int (bif (if_icmp.holds .ne vl (5 : Int32)) then (0 : Int32) else (1 : Int32)))] [(.int (fr + vl)), (.int fr), (.ref b67)])) rfl (by rw [hml]; rfl) (argsL := [(.ref b67), (.int fr), (.int (fr + vl))]) (rest := []) (lenOf pd_634392 rfl) rfl (by show 2 * 0 + _ ≤ _; exact Nat.le_of_eq rfl) (hb hby at_349) (fun _ _ => ⟨rfl, e101, (by decide : 3 + 0 ≤ _), (by decide : 36 + 0 ≤ _)⟩)
      dsimp only [Pt.U, Pt.locs, Pt.cells, Pt.slots] at X110 l110 y110 z110 st110 hQ110
      replace y110 : k110 = 3 := y110
      replace z110 : n110 = 36 := z110
      subst y110 z110
      obtain ⟨rfl, Nq110, eq110⟩ := hQ110
      have N110 : Fr n0 L110 := by rw [l110]; exact Fr.app N101 Nq110
      obtain ⟨fs, hr, hrun, hended, hEnd⟩ := Stand.leaveW (s := s) X110 hS61 (by rw [eq110]; exact kk101) (v := some (.int (1 : Int32))) (fun h => by rw [Bd.returns] at h; cases h)
      refine ⟨_, _, pre109 _ ?_, hrun, hended, _, _, rfl, ?_, hEnd.1, hEnd.2.1, hEnd.2.2.1, hEnd.2.2.2.mono (by decide) (by decide)⟩
      · show Steps p.tables e below (T101.setTop (mkF m 338 #[.val (.int u1), .val (.int u2), .val (.int u3), .val (.long u4), .second, .val (.int u5), .val (.int vf), .val (.ref sa61), .val (.int (5 : Int32)), .val (.int fr), .val (.int vl), .val (.ref b67), .val (.int vm), .val (.int vq), .val (.int (u2.toInt8.toInt32)), .unset] [(.int (bif (if_icmp.holds .ne vl (5 : Int32)) then (0 : Int32) else (1 : Int32)))])) _
        refine XS.istore X101.here hx rfl (hb hby at_338) rfl (l' := #[.val (.int u1), .val (.int u2), .val (.int u3), .val (.long u4), .second, .val (.int u5), .val (.int vf), .val (.ref sa61), .val (.int (5 : Int32)), .val (.int fr), .val (.int vl), .val (.ref b67), .val (.int vm), .val (.int vq), .val (.int (u2.toInt8.toInt32)), .val (.int (bif (if_icmp.holds .ne vl (5 : Int32)) then (0 : Int32) else (1 : Int32)))]) rfl ?_
        show Steps p.tables e below (T101.setTop (mkF m 340 #[.val (.int u1), .val (.int u2), .val (.int u3), .val (.long u4), .second, .val (.int u5), .val (.int vf), .val (.ref sa61), .val (.int (5 : Int32)), .val (.int fr), .val (.int vl), .val (.ref b67), .val (.int vm), .val (.int vq), .val (.int (u2.toInt8.toInt32)), .val (.int (bif (if_icmp.holds .ne vl (5 : Int32)) then (0 : Int32) else (1 : Int32)))] [])) _
        refine XS.aload X101.here hx rfl (hb hby at_340) rfl rfl ?_
        show Steps p.tables e below (T101.setTop (mkF m 342 #[.val (.int u1), .val (.int u2), .val (.int u3), .val (.long u4), .second, .val (.int u5), .val (.int vf), .val (.ref sa61), .val (.int (5 : Int32)), .val (.int fr), .val (.int vl), .val (.ref b67), .val (.int vm), .val (.int vq), .val (.int (u2.toInt8.toInt32)), .val (.int (bif (if_icmp.holds .ne vl (5 : Int32)) then (0 : Int32) else (1 : Int32)))] [(.ref b67)])) _
        refine XS.iload X101.here hx rfl (hb hby at_342) rfl ?_
        show Steps p.tables e below (T101.setTop (mkF m 344 #[.val (.int u1), .val (.int u2), .val (.int u3), .val (.long u4), .second, .val (.int u5), .val (.int vf), .val (.ref sa61), .val (.int (5 : Int32)), .val (.int fr), .val (.int vl), .val (.ref b67), .val (.int vm), .val (.int vq), .val (.int (u2.toInt8.toInt32)), .val (.int (bif (if_icmp.holds .ne vl (5 : Int32)) then (0 : Int32) else (1 : Int32)))] [(.int fr), (.ref b67)])) _
        refine XS.iload X101.here hx rfl (hb hby at_344) rfl ?_
        show Steps p.tables e below (T101.setTop (mkF m 346 #[.val (.int u1), .val (.int u2), .val (.int u3), .val (.long u4), .second, .val (.int u5), .val (.int vf), .val (.ref sa61), .val (.int (5 : Int32)), .val (.int fr), .val (.int vl), .val (.ref b67), .val (.int vm), .val (.int vq), .val (.int (u2.toInt8.toInt32)), .val (.int (bif (if_icmp.holds .ne vl (5 : Int32)) then (0 : Int32) else (1 : Int32)))] [(.int fr), (.int fr), (.ref b67)])) _
        refine XS.iload X101.here hx rfl (hb hby at_346) rfl ?_
        show Steps p.tables e below (T101.setTop (mkF m 348 #[.val (.int u1), .val (.int u2), .val (.int u3), .val (.long u4), .second, .val (.int u5), .val (.int vf), .val (.ref sa61), .val (.int (5 : Int32)), .val (.int fr), .val (.int vl), .val (.ref b67), .val (.int vm), .val (.int vq), .val (.int (u2.toInt8.toInt32)), .val (.int (bif (if_icmp.holds .ne vl (5 : Int32)) then (0 : Int32) else (1 : Int32)))] [(.int vl), (.int fr), (.int fr), (.ref b67)])) _
        refine XS.iadd X101.here hx rfl (hb hby at_348) rfl ?_
        show Steps p.tables e below (T101.setTop (mkF m 349 #[.val (.int u1), .val (.int u2), .val (.int u3), .val (.long u4), .second, .val (.int u5), .val (.int vf), .val (.ref sa61), .val (.int (5 : Int32)), .val (.int fr), .val (.int vl), .val (.ref b67), .val (.int vm), .val (.int vq), .val (.int (u2.toInt8.toInt32)), .val (.int (bif (if_icmp.holds .ne vl (5 : Int32)) then (0 : Int32) else (1 : Int32)))] [(.int (fr + vl)), (.int fr), (.ref b67)])) _
        refine st110 _ ?_
        show Steps p.tables e below (T110.setTop (mkF m 352 #[.val (.int u1), .val (.int u2), .val (.int u3), .val (.long u4), .second, .val (.int u5), .val (.int vf), .val (.ref sa61), .val (.int (5 : Int32)), .val (.int fr), .val (.int vl), .val (.ref b67), .val (.int vm), .val (.int vq), .val (.int (u2.toInt8.toInt32)), .val (.int (bif (if_icmp.holds .ne vl (5 : Int32)) then (0 : Int32) else (1 : Int32)))] [(.int (own_kw fr (fr + vl) xs101))])) _
        refine XS.iload X110.here hx rfl (hb hby at_352) rfl ?_
        show Steps p.tables e below (T110.setTop (mkF m 354 #[.val (.int u1), .val (.int u2), .val (.int u3), .val (.long u4), .second, .val (.int u5), .val (.int vf), .val (.ref sa61), .val (.int (5 : Int32)), .val (.int fr), .val (.int vl), .val (.ref b67), .val (.int vm), .val (.int vq), .val (.int (u2.toInt8.toInt32)), .val (.int (bif (if_icmp.holds .ne vl (5 : Int32)) then (0 : Int32) else (1 : Int32)))] [(.int (bif (if_icmp.holds .ne vl (5 : Int32)) then (0 : Int32) else (1 : Int32))), (.int (own_kw fr (fr + vl) xs101))])) _
        refine XS.icmpNo X110.here hx rfl (hb hby at_354) rfl (own_A_false hF hx0 hx93 hx95 hx97 hx99 hx101) ?_
        show Steps p.tables e below (T110.setTop (mkF m 357 #[.val (.int u1), .val (.int u2), .val (.int u3), .val (.long u4), .second, .val (.int u5), .val (.int vf), .val (.ref sa61), .val (.int (5 : Int32)), .val (.int fr), .val (.int vl), .val (.ref b67), .val (.int vm), .val (.int vq), .val (.int (u2.toInt8.toInt32)), .val (.int (bif (if_icmp.holds .ne vl (5 : Int32)) then (0 : Int32) else (1 : Int32)))] [])) _
        refine XS.iconst X110.here hx rfl (hb hby at_357) ?_
        show Steps p.tables e below (T110.setTop (mkF m 358 #[.val (.int u1), .val (.int u2), .val (.int u3), .val (.long u4), .second, .val (.int u5), .val (.int vf), .val (.ref sa61), .val (.int (5 : Int32)), .val (.int fr), .val (.int vl), .val (.ref b67), .val (.int vm), .val (.int vq), .val (.int (u2.toInt8.toInt32)), .val (.int (bif (if_icmp.holds .ne vl (5 : Int32)) then (0 : Int32) else (1 : Int32)))] [(.int (1 : Int32))])) _
        refine XS.goto X110.here hx rfl (pc0 := 358) (pc' := 362) rfl (hb hby at_358) (by decide) (by decide) ?_
        show Steps p.tables e below (T110.setTop (mkF m 362 #[.val (.int u1), .val (.int u2), .val (.int u3), .val (.long u4), .second, .val (.int u5), .val (.int vf), .val (.ref sa61), .val (.int (5 : Int32)), .val (.int fr), .val (.int vl), .val (.ref b67), .val (.int vm), .val (.int vq), .val (.int (u2.toInt8.toInt32)), .val (.int (bif (if_icmp.holds .ne vl (5 : Int32)) then (0 : Int32) else (1 : Int32)))] [(.int (1 : Int32))])) _
        exact retN X110 hx (t := .boolean) Bd.returns (by simp) (hb hby at_362) hr
      · show Q_rm_law Z _ _ _ _ _ _ _ h0 n0 _ T110.heap _
        rw [eq110]
        exact ⟨rfl, N110⟩
    · obtain ⟨cl111, Ar111, q111, S111, M111, H111, G111⟩ := id V101x
      obtain ⟨T111, h111, X111, e111, W111, st111⟩ := stB X101 hx hZ e101 Ar111 (j := (fr + vq)) (inb_of S111 (own_fr hF _ hQ)) (g := (mkF m 307 #[.val (.int u1), .val (.int u2), .val (.int u3), .val (.long u4), .second, .val (.int u5), .val (.int vf), .val (.ref sa61), .val (.int (5 : Int32)), .val (.int fr), .val (.int vl), .val (.ref b67), .val (.int vm), .val (.int vq), .val (.int (u2.toInt8.toInt32)), .unset] [(.int (u2.toInt8.toInt32)), (.int (fr + vq)), (.ref b67)])) rfl rfl (hb hby at_307)
      have V111 := Arv.set Ar111 q111 S111 M111 H111 G111 (fits_nar_byte _) W111 ((fr + vq)).toNatClampNeg rfl (own_lt12 (own_fr hF _ hQ) L101x)
      have N111 := Fr.snoc X111 N101 fr_b67
      have Z111 : n0 ≤ h111.size := Nat.le_trans Z101 (Keep.of_wr W111).1
      have kk111 : kc61 ≤ h111.size := Nat.le_trans kk101 (Keep.of_wr W111).1
      have Od111 : Old Z n0 h111 := Od101.wr W111 fr_b67
      obtain ⟨xs111, hx111⟩ : ∃ y : List Int32, y = xs101.set ((fr + vq)).toNatClampNeg (u2.toInt8.toInt32) := ⟨_, rfl⟩
      have V111x : Arv Z h111 b67 k67 .byte (12 : Int32) (xs111.map Value.int) (.int (0 : Int32)) := by rw [hx111, List.map_set, ← own_nb u2]; exact V111
      have L111x : xs111.length = 12 := by rw [hx111, List.length_set]; exact L101x
      have pre112 : ∀ t, Steps p.tables e below (T111.setTop (mkF m 312 #[.val (.int u1), .val (.int u2), .val (.int u3), .val (.long u4), .second, .val (.int u5), .val (.int vf), .val (.ref sa61), .val (.int (5 : Int32)), .val (.int fr), .val (.int vl), .val (.ref b67), .val (.int vm), .val (.int vq), .val (.int (u2.toInt8.toInt32)), .unset] [(.int (5 : Int32)), (.int vl)])) t → Steps p.tables e below (s₁.setTop (entryFrame m #[(.int u1), (.int u2), (.int u3), (.long u4), (.int u5)] maxLocals)) t := by
        intro t k
        refine pre106 t ?_
        show Steps p.tables e below (T101.setTop (mkF m 295 #[.val (.int u1), .val (.int u2), .val (.int u3), .val (.long u4), .second, .val (.int u5), .val (.int vf), .val (.ref sa61), .val (.int (5 : Int32)), .val (.int fr), .val (.int vl), .val (.ref b67), .val (.int vm), .val (.int vq), .val (.int (u2.toInt8.toInt32)), .unset] [(.int vm)])) _
        refine XS.ifNo X101.here hx rfl (hb hby at_295) rfl hb295 ?_
        show Steps p.tables e below (T101.setTop (mkF m 298 #[.val (.int u1), .val (.int u2), .val (.int u3), .val (.long u4), .second, .val (.int u5), .val (.int vf), .val (.ref sa61), .val (.int (5 : Int32)), .val (.int fr), .val (.int vl), .val (.ref b67), .val (.int vm), .val (.int vq), .val (.int (u2.toInt8.toInt32)), .unset] [])) _
        refine XS.aload X101.here hx rfl (hb hby at_298) rfl rfl ?_
        show Steps p.tables e below (T101.setTop (mkF m 300 #[.val (.int u1), .val (.int u2), .val (.int u3), .val (.long u4), .second, .val (.int u5), .val (.int vf), .val (.ref sa61), .val (.int (5 : Int32)), .val (.int fr), .val (.int vl), .val (.ref b67), .val (.int vm), .val (.int vq), .val (.int (u2.toInt8.toInt32)), .unset] [(.ref b67)])) _
        refine XS.iload X101.here hx rfl (hb hby at_300) rfl ?_
        show Steps p.tables e below (T101.setTop (mkF m 302 #[.val (.int u1), .val (.int u2), .val (.int u3), .val (.long u4), .second, .val (.int u5), .val (.int vf), .val (.ref sa61), .val (.int (5 : Int32)), .val (.int fr), .val (.int vl), .val (.ref b67), .val (.int vm), .val (.int vq), .val (.int (u2.toInt8.toInt32)), .unset] [(.int fr), (.ref b67)])) _
        refine XS.iload X101.here hx rfl (hb hby at_302) rfl ?_
        show Steps p.tables e below (T101.setTop (mkF m 304 #[.val (.int u1), .val (.int u2), .val (.int u3), .val (.long u4), .second, .val (.int u5), .val (.int vf), .val (.ref sa61), .val (.int (5 : Int32)), .val (.int fr), .val (.int vl), .val (.ref b67), .val (.int vm), .val (.int vq), .val (.int (u2.toInt8.toInt32)), .unset] [(.int vq), (.int fr), (.ref b67)])) _
        refine XS.iadd X101.here hx rfl (hb hby at_304) rfl ?_
        show Steps p.tables e below (T101.setTop (mkF m 305 #[.val (.int u1), .val (.int u2), .val (.int u3), .val (.long u4), .second, .val (.int u5), .val (.int vf), .val (.ref sa61), .val (.int (5 : Int32)), .val (.int fr), .val (.int vl), .val (.ref b67), .val (.int vm), .val (.int vq), .val (.int (u2.toInt8.toInt32)), .unset] [(.int (fr + vq)), (.ref b67)])) _
        refine XS.iload X101.here hx rfl (hb hby at_305) rfl ?_
        show Steps p.tables e below (T101.setTop (mkF m 307 #[.val (.int u1), .val (.int u2), .val (.int u3), .val (.long u4), .second, .val (.int u5), .val (.int vf), .val (.ref sa61), .val (.int (5 : Int32)), .val (.int fr), .val (.int vl), .val (.ref b67), .val (.int vm), .val (.int vq), .val (.int (u2.toInt8.toInt32)), .unset] [(.int (u2.toInt8.toInt32)), (.int (fr + vq)), (.ref b67)])) _
        refine st111 _ ?_
        show Steps p.tables e below (T111.setTop (mkF m 308 #[.val (.int u1), .val (.int u2), .val (.int u3), .val (.long u4), .second, .val (.int u5), .val (.int vf), .val (.ref sa61), .val (.int (5 : Int32)), .val (.int fr), .val (.int vl), .val (.ref b67), .val (.int vm), .val (.int vq), .val (.int (u2.toInt8.toInt32)), .unset] [])) _
        refine XS.iload X111.here hx rfl (hb hby at_308) rfl ?_
        show Steps p.tables e below (T111.setTop (mkF m 310 #[.val (.int u1), .val (.int u2), .val (.int u3), .val (.long u4), .second, .val (.int u5), .val (.int vf), .val (.ref sa61), .val (.int (5 : Int32)), .val (.int fr), .val (.int vl), .val (.ref b67), .val (.int vm), .val (.int vq), .val (.int (u2.toInt8.toInt32)), .unset] [(.int vl)])) _
        refine XS.iload X111.here hx rfl (hb hby at_310) rfl ?_
        exact k
      rcases Bool.eq_false_or_eq_true (if_icmp.holds .ne vl (5 : Int32)) with hb312 | hb312
      · obtain ⟨_, _, ⟨T113, L113, k113, n113⟩, -, X113, ⟨Lc113, hQ113, l113, y113, z113⟩, st113⟩ := Jvm.LawKit.callS X111 hx (y := (⟨"com/example/sabac/sabac/ExpressionLexer", "isKeyword", "([BII)Z"⟩ : MethodName)) hown (mvT hZ (own_w hw 47 rfl)) (mvT hZ (own_w hw 48 rfl)) (mvT hZ (own_w hw 49 rfl)) (mvT hZ (own_w hw 50 rfl)) (by decide) (backOf (W := 0) (rm_kw l Z a0 hw [] b67 fr (fr + vl) k67 xs111 h111 n0 Z111 V111x hF) hZ (own_w hw 50 rfl) (own_w hw 49 rfl) (by decide) (by decide)) (g := (mkF m 349 #[.val (.int u1), .val (.int u2), .val (.int u3), .val (.long u4), .second, .val (.int u5), .val (.int vf), .val (.ref sa61), .val (.int (5 : Int32)), .val (.int fr), .val (.int vl), .val (.ref b67), .val (.int vm), .val (.int vq), .val (.int (u2.toInt8.toInt32)), .val (.int (0 : Int32))] [(.int (fr + vl)), (.int fr), (.ref b67)])) rfl (by rw [hml]; rfl) (argsL := [(.ref b67), (.int fr), (.int (fr + vl))]) (rest := []) (lenOf pd_634392 rfl) rfl (by show 2 * 0 + _ ≤ _; exact Nat.le_of_eq rfl) (hb hby at_349) (fun _ _ => ⟨rfl, e111, (by decide : 3 + 0 ≤ _), (by decide : 36 + 0 ≤ _)⟩)
        dsimp only [Pt.U, Pt.locs, Pt.cells, Pt.slots] at X113 l113 y113 z113 st113 hQ113
        replace y113 : k113 = 3 := y113
        replace z113 : n113 = 36 := z113
        subst y113 z113
        obtain ⟨rfl, Nq113, eq113⟩ := hQ113
        have N113 : Fr n0 L113 := by rw [l113]; exact Fr.app N111 Nq113
        obtain ⟨fs, hr, hrun, hended, hEnd⟩ := Stand.leaveW (s := s) X113 hS61 (by rw [eq113]; exact kk111) (v := some (.int (1 : Int32))) (fun h => by rw [Bd.returns] at h; cases h)
        refine ⟨_, _, pre112 _ ?_, hrun, hended, _, _, rfl, ?_, hEnd.1, hEnd.2.1, hEnd.2.2.1, hEnd.2.2.2.mono (by decide) (by decide)⟩
        · show Steps p.tables e below (T111.setTop (mkF m 312 #[.val (.int u1), .val (.int u2), .val (.int u3), .val (.long u4), .second, .val (.int u5), .val (.int vf), .val (.ref sa61), .val (.int (5 : Int32)), .val (.int fr), .val (.int vl), .val (.ref b67), .val (.int vm), .val (.int vq), .val (.int (u2.toInt8.toInt32)), .unset] [(.int (5 : Int32)), (.int vl)])) _
          refine XS.icmpYes X111.here hx rfl (pc0 := 312) (pc' := 337) rfl (hb hby at_312) rfl hb312 (by decide) (by decide) ?_
          show Steps p.tables e below (T111.setTop (mkF m 337 #[.val (.int u1), .val (.int u2), .val (.int u3), .val (.long u4), .second, .val (.int u5), .val (.int vf), .val (.ref sa61), .val (.int (5 : Int32)), .val (.int fr), .val (.int vl), .val (.ref b67), .val (.int vm), .val (.int vq), .val (.int (u2.toInt8.toInt32)), .unset] [])) _
          refine XS.iconst X111.here hx rfl (hb hby at_337) ?_
          show Steps p.tables e below (T111.setTop (mkF m 338 #[.val (.int u1), .val (.int u2), .val (.int u3), .val (.long u4), .second, .val (.int u5), .val (.int vf), .val (.ref sa61), .val (.int (5 : Int32)), .val (.int fr), .val (.int vl), .val (.ref b67), .val (.int vm), .val (.int vq), .val (.int (u2.toInt8.toInt32)), .unset] [(.int (0 : Int32))])) _
          refine XS.istore X111.here hx rfl (hb hby at_338) rfl (l' := #[.val (.int u1), .val (.int u2), .val (.int u3), .val (.long u4), .second, .val (.int u5), .val (.int vf), .val (.ref sa61), .val (.int (5 : Int32)), .val (.int fr), .val (.int vl), .val (.ref b67), .val (.int vm), .val (.int vq), .val (.int (u2.toInt8.toInt32)), .val (.int (0 : Int32))]) rfl ?_
          show Steps p.tables e below (T111.setTop (mkF m 340 #[.val (.int u1), .val (.int u2), .val (.int u3), .val (.long u4), .second, .val (.int u5), .val (.int vf), .val (.ref sa61), .val (.int (5 : Int32)), .val (.int fr), .val (.int vl), .val (.ref b67), .val (.int vm), .val (.int vq), .val (.int (u2.toInt8.toInt32)), .val (.int (0 : Int32))] [])) _
          refine XS.aload X111.here hx rfl (hb hby at_340) rfl rfl ?_
          show Steps p.tables e below (T111.setTop (mkF m 342 #[.val (.int u1), .val (.int u2), .val (.int u3), .val (.long u4), .second, .val (.int u5), .val (.int vf), .val (.ref sa61), .val (.int (5 : Int32)), .val (.int fr), .val (.int vl), .val (.ref b67), .val (.int vm), .val (.int vq), .val (.int (u2.toInt8.toInt32)), .val (.int (0 : Int32))] [(.ref b67)])) _
          refine XS.iload X111.here hx rfl (hb hby at_342) rfl ?_
          show Steps p.tables e below (T111.setTop (mkF m 344 #[.val (.int u1), .val (.int u2), .val (.int u3), .val (.long u4), .second, .val (.int u5), .val (.int vf), .val (.ref sa61), .val (.int (5 : Int32)), .val (.int fr), .val (.int vl), .val (.ref b67), .val (.int vm), .val (.int vq), .val (.int (u2.toInt8.toInt32)), .val (.int (0 : Int32))] [(.int fr), (.ref b67)])) _
          refine XS.iload X111.here hx rfl (hb hby at_344) rfl ?_
          show Steps p.tables e below (T111.setTop (mkF m 346 #[.val (.int u1), .val (.int u2), .val (.int u3), .val (.long u4), .second, .val (.int u5), .val (.int vf), .val (.ref sa61), .val (.int (5 : Int32)), .val (.int fr), .val (.int vl), .val (.ref b67), .val (.int vm), .val (.int vq), .val (.int (u2.toInt8.toInt32)), .val (.int (0 : Int32))] [(.int fr), (.int fr), (.ref b67)])) _
          refine XS.iload X111.here hx rfl (hb hby at_346) rfl ?_
          show Steps p.tables e below (T111.setTop (mkF m 348 #[.val (.int u1), .val (.int u2), .val (.int u3), .val (.long u4), .second, .val (.int u5), .val (.int vf), .val (.ref sa61), .val (.int (5 : Int32)), .val (.int fr), .val (.int vl), .val (.ref b67), .val (.int vm), .val (.int vq), .val (.int (u2.toInt8.toInt32)), .val (.int (0 : Int32))] [(.int vl), (.int fr), (.int fr), (.ref b67)])) _
          refine XS.iadd X111.here hx rfl (hb hby at_348) rfl ?_
          show Steps p.tables e below (T111.setTop (mkF m 349 #[.val (.int u1), .val (.int u2), .val (.int u3), .val (.long u4), .second, .val (.int u5), .val (.int vf), .val (.ref sa61), .val (.int (5 : Int32)), .val (.int fr), .val (.int vl), .val (.ref b67), .val (.int vm), .val (.int vq), .val (.int (u2.toInt8.toInt32)), .val (.int (0 : Int32))] [(.int (fr + vl)), (.int fr), (.ref b67)])) _
          refine st113 _ ?_
          show Steps p.tables e below (T113.setTop (mkF m 352 #[.val (.int u1), .val (.int u2), .val (.int u3), .val (.long u4), .second, .val (.int u5), .val (.int vf), .val (.ref sa61), .val (.int (5 : Int32)), .val (.int fr), .val (.int vl), .val (.ref b67), .val (.int vm), .val (.int vq), .val (.int (u2.toInt8.toInt32)), .val (.int (0 : Int32))] [(.int (own_kw fr (fr + vl) xs111))])) _
          refine XS.iload X113.here hx rfl (hb hby at_352) rfl ?_
          show Steps p.tables e below (T113.setTop (mkF m 354 #[.val (.int u1), .val (.int u2), .val (.int u3), .val (.long u4), .second, .val (.int u5), .val (.int vf), .val (.ref sa61), .val (.int (5 : Int32)), .val (.int fr), .val (.int vl), .val (.ref b67), .val (.int vm), .val (.int vq), .val (.int (u2.toInt8.toInt32)), .val (.int (0 : Int32))] [(.int (0 : Int32)), (.int (own_kw fr (fr + vl) xs111))])) _
          refine XS.icmpNo X113.here hx rfl (hb hby at_354) rfl (own_B_false hF hQ hx0 hx93 hx95 hx97 hx99 hx101 hx111 hb312) ?_
          show Steps p.tables e below (T113.setTop (mkF m 357 #[.val (.int u1), .val (.int u2), .val (.int u3), .val (.long u4), .second, .val (.int u5), .val (.int vf), .val (.ref sa61), .val (.int (5 : Int32)), .val (.int fr), .val (.int vl), .val (.ref b67), .val (.int vm), .val (.int vq), .val (.int (u2.toInt8.toInt32)), .val (.int (0 : Int32))] [])) _
          refine XS.iconst X113.here hx rfl (hb hby at_357) ?_
          show Steps p.tables e below (T113.setTop (mkF m 358 #[.val (.int u1), .val (.int u2), .val (.int u3), .val (.long u4), .second, .val (.int u5), .val (.int vf), .val (.ref sa61), .val (.int (5 : Int32)), .val (.int fr), .val (.int vl), .val (.ref b67), .val (.int vm), .val (.int vq), .val (.int (u2.toInt8.toInt32)), .val (.int (0 : Int32))] [(.int (1 : Int32))])) _
          refine XS.goto X113.here hx rfl (pc0 := 358) (pc' := 362) rfl (hb hby at_358) (by decide) (by decide) ?_
          show Steps p.tables e below (T113.setTop (mkF m 362 #[.val (.int u1), .val (.int u2), .val (.int u3), .val (.long u4), .second, .val (.int u5), .val (.int vf), .val (.ref sa61), .val (.int (5 : Int32)), .val (.int fr), .val (.int vl), .val (.ref b67), .val (.int vm), .val (.int vq), .val (.int (u2.toInt8.toInt32)), .val (.int (0 : Int32))] [(.int (1 : Int32))])) _
          exact retN X113 hx (t := .boolean) Bd.returns (by simp) (hb hby at_362) hr
        · show Q_rm_law Z _ _ _ _ _ _ _ h0 n0 _ T113.heap _
          rw [eq113]
          exact ⟨rfl, N113⟩
      · obtain ⟨cq114, kq114, q114a, q114b, q114c⟩ := isOf hZ e111 (((((((((((((((((((Ea61.ext E67).wr W69).wr W71).wr W73).wr W75).wr W77).wr W79).wr W81).wr W83).wr W85).wr W87).wr W89).wr W91).wr W93).wr W95).wr W97).wr W99).wr W101).wr W111)
        obtain ⟨_, _, ⟨T114, L114, k114, n114⟩, -, X114, ⟨Lc114, hQ114, l114, y114, z114⟩, st114⟩ := X111.virtualBack hx (y := (⟨"java/lang/String", "charAt", "(I)C"⟩ : MethodName)) (z := (⟨"java/lang/String", "charAt", "(I)C"⟩ : MethodName)) hown (mvT hZ (own_w hw 25 rfl)) (mvT hZ (own_w hw 26 rfl)) (notFace_of_selects (args := #[]) (mvT hZ (own_w hw 28 rfl))) (mvT hZ (own_w hw 28 rfl)) (mvT hZ (own_w hw 27 rfl)) (by decide) (backOf (W := 1) (rm_ch l Z a0 hw [] sa61 vq zc fm sb61 kb61 (5 : Int32) [(.int (102 : Int32)), (.int (97 : Int32)), (.int (108 : Int32)), (.int (115 : Int32)), (.int (101 : Int32))] (([(102 : Int32), (97 : Int32), (108 : Int32), (115 : Int32), (101 : Int32)] : List Int32).getD vq.toNatClampNeg (0 : Int32)) h111 n0 Z111 (O2.ext Od111.2) hz (O4.ext Od111.2) rf (((((((((((((((((((Ea61.ext E67).wr W69).wr W71).wr W73).wr W75).wr W77).wr W79).wr W81).wr W83).wr W85).wr W87).wr W89).wr W91).wr W93).wr W95).wr W97).wr W99).wr W101).wr W111) (Fld.other W111 (Fld.other W101 (Fld.other W99 (Fld.other W97 (Fld.other W95 (Fld.other W93 (Fld.other W91 (Fld.other W89 (Fld.other W87 (Fld.other W85 (Fld.other W83 (Fld.other W81 (Fld.other W79 (Fld.other W77 (Fld.other W75 (Fld.other W73 (Fld.other W71 (Fld.other W69 (Fc61.ext E67) (Or.inl ne_sa61_b67)) (Or.inl ne_sa61_b67)) (Or.inl ne_sa61_b67)) (Or.inl ne_sa61_b67)) (Or.inl ne_sa61_b67)) (Or.inl ne_sa61_b67)) (Or.inl ne_sa61_b67)) (Or.inl ne_sa61_b67)) (Or.inl ne_sa61_b67)) (Or.inl ne_sa61_b67)) (Or.inl ne_sa61_b67)) (Or.inl ne_sa61_b67)) (Or.inl ne_sa61_b67)) (Or.inl ne_sa61_b67)) (Or.inl ne_sa61_b67)) (Or.inl ne_sa61_b67)) (Or.inl ne_sa61_b67)) (Or.inl ne_sa61_b67)) (Fld.other W111 (Fld.other W101 (Fld.other W99 (Fld.other W97 (Fld.other W95 (Fld.other W93 (Fld.other W91 (Fld.other W89 (Fld.other W87 (Fld.other W85 (Fld.other W83 (Fld.other W81 (Fld.other W79 (Fld.other W77 (Fld.other W75 (Fld.other W73 (Fld.other W71 (Fld.other W69 (Fv61.ext E67) (Or.inl ne_sa61_b67)) (Or.inl ne_sa61_b67)) (Or.inl ne_sa61_b67)) (Or.inl ne_sa61_b67)) (Or.inl ne_sa61_b67)) (Or.inl ne_sa61_b67)) (Or.inl ne_sa61_b67)) (Or.inl ne_sa61_b67)) (Or.inl ne_sa61_b67)) (Or.inl ne_sa61_b67)) (Or.inl ne_sa61_b67)) (Or.inl ne_sa61_b67)) (Or.inl ne_sa61_b67)) (Or.inl ne_sa61_b67)) (Or.inl ne_sa61_b67)) (Or.inl ne_sa61_b67)) (Or.inl ne_sa61_b67)) (Or.inl ne_sa61_b67)) (((((((((((((((((((Vb61.ext E67).other W69 ne_sb61_b67).other W71 ne_sb61_b67).other W73 ne_sb61_b67).other W75 ne_sb61_b67).other W77 ne_sb61_b67).other W79 ne_sb61_b67).other W81 ne_sb61_b67).other W83 ne_sb61_b67).other W85 ne_sb61_b67).other W87 ne_sb61_b67).other W89 ne_sb61_b67).other W91 ne_sb61_b67).other W93 ne_sb61_b67).other W95 ne_sb61_b67).other W97 ne_sb61_b67).other W99 ne_sb61_b67).other W101 ne_sb61_b67).other W111 ne_sb61_b67) (own_in5 hQ) (own_getD ([(102 : Int32), (97 : Int32), (108 : Int32), (115 : Int32), (101 : Int32)] : List Int32) _)) hZ (own_w hw 29 rfl) (own_w hw 1 rfl) (by decide) (by decide)) q114a q114c (g := (mkF m 326 #[.val (.int u1), .val (.int u2), .val (.int u3), .val (.long u4), .second, .val (.int u5), .val (.int vf), .val (.ref sa61), .val (.int (5 : Int32)), .val (.int fr), .val (.int vl), .val (.ref b67), .val (.int vm), .val (.int vq), .val (.int (u2.toInt8.toInt32)), .unset] [(.int vq), (.ref sa61), (.int (u2.toInt8.toInt32))])) rfl (by rw [hml]; rfl) (Steps.refl _) (argsL := [(.int vq)]) (rest := [(.int (u2.toInt8.toInt32))]) (lenOf pd_181558 rfl) rfl (by show 2 * 0 + _ ≤ _; exact Nat.le_of_eq rfl) (hb hby at_326) (fun _ _ => ⟨rfl, e111, (by decide : 3 + 0 ≤ _), (by decide : 36 + 0 ≤ _)⟩)
        dsimp only [Pt.U, Pt.locs, Pt.cells, Pt.slots] at X114 l114 y114 z114 st114 hQ114
        replace y114 : k114 = 3 := y114
        replace z114 : n114 = 36 := z114
        subst y114 z114
        obtain ⟨rfl, Nq114, eq114⟩ := hQ114
        have N114 : Fr n0 L114 := by rw [l114]; exact Fr.app N111 Nq114
        have pre115 : ∀ t, Steps p.tables e below (T114.setTop (mkF m 330 #[.val (.int u1), .val (.int u2), .val (.int u3), .val (.long u4), .second, .val (.int u5), .val (.int vf), .val (.ref sa61), .val (.int (5 : Int32)), .val (.int fr), .val (.int vl), .val (.ref b67), .val (.int vm), .val (.int vq), .val (.int (u2.toInt8.toInt32)), .unset] [(.int ((nar .char (nar .char (((([(102 : Int32), (97 : Int32), (108 : Int32), (115 : Int32), (101 : Int32)] : List Int32).getD vq.toNatClampNeg (0 : Int32)) &&& (255 : Int32)).toUInt32.toUInt16.toUInt32.toInt32))).toInt8.toInt32)), (.int (u2.toInt8.toInt32))])) t → Steps p.tables e below (s₁.setTop (entryFrame m #[(.int u1), (.int u2), (.int u3), (.long u4), (.int u5)] maxLocals)) t := by
          intro t k
          refine pre112 t ?_
          show Steps p.tables e below (T111.setTop (mkF m 312 #[.val (.int u1), .val (.int u2), .val (.int u3), .val (.long u4), .second, .val (.int u5), .val (.int vf), .val (.ref sa61), .val (.int (5 : Int32)), .val (.int fr), .val (.int vl), .val (.ref b67), .val (.int vm), .val (.int vq), .val (.int (u2.toInt8.toInt32)), .unset] [(.int (5 : Int32)), (.int vl)])) _
          refine XS.icmpNo X111.here hx rfl (hb hby at_312) rfl hb312 ?_
          show Steps p.tables e below (T111.setTop (mkF m 315 #[.val (.int u1), .val (.int u2), .val (.int u3), .val (.long u4), .second, .val (.int u5), .val (.int vf), .val (.ref sa61), .val (.int (5 : Int32)), .val (.int fr), .val (.int vl), .val (.ref b67), .val (.int vm), .val (.int vq), .val (.int (u2.toInt8.toInt32)), .unset] [])) _
          refine XS.iload X111.here hx rfl (hb hby at_315) rfl ?_
          show Steps p.tables e below (T111.setTop (mkF m 317 #[.val (.int u1), .val (.int u2), .val (.int u3), .val (.long u4), .second, .val (.int u5), .val (.int vf), .val (.ref sa61), .val (.int (5 : Int32)), .val (.int fr), .val (.int vl), .val (.ref b67), .val (.int vm), .val (.int vq), .val (.int (u2.toInt8.toInt32)), .unset] [(.int vm)])) _
          refine XS.ifNo X111.here hx rfl (hb hby at_317) rfl hb295 ?_
          show Steps p.tables e below (T111.setTop (mkF m 320 #[.val (.int u1), .val (.int u2), .val (.int u3), .val (.long u4), .second, .val (.int u5), .val (.int vf), .val (.ref sa61), .val (.int (5 : Int32)), .val (.int fr), .val (.int vl), .val (.ref b67), .val (.int vm), .val (.int vq), .val (.int (u2.toInt8.toInt32)), .unset] [])) _
          refine XS.iload X111.here hx rfl (hb hby at_320) rfl ?_
          show Steps p.tables e below (T111.setTop (mkF m 322 #[.val (.int u1), .val (.int u2), .val (.int u3), .val (.long u4), .second, .val (.int u5), .val (.int vf), .val (.ref sa61), .val (.int (5 : Int32)), .val (.int fr), .val (.int vl), .val (.ref b67), .val (.int vm), .val (.int vq), .val (.int (u2.toInt8.toInt32)), .unset] [(.int (u2.toInt8.toInt32))])) _
          refine XS.aload X111.here hx rfl (hb hby at_322) rfl rfl ?_
          show Steps p.tables e below (T111.setTop (mkF m 324 #[.val (.int u1), .val (.int u2), .val (.int u3), .val (.long u4), .second, .val (.int u5), .val (.int vf), .val (.ref sa61), .val (.int (5 : Int32)), .val (.int fr), .val (.int vl), .val (.ref b67), .val (.int vm), .val (.int vq), .val (.int (u2.toInt8.toInt32)), .unset] [(.ref sa61), (.int (u2.toInt8.toInt32))])) _
          refine XS.iload X111.here hx rfl (hb hby at_324) rfl ?_
          show Steps p.tables e below (T111.setTop (mkF m 326 #[.val (.int u1), .val (.int u2), .val (.int u3), .val (.long u4), .second, .val (.int u5), .val (.int vf), .val (.ref sa61), .val (.int (5 : Int32)), .val (.int fr), .val (.int vl), .val (.ref b67), .val (.int vm), .val (.int vq), .val (.int (u2.toInt8.toInt32)), .unset] [(.int vq), (.ref sa61), (.int (u2.toInt8.toInt32))])) _
          refine st114.trans ?_
          show Steps p.tables e below (T114.setTop (mkF m 329 #[.val (.int u1), .val (.int u2), .val (.int u3), .val (.long u4), .second, .val (.int u5), .val (.int vf), .val (.ref sa61), .val (.int (5 : Int32)), .val (.int fr), .val (.int vl), .val (.ref b67), .val (.int vm), .val (.int vq), .val (.int (u2.toInt8.toInt32)), .unset] [(.int (nar .char (nar .char (((([(102 : Int32), (97 : Int32), (108 : Int32), (115 : Int32), (101 : Int32)] : List Int32).getD vq.toNatClampNeg (0 : Int32)) &&& (255 : Int32)).toUInt32.toUInt16.toUInt32.toInt32)))), (.int (u2.toInt8.toInt32))])) _
          refine XS.i2b X114.here hx rfl (hb hby at_329) rfl ?_
          exact k
        have pre117 : ∀ t, Steps p.tables e below (T114.setTop (mkF m 338 #[.val (.int u1), .val (.int u2), .val (.int u3), .val (.long u4), .second, .val (.int u5), .val (.int vf), .val (.ref sa61), .val (.int (5 : Int32)), .val (.int fr), .val (.int vl), .val (.ref b67), .val (.int vm), .val (.int vq), .val (.int (u2.toInt8.toInt32)), .unset] [(.int (bif (if_icmp.holds .ne (u2.toInt8.toInt32) ((nar .char (nar .char (((([(102 : Int32), (97 : Int32), (108 : Int32), (115 : Int32), (101 : Int32)] : List Int32).getD vq.toNatClampNeg (0 : Int32)) &&& (255 : Int32)).toUInt32.toUInt16.toUInt32.toInt32))).toInt8.toInt32)) then (0 : Int32) else (1 : Int32)))])) t → Steps p.tables e below (s₁.setTop (entryFrame m #[(.int u1), (.int u2), (.int u3), (.long u4), (.int u5)] maxLocals)) t := by
          intro t k
          refine pre115 t ?_
          show Steps p.tables e below (T114.setTop (mkF m 330 #[.val (.int u1), .val (.int u2), .val (.int u3), .val (.long u4), .second, .val (.int u5), .val (.int vf), .val (.ref sa61), .val (.int (5 : Int32)), .val (.int fr), .val (.int vl), .val (.ref b67), .val (.int vm), .val (.int vq), .val (.int (u2.toInt8.toInt32)), .unset] [(.int ((nar .char (nar .char (((([(102 : Int32), (97 : Int32), (108 : Int32), (115 : Int32), (101 : Int32)] : List Int32).getD vq.toNatClampNeg (0 : Int32)) &&& (255 : Int32)).toUInt32.toUInt16.toUInt32.toInt32))).toInt8.toInt32)), (.int (u2.toInt8.toInt32))])) _
          rcases Bool.eq_false_or_eq_true (if_icmp.holds .ne (u2.toInt8.toInt32) ((nar .char (nar .char (((([(102 : Int32), (97 : Int32), (108 : Int32), (115 : Int32), (101 : Int32)] : List Int32).getD vq.toNatClampNeg (0 : Int32)) &&& (255 : Int32)).toUInt32.toUInt16.toUInt32.toInt32))).toInt8.toInt32)) with hb330_116 | hb330_116
          · refine XS.icmpYes X114.here hx rfl (pc0 := 330) (pc' := 337) rfl (hb hby at_330) rfl hb330_116 (by decide) (by decide) ?_
            show Steps p.tables e below (T114.setTop (mkF m 337 #[.val (.int u1), .val (.int u2), .val (.int u3), .val (.long u4), .second, .val (.int u5), .val (.int vf), .val (.ref sa61), .val (.int (5 : Int32)), .val (.int fr), .val (.int vl), .val (.ref b67), .val (.int vm), .val (.int vq), .val (.int (u2.toInt8.toInt32)), .unset] [])) _
            refine XS.iconst X114.here hx rfl (hb hby at_337) ?_
            have k : Steps p.tables e below (T114.setTop (mkF m 338 #[.val (.int u1), .val (.int u2), .val (.int u3), .val (.long u4), .second, .val (.int u5), .val (.int vf), .val (.ref sa61), .val (.int (5 : Int32)), .val (.int fr), .val (.int vl), .val (.ref b67), .val (.int vm), .val (.int vq), .val (.int (u2.toInt8.toInt32)), .unset] [(.int (0 : Int32))])) t := by simpa only [hb330_116, cond_true, cond_false] using k
            exact k
          · refine XS.icmpNo X114.here hx rfl (hb hby at_330) rfl hb330_116 ?_
            show Steps p.tables e below (T114.setTop (mkF m 333 #[.val (.int u1), .val (.int u2), .val (.int u3), .val (.long u4), .second, .val (.int u5), .val (.int vf), .val (.ref sa61), .val (.int (5 : Int32)), .val (.int fr), .val (.int vl), .val (.ref b67), .val (.int vm), .val (.int vq), .val (.int (u2.toInt8.toInt32)), .unset] [])) _
            refine XS.iconst X114.here hx rfl (hb hby at_333) ?_
            show Steps p.tables e below (T114.setTop (mkF m 334 #[.val (.int u1), .val (.int u2), .val (.int u3), .val (.long u4), .second, .val (.int u5), .val (.int vf), .val (.ref sa61), .val (.int (5 : Int32)), .val (.int fr), .val (.int vl), .val (.ref b67), .val (.int vm), .val (.int vq), .val (.int (u2.toInt8.toInt32)), .unset] [(.int (1 : Int32))])) _
            refine XS.goto X114.here hx rfl (pc0 := 334) (pc' := 338) rfl (hb hby at_334) (by decide) (by decide) ?_
            have k : Steps p.tables e below (T114.setTop (mkF m 338 #[.val (.int u1), .val (.int u2), .val (.int u3), .val (.long u4), .second, .val (.int u5), .val (.int vf), .val (.ref sa61), .val (.int (5 : Int32)), .val (.int fr), .val (.int vl), .val (.ref b67), .val (.int vm), .val (.int vq), .val (.int (u2.toInt8.toInt32)), .unset] [(.int (1 : Int32))])) t := by simpa only [hb330_116, cond_true, cond_false] using k
            exact k
        obtain ⟨_, _, ⟨T118, L118, k118, n118⟩, -, X118, ⟨Lc118, hQ118, l118, y118, z118⟩, st118⟩ := Jvm.LawKit.callS X114 hx (y := (⟨"com/example/sabac/sabac/ExpressionLexer", "isKeyword", "([BII)Z"⟩ : MethodName)) hown (mvT hZ (own_w hw 47 rfl)) (mvT hZ (own_w hw 48 rfl)) (mvT hZ (own_w hw 49 rfl)) (mvT hZ (own_w hw 50 rfl)) (by decide) (backOf (W := 0) (rm_kw l Z a0 hw [] b67 fr (fr + vl) k67 xs111 h111 n0 Z111 V111x hF) hZ (own_w hw 50 rfl) (own_w hw 49 rfl) (by decide) (by decide)) (g := (mkF m 349 #[.val (.int u1), .val (.int u2), .val (.int u3), .val (.long u4), .second, .val (.int u5), .val (.int vf), .val (.ref sa61), .val (.int (5 : Int32)), .val (.int fr), .val (.int vl), .val (.ref b67), .val (.int vm), .val (.int vq), .val (.int (u2.toInt8.toInt32)), .val (.int (bif (if_icmp.holds .ne (u2.toInt8.toInt32) ((nar .char (nar .char (((([(102 : Int32), (97 : Int32), (108 : Int32), (115 : Int32), (101 : Int32)] : List Int32).getD vq.toNatClampNeg (0 : Int32)) &&& (255 : Int32)).toUInt32.toUInt16.toUInt32.toInt32))).toInt8.toInt32)) then (0 : Int32) else (1 : Int32)))] [(.int (fr + vl)), (.int fr), (.ref b67)])) rfl (by rw [hml]; rfl) (argsL := [(.ref b67), (.int fr), (.int (fr + vl))]) (rest := []) (lenOf pd_634392 rfl) rfl (by show 2 * 0 + _ ≤ _; exact Nat.le_of_eq rfl) (hb hby at_349) (fun _ _ => ⟨rfl, eq114, (by decide : 3 + 0 ≤ _), (by decide : 36 + 0 ≤ _)⟩)
        dsimp only [Pt.U, Pt.locs, Pt.cells, Pt.slots] at X118 l118 y118 z118 st118 hQ118
        replace y118 : k118 = 3 := y118
        replace z118 : n118 = 36 := z118
        subst y118 z118
        obtain ⟨rfl, Nq118, eq118⟩ := hQ118
        have N118 : Fr n0 L118 := by rw [l118]; exact Fr.app N114 Nq118
        obtain ⟨fs, hr, hrun, hended, hEnd⟩ := Stand.leaveW (s := s) X118 hS61 (by rw [eq118]; exact kk111) (v := some (.int (1 : Int32))) (fun h => by rw [Bd.returns] at h; cases h)
        refine ⟨_, _, pre117 _ ?_, hrun, hended, _, _, rfl, ?_, hEnd.1, hEnd.2.1, hEnd.2.2.1, hEnd.2.2.2.mono (by decide) (by decide)⟩
        · show Steps p.tables e below (T114.setTop (mkF m 338 #[.val (.int u1), .val (.int u2), .val (.int u3), .val (.long u4), .second, .val (.int u5), .val (.int vf), .val (.ref sa61), .val (.int (5 : Int32)), .val (.int fr), .val (.int vl), .val (.ref b67), .val (.int vm), .val (.int vq), .val (.int (u2.toInt8.toInt32)), .unset] [(.int (bif (if_icmp.holds .ne (u2.toInt8.toInt32) ((nar .char (nar .char (((([(102 : Int32), (97 : Int32), (108 : Int32), (115 : Int32), (101 : Int32)] : List Int32).getD vq.toNatClampNeg (0 : Int32)) &&& (255 : Int32)).toUInt32.toUInt16.toUInt32.toInt32))).toInt8.toInt32)) then (0 : Int32) else (1 : Int32)))])) _
          refine XS.istore X114.here hx rfl (hb hby at_338) rfl (l' := #[.val (.int u1), .val (.int u2), .val (.int u3), .val (.long u4), .second, .val (.int u5), .val (.int vf), .val (.ref sa61), .val (.int (5 : Int32)), .val (.int fr), .val (.int vl), .val (.ref b67), .val (.int vm), .val (.int vq), .val (.int (u2.toInt8.toInt32)), .val (.int (bif (if_icmp.holds .ne (u2.toInt8.toInt32) ((nar .char (nar .char (((([(102 : Int32), (97 : Int32), (108 : Int32), (115 : Int32), (101 : Int32)] : List Int32).getD vq.toNatClampNeg (0 : Int32)) &&& (255 : Int32)).toUInt32.toUInt16.toUInt32.toInt32))).toInt8.toInt32)) then (0 : Int32) else (1 : Int32)))]) rfl ?_
          show Steps p.tables e below (T114.setTop (mkF m 340 #[.val (.int u1), .val (.int u2), .val (.int u3), .val (.long u4), .second, .val (.int u5), .val (.int vf), .val (.ref sa61), .val (.int (5 : Int32)), .val (.int fr), .val (.int vl), .val (.ref b67), .val (.int vm), .val (.int vq), .val (.int (u2.toInt8.toInt32)), .val (.int (bif (if_icmp.holds .ne (u2.toInt8.toInt32) ((nar .char (nar .char (((([(102 : Int32), (97 : Int32), (108 : Int32), (115 : Int32), (101 : Int32)] : List Int32).getD vq.toNatClampNeg (0 : Int32)) &&& (255 : Int32)).toUInt32.toUInt16.toUInt32.toInt32))).toInt8.toInt32)) then (0 : Int32) else (1 : Int32)))] [])) _
          refine XS.aload X114.here hx rfl (hb hby at_340) rfl rfl ?_
          show Steps p.tables e below (T114.setTop (mkF m 342 #[.val (.int u1), .val (.int u2), .val (.int u3), .val (.long u4), .second, .val (.int u5), .val (.int vf), .val (.ref sa61), .val (.int (5 : Int32)), .val (.int fr), .val (.int vl), .val (.ref b67), .val (.int vm), .val (.int vq), .val (.int (u2.toInt8.toInt32)), .val (.int (bif (if_icmp.holds .ne (u2.toInt8.toInt32) ((nar .char (nar .char (((([(102 : Int32), (97 : Int32), (108 : Int32), (115 : Int32), (101 : Int32)] : List Int32).getD vq.toNatClampNeg (0 : Int32)) &&& (255 : Int32)).toUInt32.toUInt16.toUInt32.toInt32))).toInt8.toInt32)) then (0 : Int32) else (1 : Int32)))] [(.ref b67)])) _
          refine XS.iload X114.here hx rfl (hb hby at_342) rfl ?_
          show Steps p.tables e below (T114.setTop (mkF m 344 #[.val (.int u1), .val (.int u2), .val (.int u3), .val (.long u4), .second, .val (.int u5), .val (.int vf), .val (.ref sa61), .val (.int (5 : Int32)), .val (.int fr), .val (.int vl), .val (.ref b67), .val (.int vm), .val (.int vq), .val (.int (u2.toInt8.toInt32)), .val (.int (bif (if_icmp.holds .ne (u2.toInt8.toInt32) ((nar .char (nar .char (((([(102 : Int32), (97 : Int32), (108 : Int32), (115 : Int32), (101 : Int32)] : List Int32).getD vq.toNatClampNeg (0 : Int32)) &&& (255 : Int32)).toUInt32.toUInt16.toUInt32.toInt32))).toInt8.toInt32)) then (0 : Int32) else (1 : Int32)))] [(.int fr), (.ref b67)])) _
          refine XS.iload X114.here hx rfl (hb hby at_344) rfl ?_
          show Steps p.tables e below (T114.setTop (mkF m 346 #[.val (.int u1), .val (.int u2), .val (.int u3), .val (.long u4), .second, .val (.int u5), .val (.int vf), .val (.ref sa61), .val (.int (5 : Int32)), .val (.int fr), .val (.int vl), .val (.ref b67), .val (.int vm), .val (.int vq), .val (.int (u2.toInt8.toInt32)), .val (.int (bif (if_icmp.holds .ne (u2.toInt8.toInt32) ((nar .char (nar .char (((([(102 : Int32), (97 : Int32), (108 : Int32), (115 : Int32), (101 : Int32)] : List Int32).getD vq.toNatClampNeg (0 : Int32)) &&& (255 : Int32)).toUInt32.toUInt16.toUInt32.toInt32))).toInt8.toInt32)) then (0 : Int32) else (1 : Int32)))] [(.int fr), (.int fr), (.ref b67)])) _
          refine XS.iload X114.here hx rfl (hb hby at_346) rfl ?_
          show Steps p.tables e below (T114.setTop (mkF m 348 #[.val (.int u1), .val (.int u2), .val (.int u3), .val (.long u4), .second, .val (.int u5), .val (.int vf), .val (.ref sa61), .val (.int (5 : Int32)), .val (.int fr), .val (.int vl), .val (.ref b67), .val (.int vm), .val (.int vq), .val (.int (u2.toInt8.toInt32)), .val (.int (bif (if_icmp.holds .ne (u2.toInt8.toInt32) ((nar .char (nar .char (((([(102 : Int32), (97 : Int32), (108 : Int32), (115 : Int32), (101 : Int32)] : List Int32).getD vq.toNatClampNeg (0 : Int32)) &&& (255 : Int32)).toUInt32.toUInt16.toUInt32.toInt32))).toInt8.toInt32)) then (0 : Int32) else (1 : Int32)))] [(.int vl), (.int fr), (.int fr), (.ref b67)])) _
          refine XS.iadd X114.here hx rfl (hb hby at_348) rfl ?_
          show Steps p.tables e below (T114.setTop (mkF m 349 #[.val (.int u1), .val (.int u2), .val (.int u3), .val (.long u4), .second, .val (.int u5), .val (.int vf), .val (.ref sa61), .val (.int (5 : Int32)), .val (.int fr), .val (.int vl), .val (.ref b67), .val (.int vm), .val (.int vq), .val (.int (u2.toInt8.toInt32)), .val (.int (bif (if_icmp.holds .ne (u2.toInt8.toInt32) ((nar .char (nar .char (((([(102 : Int32), (97 : Int32), (108 : Int32), (115 : Int32), (101 : Int32)] : List Int32).getD vq.toNatClampNeg (0 : Int32)) &&& (255 : Int32)).toUInt32.toUInt16.toUInt32.toInt32))).toInt8.toInt32)) then (0 : Int32) else (1 : Int32)))] [(.int (fr + vl)), (.int fr), (.ref b67)])) _
          refine st118 _ ?_
          show Steps p.tables e below (T118.setTop (mkF m 352 #[.val (.int u1), .val (.int u2), .val (.int u3), .val (.long u4), .second, .val (.int u5), .val (.int vf), .val (.ref sa61), .val (.int (5 : Int32)), .val (.int fr), .val (.int vl), .val (.ref b67), .val (.int vm), .val (.int vq), .val (.int (u2.toInt8.toInt32)), .val (.int (bif (if_icmp.holds .ne (u2.toInt8.toInt32) ((nar .char (nar .char (((([(102 : Int32), (97 : Int32), (108 : Int32), (115 : Int32), (101 : Int32)] : List Int32).getD vq.toNatClampNeg (0 : Int32)) &&& (255 : Int32)).toUInt32.toUInt16.toUInt32.toInt32))).toInt8.toInt32)) then (0 : Int32) else (1 : Int32)))] [(.int (own_kw fr (fr + vl) xs111))])) _
          refine XS.iload X118.here hx rfl (hb hby at_352) rfl ?_
          show Steps p.tables e below (T118.setTop (mkF m 354 #[.val (.int u1), .val (.int u2), .val (.int u3), .val (.long u4), .second, .val (.int u5), .val (.int vf), .val (.ref sa61), .val (.int (5 : Int32)), .val (.int fr), .val (.int vl), .val (.ref b67), .val (.int vm), .val (.int vq), .val (.int (u2.toInt8.toInt32)), .val (.int (bif (if_icmp.holds .ne (u2.toInt8.toInt32) ((nar .char (nar .char (((([(102 : Int32), (97 : Int32), (108 : Int32), (115 : Int32), (101 : Int32)] : List Int32).getD vq.toNatClampNeg (0 : Int32)) &&& (255 : Int32)).toUInt32.toUInt16.toUInt32.toInt32))).toInt8.toInt32)) then (0 : Int32) else (1 : Int32)))] [(.int (bif (if_icmp.holds .ne (u2.toInt8.toInt32) ((nar .char (nar .char (((([(102 : Int32), (97 : Int32), (108 : Int32), (115 : Int32), (101 : Int32)] : List Int32).getD vq.toNatClampNeg (0 : Int32)) &&& (255 : Int32)).toUInt32.toUInt16.toUInt32.toInt32))).toInt8.toInt32)) then (0 : Int32) else (1 : Int32))), (.int (own_kw fr (fr + vl) xs111))])) _
          refine XS.icmpNo X118.here hx rfl (hb hby at_354) rfl (own_C_false hF hQ hx0 hx93 hx95 hx97 hx99 hx101 hx111 hb312) ?_
          show Steps p.tables e below (T118.setTop (mkF m 357 #[.val (.int u1), .val (.int u2), .val (.int u3), .val (.long u4), .second, .val (.int u5), .val (.int vf), .val (.ref sa61), .val (.int (5 : Int32)), .val (.int fr), .val (.int vl), .val (.ref b67), .val (.int vm), .val (.int vq), .val (.int (u2.toInt8.toInt32)), .val (.int (bif (if_icmp.holds .ne (u2.toInt8.toInt32) ((nar .char (nar .char (((([(102 : Int32), (97 : Int32), (108 : Int32), (115 : Int32), (101 : Int32)] : List Int32).getD vq.toNatClampNeg (0 : Int32)) &&& (255 : Int32)).toUInt32.toUInt16.toUInt32.toInt32))).toInt8.toInt32)) then (0 : Int32) else (1 : Int32)))] [])) _
          refine XS.iconst X118.here hx rfl (hb hby at_357) ?_
          show Steps p.tables e below (T118.setTop (mkF m 358 #[.val (.int u1), .val (.int u2), .val (.int u3), .val (.long u4), .second, .val (.int u5), .val (.int vf), .val (.ref sa61), .val (.int (5 : Int32)), .val (.int fr), .val (.int vl), .val (.ref b67), .val (.int vm), .val (.int vq), .val (.int (u2.toInt8.toInt32)), .val (.int (bif (if_icmp.holds .ne (u2.toInt8.toInt32) ((nar .char (nar .char (((([(102 : Int32), (97 : Int32), (108 : Int32), (115 : Int32), (101 : Int32)] : List Int32).getD vq.toNatClampNeg (0 : Int32)) &&& (255 : Int32)).toUInt32.toUInt16.toUInt32.toInt32))).toInt8.toInt32)) then (0 : Int32) else (1 : Int32)))] [(.int (1 : Int32))])) _
          refine XS.goto X118.here hx rfl (pc0 := 358) (pc' := 362) rfl (hb hby at_358) (by decide) (by decide) ?_
          show Steps p.tables e below (T118.setTop (mkF m 362 #[.val (.int u1), .val (.int u2), .val (.int u3), .val (.long u4), .second, .val (.int u5), .val (.int vf), .val (.ref sa61), .val (.int (5 : Int32)), .val (.int fr), .val (.int vl), .val (.ref b67), .val (.int vm), .val (.int vq), .val (.int (u2.toInt8.toInt32)), .val (.int (bif (if_icmp.holds .ne (u2.toInt8.toInt32) ((nar .char (nar .char (((([(102 : Int32), (97 : Int32), (108 : Int32), (115 : Int32), (101 : Int32)] : List Int32).getD vq.toNatClampNeg (0 : Int32)) &&& (255 : Int32)).toUInt32.toUInt16.toUInt32.toInt32))).toInt8.toInt32)) then (0 : Int32) else (1 : Int32)))] [(.int (1 : Int32))])) _
          exact retN X118 hx (t := .boolean) Bd.returns (by simp) (hb hby at_362) hr
        · show Q_rm_law Z _ _ _ _ _ _ _ h0 n0 _ T118.heap _
          rw [eq118]
          exact ⟨rfl, N118⟩
set_option maxRecDepth 65536 in
set_option maxHeartbeats 40000000 in
theorem comes_1 {Post : Tables → Env → Array Value → State → Outcome → State → Prop} (hpost : ∀ tb e args s v u, (limb_1_1.after args s (.returned v) u = true ∧ limb_1_2.after args s (.returned v) u = true ∧ True) → ReturnedEndW s (.returned v) u (Jvm.fieldLocs frame_1_writes args s ++ Jvm.arrayLocs frame_1_arrays args s ++ Jvm.staticLocs frame_1_statics s) 16 2176 → Post tb e args s (.returned v) u) :
    ArmFor flags0 classFile x code maxLocals ret World_1 tables_1 room_1 Calls_1 rest_1 Pre_1 Post := by
  intro l hfl _ _ p e ha hc hk s m args below hf hA hF happ hP
  obtain ⟨hcalls, hrest, hpre⟩ := hP
  obtain ⟨-, -, -, hnamed, -, -, -, hat⟩ := (Spec.applies_iff hf).mp happ
  obtain ⟨hg, hn⟩ := and_e (Cond.before_iff.mp (show (Jvm.Cond.and given_1 narrow_1).before args s = true from hpre))
  obtain ⟨ha0, hb0⟩ := and_e hg
  obtain ⟨ha1, hb1⟩ := and_e hb0
  obtain ⟨ha2, hb2⟩ := and_e hb1
  obtain ⟨ha3, hb3⟩ := and_e hb2
  obtain ⟨ha4, hb4⟩ := and_e hb3
  obtain ⟨w0, w1, w2, w3, w4, rfl⟩ : ∃ w0 w1 w2 w3 w4 : Value, args = #[w0, w1, w2, w3, w4] := by
    have hs : args.size = 5 := by simpa [Cond.value, given_1] using ha0
    obtain ⟨L⟩ := args
    match L, hs with
    | [w0, w1, w2, w3, w4], _ => exact ⟨w0, w1, w2, w3, w4, rfl⟩
  have hw := fun d (hd : d ∈ tables_1) => atoms_spec (ws := Jvm.Cond.code x code maxLocals ret :: tables_1) hat d (List.mem_cons_of_mem _ hd)
  have hfit : Fit s := fun {y c} hc i hi => by
    obtain ⟨ha, rfl⟩ := Array.getElem?_eq_some_iff.mp hc
    have q := List.all_eq_true.mp ((Array.all_eq_true_iff_forall_mem.mp hF) _ (Array.getElem_mem ha)) i (List.mem_range.mpr hi)
    simpa [Array.getElem?_eq_getElem hi] using q
  obtain ⟨hsets, hown0⟩ := atoms_of _ (rest_1_c_eq ▸ (show rest_1_c.before _ s = true from hrest))
  have hr0 := Cond.before_iff.mp hown0
  obtain ⟨i0, ei0⟩ := is_v ha1
  obtain rfl : w0 = (.int i0) := Option.some.inj ei0
  obtain ⟨i1, ei1⟩ := is_v ha2
  obtain rfl : w1 = (.int i1) := Option.some.inj ei1
  obtain ⟨i2, ei2⟩ := is_v ha3
  obtain rfl : w2 = (.int i2) := Option.some.inj ei2
  obtain ⟨i3, ei3⟩ := isL_v ha4
  obtain rfl : w3 = (.long i3) := Option.some.inj ei3
  obtain ⟨i4, ei4⟩ := is_v hb4
  obtain rfl : w4 = (.int i4) := Option.some.inj ei4
  have n5 := not_v (Cond.before_iff.mp (hsets _ (List.mem_of_getElem? (i := 2) rfl)))
  obtain ⟨zc, e10⟩ := is_v (Cond.before_iff.mp (hsets _ (List.mem_of_getElem? (i := 1) rfl)))
  have S12 : Sta s s.heap "java/lang/String" "COMPACT_STRINGS" "Z" (.int zc) := Sta.start e10 (Or.inl (hsets _ (List.mem_of_getElem? (i := 0) rfl)))
  obtain ⟨fm, e14, r15⟩ := isR_v (Cond.before_iff.mp (hsets _ (List.mem_of_getElem? (i := 8) rfl)))
  have S16 : Sta s s.heap "jdk/internal/util/Preconditions" "SIOOBE_FORMATTER" "Ljava/util/function/BiFunction;" fm := Sta.start e14 (Or.inl (hsets _ (List.mem_of_getElem? (i := 7) rfl)))
  have c17 : ¬ (zc = (0 : Int32)) := gotF (Cond.eq_ints e10 (Term.int_eval (0))) n5
  have k7 : Jvm.Lit.constHeld s "com/example/sabac/sabac/ExpressionLexerIsKeywordPinLaw" 7 := hcalls.1 ("com/example/sabac/sabac/ExpressionLexerIsKeywordPinLaw", 7) (by simp [consts_1])
  have k9 : Jvm.Lit.constHeld s "com/example/sabac/sabac/ExpressionLexerIsKeywordPinLaw" 9 := hcalls.1 ("com/example/sabac/sabac/ExpressionLexerIsKeywordPinLaw", 9) (by simp [consts_1])
  obtain ⟨n, o, h1, h2, h3, _, L, rfl, ⟨rfl, N⟩, hq⟩ := rm_law l s _ hw tables_1 i0 i1 i2 i3 i4 zc fm s.heap s.heap.size (Nat.le_refl _) rfl S12 c17 S16 r15 (Old.start s) k7 k9 (hsets _ (List.mem_of_getElem? (i := 2) rfl)) p e ha hc hk s m _ below hf ((Spec.applies_iff_loose hf).mp happ).1 ⟨rfl, rfl⟩ trivial
  refine ⟨n, _, h1, h2, h3, hpost _ _ _ _ _ _ ⟨Cond.after_iff.mpr rfl, Cond.after_iff.mpr (eq_i res_at (Term.int_eval (1)) rfl), trivial⟩ ⟨hq.1, hq.2.1, hq.2.2.1, (hq.2.2.2.sift fun y hy => Or.inr (N y hy)).mono (by decide) (by decide)⟩⟩
theorem main_1_1 : Claimed_1_1 := comes_1 fun _ _ _ _ _ _ h hF => ⟨h.1, hF⟩
theorem main_1_2 : Claimed_1_2 := comes_1 fun _ _ _ _ _ _ h hF => ⟨h.2.1, hF⟩
end Jvm.Pilot.@@N@@
namespace Jvm.Pilot.@@N@@
open Jvm Jvm.ClassFile Sem Op Lib Jvm.Free Jvm.Stand Jvm.Pilot.@@N@@.Jvm.D
/-! MADE BY PROGRAM (witnessworld.py) out of the Statement's table words and the real class files: 17 classes; the members and pool entries that the words name. The judged class is class 1, her method 2. -/
namespace start1
open Jvm.ClassFile
def u (s : String) : CpInfo := .utf8 (stringToUtf16 s)
/-- a pool by its gaps: so many unusable entries, then the entry; so many at the end -/
def gap : Nat → List CpInfo → List CpInfo
  | 0, r => r
  | n + 1, r => .unusable :: gap n r
def poolList (es : List (Nat × CpInfo)) (last : Nat) : List CpInfo := es.foldr (fun e r => gap e.1 (e.2 :: r)) (gap last [])
def pool (es : List (Nat × CpInfo)) (last : Nat) : Array CpInfo := ⟨poolList es last⟩
def fileOf (pool : Array CpInfo) (this : Nat) (attrs : Array Attribute := #[]) (ms : Array MethodInfo := #[]) (fl : Nat := 33) (sup : Nat := 0) (ifs : Array Nat := #[]) (fds : Array FieldInfo := #[]) : ClassFile where
  minorVersion := 0
  majorVersion := 65
  constantPool := pool
  accessFlags := fl
  thisClass := this
  superClass := sup
  interfaces := ifs
  fields := fds
  methods := ms
  attributes := attrs
def plain (name : String) (sup : Option ClassId) : Class where
  name := name
  kind := .ordinary
  loader := none
  accessFlags := 33
  super := sup
  interfaces := #[]
  cf := none
  fields := #[]
  methods := #[]
  instanceTypes := #[]
  staticTypes := #[]
  resolved := #[]
  callSites := []
  init := .initialized
  statics := none
  mirror := none

def pool0 : Array CpInfo := pool [(5, u "<init>"), (0, u "()V"), (1, .class_ 10), (1, u "java/lang/Object")] 113

def k0m0 : Method := { name := "<init>", desc := "()V", sig := { parameters := [], returnType := none }, accessFlags := 1, code := none }
/-- java/lang/Object -/
def k0 : Class := { plain "java/lang/Object" none with
  accessFlags := 33
  interfaces := #[]
  cf := some (fileOf pool0 8 #[] #[{ accessFlags := 1, nameIndex := 5, descriptorIndex := 6, attributes := #[] }] 33 0 #[] #[])
  fields := #[]
  methods := #[k0m0]
  instanceTypes := #[]
  staticTypes := #[]
  resolved := Array.replicate 124 none
  statics := none }

def pool1 : Array CpInfo := pool [(2, .class_ 4), (1, u "java/lang/Object"), (0, u "<init>"), (0, u "()V"), (0, .string 8), (0, u "false"), (0, .string 10), (0, u "true"), (0, .methodref 12 13), (0, .class_ 14), (0, .nameAndType 15 16), (0, u "java/lang/String"), (0, u "length"), (0, u "()I"), (0, .methodref 18 19), (0, .class_ 20), (0, .nameAndType 21 22), (0, u "com/example/sabac/sabac/ExpressionLexerIsKeywordPinLaw"), (0, u "at"), (0, u "(JI)B"), (0, .methodref 12 24), (0, .nameAndType 25 26), (0, u "charAt"), (0, u "(I)C"), (0, .methodref 28 29), (0, .class_ 30), (0, .nameAndType 31 32), (0, u "com/example/sabac/sabac/ExpressionLexer"), (0, u "isKeyword"), (0, u "([BII)Z"), (2, u "law"), (0, u "(IIIJI)Z")] 5

def k1m0 : Method := { name := "<init>", desc := "()V", sig := { parameters := [], returnType := none }, accessFlags := 1, code := none }
def k1c1 : Code := { maxStack := 4, maxLocals := 3, code := method_2_code, exceptionTable := #[], attributes := #[] }
def k1m1 : Method := { name := "at", desc := "(JI)B", sig := { parameters := [.long, .int], returnType := some .byte }, accessFlags := 10, code := some k1c1 }
def k1c2 : Code := { maxStack := 5, maxLocals := 16, code := code, exceptionTable := #[], attributes := #[] }
def k1m2 : Method := { name := "law", desc := "(IIIJI)Z", sig := { parameters := [.int, .int, .int, .long, .int], returnType := some .boolean }, accessFlags := 9, code := some k1c2 }
/-- com/example/sabac/sabac/ExpressionLexerIsKeywordPinLaw -/
def k1 : Class := { plain "com/example/sabac/sabac/ExpressionLexerIsKeywordPinLaw" (some 0) with
  accessFlags := 49
  interfaces := #[]
  cf := some (fileOf pool1 18 #[] #[{ accessFlags := 1, nameIndex := 5, descriptorIndex := 6, attributes := #[] }, { accessFlags := 10, nameIndex := 21, descriptorIndex := 22, attributes := #[] }, { accessFlags := 9, nameIndex := 35, descriptorIndex := 36, attributes := #[] }] 49 2 #[] #[])
  fields := #[]
  methods := #[k1m0, k1m1, k1m2]
  instanceTypes := #[]
  staticTypes := #[]
  resolved := Array.replicate 42 none
  statics := none }

def pool2 : Array CpInfo := pool [(1, .class_ 2), (0, u "java/io/Serializable"), (0, .class_ 4), (0, u "java/lang/Object")] 2

/-- java/io/Serializable -/
def k2 : Class := { plain "java/io/Serializable" (some 0) with
  accessFlags := 1537
  interfaces := #[]
  cf := some (fileOf pool2 1 #[] #[] 1537 3 #[] #[])
  fields := #[]
  methods := #[]
  instanceTypes := #[]
  staticTypes := #[]
  resolved := Array.replicate 7 none
  statics := none }

def pool3 : Array CpInfo := pool [(1, .class_ 2), (0, u "java/lang/Comparable"), (0, .class_ 4), (0, u "java/lang/Object")] 7

/-- java/lang/Comparable -/
def k3 : Class := { plain "java/lang/Comparable" (some 0) with
  accessFlags := 1537
  interfaces := #[]
  cf := some (fileOf pool3 1 #[] #[] 1537 3 #[] #[])
  fields := #[]
  methods := #[]
  instanceTypes := #[]
  staticTypes := #[]
  resolved := Array.replicate 12 none
  statics := none }

def pool4 : Array CpInfo := pool [(2, .class_ 4), (1, u "java/lang/CharSequence"), (42, .class_ 48), (0, u "java/lang/CharSequence$1CodePointIterator"), (10, .class_ 60), (0, u "java/lang/CharSequence$1CharIterator"), (5, .class_ 67), (0, u "java/lang/Object")] 63

/-- java/lang/CharSequence -/
def k4 : Class := { plain "java/lang/CharSequence" (some 0) with
  accessFlags := 1537
  interfaces := #[]
  cf := some (fileOf pool4 2 #[.nestMembers #[47, 59]] #[] 1537 66 #[] #[])
  fields := #[]
  methods := #[]
  instanceTypes := #[]
  staticTypes := #[]
  resolved := Array.replicate 131 none
  statics := none }

def pool5 : Array CpInfo := pool [(1, .class_ 2), (0, u "java/lang/constant/Constable"), (0, .class_ 4), (0, u "java/lang/Object")] 6

/-- java/lang/constant/Constable -/
def k5 : Class := { plain "java/lang/constant/Constable" (some 0) with
  accessFlags := 1537
  interfaces := #[]
  cf := some (fileOf pool5 1 #[] #[] 1537 3 #[] #[])
  fields := #[]
  methods := #[]
  instanceTypes := #[]
  staticTypes := #[]
  resolved := Array.replicate 11 none
  statics := none }

def pool6 : Array CpInfo := pool [(1, .class_ 2), (0, u "java/lang/constant/ConstantDesc"), (0, .class_ 4), (0, u "java/lang/Object")] 32

/-- java/lang/constant/ConstantDesc -/
def k6 : Class := { plain "java/lang/constant/ConstantDesc" (some 0) with
  accessFlags := 1537
  interfaces := #[]
  cf := some (fileOf pool6 1 #[] #[] 1537 3 #[] #[])
  fields := #[]
  methods := #[]
  instanceTypes := #[]
  staticTypes := #[]
  resolved := Array.replicate 37 none
  statics := none }

def pool7 : Array CpInfo := pool [(2, .class_ 4), (1, u "java/lang/Object"), (0, u "<init>"), (0, u "()V"), (2, .fieldref 10 11), (0, .class_ 12), (0, .nameAndType 13 14), (0, u "java/lang/String"), (0, u "value"), (0, u "[B"), (0, .fieldref 10 16), (0, .nameAndType 17 18), (0, u "coder"), (0, u "B"), (2, u "hash"), (0, u "I"), (2, u "hashIsZero"), (0, u "Z"), (11, .fieldref 10 39), (0, .nameAndType 40 26), (0, u "COMPACT_STRINGS"), (66, .class_ 109), (1, u "java/lang/StringLatin1"), (32, u "()Z"), (191, u "()I"), (0, .methodref 10 336), (0, .nameAndType 17 337), (0, u "()B"), (25, u "([BI)C"), (27, u "(II)V"), (35, u "(I)C"), (64, .methodref 10 493), (0, .nameAndType 494 142), (0, u "isLatin1"), (0, .methodref 107 496), (0, .nameAndType 497 363), (0, u "charAt"), (3, u "checkIndex"), (5, u "length"), (67, .class_ 576), (0, u "java/lang/CharSequence"), (22, u "CASE_INSENSITIVE_ORDER"), (0, u "Ljava/util/Comparator;"), (452, .fieldref 1054 1055), (0, .class_ 1056), (0, .nameAndType 1057 1058), (0, u "jdk/internal/util/Preconditions"), (0, u "SIOOBE_FORMATTER"), (0, u "Ljava/util/function/BiFunction;"), (0, .methodref 1054 1060), (0, .nameAndType 501 1061), (0, u "(IILjava/util/function/BiFunction;)I"), (39, u "serialPersistentFields"), (0, u "[Ljava/io/ObjectStreamField;"), (0, .class_ 1104), (0, u "java/lang/String$CaseInsensitiveComparator"), (1, .class_ 1107), (0, u "java/io/Serializable"), (0, .class_ 1109), (0, u "java/lang/Comparable"), (0, .class_ 1111), (0, u "java/lang/constant/Constable"), (0, .class_ 1113), (0, u "java/lang/constant/ConstantDesc"), (2, u "serialVersionUID"), (0, u "J"), (3, u "REPL"), (0, u "C"), (2, u "LATIN1"), (1, u "UTF16")] 323

def k7m0 : Method := { name := "<init>", desc := "()V", sig := { parameters := [], returnType := none }, accessFlags := 1, code := none }
def k7c1 : Code := { maxStack := 2, maxLocals := 1, code := jdk_42_method_54_code, exceptionTable := #[], attributes := #[] }
def k7m1 : Method := { name := "length", desc := "()I", sig := { parameters := [], returnType := some .int }, accessFlags := 1, code := some k7c1 }
def k7c2 : Code := { maxStack := 2, maxLocals := 2, code := jdk_42_method_56_code, exceptionTable := #[], attributes := #[] }
def k7m2 : Method := { name := "charAt", desc := "(I)C", sig := { parameters := [.int], returnType := some .char }, accessFlags := 1, code := some k7c2 }
def k7c3 : Code := { maxStack := 1, maxLocals := 1, code := jdk_42_method_152_code, exceptionTable := #[], attributes := #[] }
def k7m3 : Method := { name := "coder", desc := "()B", sig := { parameters := [], returnType := some .byte }, accessFlags := 0, code := some k7c3 }
def k7c4 : Code := { maxStack := 1, maxLocals := 1, code := jdk_42_method_154_code, exceptionTable := #[], attributes := #[] }
def k7m4 : Method := { name := "isLatin1", desc := "()Z", sig := { parameters := [], returnType := some .boolean }, accessFlags := 0, code := some k7c4 }
def k7c5 : Code := { maxStack := 3, maxLocals := 2, code := jdk_42_method_155_code, exceptionTable := #[], attributes := #[] }
def k7m5 : Method := { name := "checkIndex", desc := "(II)V", sig := { parameters := [.int, .int], returnType := none }, accessFlags := 8, code := some k7c5 }
/-- java/lang/String -/
def k7 : Class := { plain "java/lang/String" (some 0) with
  accessFlags := 49
  interfaces := #[2, 3, 4, 5, 6]
  cf := some (fileOf pool7 10 #[.nestMembers #[1103]] #[{ accessFlags := 1, nameIndex := 5, descriptorIndex := 6, attributes := #[] }, { accessFlags := 1, nameIndex := 507, descriptorIndex := 334, attributes := #[] }, { accessFlags := 1, nameIndex := 497, descriptorIndex := 427, attributes := #[] }, { accessFlags := 0, nameIndex := 17, descriptorIndex := 337, attributes := #[] }, { accessFlags := 0, nameIndex := 494, descriptorIndex := 142, attributes := #[] }, { accessFlags := 8, nameIndex := 501, descriptorIndex := 391, attributes := #[] }] 49 2 #[1106, 1108, 575, 1110, 1112] #[{ accessFlags := 18, nameIndex := 13, descriptorIndex := 14, attributes := #[] }, { accessFlags := 18, nameIndex := 17, descriptorIndex := 18, attributes := #[] }, { accessFlags := 2, nameIndex := 21, descriptorIndex := 22, attributes := #[] }, { accessFlags := 2, nameIndex := 25, descriptorIndex := 26, attributes := #[] }, { accessFlags := 26, nameIndex := 1116, descriptorIndex := 1117, attributes := #[] }, { accessFlags := 24, nameIndex := 40, descriptorIndex := 26, attributes := #[] }, { accessFlags := 26, nameIndex := 1101, descriptorIndex := 1102, attributes := #[] }, { accessFlags := 26, nameIndex := 1121, descriptorIndex := 1122, attributes := #[] }, { accessFlags := 25, nameIndex := 599, descriptorIndex := 600, attributes := #[] }, { accessFlags := 24, nameIndex := 1125, descriptorIndex := 18, attributes := #[] }, { accessFlags := 24, nameIndex := 1127, descriptorIndex := 18, attributes := #[] }])
  fields := #[{ name := "value", type := (.array .byte), accessFlags := 18, slot := 0, constantValue := 0 }, { name := "coder", type := .byte, accessFlags := 18, slot := 1, constantValue := 0 }, { name := "hash", type := .int, accessFlags := 2, slot := 2, constantValue := 0 }, { name := "hashIsZero", type := .boolean, accessFlags := 2, slot := 3, constantValue := 0 }, { name := "serialVersionUID", type := .long, accessFlags := 26, slot := 0, constantValue := 0 }, { name := "COMPACT_STRINGS", type := .boolean, accessFlags := 24, slot := 1, constantValue := 0 }, { name := "serialPersistentFields", type := (.array (.object "java/io/ObjectStreamField")), accessFlags := 26, slot := 2, constantValue := 0 }, { name := "REPL", type := .char, accessFlags := 26, slot := 3, constantValue := 0 }, { name := "CASE_INSENSITIVE_ORDER", type := (.object "java/util/Comparator"), accessFlags := 25, slot := 4, constantValue := 0 }, { name := "LATIN1", type := .byte, accessFlags := 24, slot := 5, constantValue := 0 }, { name := "UTF16", type := .byte, accessFlags := 24, slot := 6, constantValue := 0 }]
  methods := #[k7m0, k7m1, k7m2, k7m3, k7m4, k7m5]
  instanceTypes := #[(.array .byte), .byte, .int, .boolean]
  staticTypes := #[.long, .boolean, (.array (.object "java/io/ObjectStreamField")), .char, (.object "java/util/Comparator"), .byte, .byte]
  resolved := Array.replicate 1451 none
  statics := some 0 }

def pool8 : Array CpInfo := pool [(1, .class_ 2), (0, u "java/lang/String"), (1, .class_ 6), (1, u "java/lang/Object"), (0, u "<init>"), (0, u "()V"), (0, .methodref 1 10), (0, .nameAndType 11 12), (0, u "checkIndex"), (0, u "(II)V"), (1, .class_ 16), (1, u "java/lang/StringLatin1"), (36, u "([BI)C"), (67, u "$assertionsDisabled"), (0, u "Z"), (98, .class_ 223), (1, u "java/lang/StringLatin1$LinesSpliterator"), (28, u "charAt"), (137, .class_ 391), (0, u "java/lang/StringLatin1$CharsSpliterator")] 3

def k8m0 : Method := { name := "<init>", desc := "()V", sig := { parameters := [], returnType := none }, accessFlags := 0, code := none }
def k8c1 : Code := { maxStack := 2, maxLocals := 2, code := jdk_43_method_2_code, exceptionTable := #[], attributes := #[] }
def k8m1 : Method := { name := "charAt", desc := "([BI)C", sig := { parameters := [(.array .byte), .int], returnType := some .char }, accessFlags := 9, code := some k8c1 }
/-- java/lang/StringLatin1 -/
def k8 : Class := { plain "java/lang/StringLatin1" (some 0) with
  accessFlags := 48
  interfaces := #[]
  cf := some (fileOf pool8 14 #[.nestMembers #[390, 221]] #[{ accessFlags := 0, nameIndex := 7, descriptorIndex := 8, attributes := #[] }, { accessFlags := 9, nameIndex := 252, descriptorIndex := 53, attributes := #[] }] 48 4 #[] #[{ accessFlags := 4120, nameIndex := 121, descriptorIndex := 122, attributes := #[] }])
  fields := #[{ name := "$assertionsDisabled", type := .boolean, accessFlags := 4120, slot := 0, constantValue := 0 }]
  methods := #[k8m0, k8m1]
  instanceTypes := #[]
  staticTypes := #[.boolean]
  resolved := Array.replicate 395 none
  statics := none }

def pool9 : Array CpInfo := pool [(2, .class_ 4), (1, u "java/lang/Object"), (0, u "<init>"), (0, u "()V"), (17, .class_ 26), (1, u "jdk/internal/util/Preconditions"), (6, u "checkIndex"), (21, .class_ 56), (0, u "jdk/internal/util/Preconditions$4"), (57, .class_ 115), (0, u "jdk/internal/util/Preconditions$1"), (7, u "SIOOBE_FORMATTER"), (0, u "Ljava/util/function/BiFunction;"), (0, .class_ 126), (0, u "jdk/internal/util/Preconditions$2"), (3, u "AIOOBE_FORMATTER"), (0, .class_ 132), (0, u "jdk/internal/util/Preconditions$3"), (3, u "IOOBE_FORMATTER"), (41, u "(IILjava/util/function/BiFunction;)I")] 15

def k9m0 : Method := { name := "<init>", desc := "()V", sig := { parameters := [], returnType := none }, accessFlags := 1, code := none }
def k9c1 : Code := { maxStack := 3, maxLocals := 3, code := jdk_41_method_11_code, exceptionTable := #[], attributes := #[] }
def k9m1 : Method := { name := "checkIndex", desc := "(IILjava/util/function/BiFunction;)I", sig := { parameters := [.int, .int, (.object "java/util/function/BiFunction")], returnType := some .int }, accessFlags := 9, code := some k9c1 }
/-- jdk/internal/util/Preconditions -/
def k9 : Class := { plain "jdk/internal/util/Preconditions" (some 0) with
  accessFlags := 33
  interfaces := #[]
  cf := some (fileOf pool9 24 #[.nestMembers #[55, 131, 125, 114]] #[{ accessFlags := 1, nameIndex := 5, descriptorIndex := 6, attributes := #[] }, { accessFlags := 9, nameIndex := 33, descriptorIndex := 178, attributes := #[] }] 33 2 #[] #[{ accessFlags := 25, nameIndex := 123, descriptorIndex := 124, attributes := #[] }, { accessFlags := 25, nameIndex := 130, descriptorIndex := 124, attributes := #[] }, { accessFlags := 25, nameIndex := 136, descriptorIndex := 124, attributes := #[] }])
  fields := #[{ name := "SIOOBE_FORMATTER", type := (.object "java/util/function/BiFunction"), accessFlags := 25, slot := 0, constantValue := 0 }, { name := "AIOOBE_FORMATTER", type := (.object "java/util/function/BiFunction"), accessFlags := 25, slot := 1, constantValue := 0 }, { name := "IOOBE_FORMATTER", type := (.object "java/util/function/BiFunction"), accessFlags := 25, slot := 2, constantValue := 0 }]
  methods := #[k9m0, k9m1]
  instanceTypes := #[]
  staticTypes := #[(.object "java/util/function/BiFunction"), (.object "java/util/function/BiFunction"), (.object "java/util/function/BiFunction")]
  resolved := Array.replicate 194 none
  statics := some 1 }

def pool10 : Array CpInfo := pool [(2, .class_ 4), (1, u "com/example/sabac/sabac/ExpressionLexer"), (3, .class_ 10), (1, u "java/lang/Object"), (3, u "decodedStart"), (0, u "I"), (8, u "bytes"), (0, u "[B"), (2, u "origin"), (2, u "end"), (2, u "readable"), (0, u "Z"), (2, u "countedTo"), (8, u "position"), (13, u "next"), (12, u "ASCII_WORD_EDGE"), (0, u "[Z"), (10, u "kind"), (56, u "KINDS"), (0, u "[Lcom/example/sabac/sabac/Lexeme$Kind;"), (4, u "start"), (6, u "STRING"), (2, u "unitEnd"), (21, u "decoded"), (0, u "Ljava/lang/String;"), (39, u "ASCII_WORD_INNER"), (44, u "isKeyword"), (0, u "([BII)Z"), (80, u "countedChars"), (34, u "BARE_ATTRIBUTE_VALUE"), (3, u "ASCII_LIMIT"), (1, u "SURROGATE_LEAD"), (0, u "B"), (1, u "END_OF_TEXT")] 56

def k10c0 : Code := { maxStack := 3, maxLocals := 5, code := prog_7_method_25_code, exceptionTable := #[], attributes := #[] }
def k10m0 : Method := { name := "isKeyword", desc := "([BII)Z", sig := { parameters := [(.array .byte), .int, .int], returnType := some .boolean }, accessFlags := 8, code := some k10c0 }
/-- com/example/sabac/sabac/ExpressionLexer -/
def k10 : Class := { plain "com/example/sabac/sabac/ExpressionLexer" (some 0) with
  accessFlags := 32
  interfaces := #[]
  cf := some (fileOf pool10 2 #[] #[{ accessFlags := 8, nameIndex := 267, descriptorIndex := 268, attributes := #[] }] 32 8 #[] #[{ accessFlags := 24, nameIndex := 384, descriptorIndex := 182, attributes := #[] }, { accessFlags := 26, nameIndex := 388, descriptorIndex := 15, attributes := #[] }, { accessFlags := 26, nameIndex := 74, descriptorIndex := 75, attributes := #[] }, { accessFlags := 26, nameIndex := 222, descriptorIndex := 75, attributes := #[] }, { accessFlags := 26, nameIndex := 390, descriptorIndex := 391, attributes := #[] }, { accessFlags := 26, nameIndex := 143, descriptorIndex := 144, attributes := #[] }, { accessFlags := 26, nameIndex := 156, descriptorIndex := 15, attributes := #[] }, { accessFlags := 26, nameIndex := 393, descriptorIndex := 15, attributes := #[] }, { accessFlags := 18, nameIndex := 24, descriptorIndex := 25, attributes := #[] }, { accessFlags := 18, nameIndex := 28, descriptorIndex := 15, attributes := #[] }, { accessFlags := 18, nameIndex := 31, descriptorIndex := 15, attributes := #[] }, { accessFlags := 2, nameIndex := 47, descriptorIndex := 15, attributes := #[] }, { accessFlags := 2, nameIndex := 86, descriptorIndex := 15, attributes := #[] }, { accessFlags := 2, nameIndex := 61, descriptorIndex := 15, attributes := #[] }, { accessFlags := 2, nameIndex := 149, descriptorIndex := 15, attributes := #[] }, { accessFlags := 2, nameIndex := 159, descriptorIndex := 15, attributes := #[] }, { accessFlags := 2, nameIndex := 181, descriptorIndex := 182, attributes := #[] }, { accessFlags := 2, nameIndex := 14, descriptorIndex := 15, attributes := #[] }, { accessFlags := 2, nameIndex := 34, descriptorIndex := 35, attributes := #[] }, { accessFlags := 2, nameIndex := 38, descriptorIndex := 15, attributes := #[] }, { accessFlags := 2, nameIndex := 349, descriptorIndex := 15, attributes := #[] }])
  fields := #[{ name := "BARE_ATTRIBUTE_VALUE", type := (.object "java/lang/String"), accessFlags := 24, slot := 0, constantValue := 0 }, { name := "ASCII_LIMIT", type := .int, accessFlags := 26, slot := 1, constantValue := 0 }, { name := "ASCII_WORD_EDGE", type := (.array .boolean), accessFlags := 26, slot := 2, constantValue := 0 }, { name := "ASCII_WORD_INNER", type := (.array .boolean), accessFlags := 26, slot := 3, constantValue := 0 }, { name := "SURROGATE_LEAD", type := .byte, accessFlags := 26, slot := 4, constantValue := 0 }, { name := "KINDS", type := (.array (.object "com/example/sabac/sabac/Lexeme$Kind")), accessFlags := 26, slot := 5, constantValue := 0 }, { name := "STRING", type := .int, accessFlags := 26, slot := 6, constantValue := 0 }, { name := "END_OF_TEXT", type := .int, accessFlags := 26, slot := 7, constantValue := 0 }, { name := "bytes", type := (.array .byte), accessFlags := 18, slot := 0, constantValue := 0 }, { name := "origin", type := .int, accessFlags := 18, slot := 1, constantValue := 0 }, { name := "end", type := .int, accessFlags := 18, slot := 2, constantValue := 0 }, { name := "position", type := .int, accessFlags := 2, slot := 3, constantValue := 0 }, { name := "kind", type := .int, accessFlags := 2, slot := 4, constantValue := 0 }, { name := "next", type := .int, accessFlags := 2, slot := 5, constantValue := 0 }, { name := "start", type := .int, accessFlags := 2, slot := 6, constantValue := 0 }, { name := "unitEnd", type := .int, accessFlags := 2, slot := 7, constantValue := 0 }, { name := "decoded", type := (.object "java/lang/String"), accessFlags := 2, slot := 8, constantValue := 0 }, { name := "decodedStart", type := .int, accessFlags := 2, slot := 9, constantValue := 0 }, { name := "readable", type := .boolean, accessFlags := 2, slot := 10, constantValue := 0 }, { name := "countedTo", type := .int, accessFlags := 2, slot := 11, constantValue := 0 }, { name := "countedChars", type := .int, accessFlags := 2, slot := 12, constantValue := 0 }]
  methods := #[k10m0]
  instanceTypes := #[(.array .byte), .int, .int, .int, .int, .int, .int, .int, (.object "java/lang/String"), .int, .boolean, .int, .int]
  staticTypes := #[(.object "java/lang/String"), .int, (.array .boolean), (.array .boolean), .byte, (.array (.object "com/example/sabac/sabac/Lexeme$Kind")), .int, .int]
  resolved := Array.replicate 450 none
  statics := none }

def pool11 : Array CpInfo := pool [(9, u "<init>"), (6, .class_ 18), (1, u "java/lang/Object"), (0, u "()V"), (1, .class_ 23), (1, u "jdk/internal/util/ArraysSupport"), (0, u "LOG2_ARRAY_LONG_INDEX_SCALE"), (0, u "I"), (2, u "U"), (0, u "Ljdk/internal/misc/Unsafe;"), (8, u "BIG_ENDIAN"), (0, u "Z"), (8, u "LOG2_BYTE_BIT_SIZE"), (4, u "LOG2_ARRAY_INT_INDEX_SCALE"), (54, u "JLA"), (0, u "Ljdk/internal/access/JavaLangAccess;"), (11, u "LOG2_ARRAY_BOOLEAN_INDEX_SCALE"), (9, u "LOG2_ARRAY_BYTE_INDEX_SCALE"), (5, u "LOG2_ARRAY_CHAR_INDEX_SCALE"), (5, u "LOG2_ARRAY_SHORT_INDEX_SCALE"), (18, u "LOG2_ARRAY_FLOAT_INDEX_SCALE"), (24, u "LOG2_ARRAY_DOUBLE_INDEX_SCALE"), (89, u "T_BOOLEAN"), (2, u "T_CHAR"), (1, u "T_FLOAT"), (1, u "T_DOUBLE"), (1, u "T_BYTE"), (1, u "T_SHORT"), (1, u "T_INT"), (1, u "T_LONG"), (1, u "SOFT_MAX_ARRAY_LENGTH")] 83

def k11m0 : Method := { name := "<init>", desc := "()V", sig := { parameters := [], returnType := none }, accessFlags := 2, code := none }
/-- jdk/internal/util/ArraysSupport -/
def k11 : Class := { plain "jdk/internal/util/ArraysSupport" (some 0) with
  accessFlags := 33
  interfaces := #[]
  cf := some (fileOf pool11 21 #[] #[{ accessFlags := 2, nameIndex := 9, descriptorIndex := 19, attributes := #[] }] 33 16 #[] #[{ accessFlags := 24, nameIndex := 28, descriptorIndex := 29, attributes := #[] }, { accessFlags := 26, nameIndex := 38, descriptorIndex := 39, attributes := #[] }, { accessFlags := 25, nameIndex := 121, descriptorIndex := 25, attributes := #[] }, { accessFlags := 25, nameIndex := 131, descriptorIndex := 25, attributes := #[] }, { accessFlags := 25, nameIndex := 137, descriptorIndex := 25, attributes := #[] }, { accessFlags := 25, nameIndex := 143, descriptorIndex := 25, attributes := #[] }, { accessFlags := 25, nameIndex := 53, descriptorIndex := 25, attributes := #[] }, { accessFlags := 25, nameIndex := 24, descriptorIndex := 25, attributes := #[] }, { accessFlags := 25, nameIndex := 162, descriptorIndex := 25, attributes := #[] }, { accessFlags := 25, nameIndex := 187, descriptorIndex := 25, attributes := #[] }, { accessFlags := 26, nameIndex := 48, descriptorIndex := 25, attributes := #[] }, { accessFlags := 25, nameIndex := 277, descriptorIndex := 25, attributes := #[] }, { accessFlags := 25, nameIndex := 280, descriptorIndex := 25, attributes := #[] }, { accessFlags := 25, nameIndex := 282, descriptorIndex := 25, attributes := #[] }, { accessFlags := 25, nameIndex := 284, descriptorIndex := 25, attributes := #[] }, { accessFlags := 25, nameIndex := 286, descriptorIndex := 25, attributes := #[] }, { accessFlags := 25, nameIndex := 288, descriptorIndex := 25, attributes := #[] }, { accessFlags := 25, nameIndex := 290, descriptorIndex := 25, attributes := #[] }, { accessFlags := 25, nameIndex := 292, descriptorIndex := 25, attributes := #[] }, { accessFlags := 26, nameIndex := 108, descriptorIndex := 109, attributes := #[] }, { accessFlags := 25, nameIndex := 294, descriptorIndex := 25, attributes := #[] }])
  fields := #[{ name := "U", type := (.object "jdk/internal/misc/Unsafe"), accessFlags := 24, slot := 0, constantValue := 0 }, { name := "BIG_ENDIAN", type := .boolean, accessFlags := 26, slot := 1, constantValue := 0 }, { name := "LOG2_ARRAY_BOOLEAN_INDEX_SCALE", type := .int, accessFlags := 25, slot := 2, constantValue := 0 }, { name := "LOG2_ARRAY_BYTE_INDEX_SCALE", type := .int, accessFlags := 25, slot := 3, constantValue := 0 }, { name := "LOG2_ARRAY_CHAR_INDEX_SCALE", type := .int, accessFlags := 25, slot := 4, constantValue := 0 }, { name := "LOG2_ARRAY_SHORT_INDEX_SCALE", type := .int, accessFlags := 25, slot := 5, constantValue := 0 }, { name := "LOG2_ARRAY_INT_INDEX_SCALE", type := .int, accessFlags := 25, slot := 6, constantValue := 0 }, { name := "LOG2_ARRAY_LONG_INDEX_SCALE", type := .int, accessFlags := 25, slot := 7, constantValue := 0 }, { name := "LOG2_ARRAY_FLOAT_INDEX_SCALE", type := .int, accessFlags := 25, slot := 8, constantValue := 0 }, { name := "LOG2_ARRAY_DOUBLE_INDEX_SCALE", type := .int, accessFlags := 25, slot := 9, constantValue := 0 }, { name := "LOG2_BYTE_BIT_SIZE", type := .int, accessFlags := 26, slot := 10, constantValue := 0 }, { name := "T_BOOLEAN", type := .int, accessFlags := 25, slot := 11, constantValue := 0 }, { name := "T_CHAR", type := .int, accessFlags := 25, slot := 12, constantValue := 0 }, { name := "T_FLOAT", type := .int, accessFlags := 25, slot := 13, constantValue := 0 }, { name := "T_DOUBLE", type := .int, accessFlags := 25, slot := 14, constantValue := 0 }, { name := "T_BYTE", type := .int, accessFlags := 25, slot := 15, constantValue := 0 }, { name := "T_SHORT", type := .int, accessFlags := 25, slot := 16, constantValue := 0 }, { name := "T_INT", type := .int, accessFlags := 25, slot := 17, constantValue := 0 }, { name := "T_LONG", type := .int, accessFlags := 25, slot := 18, constantValue := 0 }, { name := "JLA", type := (.object "jdk/internal/access/JavaLangAccess"), accessFlags := 26, slot := 19, constantValue := 0 }, { name := "SOFT_MAX_ARRAY_LENGTH", type := .int, accessFlags := 25, slot := 20, constantValue := 0 }]
  methods := #[k11m0]
  instanceTypes := #[]
  staticTypes := #[(.object "jdk/internal/misc/Unsafe"), .boolean, .int, .int, .int, .int, .int, .int, .int, .int, .int, .int, .int, .int, .int, .int, .int, .int, .int, (.object "jdk/internal/access/JavaLangAccess"), .int]
  resolved := Array.replicate 378 none
  statics := none }

def pool12 : Array CpInfo := pool [(1, u "java/lang/Cloneable"), (0, .class_ 1), (0, u "java/lang/Object"), (0, .class_ 3)] 3

/-- java/lang/Cloneable -/
def k12 : Class := { plain "java/lang/Cloneable" (some 0) with
  accessFlags := 1537
  interfaces := #[]
  cf := some (fileOf pool12 2 #[] #[] 1537 4 #[] #[])
  fields := #[]
  methods := #[]
  instanceTypes := #[]
  staticTypes := #[]
  resolved := Array.replicate 8 none
  statics := none }

/-- the primitive byte -/
def k13 : Class := { plain "byte" none with kind := .primitive 'B', accessFlags := 0x411 }
/-- [B -/
def k14 : Class := { plain "[B" (some 0) with kind := .array 13 .byte, interfaces := #[12, 2], accessFlags := 1041 }

/-- the primitive int -/
def k15 : Class := { plain "int" none with kind := .primitive 'I', accessFlags := 0x411 }
/-- [I -/
def k16 : Class := { plain "[I" (some 0) with kind := .array 15 .int, interfaces := #[12, 2], accessFlags := 1041 }

def heap : Heap := #[{ cls := 7, slots := #[.long 0, .int 1, .null, .int 0, .null, .int 0, .int 0], vm := .statics 7 },
  { cls := 9, slots := #[.null, .null, .null], vm := .statics 9 }]
def classes : Array Class := #[k0, k1, k2, k3, k4, k5, k6, k7, k8, k9, k10, k11, k12, k13, k14, k15, k16]
def interned : List (Array UInt16 × Addr) := []
def slotsUsed : Nat := 10
def theMethod : MethodId := ⟨1, 2⟩
def args0 : Array Value := #[.int 5, .int 66, .int 9, .long 68, .int 1]
def aboutOver (below : List Frame) : State where
  vm := { classes := classes, interned := interned.toArray }
  heap := heap
  slotsUsed := slotsUsed
  threads := #[{ frames := .invoking theMethod args0 :: below }]
def below0 : List Frame := [.native { method := ⟨0, 0⟩, args := #[] }]
def about1 : State := aboutOver below0
def p0 : Program := .bare "" "" ""
def e0 : Env := launch0.env 0 0 0
theorem w_frames : about1.frames = Frame.invoking theMethod args0 :: below0 := rfl
set_option maxRecDepth 65536 in
theorem w_args : argsFit about1.vm theMethod args0 = true := by decide +kernel
set_option maxRecDepth 65536 in
theorem w_heap : heapFits about1 = true := by decide +kernel
set_option maxRecDepth 65536 in
theorem w_runnable : about1.curStatus? = some .runnable := by decide +kernel
set_option maxRecDepth 65536 in
theorem w_alone : about1.alone = true := by decide +kernel
set_option maxRecDepth 65536 in
theorem w_named : about1.methodNamed? x = some theMethod := by decide +kernel
set_option maxRecDepth 65536 in
theorem w_hears : about1.hears theMethod below0 = true := by decide +kernel
set_option maxRecDepth 65536 in
theorem w_ripe : about1.ripe theMethod args0 below0 = true := by decide +kernel
theorem w_running : about1.status = .running := rfl
set_option maxRecDepth 65536 in
theorem w_room : about1.hasRoom e0.platform room_1 = true :=
  launch0.hasRoom_least _ room_1 (by decide +kernel) (by decide +kernel) (by decide +kernel) (by decide +kernel) (by decide +kernel) (by decide +kernel)
theorem allAtoms_all (ts : List Jvm.Cond) (a : Array Jvm.Value) (st : Jvm.State) : (allAtoms ts).before a st = ts.all (fun c => c.before a st) := by
  induction ts with
  | nil => rfl
  | cons c t ih =>
    show (Jvm.Cond.and c (allAtoms t)).before a st = _
    rw [Jvm.Cond.before_and, ih, List.all_cons]
def words1 : List Jvm.Cond := Jvm.Cond.code x code maxLocals ret :: tables_1
/-- a 'code' word, met by the world's own term for the bytes: nothing is compared byte by byte -/
theorem code_word {y : MethodName} {bytes : ByteArray} {mx : Nat} {rt : Option FieldType} {a : Array Value} {s : State} {m : MethodId} {meth : Method} {c : Code} (h1 : s.methodNamed? y = some m) (h2 : s.vm.method? m = some meth) (h3 : meth.code = some c) (h4 : c.code = bytes)
    (h5 : (c.maxLocals == mx && c.exceptionTable.isEmpty && decide (c.maxStack ≤ mostOperands) && decide (meth.sig.returnType = rt) && !meth.locks && decide (parseMethodDescriptor y.desc = some meth.sig)) = true) : (Jvm.Cond.code y bytes mx rt).before a s = true := by
  simp only [Bool.and_eq_true, beq_iff_eq, Bool.not_eq_true', decide_eq_true_eq] at h5
  obtain ⟨⟨⟨⟨⟨g1, g2⟩, g3⟩, g4⟩, g5⟩, g6⟩ := h5
  simp [Cond.before, Cond.holds, Cond.value, h1, h2, h3, h4, g1, g2, g3, g4, g5, g6]
def isCode : Jvm.Cond → Bool
  | .code _ _ _ _ => true
  | _ => false
theorem all_split {L : List Jvm.Cond} {P : Jvm.Cond → Bool} (h1 : L.all (fun c => isCode c || P c) = true) (h2 : ∀ c ∈ L.filter isCode, P c = true) : L.all P = true := by
  refine List.all_eq_true.mpr fun c hc => ?_
  have h := List.all_eq_true.mp h1 c hc
  rcases Bool.eq_false_or_eq_true (isCode c) with hi | hi
  · exact h2 c (List.mem_filter.mpr ⟨hc, hi⟩)
  · simpa [hi] using h
set_option maxRecDepth 65536 in
theorem w_c0 : (Jvm.Cond.code x code maxLocals ret).before args0 about1 = true := code_word (m := ⟨1, 2⟩) (meth := k1m2) (c := k1c2) (by decide +kernel) rfl rfl rfl (by decide +kernel)
set_option maxRecDepth 65536 in
theorem w_c1 : (Jvm.Cond.code ({ cls := "java/lang/String", name := "length", desc := "()I" } : Jvm.MethodName) jdk_42_method_54_code (1 : Nat) (Option.some Jvm.ClassFile.FieldType.int)).before args0 about1 = true := code_word (m := ⟨7, 1⟩) (meth := k7m1) (c := k7c1) (by decide +kernel) rfl rfl rfl (by decide +kernel)
set_option maxRecDepth 65536 in
theorem w_c2 : (Jvm.Cond.code ({ cls := "java/lang/String", name := "coder", desc := "()B" } : Jvm.MethodName) jdk_42_method_152_code (1 : Nat) (Option.some Jvm.ClassFile.FieldType.byte)).before args0 about1 = true := code_word (m := ⟨7, 3⟩) (meth := k7m3) (c := k7c3) (by decide +kernel) rfl rfl rfl (by decide +kernel)
set_option maxRecDepth 65536 in
theorem w_c3 : (Jvm.Cond.code ({ cls := "com/example/sabac/sabac/ExpressionLexerIsKeywordPinLaw", name := "at", desc := "(JI)B" } : Jvm.MethodName) method_2_code (3 : Nat) (Option.some Jvm.ClassFile.FieldType.byte)).before args0 about1 = true := code_word (m := ⟨1, 1⟩) (meth := k1m1) (c := k1c1) (by decide +kernel) rfl rfl rfl (by decide +kernel)
set_option maxRecDepth 65536 in
theorem w_c4 : (Jvm.Cond.code ({ cls := "java/lang/String", name := "charAt", desc := "(I)C" } : Jvm.MethodName) jdk_42_method_56_code (2 : Nat) (Option.some Jvm.ClassFile.FieldType.char)).before args0 about1 = true := code_word (m := ⟨7, 2⟩) (meth := k7m2) (c := k7c2) (by decide +kernel) rfl rfl rfl (by decide +kernel)
set_option maxRecDepth 65536 in
theorem w_c5 : (Jvm.Cond.code ({ cls := "java/lang/String", name := "isLatin1", desc := "()Z" } : Jvm.MethodName) jdk_42_method_154_code (1 : Nat) (Option.some Jvm.ClassFile.FieldType.boolean)).before args0 about1 = true := code_word (m := ⟨7, 4⟩) (meth := k7m4) (c := k7c4) (by decide +kernel) rfl rfl rfl (by decide +kernel)
set_option maxRecDepth 65536 in
theorem w_c6 : (Jvm.Cond.code ({ cls := "java/lang/StringLatin1", name := "charAt", desc := "([BI)C" } : Jvm.MethodName) jdk_43_method_2_code (2 : Nat) (Option.some Jvm.ClassFile.FieldType.char)).before args0 about1 = true := code_word (m := ⟨8, 1⟩) (meth := k8m1) (c := k8c1) (by decide +kernel) rfl rfl rfl (by decide +kernel)
set_option maxRecDepth 65536 in
theorem w_c7 : (Jvm.Cond.code ({ cls := "java/lang/String", name := "checkIndex", desc := "(II)V" } : Jvm.MethodName) jdk_42_method_155_code (2 : Nat) (Option.none : Option Jvm.ClassFile.FieldType)).before args0 about1 = true := code_word (m := ⟨7, 5⟩) (meth := k7m5) (c := k7c5) (by decide +kernel) rfl rfl rfl (by decide +kernel)
set_option maxRecDepth 65536 in
theorem w_c8 : (Jvm.Cond.code ({ cls := "jdk/internal/util/Preconditions", name := "checkIndex", desc := "(IILjava/util/function/BiFunction;)I" } : Jvm.MethodName) jdk_41_method_11_code (3 : Nat) (Option.some Jvm.ClassFile.FieldType.int)).before args0 about1 = true := code_word (m := ⟨9, 1⟩) (meth := k9m1) (c := k9c1) (by decide +kernel) rfl rfl rfl (by decide +kernel)
set_option maxRecDepth 65536 in
theorem w_c9 : (Jvm.Cond.code ({ cls := "com/example/sabac/sabac/ExpressionLexer", name := "isKeyword", desc := "([BII)Z" } : Jvm.MethodName) prog_7_method_25_code (5 : Nat) (Option.some Jvm.ClassFile.FieldType.boolean)).before args0 about1 = true := code_word (m := ⟨10, 0⟩) (meth := k10m0) (c := k10c0) (by decide +kernel) rfl rfl rfl (by decide +kernel)
def codes1 : List Jvm.Cond := [Jvm.Cond.code x code maxLocals ret, Jvm.Cond.code ({ cls := "java/lang/String", name := "length", desc := "()I" } : Jvm.MethodName) jdk_42_method_54_code (1 : Nat) (Option.some Jvm.ClassFile.FieldType.int), Jvm.Cond.code ({ cls := "java/lang/String", name := "coder", desc := "()B" } : Jvm.MethodName) jdk_42_method_152_code (1 : Nat) (Option.some Jvm.ClassFile.FieldType.byte), Jvm.Cond.code ({ cls := "com/example/sabac/sabac/ExpressionLexerIsKeywordPinLaw", name := "at", desc := "(JI)B" } : Jvm.MethodName) method_2_code (3 : Nat) (Option.some Jvm.ClassFile.FieldType.byte), Jvm.Cond.code ({ cls := "java/lang/String", name := "charAt", desc := "(I)C" } : Jvm.MethodName) jdk_42_method_56_code (2 : Nat) (Option.some Jvm.ClassFile.FieldType.char), Jvm.Cond.code ({ cls := "java/lang/String", name := "isLatin1", desc := "()Z" } : Jvm.MethodName) jdk_42_method_154_code (1 : Nat) (Option.some Jvm.ClassFile.FieldType.boolean), Jvm.Cond.code ({ cls := "java/lang/StringLatin1", name := "charAt", desc := "([BI)C" } : Jvm.MethodName) jdk_43_method_2_code (2 : Nat) (Option.some Jvm.ClassFile.FieldType.char), Jvm.Cond.code ({ cls := "java/lang/String", name := "checkIndex", desc := "(II)V" } : Jvm.MethodName) jdk_42_method_155_code (2 : Nat) (Option.none : Option Jvm.ClassFile.FieldType), Jvm.Cond.code ({ cls := "jdk/internal/util/Preconditions", name := "checkIndex", desc := "(IILjava/util/function/BiFunction;)I" } : Jvm.MethodName) jdk_41_method_11_code (3 : Nat) (Option.some Jvm.ClassFile.FieldType.int), Jvm.Cond.code ({ cls := "com/example/sabac/sabac/ExpressionLexer", name := "isKeyword", desc := "([BII)Z" } : Jvm.MethodName) prog_7_method_25_code (5 : Nat) (Option.some Jvm.ClassFile.FieldType.boolean)]
set_option maxRecDepth 65536 in
theorem codes_eq : words1.filter isCode = codes1 := rfl
theorem w_codes : ∀ c ∈ words1.filter isCode, c.before args0 about1 = true := by
  rw [codes_eq]
  intro c hc
  simp only [codes1, List.mem_cons, List.not_mem_nil, or_false] at hc
  rcases hc with rfl | rfl | rfl | rfl | rfl | rfl | rfl | rfl | rfl | rfl
  · exact w_c0
  · exact w_c1
  · exact w_c2
  · exact w_c3
  · exact w_c4
  · exact w_c5
  · exact w_c6
  · exact w_c7
  · exact w_c8
  · exact w_c9
set_option maxRecDepth 65536 in
theorem w_t1 : (words1.take 24).all (fun c => isCode c || c.before args0 about1) = true := by decide +kernel
set_option maxRecDepth 65536 in
theorem w_t2 : ((words1.drop 24).take 24).all (fun c => isCode c || c.before args0 about1) = true := by decide +kernel
set_option maxRecDepth 65536 in
theorem w_t3 : ((words1.drop 24).drop 24).all (fun c => isCode c || c.before args0 about1) = true := by decide +kernel
theorem w_tables : (allAtoms (Jvm.Cond.code x code maxLocals ret :: tables_1)).before args0 about1 = true := by
  rw [allAtoms_all]
  show words1.all (fun c => c.before args0 about1) = true
  refine all_split ?_ w_codes
  rw [← List.take_append_drop 24 words1, List.all_append, w_t1, ← List.take_append_drop 24 (words1.drop 24), List.all_append, w_t2, w_t3]
  rfl
set_option maxRecDepth 65536 in
theorem w_rest : rest_1_c.before args0 about1 = true := by decide +kernel
set_option maxRecDepth 65536 in
theorem w_case : (Jvm.Cond.and given_1 narrow_1).before args0 about1 = true := by decide +kernel
set_option maxRecDepth 65536 in
theorem w_consts : constsHeld consts_1 about1 := Jvm.Lit.constsHeldB_iff.mp (by decide +kernel)
theorem w_applies : (headSpec (Jvm.Cond.code x code maxLocals ret :: tables_1) room_1).applies x e0.platform about1 = true :=
  (Spec.applies_iff w_frames).mpr ⟨w_running, w_runnable, w_alone, w_named, w_hears, w_ripe, w_room, w_tables⟩
theorem atStart : AtStart classFile x code maxLocals ret World_1 tables_1 room_1 Calls_1 rest_1 Pre_1 launch0 p0 e0 about1 theMethod args0 below0 :=
  ⟨lists_1, trivial, launch0.admits_env _ _ _, launch0.least_env, fairChoices_fair.cas, fairChoices_fair.clock, w_frames, w_args, w_heap, w_applies, ⟨w_consts, trivial⟩, w_rest, w_case⟩
end start1
theorem witness_1 : WitnessClaimed_1 := ⟨start1.p0, start1.e0, start1.about1, start1.theMethod, start1.args0, start1.below0, start1.atStart⟩
end Jvm.Pilot.@@N@@
