import JvmDerived
import JvmDerived.Pilot.@@N@@Statement
import JvmDerived.Pilot.@@N@@Code
set_option linter.unusedVariables false
set_option linter.unusedSimpArgs false
namespace Jvm.RoadKit
open Sem ClassFile Op Lib Jvm.Stand Jvm.Free Jvm.LawKit
section New
variable {p : Program} {l : Launch} {e : Env} {R : Room} {s : State} {m : MethodId} {args : Array Value} {below : List Frame} {meth : Method} {c : Code} {T : State} {locs : List Loc} {cells slots : Nat}
theorem retI (X : Stand p l e R s m args below meth c T locs cells slots) (hx : p.tables.exec = Jvm.exec) {pc : Nat} {Ls : Array Slot} {z : Int32} {rest : List Value} (hret : meth.sig.returnType = some .int) (hd : decode c.code pc = .ok (.ireturn, 1)) {fs : List Frame}
    (hl : ∀ (f : JFrame) (acts : List Action), f.method = m → f.locked = none → f.entered = [] → (doReturn e (T.setTop f) acts (some (.int z))).1 = T.setFrames fs) : Steps p.tables e below (T.setTop (mkF m pc Ls (.int z :: rest))) (T.setFrames fs) := by
  have hm' : T.vm.method? m = some meth := X.method'
  have hn : narrow .int (.int z) = .int z := rfl
  show Steps p.tables e below (T.setTop { method := m, pc := pc, locals := Ls, stack := _ :: rest, locked := none }) _
  jvm_step X.here [X.here.top, hx, hd, hm', hret, hn]
  first | (intro acts; rw [hl _ acts rfl rfl rfl]) | rw [hl _ _ rfl rfl rfl]
  exact Steps.refl _
end New
end Jvm.RoadKit
namespace Jvm.Pilot.@@N@@
open Jvm Jvm.ClassFile Sem Op Lib Jvm.Free Jvm.Stand Jvm.LawKit Jvm.RoadKit Bundle Jvm.Pilot.@@N@@.Jvm.D
/-! the comparisons, as plain decisions -/
theorem own_w {a0 : Array Value} {Z : State} (hw : ∀ d ∈ tables_1, d.before a0 Z = true) (i : Nat) {d : Jvm.Cond} (h : tables_1[i]? = some d) : d.before a0 Z = true := hw d (List.mem_of_getElem? h)
theorem own_ilt (x y : Int32) : if_icmp.holds .lt x y = decide (x < y) := rfl
theorem own_ile (x y : Int32) : if_icmp.holds .le x y = decide (x ≤ y) := rfl
theorem own_igt (x y : Int32) : if_icmp.holds .gt x y = decide (y < x) := rfl
theorem own_ige (x y : Int32) : if_icmp.holds .ge x y = decide (y ≤ x) := rfl
theorem own_ieq (x y : Int32) : if_icmp.holds .eq x y = decide (x = y) := rfl
theorem own_ine (x y : Int32) : if_icmp.holds .ne x y = decide (x ≠ y) := by
  by_cases h : x = y
  · rw [(teq h).2]; exact (decide_eq_false (not_not_intro h)).symm
  · rw [(feq h).2]; exact (decide_eq_true h).symm
theorem own_smono {s : State} {vm : Vm} {n n' : Nat} (h : s.Since vm n) (hn : n ≤ n') : s.Since vm n' := ⟨h.1, fun j p hj hp => ⟨(h.2 j p hj hp).1, Nat.lt_of_lt_of_le (h.2 j p hj hp).2 hn⟩⟩
theorem own_d0 : FP.dconst0 = FP.l2d (0 : Int64) := by rw [l2d_zero]; rfl
theorem own_lgt (x y : Int64) : ifCond.holds .gt (lcmpW x y) = decide (y < x) := by rw [if0, own_igt]; exact decide_eq_decide.mpr (lw_gt x y)
theorem own_llt (x y : Int64) : ifCond.holds .lt (lcmpW x y) = decide (x < y) := by rw [if0, own_ilt]; exact decide_eq_decide.mpr (lw_lt x y)
theorem own_leq (x y : Int64) : ifCond.holds .eq (lcmpW x y) = decide (x = y) := by rw [if0, own_ieq]; exact decide_eq_decide.mpr (lw_eq x y)
theorem own_lne (x y : Int64) : ifCond.holds .ne (lcmpW x y) = decide (x ≠ y) := by rw [if0, own_ine]; exact decide_eq_decide.mpr (not_congr (lw_eq x y))
theorem own_lle (x y : Int64) : ifCond.holds .le (lcmpW x y) = decide (x ≤ y) := by rw [if0, own_ile]; exact decide_eq_decide.mpr (by rw [← Int32.not_lt, lw_gt, Int64.not_lt])
theorem own_lge (x y : Int64) : ifCond.holds .ge (lcmpW x y) = decide (y ≤ x) := by rw [if0, own_ige]; exact decide_eq_decide.mpr (by rw [← Int32.not_lt, lw_lt, Int64.not_lt])
theorem own_k0 {a b : Addr} (h : a ≠ b) : if_icmp.holds .ne (nar .boolean (bif (if_acmp.holds .ne (some a) (some b)) then (0 : Int32) else (1 : Int32))) (0 : Int32) = false := by
  have e : if_acmp.holds .ne (some a) (some b) = true := by simp [if_acmp.holds, h]
  rw [e]; decide
theorem own_k1 (a : Addr) : if_icmp.holds .ne (nar .boolean (bif (if_acmp.holds .ne (some a) (some a)) then (0 : Int32) else (1 : Int32))) (1 : Int32) = false := by
  have e : if_acmp.holds .ne (some a) (some a) = false := by simp [if_acmp.holds]
  rw [e]; decide
theorem d1_0 : decode prog_45_method_6_code 0 = .ok (.aload_n 0, 1) := by decide +kernel
theorem d1_1 : decode prog_45_method_6_code 1 = .ok (.getfield 48, 3) := by decide +kernel
theorem d1_4 : decode prog_45_method_6_code 4 = .ok (.getstatic 64, 3) := by decide +kernel
theorem d1_7 : decode prog_45_method_6_code 7 = .ok (.if_acmp .ne 7, 3) := by decide +kernel
theorem d1_14 : decode prog_45_method_6_code 14 = .ok (.iconst 0, 1) := by decide +kernel
theorem d1_10 : decode prog_45_method_6_code 10 = .ok (.iconst 1, 1) := by decide +kernel
theorem d1_11 : decode prog_45_method_6_code 11 = .ok (.goto 4, 3) := by decide +kernel
theorem d1_15 : decode prog_45_method_6_code 15 = .ok (.ireturn, 1) := by decide +kernel
theorem ef_rm_str (m : MethodId) (x0 : Addr) : entryFrame m #[(.ref x0)] 1 = mkF m 0 #[.val (.ref x0)] [] := by first | (simp [entryFrame, mkF, argsToLocals, Value.category]; done) | rfl
def Q_rm_str (Z : State) (u1 : Addr) (z1 : Addr) (z2 : Addr) (h0 : Heap) (n0 : Nat) (v : Option Value) (h : Heap) (L : List Loc) : Prop := v = some (.int (nar .boolean (bif (if_acmp.holds .ne (some z1) (some z2)) then (0 : Int32) else (1 : Int32)))) ∧ Fr n0 L ∧ h = h0
theorem pn_746890 : plainName "com/example/guided_sim/guidedsim/model/Relation" = true := by first | (simp [plainName, overriddenIn]; done) | decide +kernel
set_option maxRecDepth 65536 in
set_option maxHeartbeats 40000000 in
theorem rm_str (l : Launch) (Z : State) (a0 : Array Value) (hw : ∀ d ∈ tables_1, d.before a0 Z = true) (ws : List Jvm.Cond) (u1 : Addr) (z1 : Addr) (z2 : Addr) (h0 : Heap) (n0 : Nat) (Z0 : n0 ≤ h0.size) (F1 : Fld Z h0 u1 "com/example/guided_sim/guidedsim/model/Relation" "kind" "Lcom/example/guided_sim/guidedsim/model/Relation$Kind;" (.ref z1)) (S1 : Sta Z h0 "com/example/guided_sim/guidedsim/model/Relation$Kind" "STRONG" "Lcom/example/guided_sim/guidedsim/model/Relation$Kind;" (.ref z2)) :
    MetFree l (⟨"com/example/guided_sim/guidedsim/model/Relation", "isStrong", "()Z"⟩ : MethodName) (head1 (Jvm.Cond.code (⟨"com/example/guided_sim/guidedsim/model/Relation", "isStrong", "()Z"⟩ : MethodName) prog_45_method_6_code 1 (some .boolean) :: ws) ({ frames := 0, cells := 0, slots := 0, locals := 0 } : Room)) (fun a U => a = #[(.ref u1)] ∧ Z.Warmed39 U.vm ∧ U.heap = h0) (fun _ _ _ _ _ => True) (fun _ U o U' => ∃ v L, o = .returned v ∧ Q_rm_str Z u1 z1 z2 h0 n0 v U'.heap L ∧ FrameEnd U o U' L ({ frames := 0, cells := 0, slots := 0, locals := 0 } : Room).cells ({ frames := 0, cells := 0, slots := 0, locals := 0 } : Room).slots) := by
  refine MetFree.of_bodySF (plainFor_of_name pn_746890) hisR ?_
  intro p e s m args below meth c s₁ Bd hml0 hP hK
  obtain ⟨rfl, hZ, hh⟩ := hP
  have hx := Bd.exec
  have hby := Bd.bytes
  have hml : c.maxLocals = 1 := hml0
  have hown : s.vm.findClass "com/example/guided_sim/guidedsim/model/Relation" = some m.cls := findClass_of_methodNamed Bd.named
  have hnm := (name_of_methodNamed Bd.named Bd.method).1
  have X0 : Stand p l e ({ frames := 0, cells := 0, slots := 0, locals := 0 } : Room) s m #[(.ref u1)] below meth c s₁ [] 0 0 := Stand.of_body Bd
  have e0 : s₁.heap = h0 := by rw [← hh, Bd.state]; rfl
  have N0 := Fr.nil n0
  have pre0 : ∀ t, Steps p.tables e below (s₁.setTop (mkF m 0 #[.val (.ref u1)] [])) t → Steps p.tables e below (s₁.setTop (entryFrame m #[(.ref u1)] 1)) t := fun t k => castTop (ef_rm_str m u1) k
  obtain ⟨T1, X1, e1, st1⟩ := getF X0 hx hZ hown (host := "") (Or.inl (own_w hw 9 rfl)) Via.refl e0 F1 (g := (mkF m 1 #[.val (.ref u1)] [(.ref u1)])) rfl rfl (hb hby d1_1)
  obtain ⟨T2, X2, e2, st2⟩ := getS2 X1 hx hZ hown (host := "") (Or.inl (own_w hw 13 rfl)) Via.refl e1 S1 (g := (mkF m 4 #[.val (.ref u1)] [(.ref z1)])) rfl (hb hby d1_4)
  have pre3 : ∀ t, Steps p.tables e below (T2.setTop (mkF m 7 #[.val (.ref u1)] [(.ref z2), (.ref z1)])) t → Steps p.tables e below (s₁.setTop (entryFrame m #[(.ref u1)] 1)) t := by
    intro t k
    refine pre0 t ?_
    show Steps p.tables e below (s₁.setTop (mkF m 0 #[.val (.ref u1)] [])) _
    refine XS.aloadN X0.here hx rfl (hb hby d1_0) rfl rfl ?_
    show Steps p.tables e below (s₁.setTop (mkF m 1 #[.val (.ref u1)] [(.ref u1)])) _
    refine st1 _ ?_
    show Steps p.tables e below (T1.setTop (mkF m 4 #[.val (.ref u1)] [(.ref z1)])) _
    refine st2 _ ?_
    exact k
  have pre5 : ∀ t, Steps p.tables e below (T2.setTop (mkF m 15 #[.val (.ref u1)] [(.int (bif (if_acmp.holds .ne (some z1) (some z2)) then (0 : Int32) else (1 : Int32)))])) t → Steps p.tables e below (s₁.setTop (entryFrame m #[(.ref u1)] 1)) t := by
    intro t k
    refine pre3 t ?_
    show Steps p.tables e below (T2.setTop (mkF m 7 #[.val (.ref u1)] [(.ref z2), (.ref z1)])) _
    rcases Bool.eq_false_or_eq_true (if_acmp.holds .ne (some z1) (some z2)) with hb7_4 | hb7_4
    · refine XS.acmpYes X2.here hx rfl (pc0 := 7) (pc' := 14) rfl (hb hby d1_7) rfl hb7_4 (by decide) (by decide) ?_
      show Steps p.tables e below (T2.setTop (mkF m 14 #[.val (.ref u1)] [])) _
      refine XS.iconst X2.here hx rfl (hb hby d1_14) ?_
      have k : Steps p.tables e below (T2.setTop (mkF m 15 #[.val (.ref u1)] [(.int (0 : Int32))])) t := by simpa only [hb7_4, cond_true, cond_false] using k
      exact k
    · refine XS.acmpNo X2.here hx rfl (hb hby d1_7) rfl hb7_4 ?_
      show Steps p.tables e below (T2.setTop (mkF m 10 #[.val (.ref u1)] [])) _
      refine XS.iconst X2.here hx rfl (hb hby d1_10) ?_
      show Steps p.tables e below (T2.setTop (mkF m 11 #[.val (.ref u1)] [(.int (1 : Int32))])) _
      refine XS.goto X2.here hx rfl (pc0 := 11) (pc' := 15) rfl (hb hby d1_11) (by decide) (by decide) ?_
      have k : Steps p.tables e below (T2.setTop (mkF m 15 #[.val (.ref u1)] [(.int (1 : Int32))])) t := by simpa only [hb7_4, cond_true, cond_false] using k
      exact k
  obtain ⟨fs, hr, hrun, hended, hW, hsame⟩ := X2.leave (v := some (.int (nar .boolean (bif (if_acmp.holds .ne (some z1) (some z2)) then (0 : Int32) else (1 : Int32))))) (fun h => by rw [Bd.returns] at h; cases h)
  refine ⟨_, _, pre5 _ ?_, hrun, hended, _, _, rfl, ?_, ⟨_, rfl⟩, hW, hsame.mono (by decide) (by decide)⟩
  · show Steps p.tables e below (T2.setTop (mkF m 15 #[.val (.ref u1)] [(.int (bif (if_acmp.holds .ne (some z1) (some z2)) then (0 : Int32) else (1 : Int32)))])) _
    exact retN X2 hx (t := .boolean) Bd.returns (by simp) (hb hby d1_15) hr
  · show Q_rm_str Z _ _ _ h0 n0 _ T2.heap _
    rw [e2]
    exact ⟨rfl, N0, rfl⟩
theorem pd_691901 : parseMethodDescriptor "()Z" = some ⟨[], some .boolean⟩ := by decide +kernel
theorem ef_rm_law (m : MethodId) (x0 : Int32) : entryFrame m #[(.int x0)] maxLocals = mkF m 0 #[.val (.int x0), .unset, .unset, .unset] [] := by first | (simp [entryFrame, mkF, argsToLocals, Value.category, maxLocals]; done) | rfl
def Q_rm_law (Z : State) (u1 : Int32) (kw : Addr) (ks : Addr) (ku : Addr) (r0 : Addr) (r1 : Addr) (r2 : Addr) (r3 : Addr) (r4 : Addr) (r5 : Addr) (h0 : Heap) (n0 : Nat) (v : Option Value) (h : Heap) (L : List Loc) : Prop := v = some (.int (1 : Int32)) ∧ Fr n0 L
theorem pn_124888 : plainName "com/example/guided_sim/guidedsim/model/RelationIsStrongPinLaw" = true := by first | (simp [plainName, overriddenIn]; done) | decide +kernel
set_option maxRecDepth 65536 in
set_option maxHeartbeats 40000000 in
theorem rm_law (l : Launch) (Z : State) (a0 : Array Value) (hw : ∀ d ∈ tables_1, d.before a0 Z = true) (ws : List Jvm.Cond) (u1 : Int32) (kw : Addr) (ks : Addr) (ku : Addr) (r0 : Addr) (r1 : Addr) (r2 : Addr) (r3 : Addr) (r4 : Addr) (r5 : Addr) (h0 : Heap) (n0 : Nat) (Z0 : n0 ≤ h0.size) (SK : Sta Z h0 "com/example/guided_sim/guidedsim/model/Relation$Kind" "STRONG" "Lcom/example/guided_sim/guidedsim/model/Relation$Kind;" (.ref ks)) (hws : kw ≠ ks) (hus : ku ≠ ks) (S0 : Sta Z h0 "com/example/guided_sim/guidedsim/model/Relation" "WEAK_FEASIBILITY" "Lcom/example/guided_sim/guidedsim/model/Relation;" (.ref r0)) (E0 : Exa Z h0 r0 "com/example/guided_sim/guidedsim/model/Relation") (F0 : Fld Z h0 r0 "com/example/guided_sim/guidedsim/model/Relation" "kind" "Lcom/example/guided_sim/guidedsim/model/Relation$Kind;" (.ref kw)) (S1 : Sta Z h0 "com/example/guided_sim/guidedsim/model/Relation" "STRONG_FEASIBILITY" "Lcom/example/guided_sim/guidedsim/model/Relation;" (.ref r1)) (E1 : Exa Z h0 r1 "com/example/guided_sim/guidedsim/model/Relation") (F1 : Fld Z h0 r1 "com/example/guided_sim/guidedsim/model/Relation" "kind" "Lcom/example/guided_sim/guidedsim/model/Relation$Kind;" (.ref ks)) (S2 : Sta Z h0 "com/example/guided_sim/guidedsim/model/Relation" "WEAK_REFUTABILITY" "Lcom/example/guided_sim/guidedsim/model/Relation;" (.ref r2)) (E2 : Exa Z h0 r2 "com/example/guided_sim/guidedsim/model/Relation") (F2 : Fld Z h0 r2 "com/example/guided_sim/guidedsim/model/Relation" "kind" "Lcom/example/guided_sim/guidedsim/model/Relation$Kind;" (.ref kw)) (S3 : Sta Z h0 "com/example/guided_sim/guidedsim/model/Relation" "STRONG_REFUTABILITY" "Lcom/example/guided_sim/guidedsim/model/Relation;" (.ref r3)) (E3 : Exa Z h0 r3 "com/example/guided_sim/guidedsim/model/Relation") (F3 : Fld Z h0 r3 "com/example/guided_sim/guidedsim/model/Relation" "kind" "Lcom/example/guided_sim/guidedsim/model/Relation$Kind;" (.ref ks)) (S4 : Sta Z h0 "com/example/guided_sim/guidedsim/model/Relation" "CERTAINTY" "Lcom/example/guided_sim/guidedsim/model/Relation;" (.ref r4)) (E4 : Exa Z h0 r4 "com/example/guided_sim/guidedsim/model/Relation") (F4 : Fld Z h0 r4 "com/example/guided_sim/guidedsim/model/Relation" "kind" "Lcom/example/guided_sim/guidedsim/model/Relation$Kind;" (.ref ku)) (S5 : Sta Z h0 "com/example/guided_sim/guidedsim/model/Relation" "IMPOSSIBILITY" "Lcom/example/guided_sim/guidedsim/model/Relation;" (.ref r5)) (E5 : Exa Z h0 r5 "com/example/guided_sim/guidedsim/model/Relation") (F5 : Fld Z h0 r5 "com/example/guided_sim/guidedsim/model/Relation" "kind" "Lcom/example/guided_sim/guidedsim/model/Relation$Kind;" (.ref ku)) :
    MetFree l x (head1 (Jvm.Cond.code x code maxLocals ret :: ws) room_1) (fun a U => a = #[(.int u1)] ∧ Z.Warmed39 U.vm ∧ U.heap = h0) (fun _ _ _ _ _ => True) (fun _ U o U' => ∃ v L, o = .returned v ∧ Q_rm_law Z u1 kw ks ku r0 r1 r2 r3 r4 r5 h0 n0 v U'.heap L ∧ FrameEnd U o U' L room_1.cells room_1.slots) := by
  refine MetFree.of_bodySF (plainFor_of_name pn_124888) hisR ?_
  intro p e s m args below meth c s₁ Bd hml0 hP hK
  obtain ⟨rfl, hZ, hh⟩ := hP
  have hx := Bd.exec
  have hby := Bd.bytes
  have hml : c.maxLocals = 4 := hml0
  have hown : s.vm.findClass "com/example/guided_sim/guidedsim/model/RelationIsStrongPinLaw" = some m.cls := findClass_of_methodNamed Bd.named
  have hnm := (name_of_methodNamed Bd.named Bd.method).1
  have X0 : Stand p l e room_1 s m #[(.int u1)] below meth c s₁ [] 0 0 := Stand.of_body Bd
  have e0 : s₁.heap = h0 := by rw [← hh, Bd.state]; rfl
  have N0 := Fr.nil n0
  have pre0 : ∀ t, Steps p.tables e below (s₁.setTop (mkF m 0 #[.val (.int u1), .unset, .unset, .unset] [])) t → Steps p.tables e below (s₁.setTop (entryFrame m #[(.int u1)] maxLocals)) t := fun t k => castTop (ef_rm_law m u1) k
  have pre1 : ∀ t, Steps p.tables e below (s₁.setTop (mkF m 9 #[.val (.int u1), .val (.int ((u1 &&& (2147483647 : Int32)) % (6 : Int32))), .unset, .unset] [(.int ((u1 &&& (2147483647 : Int32)) % (6 : Int32)))])) t → Steps p.tables e below (s₁.setTop (entryFrame m #[(.int u1)] maxLocals)) t := by
    intro t k
    refine pre0 t ?_
    show Steps p.tables e below (s₁.setTop (mkF m 0 #[.val (.int u1), .unset, .unset, .unset] [])) _
    refine XS.iloadN X0.here hx rfl (hb hby at_0) rfl ?_
    show Steps p.tables e below (s₁.setTop (mkF m 1 #[.val (.int u1), .unset, .unset, .unset] [(.int u1)])) _
    refine X0.ldcInt hx hown (mvT hZ (own_w hw 0 rfl)) (g := (mkF m 1 #[.val (.int u1), .unset, .unset, .unset] [(.int u1)])) rfl (hb hby at_1) _ ?_
    show Steps p.tables e below (s₁.setTop (mkF m 3 #[.val (.int u1), .unset, .unset, .unset] [(.int (2147483647 : Int32)), (.int u1)])) _
    refine XS.iand X0.here hx rfl (hb hby at_3) rfl ?_
    show Steps p.tables e below (s₁.setTop (mkF m 4 #[.val (.int u1), .unset, .unset, .unset] [(.int (u1 &&& (2147483647 : Int32)))])) _
    refine XS.bipush X0.here hx rfl (hb hby at_4) ?_
    show Steps p.tables e below (s₁.setTop (mkF m 6 #[.val (.int u1), .unset, .unset, .unset] [(.int (6 : Int32)), (.int (u1 &&& (2147483647 : Int32)))])) _
    refine iremM X0 hx (g := (mkF m 6 #[.val (.int u1), .unset, .unset, .unset] [(.int (6 : Int32)), (.int (u1 &&& (2147483647 : Int32)))])) rfl (hb hby at_6) rfl (by decide) ?_
    show Steps p.tables e below (s₁.setTop (mkF m 7 #[.val (.int u1), .unset, .unset, .unset] [(.int ((u1 &&& (2147483647 : Int32)) % (6 : Int32)))])) _
    refine XS.istoreN X0.here hx rfl (hb hby at_7) rfl (l' := #[.val (.int u1), .val (.int ((u1 &&& (2147483647 : Int32)) % (6 : Int32))), .unset, .unset]) rfl ?_
    show Steps p.tables e below (s₁.setTop (mkF m 8 #[.val (.int u1), .val (.int ((u1 &&& (2147483647 : Int32)) % (6 : Int32))), .unset, .unset] [])) _
    refine XS.iloadN X0.here hx rfl (hb hby at_8) rfl ?_
    exact k
  rcases Bool.eq_false_or_eq_true (ifCond.holds .ne ((u1 &&& (2147483647 : Int32)) % (6 : Int32))) with hb9 | hb9
  · have pre2 : ∀ t, Steps p.tables e below (s₁.setTop (mkF m 23 #[.val (.int u1), .val (.int ((u1 &&& (2147483647 : Int32)) % (6 : Int32))), .unset, .unset] [(.int (1 : Int32)), (.int ((u1 &&& (2147483647 : Int32)) % (6 : Int32)))])) t → Steps p.tables e below (s₁.setTop (entryFrame m #[(.int u1)] maxLocals)) t := by
      intro t k
      refine pre1 t ?_
      show Steps p.tables e below (s₁.setTop (mkF m 9 #[.val (.int u1), .val (.int ((u1 &&& (2147483647 : Int32)) % (6 : Int32))), .unset, .unset] [(.int ((u1 &&& (2147483647 : Int32)) % (6 : Int32)))])) _
      refine XS.ifYes X0.here hx rfl (pc0 := 9) (pc' := 21) rfl (hb hby at_9) rfl hb9 (by decide) (by decide) ?_
      show Steps p.tables e below (s₁.setTop (mkF m 21 #[.val (.int u1), .val (.int ((u1 &&& (2147483647 : Int32)) % (6 : Int32))), .unset, .unset] [])) _
      refine XS.iloadN X0.here hx rfl (hb hby at_21) rfl ?_
      show Steps p.tables e below (s₁.setTop (mkF m 22 #[.val (.int u1), .val (.int ((u1 &&& (2147483647 : Int32)) % (6 : Int32))), .unset, .unset] [(.int ((u1 &&& (2147483647 : Int32)) % (6 : Int32)))])) _
      refine XS.iconst X0.here hx rfl (hb hby at_22) ?_
      exact k
    rcases Bool.eq_false_or_eq_true (if_icmp.holds .ne ((u1 &&& (2147483647 : Int32)) % (6 : Int32)) (1 : Int32)) with hb23 | hb23
    · have pre3 : ∀ t, Steps p.tables e below (s₁.setTop (mkF m 37 #[.val (.int u1), .val (.int ((u1 &&& (2147483647 : Int32)) % (6 : Int32))), .unset, .unset] [(.int (2 : Int32)), (.int ((u1 &&& (2147483647 : Int32)) % (6 : Int32)))])) t → Steps p.tables e below (s₁.setTop (entryFrame m #[(.int u1)] maxLocals)) t := by
        intro t k
        refine pre2 t ?_
        show Steps p.tables e below (s₁.setTop (mkF m 23 #[.val (.int u1), .val (.int ((u1 &&& (2147483647 : Int32)) % (6 : Int32))), .unset, .unset] [(.int (1 : Int32)), (.int ((u1 &&& (2147483647 : Int32)) % (6 : Int32)))])) _
        refine XS.icmpYes X0.here hx rfl (pc0 := 23) (pc' := 35) rfl (hb hby at_23) rfl hb23 (by decide) (by decide) ?_
        show Steps p.tables e below (s₁.setTop (mkF m 35 #[.val (.int u1), .val (.int ((u1 &&& (2147483647 : Int32)) % (6 : Int32))), .unset, .unset] [])) _
        refine XS.iloadN X0.here hx rfl (hb hby at_35) rfl ?_
        show Steps p.tables e below (s₁.setTop (mkF m 36 #[.val (.int u1), .val (.int ((u1 &&& (2147483647 : Int32)) % (6 : Int32))), .unset, .unset] [(.int ((u1 &&& (2147483647 : Int32)) % (6 : Int32)))])) _
        refine XS.iconst X0.here hx rfl (hb hby at_36) ?_
        exact k
      rcases Bool.eq_false_or_eq_true (if_icmp.holds .ne ((u1 &&& (2147483647 : Int32)) % (6 : Int32)) (2 : Int32)) with hb37 | hb37
      · have pre4 : ∀ t, Steps p.tables e below (s₁.setTop (mkF m 51 #[.val (.int u1), .val (.int ((u1 &&& (2147483647 : Int32)) % (6 : Int32))), .unset, .unset] [(.int (3 : Int32)), (.int ((u1 &&& (2147483647 : Int32)) % (6 : Int32)))])) t → Steps p.tables e below (s₁.setTop (entryFrame m #[(.int u1)] maxLocals)) t := by
          intro t k
          refine pre3 t ?_
          show Steps p.tables e below (s₁.setTop (mkF m 37 #[.val (.int u1), .val (.int ((u1 &&& (2147483647 : Int32)) % (6 : Int32))), .unset, .unset] [(.int (2 : Int32)), (.int ((u1 &&& (2147483647 : Int32)) % (6 : Int32)))])) _
          refine XS.icmpYes X0.here hx rfl (pc0 := 37) (pc' := 49) rfl (hb hby at_37) rfl hb37 (by decide) (by decide) ?_
          show Steps p.tables e below (s₁.setTop (mkF m 49 #[.val (.int u1), .val (.int ((u1 &&& (2147483647 : Int32)) % (6 : Int32))), .unset, .unset] [])) _
          refine XS.iloadN X0.here hx rfl (hb hby at_49) rfl ?_
          show Steps p.tables e below (s₁.setTop (mkF m 50 #[.val (.int u1), .val (.int ((u1 &&& (2147483647 : Int32)) % (6 : Int32))), .unset, .unset] [(.int ((u1 &&& (2147483647 : Int32)) % (6 : Int32)))])) _
          refine XS.iconst X0.here hx rfl (hb hby at_50) ?_
          exact k
        rcases Bool.eq_false_or_eq_true (if_icmp.holds .ne ((u1 &&& (2147483647 : Int32)) % (6 : Int32)) (3 : Int32)) with hb51 | hb51
        · have pre5 : ∀ t, Steps p.tables e below (s₁.setTop (mkF m 65 #[.val (.int u1), .val (.int ((u1 &&& (2147483647 : Int32)) % (6 : Int32))), .unset, .unset] [(.int (4 : Int32)), (.int ((u1 &&& (2147483647 : Int32)) % (6 : Int32)))])) t → Steps p.tables e below (s₁.setTop (entryFrame m #[(.int u1)] maxLocals)) t := by
            intro t k
            refine pre4 t ?_
            show Steps p.tables e below (s₁.setTop (mkF m 51 #[.val (.int u1), .val (.int ((u1 &&& (2147483647 : Int32)) % (6 : Int32))), .unset, .unset] [(.int (3 : Int32)), (.int ((u1 &&& (2147483647 : Int32)) % (6 : Int32)))])) _
            refine XS.icmpYes X0.here hx rfl (pc0 := 51) (pc' := 63) rfl (hb hby at_51) rfl hb51 (by decide) (by decide) ?_
            show Steps p.tables e below (s₁.setTop (mkF m 63 #[.val (.int u1), .val (.int ((u1 &&& (2147483647 : Int32)) % (6 : Int32))), .unset, .unset] [])) _
            refine XS.iloadN X0.here hx rfl (hb hby at_63) rfl ?_
            show Steps p.tables e below (s₁.setTop (mkF m 64 #[.val (.int u1), .val (.int ((u1 &&& (2147483647 : Int32)) % (6 : Int32))), .unset, .unset] [(.int ((u1 &&& (2147483647 : Int32)) % (6 : Int32)))])) _
            refine XS.iconst X0.here hx rfl (hb hby at_64) ?_
            exact k
          rcases Bool.eq_false_or_eq_true (if_icmp.holds .ne ((u1 &&& (2147483647 : Int32)) % (6 : Int32)) (4 : Int32)) with hb65 | hb65
          · obtain ⟨T6, X6, e6, st6⟩ := getS2 X0 hx hZ hown (host := "") (Or.inl (own_w hw 21 rfl)) Via.refl e0 S5 (g := (mkF m 77 #[.val (.int u1), .val (.int ((u1 &&& (2147483647 : Int32)) % (6 : Int32))), .unset, .unset] [])) rfl (hb hby at_77)
            obtain ⟨cq7, kq7, q7a, q7b, q7c⟩ := isOf hZ e6 E5
            obtain ⟨_, _, ⟨T7, L7, k7, n7⟩, -, X7, ⟨Lc7, hQ7, l7, y7, z7⟩, st7⟩ := X6.virtualBack hx (y := (⟨"com/example/guided_sim/guidedsim/model/Relation", "isStrong", "()Z"⟩ : MethodName)) (z := (⟨"com/example/guided_sim/guidedsim/model/Relation", "isStrong", "()Z"⟩ : MethodName)) hown (mvT hZ (own_w hw 4 rfl)) (mvT hZ (own_w hw 5 rfl)) (notFace_of_selects (args := #[]) (mvT hZ (own_w hw 7 rfl))) (mvT hZ (own_w hw 7 rfl)) (mvT hZ (own_w hw 6 rfl)) (by decide) (backOf (W := 0) (rm_str l Z a0 hw [] r5 ku ks h0 n0 Z0 F5 SK) hZ (own_w hw 8 rfl) (own_w hw 2 rfl) (by decide) (by decide)) q7a q7c (g := (mkF m 84 #[.val (.int u1), .val (.int ((u1 &&& (2147483647 : Int32)) % (6 : Int32))), .val (.ref r5), .val (.int (0 : Int32))] [(.ref r5)])) rfl (by rw [hml]; rfl) (Steps.refl _) (argsL := []) (rest := []) (lenOf pd_691901 rfl) rfl (by show 2 * 0 + _ ≤ _; exact Nat.le_of_eq rfl) (hb hby at_84) (fun _ _ => ⟨rfl, e6, (by decide : 0 + 0 ≤ _), (by decide : 0 + 0 ≤ _)⟩)
            dsimp only [Pt.U, Pt.locs, Pt.cells, Pt.slots] at X7 l7 y7 z7 st7 hQ7
            subst l7 y7 z7
            obtain ⟨rfl, Nq7, eq7⟩ := hQ7
            have N7 := Fr.app N0 Nq7
            obtain ⟨fs, hr, hrun, hended, hW, hsame⟩ := X7.leave (v := some (.int (1 : Int32))) (fun h => by rw [Bd.returns] at h; cases h)
            refine ⟨_, _, pre5 _ ?_, hrun, hended, _, _, rfl, ?_, ⟨_, rfl⟩, hW, hsame.mono (by decide) (by decide)⟩
            · show Steps p.tables e below (s₁.setTop (mkF m 65 #[.val (.int u1), .val (.int ((u1 &&& (2147483647 : Int32)) % (6 : Int32))), .unset, .unset] [(.int (4 : Int32)), (.int ((u1 &&& (2147483647 : Int32)) % (6 : Int32)))])) _
              refine XS.icmpYes X0.here hx rfl (pc0 := 65) (pc' := 77) rfl (hb hby at_65) rfl hb65 (by decide) (by decide) ?_
              show Steps p.tables e below (s₁.setTop (mkF m 77 #[.val (.int u1), .val (.int ((u1 &&& (2147483647 : Int32)) % (6 : Int32))), .unset, .unset] [])) _
              refine st6 _ ?_
              show Steps p.tables e below (T6.setTop (mkF m 80 #[.val (.int u1), .val (.int ((u1 &&& (2147483647 : Int32)) % (6 : Int32))), .unset, .unset] [(.ref r5)])) _
              refine XS.astoreN X6.here hx rfl (hb hby at_80) rfl rfl (l' := #[.val (.int u1), .val (.int ((u1 &&& (2147483647 : Int32)) % (6 : Int32))), .val (.ref r5), .unset]) rfl ?_
              show Steps p.tables e below (T6.setTop (mkF m 81 #[.val (.int u1), .val (.int ((u1 &&& (2147483647 : Int32)) % (6 : Int32))), .val (.ref r5), .unset] [])) _
              refine XS.iconst X6.here hx rfl (hb hby at_81) ?_
              show Steps p.tables e below (T6.setTop (mkF m 82 #[.val (.int u1), .val (.int ((u1 &&& (2147483647 : Int32)) % (6 : Int32))), .val (.ref r5), .unset] [(.int (0 : Int32))])) _
              refine XS.istoreN X6.here hx rfl (hb hby at_82) rfl (l' := #[.val (.int u1), .val (.int ((u1 &&& (2147483647 : Int32)) % (6 : Int32))), .val (.ref r5), .val (.int (0 : Int32))]) rfl ?_
              show Steps p.tables e below (T6.setTop (mkF m 83 #[.val (.int u1), .val (.int ((u1 &&& (2147483647 : Int32)) % (6 : Int32))), .val (.ref r5), .val (.int (0 : Int32))] [])) _
              refine XS.aloadN X6.here hx rfl (hb hby at_83) rfl rfl ?_
              show Steps p.tables e below (T6.setTop (mkF m 84 #[.val (.int u1), .val (.int ((u1 &&& (2147483647 : Int32)) % (6 : Int32))), .val (.ref r5), .val (.int (0 : Int32))] [(.ref r5)])) _
              refine st7.trans ?_
              show Steps p.tables e below (T7.setTop (mkF m 87 #[.val (.int u1), .val (.int ((u1 &&& (2147483647 : Int32)) % (6 : Int32))), .val (.ref r5), .val (.int (0 : Int32))] [(.int (nar .boolean (bif (if_acmp.holds .ne (some ku) (some ks)) then (0 : Int32) else (1 : Int32))))])) _
              refine XS.iloadN X7.here hx rfl (hb hby at_87) rfl ?_
              show Steps p.tables e below (T7.setTop (mkF m 88 #[.val (.int u1), .val (.int ((u1 &&& (2147483647 : Int32)) % (6 : Int32))), .val (.ref r5), .val (.int (0 : Int32))] [(.int (0 : Int32)), (.int (nar .boolean (bif (if_acmp.holds .ne (some ku) (some ks)) then (0 : Int32) else (1 : Int32))))])) _
              refine XS.icmpNo X7.here hx rfl (hb hby at_88) rfl (own_k0 hus) ?_
              show Steps p.tables e below (T7.setTop (mkF m 91 #[.val (.int u1), .val (.int ((u1 &&& (2147483647 : Int32)) % (6 : Int32))), .val (.ref r5), .val (.int (0 : Int32))] [])) _
              refine XS.iconst X7.here hx rfl (hb hby at_91) ?_
              show Steps p.tables e below (T7.setTop (mkF m 92 #[.val (.int u1), .val (.int ((u1 &&& (2147483647 : Int32)) % (6 : Int32))), .val (.ref r5), .val (.int (0 : Int32))] [(.int (1 : Int32))])) _
              refine XS.goto X7.here hx rfl (pc0 := 92) (pc' := 96) rfl (hb hby at_92) (by decide) (by decide) ?_
              show Steps p.tables e below (T7.setTop (mkF m 96 #[.val (.int u1), .val (.int ((u1 &&& (2147483647 : Int32)) % (6 : Int32))), .val (.ref r5), .val (.int (0 : Int32))] [(.int (1 : Int32))])) _
              exact retN X7 hx (t := .boolean) Bd.returns (by simp) (hb hby at_96) hr
            · show Q_rm_law Z _ _ _ _ _ _ _ _ _ _ h0 n0 _ T7.heap _
              rw [eq7]
              exact ⟨rfl, N7⟩
          · obtain ⟨T8, X8, e8, st8⟩ := getS2 X0 hx hZ hown (host := "") (Or.inl (own_w hw 24 rfl)) Via.refl e0 S4 (g := (mkF m 68 #[.val (.int u1), .val (.int ((u1 &&& (2147483647 : Int32)) % (6 : Int32))), .unset, .unset] [])) rfl (hb hby at_68)
            obtain ⟨cq9, kq9, q9a, q9b, q9c⟩ := isOf hZ e8 E4
            obtain ⟨_, _, ⟨T9, L9, k9, n9⟩, -, X9, ⟨Lc9, hQ9, l9, y9, z9⟩, st9⟩ := X8.virtualBack hx (y := (⟨"com/example/guided_sim/guidedsim/model/Relation", "isStrong", "()Z"⟩ : MethodName)) (z := (⟨"com/example/guided_sim/guidedsim/model/Relation", "isStrong", "()Z"⟩ : MethodName)) hown (mvT hZ (own_w hw 4 rfl)) (mvT hZ (own_w hw 5 rfl)) (notFace_of_selects (args := #[]) (mvT hZ (own_w hw 7 rfl))) (mvT hZ (own_w hw 7 rfl)) (mvT hZ (own_w hw 6 rfl)) (by decide) (backOf (W := 0) (rm_str l Z a0 hw [] r4 ku ks h0 n0 Z0 F4 SK) hZ (own_w hw 8 rfl) (own_w hw 2 rfl) (by decide) (by decide)) q9a q9c (g := (mkF m 84 #[.val (.int u1), .val (.int ((u1 &&& (2147483647 : Int32)) % (6 : Int32))), .val (.ref r4), .val (.int (0 : Int32))] [(.ref r4)])) rfl (by rw [hml]; rfl) (Steps.refl _) (argsL := []) (rest := []) (lenOf pd_691901 rfl) rfl (by show 2 * 0 + _ ≤ _; exact Nat.le_of_eq rfl) (hb hby at_84) (fun _ _ => ⟨rfl, e8, (by decide : 0 + 0 ≤ _), (by decide : 0 + 0 ≤ _)⟩)
            dsimp only [Pt.U, Pt.locs, Pt.cells, Pt.slots] at X9 l9 y9 z9 st9 hQ9
            subst l9 y9 z9
            obtain ⟨rfl, Nq9, eq9⟩ := hQ9
            have N9 := Fr.app N0 Nq9
            obtain ⟨fs, hr, hrun, hended, hW, hsame⟩ := X9.leave (v := some (.int (1 : Int32))) (fun h => by rw [Bd.returns] at h; cases h)
            refine ⟨_, _, pre5 _ ?_, hrun, hended, _, _, rfl, ?_, ⟨_, rfl⟩, hW, hsame.mono (by decide) (by decide)⟩
            · show Steps p.tables e below (s₁.setTop (mkF m 65 #[.val (.int u1), .val (.int ((u1 &&& (2147483647 : Int32)) % (6 : Int32))), .unset, .unset] [(.int (4 : Int32)), (.int ((u1 &&& (2147483647 : Int32)) % (6 : Int32)))])) _
              refine XS.icmpNo X0.here hx rfl (hb hby at_65) rfl hb65 ?_
              show Steps p.tables e below (s₁.setTop (mkF m 68 #[.val (.int u1), .val (.int ((u1 &&& (2147483647 : Int32)) % (6 : Int32))), .unset, .unset] [])) _
              refine st8 _ ?_
              show Steps p.tables e below (T8.setTop (mkF m 71 #[.val (.int u1), .val (.int ((u1 &&& (2147483647 : Int32)) % (6 : Int32))), .unset, .unset] [(.ref r4)])) _
              refine XS.astoreN X8.here hx rfl (hb hby at_71) rfl rfl (l' := #[.val (.int u1), .val (.int ((u1 &&& (2147483647 : Int32)) % (6 : Int32))), .val (.ref r4), .unset]) rfl ?_
              show Steps p.tables e below (T8.setTop (mkF m 72 #[.val (.int u1), .val (.int ((u1 &&& (2147483647 : Int32)) % (6 : Int32))), .val (.ref r4), .unset] [])) _
              refine XS.iconst X8.here hx rfl (hb hby at_72) ?_
              show Steps p.tables e below (T8.setTop (mkF m 73 #[.val (.int u1), .val (.int ((u1 &&& (2147483647 : Int32)) % (6 : Int32))), .val (.ref r4), .unset] [(.int (0 : Int32))])) _
              refine XS.istoreN X8.here hx rfl (hb hby at_73) rfl (l' := #[.val (.int u1), .val (.int ((u1 &&& (2147483647 : Int32)) % (6 : Int32))), .val (.ref r4), .val (.int (0 : Int32))]) rfl ?_
              show Steps p.tables e below (T8.setTop (mkF m 74 #[.val (.int u1), .val (.int ((u1 &&& (2147483647 : Int32)) % (6 : Int32))), .val (.ref r4), .val (.int (0 : Int32))] [])) _
              refine XS.goto X8.here hx rfl (pc0 := 74) (pc' := 83) rfl (hb hby at_74) (by decide) (by decide) ?_
              show Steps p.tables e below (T8.setTop (mkF m 83 #[.val (.int u1), .val (.int ((u1 &&& (2147483647 : Int32)) % (6 : Int32))), .val (.ref r4), .val (.int (0 : Int32))] [])) _
              refine XS.aloadN X8.here hx rfl (hb hby at_83) rfl rfl ?_
              show Steps p.tables e below (T8.setTop (mkF m 84 #[.val (.int u1), .val (.int ((u1 &&& (2147483647 : Int32)) % (6 : Int32))), .val (.ref r4), .val (.int (0 : Int32))] [(.ref r4)])) _
              refine st9.trans ?_
              show Steps p.tables e below (T9.setTop (mkF m 87 #[.val (.int u1), .val (.int ((u1 &&& (2147483647 : Int32)) % (6 : Int32))), .val (.ref r4), .val (.int (0 : Int32))] [(.int (nar .boolean (bif (if_acmp.holds .ne (some ku) (some ks)) then (0 : Int32) else (1 : Int32))))])) _
              refine XS.iloadN X9.here hx rfl (hb hby at_87) rfl ?_
              show Steps p.tables e below (T9.setTop (mkF m 88 #[.val (.int u1), .val (.int ((u1 &&& (2147483647 : Int32)) % (6 : Int32))), .val (.ref r4), .val (.int (0 : Int32))] [(.int (0 : Int32)), (.int (nar .boolean (bif (if_acmp.holds .ne (some ku) (some ks)) then (0 : Int32) else (1 : Int32))))])) _
              refine XS.icmpNo X9.here hx rfl (hb hby at_88) rfl (own_k0 hus) ?_
              show Steps p.tables e below (T9.setTop (mkF m 91 #[.val (.int u1), .val (.int ((u1 &&& (2147483647 : Int32)) % (6 : Int32))), .val (.ref r4), .val (.int (0 : Int32))] [])) _
              refine XS.iconst X9.here hx rfl (hb hby at_91) ?_
              show Steps p.tables e below (T9.setTop (mkF m 92 #[.val (.int u1), .val (.int ((u1 &&& (2147483647 : Int32)) % (6 : Int32))), .val (.ref r4), .val (.int (0 : Int32))] [(.int (1 : Int32))])) _
              refine XS.goto X9.here hx rfl (pc0 := 92) (pc' := 96) rfl (hb hby at_92) (by decide) (by decide) ?_
              show Steps p.tables e below (T9.setTop (mkF m 96 #[.val (.int u1), .val (.int ((u1 &&& (2147483647 : Int32)) % (6 : Int32))), .val (.ref r4), .val (.int (0 : Int32))] [(.int (1 : Int32))])) _
              exact retN X9 hx (t := .boolean) Bd.returns (by simp) (hb hby at_96) hr
            · show Q_rm_law Z _ _ _ _ _ _ _ _ _ _ h0 n0 _ T9.heap _
              rw [eq9]
              exact ⟨rfl, N9⟩
        · obtain ⟨T10, X10, e10, st10⟩ := getS2 X0 hx hZ hown (host := "") (Or.inl (own_w hw 15 rfl)) Via.refl e0 S3 (g := (mkF m 54 #[.val (.int u1), .val (.int ((u1 &&& (2147483647 : Int32)) % (6 : Int32))), .unset, .unset] [])) rfl (hb hby at_54)
          obtain ⟨cq11, kq11, q11a, q11b, q11c⟩ := isOf hZ e10 E3
          obtain ⟨_, _, ⟨T11, L11, k11, n11⟩, -, X11, ⟨Lc11, hQ11, l11, y11, z11⟩, st11⟩ := X10.virtualBack hx (y := (⟨"com/example/guided_sim/guidedsim/model/Relation", "isStrong", "()Z"⟩ : MethodName)) (z := (⟨"com/example/guided_sim/guidedsim/model/Relation", "isStrong", "()Z"⟩ : MethodName)) hown (mvT hZ (own_w hw 4 rfl)) (mvT hZ (own_w hw 5 rfl)) (notFace_of_selects (args := #[]) (mvT hZ (own_w hw 7 rfl))) (mvT hZ (own_w hw 7 rfl)) (mvT hZ (own_w hw 6 rfl)) (by decide) (backOf (W := 0) (rm_str l Z a0 hw [] r3 ks ks h0 n0 Z0 F3 SK) hZ (own_w hw 8 rfl) (own_w hw 2 rfl) (by decide) (by decide)) q11a q11c (g := (mkF m 84 #[.val (.int u1), .val (.int ((u1 &&& (2147483647 : Int32)) % (6 : Int32))), .val (.ref r3), .val (.int (1 : Int32))] [(.ref r3)])) rfl (by rw [hml]; rfl) (Steps.refl _) (argsL := []) (rest := []) (lenOf pd_691901 rfl) rfl (by show 2 * 0 + _ ≤ _; exact Nat.le_of_eq rfl) (hb hby at_84) (fun _ _ => ⟨rfl, e10, (by decide : 0 + 0 ≤ _), (by decide : 0 + 0 ≤ _)⟩)
          dsimp only [Pt.U, Pt.locs, Pt.cells, Pt.slots] at X11 l11 y11 z11 st11 hQ11
          subst l11 y11 z11
          obtain ⟨rfl, Nq11, eq11⟩ := hQ11
          have N11 := Fr.app N0 Nq11
          obtain ⟨fs, hr, hrun, hended, hW, hsame⟩ := X11.leave (v := some (.int (1 : Int32))) (fun h => by rw [Bd.returns] at h; cases h)
          refine ⟨_, _, pre4 _ ?_, hrun, hended, _, _, rfl, ?_, ⟨_, rfl⟩, hW, hsame.mono (by decide) (by decide)⟩
          · show Steps p.tables e below (s₁.setTop (mkF m 51 #[.val (.int u1), .val (.int ((u1 &&& (2147483647 : Int32)) % (6 : Int32))), .unset, .unset] [(.int (3 : Int32)), (.int ((u1 &&& (2147483647 : Int32)) % (6 : Int32)))])) _
            refine XS.icmpNo X0.here hx rfl (hb hby at_51) rfl hb51 ?_
            show Steps p.tables e below (s₁.setTop (mkF m 54 #[.val (.int u1), .val (.int ((u1 &&& (2147483647 : Int32)) % (6 : Int32))), .unset, .unset] [])) _
            refine st10 _ ?_
            show Steps p.tables e below (T10.setTop (mkF m 57 #[.val (.int u1), .val (.int ((u1 &&& (2147483647 : Int32)) % (6 : Int32))), .unset, .unset] [(.ref r3)])) _
            refine XS.astoreN X10.here hx rfl (hb hby at_57) rfl rfl (l' := #[.val (.int u1), .val (.int ((u1 &&& (2147483647 : Int32)) % (6 : Int32))), .val (.ref r3), .unset]) rfl ?_
            show Steps p.tables e below (T10.setTop (mkF m 58 #[.val (.int u1), .val (.int ((u1 &&& (2147483647 : Int32)) % (6 : Int32))), .val (.ref r3), .unset] [])) _
            refine XS.iconst X10.here hx rfl (hb hby at_58) ?_
            show Steps p.tables e below (T10.setTop (mkF m 59 #[.val (.int u1), .val (.int ((u1 &&& (2147483647 : Int32)) % (6 : Int32))), .val (.ref r3), .unset] [(.int (1 : Int32))])) _
            refine XS.istoreN X10.here hx rfl (hb hby at_59) rfl (l' := #[.val (.int u1), .val (.int ((u1 &&& (2147483647 : Int32)) % (6 : Int32))), .val (.ref r3), .val (.int (1 : Int32))]) rfl ?_
            show Steps p.tables e below (T10.setTop (mkF m 60 #[.val (.int u1), .val (.int ((u1 &&& (2147483647 : Int32)) % (6 : Int32))), .val (.ref r3), .val (.int (1 : Int32))] [])) _
            refine XS.goto X10.here hx rfl (pc0 := 60) (pc' := 83) rfl (hb hby at_60) (by decide) (by decide) ?_
            show Steps p.tables e below (T10.setTop (mkF m 83 #[.val (.int u1), .val (.int ((u1 &&& (2147483647 : Int32)) % (6 : Int32))), .val (.ref r3), .val (.int (1 : Int32))] [])) _
            refine XS.aloadN X10.here hx rfl (hb hby at_83) rfl rfl ?_
            show Steps p.tables e below (T10.setTop (mkF m 84 #[.val (.int u1), .val (.int ((u1 &&& (2147483647 : Int32)) % (6 : Int32))), .val (.ref r3), .val (.int (1 : Int32))] [(.ref r3)])) _
            refine st11.trans ?_
            show Steps p.tables e below (T11.setTop (mkF m 87 #[.val (.int u1), .val (.int ((u1 &&& (2147483647 : Int32)) % (6 : Int32))), .val (.ref r3), .val (.int (1 : Int32))] [(.int (nar .boolean (bif (if_acmp.holds .ne (some ks) (some ks)) then (0 : Int32) else (1 : Int32))))])) _
            refine XS.iloadN X11.here hx rfl (hb hby at_87) rfl ?_
            show Steps p.tables e below (T11.setTop (mkF m 88 #[.val (.int u1), .val (.int ((u1 &&& (2147483647 : Int32)) % (6 : Int32))), .val (.ref r3), .val (.int (1 : Int32))] [(.int (1 : Int32)), (.int (nar .boolean (bif (if_acmp.holds .ne (some ks) (some ks)) then (0 : Int32) else (1 : Int32))))])) _
            refine XS.icmpNo X11.here hx rfl (hb hby at_88) rfl (own_k1 ks) ?_
            show Steps p.tables e below (T11.setTop (mkF m 91 #[.val (.int u1), .val (.int ((u1 &&& (2147483647 : Int32)) % (6 : Int32))), .val (.ref r3), .val (.int (1 : Int32))] [])) _
            refine XS.iconst X11.here hx rfl (hb hby at_91) ?_
            show Steps p.tables e below (T11.setTop (mkF m 92 #[.val (.int u1), .val (.int ((u1 &&& (2147483647 : Int32)) % (6 : Int32))), .val (.ref r3), .val (.int (1 : Int32))] [(.int (1 : Int32))])) _
            refine XS.goto X11.here hx rfl (pc0 := 92) (pc' := 96) rfl (hb hby at_92) (by decide) (by decide) ?_
            show Steps p.tables e below (T11.setTop (mkF m 96 #[.val (.int u1), .val (.int ((u1 &&& (2147483647 : Int32)) % (6 : Int32))), .val (.ref r3), .val (.int (1 : Int32))] [(.int (1 : Int32))])) _
            exact retN X11 hx (t := .boolean) Bd.returns (by simp) (hb hby at_96) hr
          · show Q_rm_law Z _ _ _ _ _ _ _ _ _ _ h0 n0 _ T11.heap _
            rw [eq11]
            exact ⟨rfl, N11⟩
      · obtain ⟨T12, X12, e12, st12⟩ := getS2 X0 hx hZ hown (host := "") (Or.inl (own_w hw 17 rfl)) Via.refl e0 S2 (g := (mkF m 40 #[.val (.int u1), .val (.int ((u1 &&& (2147483647 : Int32)) % (6 : Int32))), .unset, .unset] [])) rfl (hb hby at_40)
        obtain ⟨cq13, kq13, q13a, q13b, q13c⟩ := isOf hZ e12 E2
        obtain ⟨_, _, ⟨T13, L13, k13, n13⟩, -, X13, ⟨Lc13, hQ13, l13, y13, z13⟩, st13⟩ := X12.virtualBack hx (y := (⟨"com/example/guided_sim/guidedsim/model/Relation", "isStrong", "()Z"⟩ : MethodName)) (z := (⟨"com/example/guided_sim/guidedsim/model/Relation", "isStrong", "()Z"⟩ : MethodName)) hown (mvT hZ (own_w hw 4 rfl)) (mvT hZ (own_w hw 5 rfl)) (notFace_of_selects (args := #[]) (mvT hZ (own_w hw 7 rfl))) (mvT hZ (own_w hw 7 rfl)) (mvT hZ (own_w hw 6 rfl)) (by decide) (backOf (W := 0) (rm_str l Z a0 hw [] r2 kw ks h0 n0 Z0 F2 SK) hZ (own_w hw 8 rfl) (own_w hw 2 rfl) (by decide) (by decide)) q13a q13c (g := (mkF m 84 #[.val (.int u1), .val (.int ((u1 &&& (2147483647 : Int32)) % (6 : Int32))), .val (.ref r2), .val (.int (0 : Int32))] [(.ref r2)])) rfl (by rw [hml]; rfl) (Steps.refl _) (argsL := []) (rest := []) (lenOf pd_691901 rfl) rfl (by show 2 * 0 + _ ≤ _; exact Nat.le_of_eq rfl) (hb hby at_84) (fun _ _ => ⟨rfl, e12, (by decide : 0 + 0 ≤ _), (by decide : 0 + 0 ≤ _)⟩)
        dsimp only [Pt.U, Pt.locs, Pt.cells, Pt.slots] at X13 l13 y13 z13 st13 hQ13
        subst l13 y13 z13
        obtain ⟨rfl, Nq13, eq13⟩ := hQ13
        have N13 := Fr.app N0 Nq13
        obtain ⟨fs, hr, hrun, hended, hW, hsame⟩ := X13.leave (v := some (.int (1 : Int32))) (fun h => by rw [Bd.returns] at h; cases h)
        refine ⟨_, _, pre3 _ ?_, hrun, hended, _, _, rfl, ?_, ⟨_, rfl⟩, hW, hsame.mono (by decide) (by decide)⟩
        · show Steps p.tables e below (s₁.setTop (mkF m 37 #[.val (.int u1), .val (.int ((u1 &&& (2147483647 : Int32)) % (6 : Int32))), .unset, .unset] [(.int (2 : Int32)), (.int ((u1 &&& (2147483647 : Int32)) % (6 : Int32)))])) _
          refine XS.icmpNo X0.here hx rfl (hb hby at_37) rfl hb37 ?_
          show Steps p.tables e below (s₁.setTop (mkF m 40 #[.val (.int u1), .val (.int ((u1 &&& (2147483647 : Int32)) % (6 : Int32))), .unset, .unset] [])) _
          refine st12 _ ?_
          show Steps p.tables e below (T12.setTop (mkF m 43 #[.val (.int u1), .val (.int ((u1 &&& (2147483647 : Int32)) % (6 : Int32))), .unset, .unset] [(.ref r2)])) _
          refine XS.astoreN X12.here hx rfl (hb hby at_43) rfl rfl (l' := #[.val (.int u1), .val (.int ((u1 &&& (2147483647 : Int32)) % (6 : Int32))), .val (.ref r2), .unset]) rfl ?_
          show Steps p.tables e below (T12.setTop (mkF m 44 #[.val (.int u1), .val (.int ((u1 &&& (2147483647 : Int32)) % (6 : Int32))), .val (.ref r2), .unset] [])) _
          refine XS.iconst X12.here hx rfl (hb hby at_44) ?_
          show Steps p.tables e below (T12.setTop (mkF m 45 #[.val (.int u1), .val (.int ((u1 &&& (2147483647 : Int32)) % (6 : Int32))), .val (.ref r2), .unset] [(.int (0 : Int32))])) _
          refine XS.istoreN X12.here hx rfl (hb hby at_45) rfl (l' := #[.val (.int u1), .val (.int ((u1 &&& (2147483647 : Int32)) % (6 : Int32))), .val (.ref r2), .val (.int (0 : Int32))]) rfl ?_
          show Steps p.tables e below (T12.setTop (mkF m 46 #[.val (.int u1), .val (.int ((u1 &&& (2147483647 : Int32)) % (6 : Int32))), .val (.ref r2), .val (.int (0 : Int32))] [])) _
          refine XS.goto X12.here hx rfl (pc0 := 46) (pc' := 83) rfl (hb hby at_46) (by decide) (by decide) ?_
          show Steps p.tables e below (T12.setTop (mkF m 83 #[.val (.int u1), .val (.int ((u1 &&& (2147483647 : Int32)) % (6 : Int32))), .val (.ref r2), .val (.int (0 : Int32))] [])) _
          refine XS.aloadN X12.here hx rfl (hb hby at_83) rfl rfl ?_
          show Steps p.tables e below (T12.setTop (mkF m 84 #[.val (.int u1), .val (.int ((u1 &&& (2147483647 : Int32)) % (6 : Int32))), .val (.ref r2), .val (.int (0 : Int32))] [(.ref r2)])) _
          refine st13.trans ?_
          show Steps p.tables e below (T13.setTop (mkF m 87 #[.val (.int u1), .val (.int ((u1 &&& (2147483647 : Int32)) % (6 : Int32))), .val (.ref r2), .val (.int (0 : Int32))] [(.int (nar .boolean (bif (if_acmp.holds .ne (some kw) (some ks)) then (0 : Int32) else (1 : Int32))))])) _
          refine XS.iloadN X13.here hx rfl (hb hby at_87) rfl ?_
          show Steps p.tables e below (T13.setTop (mkF m 88 #[.val (.int u1), .val (.int ((u1 &&& (2147483647 : Int32)) % (6 : Int32))), .val (.ref r2), .val (.int (0 : Int32))] [(.int (0 : Int32)), (.int (nar .boolean (bif (if_acmp.holds .ne (some kw) (some ks)) then (0 : Int32) else (1 : Int32))))])) _
          refine XS.icmpNo X13.here hx rfl (hb hby at_88) rfl (own_k0 hws) ?_
          show Steps p.tables e below (T13.setTop (mkF m 91 #[.val (.int u1), .val (.int ((u1 &&& (2147483647 : Int32)) % (6 : Int32))), .val (.ref r2), .val (.int (0 : Int32))] [])) _
          refine XS.iconst X13.here hx rfl (hb hby at_91) ?_
          show Steps p.tables e below (T13.setTop (mkF m 92 #[.val (.int u1), .val (.int ((u1 &&& (2147483647 : Int32)) % (6 : Int32))), .val (.ref r2), .val (.int (0 : Int32))] [(.int (1 : Int32))])) _
          refine XS.goto X13.here hx rfl (pc0 := 92) (pc' := 96) rfl (hb hby at_92) (by decide) (by decide) ?_
          show Steps p.tables e below (T13.setTop (mkF m 96 #[.val (.int u1), .val (.int ((u1 &&& (2147483647 : Int32)) % (6 : Int32))), .val (.ref r2), .val (.int (0 : Int32))] [(.int (1 : Int32))])) _
          exact retN X13 hx (t := .boolean) Bd.returns (by simp) (hb hby at_96) hr
        · show Q_rm_law Z _ _ _ _ _ _ _ _ _ _ h0 n0 _ T13.heap _
          rw [eq13]
          exact ⟨rfl, N13⟩
    · obtain ⟨T14, X14, e14, st14⟩ := getS2 X0 hx hZ hown (host := "") (Or.inl (own_w hw 19 rfl)) Via.refl e0 S1 (g := (mkF m 26 #[.val (.int u1), .val (.int ((u1 &&& (2147483647 : Int32)) % (6 : Int32))), .unset, .unset] [])) rfl (hb hby at_26)
      obtain ⟨cq15, kq15, q15a, q15b, q15c⟩ := isOf hZ e14 E1
      obtain ⟨_, _, ⟨T15, L15, k15, n15⟩, -, X15, ⟨Lc15, hQ15, l15, y15, z15⟩, st15⟩ := X14.virtualBack hx (y := (⟨"com/example/guided_sim/guidedsim/model/Relation", "isStrong", "()Z"⟩ : MethodName)) (z := (⟨"com/example/guided_sim/guidedsim/model/Relation", "isStrong", "()Z"⟩ : MethodName)) hown (mvT hZ (own_w hw 4 rfl)) (mvT hZ (own_w hw 5 rfl)) (notFace_of_selects (args := #[]) (mvT hZ (own_w hw 7 rfl))) (mvT hZ (own_w hw 7 rfl)) (mvT hZ (own_w hw 6 rfl)) (by decide) (backOf (W := 0) (rm_str l Z a0 hw [] r1 ks ks h0 n0 Z0 F1 SK) hZ (own_w hw 8 rfl) (own_w hw 2 rfl) (by decide) (by decide)) q15a q15c (g := (mkF m 84 #[.val (.int u1), .val (.int ((u1 &&& (2147483647 : Int32)) % (6 : Int32))), .val (.ref r1), .val (.int (1 : Int32))] [(.ref r1)])) rfl (by rw [hml]; rfl) (Steps.refl _) (argsL := []) (rest := []) (lenOf pd_691901 rfl) rfl (by show 2 * 0 + _ ≤ _; exact Nat.le_of_eq rfl) (hb hby at_84) (fun _ _ => ⟨rfl, e14, (by decide : 0 + 0 ≤ _), (by decide : 0 + 0 ≤ _)⟩)
      dsimp only [Pt.U, Pt.locs, Pt.cells, Pt.slots] at X15 l15 y15 z15 st15 hQ15
      subst l15 y15 z15
      obtain ⟨rfl, Nq15, eq15⟩ := hQ15
      have N15 := Fr.app N0 Nq15
      obtain ⟨fs, hr, hrun, hended, hW, hsame⟩ := X15.leave (v := some (.int (1 : Int32))) (fun h => by rw [Bd.returns] at h; cases h)
      refine ⟨_, _, pre2 _ ?_, hrun, hended, _, _, rfl, ?_, ⟨_, rfl⟩, hW, hsame.mono (by decide) (by decide)⟩
      · show Steps p.tables e below (s₁.setTop (mkF m 23 #[.val (.int u1), .val (.int ((u1 &&& (2147483647 : Int32)) % (6 : Int32))), .unset, .unset] [(.int (1 : Int32)), (.int ((u1 &&& (2147483647 : Int32)) % (6 : Int32)))])) _
        refine XS.icmpNo X0.here hx rfl (hb hby at_23) rfl hb23 ?_
        show Steps p.tables e below (s₁.setTop (mkF m 26 #[.val (.int u1), .val (.int ((u1 &&& (2147483647 : Int32)) % (6 : Int32))), .unset, .unset] [])) _
        refine st14 _ ?_
        show Steps p.tables e below (T14.setTop (mkF m 29 #[.val (.int u1), .val (.int ((u1 &&& (2147483647 : Int32)) % (6 : Int32))), .unset, .unset] [(.ref r1)])) _
        refine XS.astoreN X14.here hx rfl (hb hby at_29) rfl rfl (l' := #[.val (.int u1), .val (.int ((u1 &&& (2147483647 : Int32)) % (6 : Int32))), .val (.ref r1), .unset]) rfl ?_
        show Steps p.tables e below (T14.setTop (mkF m 30 #[.val (.int u1), .val (.int ((u1 &&& (2147483647 : Int32)) % (6 : Int32))), .val (.ref r1), .unset] [])) _
        refine XS.iconst X14.here hx rfl (hb hby at_30) ?_
        show Steps p.tables e below (T14.setTop (mkF m 31 #[.val (.int u1), .val (.int ((u1 &&& (2147483647 : Int32)) % (6 : Int32))), .val (.ref r1), .unset] [(.int (1 : Int32))])) _
        refine XS.istoreN X14.here hx rfl (hb hby at_31) rfl (l' := #[.val (.int u1), .val (.int ((u1 &&& (2147483647 : Int32)) % (6 : Int32))), .val (.ref r1), .val (.int (1 : Int32))]) rfl ?_
        show Steps p.tables e below (T14.setTop (mkF m 32 #[.val (.int u1), .val (.int ((u1 &&& (2147483647 : Int32)) % (6 : Int32))), .val (.ref r1), .val (.int (1 : Int32))] [])) _
        refine XS.goto X14.here hx rfl (pc0 := 32) (pc' := 83) rfl (hb hby at_32) (by decide) (by decide) ?_
        show Steps p.tables e below (T14.setTop (mkF m 83 #[.val (.int u1), .val (.int ((u1 &&& (2147483647 : Int32)) % (6 : Int32))), .val (.ref r1), .val (.int (1 : Int32))] [])) _
        refine XS.aloadN X14.here hx rfl (hb hby at_83) rfl rfl ?_
        show Steps p.tables e below (T14.setTop (mkF m 84 #[.val (.int u1), .val (.int ((u1 &&& (2147483647 : Int32)) % (6 : Int32))), .val (.ref r1), .val (.int (1 : Int32))] [(.ref r1)])) _
        refine st15.trans ?_
        show Steps p.tables e below (T15.setTop (mkF m 87 #[.val (.int u1), .val (.int ((u1 &&& (2147483647 : Int32)) % (6 : Int32))), .val (.ref r1), .val (.int (1 : Int32))] [(.int (nar .boolean (bif (if_acmp.holds .ne (some ks) (some ks)) then (0 : Int32) else (1 : Int32))))])) _
        refine XS.iloadN X15.here hx rfl (hb hby at_87) rfl ?_
        show Steps p.tables e below (T15.setTop (mkF m 88 #[.val (.int u1), .val (.int ((u1 &&& (2147483647 : Int32)) % (6 : Int32))), .val (.ref r1), .val (.int (1 : Int32))] [(.int (1 : Int32)), (.int (nar .boolean (bif (if_acmp.holds .ne (some ks) (some ks)) then (0 : Int32) else (1 : Int32))))])) _
        refine XS.icmpNo X15.here hx rfl (hb hby at_88) rfl (own_k1 ks) ?_
        show Steps p.tables e below (T15.setTop (mkF m 91 #[.val (.int u1), .val (.int ((u1 &&& (2147483647 : Int32)) % (6 : Int32))), .val (.ref r1), .val (.int (1 : Int32))] [])) _
        refine XS.iconst X15.here hx rfl (hb hby at_91) ?_
        show Steps p.tables e below (T15.setTop (mkF m 92 #[.val (.int u1), .val (.int ((u1 &&& (2147483647 : Int32)) % (6 : Int32))), .val (.ref r1), .val (.int (1 : Int32))] [(.int (1 : Int32))])) _
        refine XS.goto X15.here hx rfl (pc0 := 92) (pc' := 96) rfl (hb hby at_92) (by decide) (by decide) ?_
        show Steps p.tables e below (T15.setTop (mkF m 96 #[.val (.int u1), .val (.int ((u1 &&& (2147483647 : Int32)) % (6 : Int32))), .val (.ref r1), .val (.int (1 : Int32))] [(.int (1 : Int32))])) _
        exact retN X15 hx (t := .boolean) Bd.returns (by simp) (hb hby at_96) hr
      · show Q_rm_law Z _ _ _ _ _ _ _ _ _ _ h0 n0 _ T15.heap _
        rw [eq15]
        exact ⟨rfl, N15⟩
  · obtain ⟨T16, X16, e16, st16⟩ := getS2 X0 hx hZ hown (host := "") (Or.inl (own_w hw 1 rfl)) Via.refl e0 S0 (g := (mkF m 12 #[.val (.int u1), .val (.int ((u1 &&& (2147483647 : Int32)) % (6 : Int32))), .unset, .unset] [])) rfl (hb hby at_12)
    obtain ⟨cq17, kq17, q17a, q17b, q17c⟩ := isOf hZ e16 E0
    obtain ⟨_, _, ⟨T17, L17, k17, n17⟩, -, X17, ⟨Lc17, hQ17, l17, y17, z17⟩, st17⟩ := X16.virtualBack hx (y := (⟨"com/example/guided_sim/guidedsim/model/Relation", "isStrong", "()Z"⟩ : MethodName)) (z := (⟨"com/example/guided_sim/guidedsim/model/Relation", "isStrong", "()Z"⟩ : MethodName)) hown (mvT hZ (own_w hw 4 rfl)) (mvT hZ (own_w hw 5 rfl)) (notFace_of_selects (args := #[]) (mvT hZ (own_w hw 7 rfl))) (mvT hZ (own_w hw 7 rfl)) (mvT hZ (own_w hw 6 rfl)) (by decide) (backOf (W := 0) (rm_str l Z a0 hw [] r0 kw ks h0 n0 Z0 F0 SK) hZ (own_w hw 8 rfl) (own_w hw 2 rfl) (by decide) (by decide)) q17a q17c (g := (mkF m 84 #[.val (.int u1), .val (.int ((u1 &&& (2147483647 : Int32)) % (6 : Int32))), .val (.ref r0), .val (.int (0 : Int32))] [(.ref r0)])) rfl (by rw [hml]; rfl) (Steps.refl _) (argsL := []) (rest := []) (lenOf pd_691901 rfl) rfl (by show 2 * 0 + _ ≤ _; exact Nat.le_of_eq rfl) (hb hby at_84) (fun _ _ => ⟨rfl, e16, (by decide : 0 + 0 ≤ _), (by decide : 0 + 0 ≤ _)⟩)
    dsimp only [Pt.U, Pt.locs, Pt.cells, Pt.slots] at X17 l17 y17 z17 st17 hQ17
    subst l17 y17 z17
    obtain ⟨rfl, Nq17, eq17⟩ := hQ17
    have N17 := Fr.app N0 Nq17
    obtain ⟨fs, hr, hrun, hended, hW, hsame⟩ := X17.leave (v := some (.int (1 : Int32))) (fun h => by rw [Bd.returns] at h; cases h)
    refine ⟨_, _, pre1 _ ?_, hrun, hended, _, _, rfl, ?_, ⟨_, rfl⟩, hW, hsame.mono (by decide) (by decide)⟩
    · show Steps p.tables e below (s₁.setTop (mkF m 9 #[.val (.int u1), .val (.int ((u1 &&& (2147483647 : Int32)) % (6 : Int32))), .unset, .unset] [(.int ((u1 &&& (2147483647 : Int32)) % (6 : Int32)))])) _
      refine XS.ifNo X0.here hx rfl (hb hby at_9) rfl hb9 ?_
      show Steps p.tables e below (s₁.setTop (mkF m 12 #[.val (.int u1), .val (.int ((u1 &&& (2147483647 : Int32)) % (6 : Int32))), .unset, .unset] [])) _
      refine st16 _ ?_
      show Steps p.tables e below (T16.setTop (mkF m 15 #[.val (.int u1), .val (.int ((u1 &&& (2147483647 : Int32)) % (6 : Int32))), .unset, .unset] [(.ref r0)])) _
      refine XS.astoreN X16.here hx rfl (hb hby at_15) rfl rfl (l' := #[.val (.int u1), .val (.int ((u1 &&& (2147483647 : Int32)) % (6 : Int32))), .val (.ref r0), .unset]) rfl ?_
      show Steps p.tables e below (T16.setTop (mkF m 16 #[.val (.int u1), .val (.int ((u1 &&& (2147483647 : Int32)) % (6 : Int32))), .val (.ref r0), .unset] [])) _
      refine XS.iconst X16.here hx rfl (hb hby at_16) ?_
      show Steps p.tables e below (T16.setTop (mkF m 17 #[.val (.int u1), .val (.int ((u1 &&& (2147483647 : Int32)) % (6 : Int32))), .val (.ref r0), .unset] [(.int (0 : Int32))])) _
      refine XS.istoreN X16.here hx rfl (hb hby at_17) rfl (l' := #[.val (.int u1), .val (.int ((u1 &&& (2147483647 : Int32)) % (6 : Int32))), .val (.ref r0), .val (.int (0 : Int32))]) rfl ?_
      show Steps p.tables e below (T16.setTop (mkF m 18 #[.val (.int u1), .val (.int ((u1 &&& (2147483647 : Int32)) % (6 : Int32))), .val (.ref r0), .val (.int (0 : Int32))] [])) _
      refine XS.goto X16.here hx rfl (pc0 := 18) (pc' := 83) rfl (hb hby at_18) (by decide) (by decide) ?_
      show Steps p.tables e below (T16.setTop (mkF m 83 #[.val (.int u1), .val (.int ((u1 &&& (2147483647 : Int32)) % (6 : Int32))), .val (.ref r0), .val (.int (0 : Int32))] [])) _
      refine XS.aloadN X16.here hx rfl (hb hby at_83) rfl rfl ?_
      show Steps p.tables e below (T16.setTop (mkF m 84 #[.val (.int u1), .val (.int ((u1 &&& (2147483647 : Int32)) % (6 : Int32))), .val (.ref r0), .val (.int (0 : Int32))] [(.ref r0)])) _
      refine st17.trans ?_
      show Steps p.tables e below (T17.setTop (mkF m 87 #[.val (.int u1), .val (.int ((u1 &&& (2147483647 : Int32)) % (6 : Int32))), .val (.ref r0), .val (.int (0 : Int32))] [(.int (nar .boolean (bif (if_acmp.holds .ne (some kw) (some ks)) then (0 : Int32) else (1 : Int32))))])) _
      refine XS.iloadN X17.here hx rfl (hb hby at_87) rfl ?_
      show Steps p.tables e below (T17.setTop (mkF m 88 #[.val (.int u1), .val (.int ((u1 &&& (2147483647 : Int32)) % (6 : Int32))), .val (.ref r0), .val (.int (0 : Int32))] [(.int (0 : Int32)), (.int (nar .boolean (bif (if_acmp.holds .ne (some kw) (some ks)) then (0 : Int32) else (1 : Int32))))])) _
      refine XS.icmpNo X17.here hx rfl (hb hby at_88) rfl (own_k0 hws) ?_
      show Steps p.tables e below (T17.setTop (mkF m 91 #[.val (.int u1), .val (.int ((u1 &&& (2147483647 : Int32)) % (6 : Int32))), .val (.ref r0), .val (.int (0 : Int32))] [])) _
      refine XS.iconst X17.here hx rfl (hb hby at_91) ?_
      show Steps p.tables e below (T17.setTop (mkF m 92 #[.val (.int u1), .val (.int ((u1 &&& (2147483647 : Int32)) % (6 : Int32))), .val (.ref r0), .val (.int (0 : Int32))] [(.int (1 : Int32))])) _
      refine XS.goto X17.here hx rfl (pc0 := 92) (pc' := 96) rfl (hb hby at_92) (by decide) (by decide) ?_
      show Steps p.tables e below (T17.setTop (mkF m 96 #[.val (.int u1), .val (.int ((u1 &&& (2147483647 : Int32)) % (6 : Int32))), .val (.ref r0), .val (.int (0 : Int32))] [(.int (1 : Int32))])) _
      exact retN X17 hx (t := .boolean) Bd.returns (by simp) (hb hby at_96) hr
    · show Q_rm_law Z _ _ _ _ _ _ _ _ _ _ h0 n0 _ T17.heap _
      rw [eq17]
      exact ⟨rfl, N17⟩
theorem own_ord {s : State} {args : Array Value} {t : Term} {a : Addr} {C n d : String} {k : Int32} (ht : t.eval args s none [] s = some (.ref a)) (h : (Jvm.Cond.eq (.field t C n d) (.int k)).value args s none s [] = some true) : Fld s s.heap a C n d (.int k) := by
  obtain ⟨x, y, ex, ey, kin⟩ := cmp_v (Or.inl h)
  cases (Term.int_eval k).symm.trans ey
  refine Fld.start ?_
  rw [← fld_at ht, ex]
  cases x <;> simp [Kin] at kin
  have q := Cond.eq_ints ex (Term.int_eval k)
  rw [q] at h
  have := of_decide_eq_true (Option.some.inj h)
  rw [this]
theorem own_ref {s : State} {args : Array Value} {t u : Term} {a b : Addr} {C n d : String} (ht : t.eval args s none [] s = some (.ref a)) (hu : u.eval args s none [] s = some (.ref b)) (h : (Jvm.Cond.eq (.field t C n d) u).value args s none s [] = some true) : Fld s s.heap a C n d (.ref b) := by
  obtain ⟨x, y, ex, ey, kin⟩ := cmp_v (Or.inl h)
  cases hu.symm.trans ey
  refine Fld.start ?_
  rw [← fld_at ht, ex]
  cases x <;> simp [Cond.value, ex, hu] at h
  rw [h]
set_option maxRecDepth 65536 in
set_option maxHeartbeats 40000000 in
theorem comes_1 {Post : Tables → Env → Array Value → State → Outcome → State → Prop} (hpost : ∀ tb e args s v u, (limb_1_1.after args s (.returned v) u = true ∧ limb_1_2.after args s (.returned v) u = true ∧ True) → FrameEnd s (.returned v) u (Jvm.fieldLocs frame_1_writes args s ++ Jvm.arrayLocs frame_1_arrays args s ++ Jvm.staticLocs frame_1_statics s) 0 0 → Post tb e args s (.returned v) u) :
    ArmFor flags0 classFile x code maxLocals ret World_1 tables_1 room_1 Calls_1 rest_1 Pre_1 Post := by
  intro l hfl _ _ p e ha hc hk s m args below hf hA hF happ hP
  obtain ⟨hcalls, hrest, hpre⟩ := hP
  obtain ⟨-, -, -, hnamed, -, -, -, hat⟩ := (Spec.applies_iff hf).mp happ
  obtain ⟨hg, hn⟩ := and_e (Cond.before_iff.mp (show (Jvm.Cond.and given_1 narrow_1).before args s = true from hpre))
  obtain ⟨ha0, hb0⟩ := and_e hg
  obtain ⟨w0, rfl⟩ : ∃ w0 : Value, args = #[w0] := by
    have hs : args.size = 1 := by simpa [Cond.value, given_1] using ha0
    obtain ⟨L⟩ := args
    match L, hs with
    | [w0], _ => exact ⟨w0, rfl⟩
  have hw := fun d (hd : d ∈ tables_1) => atoms_spec (ws := Jvm.Cond.code x code maxLocals ret :: tables_1) hat d (List.mem_cons_of_mem _ hd)
  have hfit : Fit s := fun {y c} hc i hi => by
    obtain ⟨ha, rfl⟩ := Array.getElem?_eq_some_iff.mp hc
    have q := List.all_eq_true.mp ((Array.all_eq_true_iff_forall_mem.mp hF) _ (Array.getElem_mem ha)) i (List.mem_range.mpr hi)
    simpa [Array.getElem?_eq_getElem hi] using q
  obtain ⟨i0, ei0⟩ := is_v hb0
  obtain rfl : w0 = (.int i0) := Option.some.inj ei0
  obtain ⟨m0, t0⟩ := and_e hn
  obtain ⟨m1, t1⟩ := and_e t0
  obtain ⟨m2, t2⟩ := and_e t1
  obtain ⟨m3, t3⟩ := and_e t2
  obtain ⟨m4, t4⟩ := and_e t3
  obtain ⟨m5, t5⟩ := and_e t4
  obtain ⟨m6, t6⟩ := and_e t5
  obtain ⟨m7, t7⟩ := and_e t6
  obtain ⟨m8, t8⟩ := and_e t7
  obtain ⟨m9, t9⟩ := and_e t8
  obtain ⟨m10, t10⟩ := and_e t9
  obtain ⟨m11, t11⟩ := and_e t10
  obtain ⟨m12, t12⟩ := and_e t11
  obtain ⟨m13, t13⟩ := and_e t12
  obtain ⟨m14, t14⟩ := and_e t13
  obtain ⟨m15, t15⟩ := and_e t14
  obtain ⟨m16, t16⟩ := and_e t15
  have m17 := t16
  obtain ⟨kw, ekw⟩ := exa_v m1
  have Skw : Sta s s.heap "com/example/guided_sim/guidedsim/model/Relation$Kind" "WEAK" "Lcom/example/guided_sim/guidedsim/model/Relation$Kind;" (.ref kw) := Sta.start ekw (Or.inr ⟨(own_w hw 11 rfl), (own_w hw 12 rfl)⟩)
  have Okw : Fld s s.heap kw "java/lang/Enum" "ordinal" "I" (.int (0 : Int32)) := own_ord ekw m4
  obtain ⟨ks, eks⟩ := exa_v m3
  have Sks : Sta s s.heap "com/example/guided_sim/guidedsim/model/Relation$Kind" "STRONG" "Lcom/example/guided_sim/guidedsim/model/Relation$Kind;" (.ref ks) := Sta.start eks (Or.inr ⟨(own_w hw 11 rfl), (own_w hw 14 rfl)⟩)
  have Oks : Fld s s.heap ks "java/lang/Enum" "ordinal" "I" (.int (1 : Int32)) := own_ord eks m5
  obtain ⟨ku, eku⟩ := exa_v m13
  have Sku : Sta s s.heap "com/example/guided_sim/guidedsim/model/Relation$Kind" "UNIVERSAL" "Lcom/example/guided_sim/guidedsim/model/Relation$Kind;" (.ref ku) := Sta.start eku (Or.inr ⟨(own_w hw 11 rfl), (own_w hw 23 rfl)⟩)
  have Oku : Fld s s.heap ku "java/lang/Enum" "ordinal" "I" (.int (2 : Int32)) := own_ord eku m15
  have hws : kw ≠ ks := Fld.ne Okw Oks (by decide)
  have hus : ku ≠ ks := Fld.ne Oku Oks (by decide)
  obtain ⟨r0, er0⟩ := exa_v m0
  have S0 : Sta s s.heap "com/example/guided_sim/guidedsim/model/Relation" "WEAK_FEASIBILITY" "Lcom/example/guided_sim/guidedsim/model/Relation;" (.ref r0) := Sta.start er0 (Or.inr ⟨(own_w hw 2 rfl), (own_w hw 3 rfl)⟩)
  have E0 : Exa s s.heap r0 "com/example/guided_sim/guidedsim/model/Relation" := Exa.start er0 m0
  have F0 : Fld s s.heap r0 "com/example/guided_sim/guidedsim/model/Relation" "kind" "Lcom/example/guided_sim/guidedsim/model/Relation$Kind;" (.ref kw) := own_ref er0 ekw m2
  obtain ⟨r1, er1⟩ := exa_v m10
  have S1 : Sta s s.heap "com/example/guided_sim/guidedsim/model/Relation" "STRONG_FEASIBILITY" "Lcom/example/guided_sim/guidedsim/model/Relation;" (.ref r1) := Sta.start er1 (Or.inr ⟨(own_w hw 2 rfl), (own_w hw 20 rfl)⟩)
  have E1 : Exa s s.heap r1 "com/example/guided_sim/guidedsim/model/Relation" := Exa.start er1 m10
  have F1 : Fld s s.heap r1 "com/example/guided_sim/guidedsim/model/Relation" "kind" "Lcom/example/guided_sim/guidedsim/model/Relation$Kind;" (.ref ks) := own_ref er1 eks m11
  obtain ⟨r2, er2⟩ := exa_v m8
  have S2 : Sta s s.heap "com/example/guided_sim/guidedsim/model/Relation" "WEAK_REFUTABILITY" "Lcom/example/guided_sim/guidedsim/model/Relation;" (.ref r2) := Sta.start er2 (Or.inr ⟨(own_w hw 2 rfl), (own_w hw 18 rfl)⟩)
  have E2 : Exa s s.heap r2 "com/example/guided_sim/guidedsim/model/Relation" := Exa.start er2 m8
  have F2 : Fld s s.heap r2 "com/example/guided_sim/guidedsim/model/Relation" "kind" "Lcom/example/guided_sim/guidedsim/model/Relation$Kind;" (.ref kw) := own_ref er2 ekw m9
  obtain ⟨r3, er3⟩ := exa_v m6
  have S3 : Sta s s.heap "com/example/guided_sim/guidedsim/model/Relation" "STRONG_REFUTABILITY" "Lcom/example/guided_sim/guidedsim/model/Relation;" (.ref r3) := Sta.start er3 (Or.inr ⟨(own_w hw 2 rfl), (own_w hw 16 rfl)⟩)
  have E3 : Exa s s.heap r3 "com/example/guided_sim/guidedsim/model/Relation" := Exa.start er3 m6
  have F3 : Fld s s.heap r3 "com/example/guided_sim/guidedsim/model/Relation" "kind" "Lcom/example/guided_sim/guidedsim/model/Relation$Kind;" (.ref ks) := own_ref er3 eks m7
  obtain ⟨r4, er4⟩ := exa_v m16
  have S4 : Sta s s.heap "com/example/guided_sim/guidedsim/model/Relation" "CERTAINTY" "Lcom/example/guided_sim/guidedsim/model/Relation;" (.ref r4) := Sta.start er4 (Or.inr ⟨(own_w hw 2 rfl), (own_w hw 25 rfl)⟩)
  have E4 : Exa s s.heap r4 "com/example/guided_sim/guidedsim/model/Relation" := Exa.start er4 m16
  have F4 : Fld s s.heap r4 "com/example/guided_sim/guidedsim/model/Relation" "kind" "Lcom/example/guided_sim/guidedsim/model/Relation$Kind;" (.ref ku) := own_ref er4 eku m17
  obtain ⟨r5, er5⟩ := exa_v m12
  have S5 : Sta s s.heap "com/example/guided_sim/guidedsim/model/Relation" "IMPOSSIBILITY" "Lcom/example/guided_sim/guidedsim/model/Relation;" (.ref r5) := Sta.start er5 (Or.inr ⟨(own_w hw 2 rfl), (own_w hw 22 rfl)⟩)
  have E5 : Exa s s.heap r5 "com/example/guided_sim/guidedsim/model/Relation" := Exa.start er5 m12
  have F5 : Fld s s.heap r5 "com/example/guided_sim/guidedsim/model/Relation" "kind" "Lcom/example/guided_sim/guidedsim/model/Relation$Kind;" (.ref ku) := own_ref er5 eku m14
  obtain ⟨n, o, h1, h2, h3, _, L, rfl, ⟨rfl, N⟩, hq⟩ := rm_law l s _ hw tables_1 i0 kw ks ku r0 r1 r2 r3 r4 r5 s.heap s.heap.size (Nat.le_refl _) Sks hws hus S0 E0 F0 S1 E1 F1 S2 E2 F2 S3 E3 F3 S4 E4 F4 S5 E5 F5 p e ha hc hk s m _ below hf ((Spec.applies_iff_loose hf).mp happ).1 ⟨rfl, State.Warmed39.refl s, rfl⟩ trivial
  refine ⟨n, _, h1, h2, h3, hpost _ _ _ _ _ _ ⟨Cond.after_iff.mpr rfl, Cond.after_iff.mpr (eq_i res_at (Term.int_eval (1)) rfl), trivial⟩ ⟨hq.1, hq.2.1, (hq.2.2.sift fun y hy => Or.inr (N y hy)).mono (by decide) (by decide)⟩⟩
theorem main_1_1 : Claimed_1_1 := comes_1 fun _ _ _ _ _ _ h hF => ⟨h.1, hF⟩
theorem main_1_2 : Claimed_1_2 := comes_1 fun _ _ _ _ _ _ h hF => ⟨h.2.1, hF⟩
end Jvm.Pilot.@@N@@
namespace Jvm.Pilot.@@N@@
open Jvm Jvm.ClassFile Sem Op Lib Jvm.Free Jvm.Stand Jvm.Pilot.@@N@@.Jvm.D
/-! MADE BY PROGRAM (witnessworld.py) out of the Statement's table words and the real class files: 13 classes; the members and pool entries that the words name. The judged class is class 1, her method 1. -/
namespace start1
open Jvm.ClassFile
def u (s : String) : CpInfo := .utf8 (stringToUtf16 s)
/-- a pool by its gaps: so many unusable entries, then the entry; so many at the end -/
def gap : Nat → List CpInfo → List CpInfo
  | 0, r => r
  | n + 1, r => .unusable :: gap n r
def poolList (es : List (Nat × CpInfo)) (last : Nat) : List CpInfo := es.foldr (fun e r => gap e.1 (e.2 :: r)) (gap last [])
def pool (es : List (Nat × CpInfo)) (last : Nat) : Array CpInfo := ⟨poolList es last⟩
def fileOf (pool : Array CpInfo) (this : Nat) (attrs : Array Attribute := #[]) (ms : Array MethodInfo := #[]) (fl : Nat := 33) (sup : Nat := 0) (ifs : Array Nat := #[]) (fds : Array FieldInfo := #[]) : ClassFile where
  minorVersion := 0
  majorVersion := 65
  constantPool := pool
  accessFlags := fl
  thisClass := this
  superClass := sup
  interfaces := ifs
  fields := fds
  methods := ms
  attributes := attrs
def plain (name : String) (sup : Option ClassId) : Class where
  name := name
  kind := .ordinary
  loader := none
  accessFlags := 33
  super := sup
  interfaces := #[]
  cf := none
  fields := #[]
  methods := #[]
  instanceTypes := #[]
  staticTypes := #[]
  resolved := #[]
  callSites := []
  init := .initialized
  statics := none
  mirror := none

def pool0 : Array CpInfo := pool [(5, u "<init>"), (0, u "()V"), (1, .class_ 10), (1, u "java/lang/Object")] 113

def k0m0 : Method := { name := "<init>", desc := "()V", sig := { parameters := [], returnType := none }, accessFlags := 1, code := none }
/-- java/lang/Object -/
def k0 : Class := { plain "java/lang/Object" none with
  accessFlags := 33
  interfaces := #[]
  cf := some (fileOf pool0 8 #[] #[{ accessFlags := 1, nameIndex := 5, descriptorIndex := 6, attributes := #[] }] 33 0 #[] #[])
  fields := #[]
  methods := #[k0m0]
  instanceTypes := #[]
  staticTypes := #[]
  resolved := Array.replicate 124 none
  statics := none }

def pool1 : Array CpInfo := pool [(2, .class_ 4), (1, u "java/lang/Object"), (0, u "<init>"), (0, u "()V"), (0, .integer 2147483647), (0, .fieldref 9 10), (0, .class_ 11), (0, .nameAndType 12 13), (0, u "com/example/guided_sim/guidedsim/model/Relation"), (0, u "WEAK_FEASIBILITY"), (0, u "Lcom/example/guided_sim/guidedsim/model/Relation;"), (0, .fieldref 9 15), (0, .nameAndType 16 13), (0, u "STRONG_FEASIBILITY"), (0, .fieldref 9 18), (0, .nameAndType 19 13), (0, u "WEAK_REFUTABILITY"), (0, .fieldref 9 21), (0, .nameAndType 22 13), (0, u "STRONG_REFUTABILITY"), (0, .fieldref 9 24), (0, .nameAndType 25 13), (0, u "CERTAINTY"), (0, .fieldref 9 27), (0, .nameAndType 28 13), (0, u "IMPOSSIBILITY"), (0, .methodref 9 30), (0, .nameAndType 31 32), (0, u "isStrong"), (0, u "()Z"), (0, .class_ 34), (0, u "com/example/guided_sim/guidedsim/model/RelationIsStrongPinLaw"), (2, u "law"), (0, u "(I)Z")] 3

def k1m0 : Method := { name := "<init>", desc := "()V", sig := { parameters := [], returnType := none }, accessFlags := 1, code := none }
def k1c1 : Code := { maxStack := 2, maxLocals := 4, code := code, exceptionTable := #[], attributes := #[] }
def k1m1 : Method := { name := "law", desc := "(I)Z", sig := { parameters := [.int], returnType := some .boolean }, accessFlags := 9, code := some k1c1 }
/-- com/example/guided_sim/guidedsim/model/RelationIsStrongPinLaw -/
def k1 : Class := { plain "com/example/guided_sim/guidedsim/model/RelationIsStrongPinLaw" (some 0) with
  accessFlags := 49
  interfaces := #[]
  cf := some (fileOf pool1 33 #[] #[{ accessFlags := 1, nameIndex := 5, descriptorIndex := 6, attributes := #[] }, { accessFlags := 9, nameIndex := 37, descriptorIndex := 38, attributes := #[] }] 49 2 #[] #[])
  fields := #[]
  methods := #[k1m0, k1m1]
  instanceTypes := #[]
  staticTypes := #[]
  resolved := Array.replicate 42 none
  statics := none }

def pool2 : Array CpInfo := pool [(1, .class_ 2), (0, u "java/lang/constant/Constable"), (0, .class_ 4), (0, u "java/lang/Object")] 6

/-- java/lang/constant/Constable -/
def k2 : Class := { plain "java/lang/constant/Constable" (some 0) with
  accessFlags := 1537
  interfaces := #[]
  cf := some (fileOf pool2 1 #[] #[] 1537 3 #[] #[])
  fields := #[]
  methods := #[]
  instanceTypes := #[]
  staticTypes := #[]
  resolved := Array.replicate 11 none
  statics := none }

def pool3 : Array CpInfo := pool [(1, .class_ 2), (0, u "java/lang/Comparable"), (0, .class_ 4), (0, u "java/lang/Object")] 7

/-- java/lang/Comparable -/
def k3 : Class := { plain "java/lang/Comparable" (some 0) with
  accessFlags := 1537
  interfaces := #[]
  cf := some (fileOf pool3 1 #[] #[] 1537 3 #[] #[])
  fields := #[]
  methods := #[]
  instanceTypes := #[]
  staticTypes := #[]
  resolved := Array.replicate 12 none
  statics := none }

def pool4 : Array CpInfo := pool [(1, .class_ 2), (0, u "java/io/Serializable"), (0, .class_ 4), (0, u "java/lang/Object")] 2

/-- java/io/Serializable -/
def k4 : Class := { plain "java/io/Serializable" (some 0) with
  accessFlags := 1537
  interfaces := #[]
  cf := some (fileOf pool4 1 #[] #[] 1537 3 #[] #[])
  fields := #[]
  methods := #[]
  instanceTypes := #[]
  staticTypes := #[]
  resolved := Array.replicate 7 none
  statics := none }

def pool5 : Array CpInfo := pool [(2, .class_ 4), (1, u "java/lang/Enum"), (0, u "name"), (0, u "Ljava/lang/String;"), (2, u "ordinal"), (0, u "I"), (1, .class_ 14), (1, u "java/lang/Object"), (4, u "hash"), (86, .class_ 108), (1, u "java/lang/Enum$EnumDesc"), (2, .class_ 112), (0, u "java/lang/constant/Constable"), (0, .class_ 114), (0, u "java/lang/Comparable"), (0, .class_ 116), (0, u "java/io/Serializable")] 87

/-- java/lang/Enum -/
def k5 : Class := { plain "java/lang/Enum" (some 0) with
  accessFlags := 1057
  interfaces := #[2, 3, 4]
  cf := some (fileOf pool5 2 #[.nestMembers #[106]] #[] 1057 12 #[111, 113, 115] #[{ accessFlags := 18, nameIndex := 5, descriptorIndex := 6, attributes := #[] }, { accessFlags := 18, nameIndex := 9, descriptorIndex := 10, attributes := #[] }, { accessFlags := 2, nameIndex := 19, descriptorIndex := 10, attributes := #[] }])
  fields := #[{ name := "name", type := (.object "java/lang/String"), accessFlags := 18, slot := 0, constantValue := 0 }, { name := "ordinal", type := .int, accessFlags := 18, slot := 1, constantValue := 0 }, { name := "hash", type := .int, accessFlags := 2, slot := 2, constantValue := 0 }]
  methods := #[]
  instanceTypes := #[(.object "java/lang/String"), .int, .int]
  staticTypes := #[]
  resolved := Array.replicate 204 none
  statics := none }

def pool6 : Array CpInfo := pool [(1, .class_ 2), (0, u "com/example/guided_sim/guidedsim/model/Relation"), (2, u "WEAK_FEASIBILITY"), (0, u "Lcom/example/guided_sim/guidedsim/model/Relation;"), (2, u "STRONG_FEASIBILITY"), (2, u "WEAK_REFUTABILITY"), (2, u "STRONG_REFUTABILITY"), (2, u "CERTAINTY"), (2, u "IMPOSSIBILITY"), (2, u "$VALUES"), (0, u "[Lcom/example/guided_sim/guidedsim/model/Relation;"), (6, .class_ 34), (1, u "java/lang/Enum"), (8, u "name"), (0, u "Ljava/lang/String;"), (2, u "goal"), (0, .fieldref 1 49), (0, .nameAndType 50 51), (0, u "kind"), (0, u "Lcom/example/guided_sim/guidedsim/model/Relation$Kind;"), (12, .fieldref 65 66), (0, .class_ 67), (0, .nameAndType 68 51), (0, u "com/example/guided_sim/guidedsim/model/Relation$Kind"), (0, u "STRONG"), (41, u "isStrong"), (0, u "()Z")] 10

def k6c0 : Code := { maxStack := 2, maxLocals := 1, code := prog_45_method_6_code, exceptionTable := #[], attributes := #[] }
def k6m0 : Method := { name := "isStrong", desc := "()Z", sig := { parameters := [], returnType := some .boolean }, accessFlags := 1, code := some k6c0 }
/-- com/example/guided_sim/guidedsim/model/Relation -/
def k6 : Class := { plain "com/example/guided_sim/guidedsim/model/Relation" (some 5) with
  accessFlags := 16433
  interfaces := #[]
  cf := some (fileOf pool6 1 #[.nestMembers #[65]] #[{ accessFlags := 1, nameIndex := 110, descriptorIndex := 111, attributes := #[] }] 16433 32 #[] #[{ accessFlags := 16409, nameIndex := 5, descriptorIndex := 6, attributes := #[] }, { accessFlags := 16409, nameIndex := 9, descriptorIndex := 6, attributes := #[] }, { accessFlags := 16409, nameIndex := 12, descriptorIndex := 6, attributes := #[] }, { accessFlags := 16409, nameIndex := 15, descriptorIndex := 6, attributes := #[] }, { accessFlags := 16409, nameIndex := 18, descriptorIndex := 6, attributes := #[] }, { accessFlags := 16409, nameIndex := 21, descriptorIndex := 6, attributes := #[] }, { accessFlags := 18, nameIndex := 43, descriptorIndex := 44, attributes := #[] }, { accessFlags := 18, nameIndex := 47, descriptorIndex := 44, attributes := #[] }, { accessFlags := 18, nameIndex := 50, descriptorIndex := 51, attributes := #[] }, { accessFlags := 4122, nameIndex := 24, descriptorIndex := 25, attributes := #[] }])
  fields := #[{ name := "WEAK_FEASIBILITY", type := (.object "com/example/guided_sim/guidedsim/model/Relation"), accessFlags := 16409, slot := 0, constantValue := 0 }, { name := "STRONG_FEASIBILITY", type := (.object "com/example/guided_sim/guidedsim/model/Relation"), accessFlags := 16409, slot := 1, constantValue := 0 }, { name := "WEAK_REFUTABILITY", type := (.object "com/example/guided_sim/guidedsim/model/Relation"), accessFlags := 16409, slot := 2, constantValue := 0 }, { name := "STRONG_REFUTABILITY", type := (.object "com/example/guided_sim/guidedsim/model/Relation"), accessFlags := 16409, slot := 3, constantValue := 0 }, { name := "CERTAINTY", type := (.object "com/example/guided_sim/guidedsim/model/Relation"), accessFlags := 16409, slot := 4, constantValue := 0 }, { name := "IMPOSSIBILITY", type := (.object "com/example/guided_sim/guidedsim/model/Relation"), accessFlags := 16409, slot := 5, constantValue := 0 }, { name := "name", type := (.object "java/lang/String"), accessFlags := 18, slot := 3, constantValue := 0 }, { name := "goal", type := (.object "java/lang/String"), accessFlags := 18, slot := 4, constantValue := 0 }, { name := "kind", type := (.object "com/example/guided_sim/guidedsim/model/Relation$Kind"), accessFlags := 18, slot := 5, constantValue := 0 }, { name := "$VALUES", type := (.array (.object "com/example/guided_sim/guidedsim/model/Relation")), accessFlags := 4122, slot := 6, constantValue := 0 }]
  methods := #[k6m0]
  instanceTypes := #[(.object "java/lang/String"), .int, .int, (.object "java/lang/String"), (.object "java/lang/String"), (.object "com/example/guided_sim/guidedsim/model/Relation$Kind")]
  staticTypes := #[(.object "com/example/guided_sim/guidedsim/model/Relation"), (.object "com/example/guided_sim/guidedsim/model/Relation"), (.object "com/example/guided_sim/guidedsim/model/Relation"), (.object "com/example/guided_sim/guidedsim/model/Relation"), (.object "com/example/guided_sim/guidedsim/model/Relation"), (.object "com/example/guided_sim/guidedsim/model/Relation"), (.array (.object "com/example/guided_sim/guidedsim/model/Relation"))]
  resolved := Array.replicate 122 none
  statics := some 0 }

def pool7 : Array CpInfo := pool [(1, .class_ 2), (0, u "com/example/guided_sim/guidedsim/model/Relation$Kind"), (2, u "WEAK"), (0, u "Lcom/example/guided_sim/guidedsim/model/Relation$Kind;"), (2, u "STRONG"), (2, u "UNIVERSAL"), (2, u "$VALUES"), (0, u "[Lcom/example/guided_sim/guidedsim/model/Relation$Kind;"), (6, .class_ 25), (1, u "java/lang/Enum"), (26, .class_ 53), (0, u "com/example/guided_sim/guidedsim/model/Relation")] 2

/-- com/example/guided_sim/guidedsim/model/Relation$Kind -/
def k7 : Class := { plain "com/example/guided_sim/guidedsim/model/Relation$Kind" (some 5) with
  accessFlags := 16432
  interfaces := #[]
  cf := some (fileOf pool7 1 #[.nestHost 52] #[] 16432 23 #[] #[{ accessFlags := 16409, nameIndex := 5, descriptorIndex := 6, attributes := #[] }, { accessFlags := 16409, nameIndex := 9, descriptorIndex := 6, attributes := #[] }, { accessFlags := 16409, nameIndex := 12, descriptorIndex := 6, attributes := #[] }, { accessFlags := 4122, nameIndex := 15, descriptorIndex := 16, attributes := #[] }])
  fields := #[{ name := "WEAK", type := (.object "com/example/guided_sim/guidedsim/model/Relation$Kind"), accessFlags := 16409, slot := 0, constantValue := 0 }, { name := "STRONG", type := (.object "com/example/guided_sim/guidedsim/model/Relation$Kind"), accessFlags := 16409, slot := 1, constantValue := 0 }, { name := "UNIVERSAL", type := (.object "com/example/guided_sim/guidedsim/model/Relation$Kind"), accessFlags := 16409, slot := 2, constantValue := 0 }, { name := "$VALUES", type := (.array (.object "com/example/guided_sim/guidedsim/model/Relation$Kind")), accessFlags := 4122, slot := 3, constantValue := 0 }]
  methods := #[]
  instanceTypes := #[(.object "java/lang/String"), .int, .int]
  staticTypes := #[(.object "com/example/guided_sim/guidedsim/model/Relation$Kind"), (.object "com/example/guided_sim/guidedsim/model/Relation$Kind"), (.object "com/example/guided_sim/guidedsim/model/Relation$Kind"), (.array (.object "com/example/guided_sim/guidedsim/model/Relation$Kind"))]
  resolved := Array.replicate 56 none
  statics := some 1 }

def pool8 : Array CpInfo := pool [(1, u "java/lang/Cloneable"), (0, .class_ 1), (0, u "java/lang/Object"), (0, .class_ 3)] 3

/-- java/lang/Cloneable -/
def k8 : Class := { plain "java/lang/Cloneable" (some 0) with
  accessFlags := 1537
  interfaces := #[]
  cf := some (fileOf pool8 2 #[] #[] 1537 4 #[] #[])
  fields := #[]
  methods := #[]
  instanceTypes := #[]
  staticTypes := #[]
  resolved := Array.replicate 8 none
  statics := none }

/-- the primitive byte -/
def k9 : Class := { plain "byte" none with kind := .primitive 'B', accessFlags := 0x411 }
/-- [B -/
def k10 : Class := { plain "[B" (some 0) with kind := .array 9 .byte, interfaces := #[8, 4], accessFlags := 1041 }

/-- the primitive int -/
def k11 : Class := { plain "int" none with kind := .primitive 'I', accessFlags := 0x411 }
/-- [I -/
def k12 : Class := { plain "[I" (some 0) with kind := .array 11 .int, interfaces := #[8, 4], accessFlags := 1041 }

def heap : Heap := #[{ cls := 6, slots := #[.ref 5, .ref 6, .ref 5, .ref 6, .ref 7, .ref 7, .null], vm := .statics 6 },
  { cls := 7, slots := #[.ref 2, .ref 3, .ref 4, .null], vm := .statics 7 },
  { cls := 7, slots := #[.null, .int 0, .int 0], vm := .none },
  { cls := 7, slots := #[.null, .int 1, .int 0], vm := .none },
  { cls := 7, slots := #[.null, .int 2, .int 0], vm := .none },
  { cls := 6, slots := #[.null, .int 0, .int 0, .null, .null, .ref 2], vm := .none },
  { cls := 6, slots := #[.null, .int 1, .int 0, .null, .null, .ref 3], vm := .none },
  { cls := 6, slots := #[.null, .int 4, .int 0, .null, .null, .ref 4], vm := .none }]
def classes : Array Class := #[k0, k1, k2, k3, k4, k5, k6, k7, k8, k9, k10, k11, k12]
def interned : List (Array UInt16 × Addr) := []
def slotsUsed : Nat := 38
def theMethod : MethodId := ⟨1, 1⟩
def args0 : Array Value := #[.int 5]
def aboutOver (below : List Frame) : State where
  vm := { classes := classes, interned := interned.toArray }
  heap := heap
  slotsUsed := slotsUsed
  threads := #[{ frames := .invoking theMethod args0 :: below }]
def below0 : List Frame := [.native { method := ⟨0, 0⟩, args := #[] }]
def about1 : State := aboutOver below0
def p0 : Program := .bare "" "" ""
def e0 : Env := launch0.env 0 0 0
theorem w_frames : about1.frames = Frame.invoking theMethod args0 :: below0 := rfl
set_option maxRecDepth 65536 in
theorem w_args : argsFit about1.vm theMethod args0 = true := by decide +kernel
set_option maxRecDepth 65536 in
theorem w_heap : heapFits about1 = true := by decide +kernel
set_option maxRecDepth 65536 in
theorem w_runnable : about1.curStatus? = some .runnable := by decide +kernel
set_option maxRecDepth 65536 in
theorem w_alone : about1.alone = true := by decide +kernel
set_option maxRecDepth 65536 in
theorem w_named : about1.methodNamed? x = some theMethod := by decide +kernel
set_option maxRecDepth 65536 in
theorem w_hears : about1.hears theMethod below0 = true := by decide +kernel
set_option maxRecDepth 65536 in
theorem w_ripe : about1.ripe theMethod args0 below0 = true := by decide +kernel
theorem w_running : about1.status = .running := rfl
set_option maxRecDepth 65536 in
theorem w_room : about1.hasRoom e0.platform room_1 = true :=
  launch0.hasRoom_least _ room_1 (by decide +kernel) (by decide +kernel) (by decide +kernel) (by decide +kernel) (by decide +kernel) (by decide +kernel)
theorem allAtoms_all (ts : List Jvm.Cond) (a : Array Jvm.Value) (st : Jvm.State) : (allAtoms ts).before a st = ts.all (fun c => c.before a st) := by
  induction ts with
  | nil => rfl
  | cons c t ih =>
    show (Jvm.Cond.and c (allAtoms t)).before a st = _
    rw [Jvm.Cond.before_and, ih, List.all_cons]
def words1 : List Jvm.Cond := Jvm.Cond.code x code maxLocals ret :: tables_1
/-- a 'code' word, met by the world's own term for the bytes: nothing is compared byte by byte -/
theorem code_word {y : MethodName} {bytes : ByteArray} {mx : Nat} {rt : Option FieldType} {a : Array Value} {s : State} {m : MethodId} {meth : Method} {c : Code} (h1 : s.methodNamed? y = some m) (h2 : s.vm.method? m = some meth) (h3 : meth.code = some c) (h4 : c.code = bytes)
    (h5 : (c.maxLocals == mx && c.exceptionTable.isEmpty && decide (c.maxStack ≤ mostOperands) && decide (meth.sig.returnType = rt) && !meth.locks && decide (parseMethodDescriptor y.desc = some meth.sig)) = true) : (Jvm.Cond.code y bytes mx rt).before a s = true := by
  simp only [Bool.and_eq_true, beq_iff_eq, Bool.not_eq_true', decide_eq_true_eq] at h5
  obtain ⟨⟨⟨⟨⟨g1, g2⟩, g3⟩, g4⟩, g5⟩, g6⟩ := h5
  simp [Cond.before, Cond.holds, Cond.value, h1, h2, h3, h4, g1, g2, g3, g4, g5, g6]
def isCode : Jvm.Cond → Bool
  | .code _ _ _ _ => true
  | _ => false
theorem all_split {L : List Jvm.Cond} {P : Jvm.Cond → Bool} (h1 : L.all (fun c => isCode c || P c) = true) (h2 : ∀ c ∈ L.filter isCode, P c = true) : L.all P = true := by
  refine List.all_eq_true.mpr fun c hc => ?_
  have h := List.all_eq_true.mp h1 c hc
  rcases Bool.eq_false_or_eq_true (isCode c) with hi | hi
  · exact h2 c (List.mem_filter.mpr ⟨hc, hi⟩)
  · simpa [hi] using h
set_option maxRecDepth 65536 in
theorem w_c0 : (Jvm.Cond.code x code maxLocals ret).before args0 about1 = true := code_word (m := ⟨1, 1⟩) (meth := k1m1) (c := k1c1) (by decide +kernel) rfl rfl rfl (by decide +kernel)
set_option maxRecDepth 65536 in
theorem w_c1 : (Jvm.Cond.code ({ cls := "com/example/guided_sim/guidedsim/model/Relation", name := "isStrong", desc := "()Z" } : Jvm.MethodName) prog_45_method_6_code (1 : Nat) (Option.some Jvm.ClassFile.FieldType.boolean)).before args0 about1 = true := code_word (m := ⟨6, 0⟩) (meth := k6m0) (c := k6c0) (by decide +kernel) rfl rfl rfl (by decide +kernel)
def codes1 : List Jvm.Cond := [Jvm.Cond.code x code maxLocals ret, Jvm.Cond.code ({ cls := "com/example/guided_sim/guidedsim/model/Relation", name := "isStrong", desc := "()Z" } : Jvm.MethodName) prog_45_method_6_code (1 : Nat) (Option.some Jvm.ClassFile.FieldType.boolean)]
set_option maxRecDepth 65536 in
theorem codes_eq : words1.filter isCode = codes1 := rfl
theorem w_codes : ∀ c ∈ words1.filter isCode, c.before args0 about1 = true := by
  rw [codes_eq]
  intro c hc
  simp only [codes1, List.mem_cons, List.not_mem_nil, or_false] at hc
  rcases hc with rfl | rfl
  · exact w_c0
  · exact w_c1
set_option maxRecDepth 65536 in
theorem w_t1 : (words1.take 24).all (fun c => isCode c || c.before args0 about1) = true := by decide +kernel
set_option maxRecDepth 65536 in
theorem w_t2 : (words1.drop 24).all (fun c => isCode c || c.before args0 about1) = true := by decide +kernel
theorem w_tables : (allAtoms (Jvm.Cond.code x code maxLocals ret :: tables_1)).before args0 about1 = true := by
  rw [allAtoms_all]
  show words1.all (fun c => c.before args0 about1) = true
  refine all_split ?_ w_codes
  rw [← List.take_append_drop 24 words1, List.all_append, w_t1, w_t2]
  rfl
set_option maxRecDepth 65536 in
theorem w_case : (Jvm.Cond.and given_1 narrow_1).before args0 about1 = true := by decide +kernel
theorem w_applies : (headSpec (Jvm.Cond.code x code maxLocals ret :: tables_1) room_1).applies x e0.platform about1 = true :=
  (Spec.applies_iff w_frames).mpr ⟨w_running, w_runnable, w_alone, w_named, w_hears, w_ripe, w_room, w_tables⟩
theorem atStart : AtStart classFile x code maxLocals ret World_1 tables_1 room_1 Calls_1 rest_1 Pre_1 launch0 p0 e0 about1 theMethod args0 below0 :=
  ⟨lists_1, trivial, launch0.admits_env _ _ _, launch0.least_env, fairChoices_fair.cas, fairChoices_fair.clock, w_frames, w_args, w_heap, w_applies, trivial, trivial, w_case⟩
end start1
theorem witness_1 : WitnessClaimed_1 := ⟨start1.p0, start1.e0, start1.about1, start1.theMethod, start1.args0, start1.below0, start1.atStart⟩
end Jvm.Pilot.@@N@@
