import JvmDerived
import JvmDerived.Pilot.@@N@@Statement
import JvmDerived.Pilot.@@N@@Code
set_option linter.unusedVariables false
set_option linter.unusedSimpArgs false
namespace Jvm.RoadKit
open Sem ClassFile Op Lib Jvm.Stand Jvm.Free Jvm.LawKit
section New
variable {p : Program} {l : Launch} {e : Env} {R : Room} {s : State} {m : MethodId} {args : Array Value} {below : List Frame} {meth : Method} {c : Code} {T : State} {locs : List Loc} {cells slots : Nat}
theorem retI (X : Stand p l e R s m args below meth c T locs cells slots) (hx : p.tables.exec = Jvm.exec) {pc : Nat} {Ls : Array Slot} {z : Int32} {rest : List Value} (hret : meth.sig.returnType = some .int) (hd : decode c.code pc = .ok (.ireturn, 1)) {fs : List Frame}
    (hl : ∀ (f : JFrame) (acts : List Action), f.method = m → f.locked = none → f.entered = [] → (doReturn e (T.setTop f) acts (some (.int z))).1 = T.setFrames fs) : Steps p.tables e below (T.setTop (mkF m pc Ls (.int z :: rest))) (T.setFrames fs) := by
  have hm' : T.vm.method? m = some meth := X.method'
  have hn : narrow .int (.int z) = .int z := rfl
  show Steps p.tables e below (T.setTop { method := m, pc := pc, locals := Ls, stack := _ :: rest, locked := none }) _
  jvm_step X.here [X.here.top, hx, hd, hm', hret, hn]
  first | (intro acts; rw [hl _ acts rfl rfl rfl]) | rw [hl _ _ rfl rfl rfl]
  exact Steps.refl _
end New
end Jvm.RoadKit
namespace Jvm.Pilot.@@N@@
open Jvm Jvm.ClassFile Sem Op Lib Jvm.Free Jvm.Stand Jvm.LawKit Jvm.RoadKit Bundle Jvm.Pilot.@@N@@.Jvm.D
/-! the comparisons, as plain decisions -/
theorem own_w {a0 : Array Value} {Z : State} (hw : ∀ d ∈ tables_1, d.before a0 Z = true) (i : Nat) {d : Jvm.Cond} (h : tables_1[i]? = some d) : d.before a0 Z = true := hw d (List.mem_of_getElem? h)
theorem own_ilt (x y : Int32) : if_icmp.holds .lt x y = decide (x < y) := rfl
theorem own_ile (x y : Int32) : if_icmp.holds .le x y = decide (x ≤ y) := rfl
theorem own_igt (x y : Int32) : if_icmp.holds .gt x y = decide (y < x) := rfl
theorem own_ige (x y : Int32) : if_icmp.holds .ge x y = decide (y ≤ x) := rfl
theorem own_ieq (x y : Int32) : if_icmp.holds .eq x y = decide (x = y) := rfl
theorem own_ine (x y : Int32) : if_icmp.holds .ne x y = decide (x ≠ y) := by
  by_cases h : x = y
  · rw [(teq h).2]; exact (decide_eq_false (not_not_intro h)).symm
  · rw [(feq h).2]; exact (decide_eq_true h).symm
theorem own_smono {s : State} {vm : Vm} {n n' : Nat} (h : s.Since vm n) (hn : n ≤ n') : s.Since vm n' := ⟨h.1, fun j p hj hp => ⟨(h.2 j p hj hp).1, Nat.lt_of_lt_of_le (h.2 j p hj hp).2 hn⟩⟩
theorem own_d0 : FP.dconst0 = FP.l2d (0 : Int64) := by rw [l2d_zero]; rfl
theorem own_lgt (x y : Int64) : ifCond.holds .gt (lcmpW x y) = decide (y < x) := by rw [if0, own_igt]; exact decide_eq_decide.mpr (lw_gt x y)
theorem own_llt (x y : Int64) : ifCond.holds .lt (lcmpW x y) = decide (x < y) := by rw [if0, own_ilt]; exact decide_eq_decide.mpr (lw_lt x y)
theorem own_leq (x y : Int64) : ifCond.holds .eq (lcmpW x y) = decide (x = y) := by rw [if0, own_ieq]; exact decide_eq_decide.mpr (lw_eq x y)
theorem own_lne (x y : Int64) : ifCond.holds .ne (lcmpW x y) = decide (x ≠ y) := by rw [if0, own_ine]; exact decide_eq_decide.mpr (not_congr (lw_eq x y))
theorem own_lle (x y : Int64) : ifCond.holds .le (lcmpW x y) = decide (x ≤ y) := by rw [if0, own_ile]; exact decide_eq_decide.mpr (by rw [← Int32.not_lt, lw_gt, Int64.not_lt])
theorem own_lge (x y : Int64) : ifCond.holds .ge (lcmpW x y) = decide (y ≤ x) := by rw [if0, own_ige]; exact decide_eq_decide.mpr (by rw [← Int32.not_lt, lw_lt, Int64.not_lt])
theorem own_c1 (a b : Int32) : if_icmp.holds .ne (nar .boolean (bif (if_icmp.holds .lt a b) then (0 : Int32) else (1 : Int32))) (bif (ifCond.holds .gt (lcmpW ((b.toInt64) - (a.toInt64)) (0 : Int64))) then (0 : Int32) else (1 : Int32)) = false := by
  have a1 := c_lsub b.toInt64 a.toInt64
  have a2 := c_i2l a
  have a3 := c_i2l b
  have r1 := rng32 a
  have r2 := rng32 b
  have r3 := rng64 (b.toInt64 - a.toInt64)
  have e0 : (0 : Int64).toInt = 0 := by decide
  have key : ((0 : Int64) < b.toInt64 - a.toInt64) ↔ a < b := by
    rw [Int64.lt_iff_toInt_lt, Int32.lt_iff_toInt_lt]; omega
  rw [own_lgt, own_ilt, decide_eq_decide.mpr key]
  cases decide (a < b) <;> decide
theorem own_c2 (a : Int32) : ifCond.holds .eq (nar .boolean (bif (if_icmp.holds .lt a a) then (0 : Int32) else (1 : Int32))) = false := by
  have e : if_icmp.holds .lt a a = false := by rw [own_ilt]; exact decide_eq_false Int32.lt_irrefl
  rw [e]; decide
theorem d2_0 : decode jdk_30_method_1_code 0 = .ok (.aload_n 0, 1) := by decide +kernel
theorem d2_1 : decode jdk_30_method_1_code 1 = .ok (.invokespecial 1, 3) := by decide +kernel
theorem d2_4 : decode jdk_30_method_1_code 4 = .ok (.return_, 1) := by decide +kernel
theorem ef_rm_rec (m : MethodId) (x0 : Addr) : entryFrame m #[(.ref x0)] 1 = mkF m 0 #[.val (.ref x0)] [] := by first | (simp [entryFrame, mkF, argsToLocals, Value.category]; done) | rfl
def Q_rm_rec (Z : State) (u1 : Addr) (h0 : Heap) (n0 : Nat) (v : Option Value) (h : Heap) (L : List Loc) : Prop := v = none ∧ Fr n0 L ∧ h = h0
theorem pn_976391 : plainName "java/lang/Record" = true := by first | (simp [plainName, overriddenIn]; done) | decide +kernel
set_option maxRecDepth 65536 in
set_option maxHeartbeats 40000000 in
theorem rm_rec (l : Launch) (Z : State) (a0 : Array Value) (hw : ∀ d ∈ tables_1, d.before a0 Z = true) (ws : List Jvm.Cond) (u1 : Addr) (h0 : Heap) (n0 : Nat) (Z0 : n0 ≤ h0.size) :
    MetFree l (⟨"java/lang/Record", "<init>", "()V"⟩ : MethodName) (head1 (Jvm.Cond.code (⟨"java/lang/Record", "<init>", "()V"⟩ : MethodName) jdk_30_method_1_code 1 none :: ws) ({ frames := 1, cells := 0, slots := 0, locals := 12 } : Room)) (fun a U => a = #[(.ref u1)] ∧ Z.Warmed39 U.vm ∧ U.heap = h0) (fun _ _ _ _ _ => True) (fun _ U o U' => ∃ v L, o = .returned v ∧ Q_rm_rec Z u1 h0 n0 v U'.heap L ∧ FrameEnd U o U' L ({ frames := 1, cells := 0, slots := 0, locals := 12 } : Room).cells ({ frames := 1, cells := 0, slots := 0, locals := 12 } : Room).slots) := by
  refine MetFree.of_bodySF (plainFor_of_name pn_976391) hisR ?_
  intro p e s m args below meth c s₁ Bd hml0 hP hK
  obtain ⟨rfl, hZ, hh⟩ := hP
  have hx := Bd.exec
  have hby := Bd.bytes
  have hml : c.maxLocals = 1 := hml0
  have hown : s.vm.findClass "java/lang/Record" = some m.cls := findClass_of_methodNamed Bd.named
  have hnm := (name_of_methodNamed Bd.named Bd.method).1
  have X0 : Stand p l e ({ frames := 1, cells := 0, slots := 0, locals := 12 } : Room) s m #[(.ref u1)] below meth c s₁ [] 0 0 := Stand.of_body Bd
  have e0 : s₁.heap = h0 := by rw [← hh, Bd.state]; rfl
  have N0 := Fr.nil n0
  have pre0 : ∀ t, Steps p.tables e below (s₁.setTop (mkF m 0 #[.val (.ref u1)] [])) t → Steps p.tables e below (s₁.setTop (entryFrame m #[(.ref u1)] 1)) t := fun t k => castTop (ef_rm_rec m u1) k
  obtain ⟨T1, X1, e1, st1⟩ := initO X0 hx hZ hown (own_w hw 11 rfl) (own_w hw 12 rfl) (own_w hw 13 rfl) e0 (g := (mkF m 1 #[.val (.ref u1)] [(.ref u1)])) rfl (by rw [hml]; rfl) rfl (hb hby d2_1) (by decide) (W := 0) (by show 2 * 0 + _ ≤ _; exact Nat.le_of_eq rfl) (by decide)
  obtain ⟨fs, hr, hrun, hended, hW, hsame⟩ := X1.leave (v := none) (fun _ => rfl)
  refine ⟨_, _, pre0 _ ?_, hrun, hended, _, _, rfl, ?_, ⟨_, rfl⟩, hW, hsame.mono (by decide) (by decide)⟩
  · show Steps p.tables e below (s₁.setTop (mkF m 0 #[.val (.ref u1)] [])) _
    refine XS.aloadN X0.here hx rfl (hb hby d2_0) rfl rfl ?_
    show Steps p.tables e below (s₁.setTop (mkF m 1 #[.val (.ref u1)] [(.ref u1)])) _
    refine st1 _ ?_
    show Steps p.tables e below (T1.setTop (mkF m 4 #[.val (.ref u1)] [])) _
    exact X1.returnOut hx Bd.returns (hb hby d2_4) hr
  · show Q_rm_rec Z _ h0 n0 _ T1.heap _
    rw [e1]
    exact ⟨rfl, N0, rfl⟩
theorem d1_0 : decode prog_107_method_1_code 0 = .ok (.aload_n 0, 1) := by decide +kernel
theorem d1_1 : decode prog_107_method_1_code 1 = .ok (.invokespecial 1, 3) := by decide +kernel
theorem pd_691897 : parseMethodDescriptor "()V" = some ⟨[], none⟩ := by decide +kernel
theorem d1_4 : decode prog_107_method_1_code 4 = .ok (.aload_n 0, 1) := by decide +kernel
theorem d1_5 : decode prog_107_method_1_code 5 = .ok (.iload_n 1, 1) := by decide +kernel
theorem d1_6 : decode prog_107_method_1_code 6 = .ok (.putfield 7, 3) := by decide +kernel
theorem d1_9 : decode prog_107_method_1_code 9 = .ok (.aload_n 0, 1) := by decide +kernel
theorem d1_10 : decode prog_107_method_1_code 10 = .ok (.iload_n 2, 1) := by decide +kernel
theorem d1_11 : decode prog_107_method_1_code 11 = .ok (.putfield 13, 3) := by decide +kernel
theorem d1_14 : decode prog_107_method_1_code 14 = .ok (.return_, 1) := by decide +kernel
theorem ef_rm_init (m : MethodId) (x0 : Addr) (x1 : Int32) (x2 : Int32) : entryFrame m #[(.ref x0), (.int x1), (.int x2)] 3 = mkF m 0 #[.val (.ref x0), .val (.int x1), .val (.int x2)] [] := by first | (simp [entryFrame, mkF, argsToLocals, Value.category]; done) | rfl
def Q_rm_init (Z : State) (u1 : Addr) (u2 : Int32) (u3 : Int32) (h0 : Heap) (n0 : Nat) (v : Option Value) (h : Heap) (L : List Loc) : Prop := v = none ∧ Fr n0 L ∧ Keep h0 h [u1] ∧ Fld Z h u1 "com/example/syndic/syndic/Stretch" "start" "I" (.int u2) ∧ Fld Z h u1 "com/example/syndic/syndic/Stretch" "end" "I" (.int u3)
theorem pn_696378 : plainName "com/example/syndic/syndic/Stretch" = true := by first | (simp [plainName, overriddenIn]; done) | decide +kernel
set_option maxRecDepth 65536 in
set_option maxHeartbeats 40000000 in
theorem rm_init (l : Launch) (Z : State) (a0 : Array Value) (hw : ∀ d ∈ tables_1, d.before a0 Z = true) (ws : List Jvm.Cond) (u1 : Addr) (u2 : Int32) (u3 : Int32) (h0 : Heap) (n0 : Nat) (Z0 : n0 ≤ h0.size) (F1 : Fld Z h0 u1 "com/example/syndic/syndic/Stretch" "start" "I" (.int (0 : Int32))) (F2 : Fld Z h0 u1 "com/example/syndic/syndic/Stretch" "end" "I" (.int (0 : Int32))) (E1 : Exa Z h0 u1 "com/example/syndic/syndic/Stretch") (g1 : n0 ≤ u1) :
    MetFree l (⟨"com/example/syndic/syndic/Stretch", "<init>", "(II)V"⟩ : MethodName) (head1 (Jvm.Cond.code (⟨"com/example/syndic/syndic/Stretch", "<init>", "(II)V"⟩ : MethodName) prog_107_method_1_code 3 none :: ws) ({ frames := 2, cells := 0, slots := 0, locals := 24 } : Room)) (fun a U => a = #[(.ref u1), (.int u2), (.int u3)] ∧ Z.Warmed39 U.vm ∧ U.heap = h0) (fun _ _ _ _ _ => True) (fun _ U o U' => ∃ v L, o = .returned v ∧ Q_rm_init Z u1 u2 u3 h0 n0 v U'.heap L ∧ FrameEnd U o U' L ({ frames := 2, cells := 0, slots := 0, locals := 24 } : Room).cells ({ frames := 2, cells := 0, slots := 0, locals := 24 } : Room).slots) := by
  refine MetFree.of_bodySF (plainFor_of_name pn_696378) hisR ?_
  intro p e s m args below meth c s₁ Bd hml0 hP hK
  obtain ⟨rfl, hZ, hh⟩ := hP
  have hx := Bd.exec
  have hby := Bd.bytes
  have hml : c.maxLocals = 3 := hml0
  have hown : s.vm.findClass "com/example/syndic/syndic/Stretch" = some m.cls := findClass_of_methodNamed Bd.named
  have hnm := (name_of_methodNamed Bd.named Bd.method).1
  have X0 : Stand p l e ({ frames := 2, cells := 0, slots := 0, locals := 24 } : Room) s m #[(.ref u1), (.int u2), (.int u3)] below meth c s₁ [] 0 0 := Stand.of_body Bd
  have e0 : s₁.heap = h0 := by rw [← hh, Bd.state]; rfl
  have N0 := Fr.nil n0
  have K0 : Keep h0 h0 [u1] := Keep.refl _ _
  have pre0 : ∀ t, Steps p.tables e below (s₁.setTop (mkF m 0 #[.val (.ref u1), .val (.int u2), .val (.int u3)] [])) t → Steps p.tables e below (s₁.setTop (entryFrame m #[(.ref u1), (.int u2), (.int u3)] 3)) t := fun t k => castTop (ef_rm_init m u1 u2 u3) k
  obtain ⟨_, _, ⟨T1, L1, k1, n1⟩, -, X1, ⟨Lc1, hQ1, l1, y1, z1⟩, st1⟩ := X0.specialBack hx (y := (⟨"java/lang/Record", "<init>", "()V"⟩ : MethodName)) rfl hown (mvT hZ (own_w hw 6 rfl)) (mvT hZ (own_w hw 7 rfl)) (mvT hZ (own_w hw 10 rfl)) (by decide) (backOf (W := 0) (rm_rec l Z a0 hw [] u1 h0 n0 Z0 ) hZ (own_w hw 10 rfl) (own_w hw 9 rfl) (by decide) (by decide)) (g := (mkF m 1 #[.val (.ref u1), .val (.int u2), .val (.int u3)] [(.ref u1)])) rfl (by rw [hml]; rfl) (Steps.refl _) (a := u1) (argsL := []) (rest := []) (lenOf pd_691897 rfl) rfl (by show 2 * 0 + _ ≤ _; exact Nat.le_of_eq rfl) (hb hby d1_1) (fun _ _ => ⟨rfl, e0, (by decide : 0 + 0 ≤ _), (by decide : 0 + 0 ≤ _)⟩)
  dsimp only [Pt.U, Pt.locs, Pt.cells, Pt.slots] at X1 l1 y1 z1 st1 hQ1
  subst l1 y1 z1
  obtain ⟨rfl, Nq1, eq1⟩ := hQ1
  have N1 := Fr.app N0 Nq1
  obtain ⟨T2, h2, X2, e2, W2, st2⟩ := putF X1 hx hZ hown (host := "") (Or.inl (own_w hw 14 rfl)) Via.refl eq1 F1 E1 (Or.inr ⟨(own_w hw 15 rfl), rfl, hnm⟩) (own_w hw 1 rfl) (ty := .int) (by decide) rfl rfl (g := (mkF m 6 #[.val (.ref u1), .val (.int u2), .val (.int u3)] [(.int u2), (.ref u1)])) rfl rfl (hb hby d1_6)
  have Fw2 := Fld.same W2 F1
  have N2 := Fr.snoc X2 N1 g1
  have Z2 : n0 ≤ h2.size := Nat.le_trans Z0 (Keep.of_wr W2).1
  have K2 : Keep h0 h2 [u1] := Keep.wr K0 W2 (Or.inl (List.mem_of_getElem? (i := 0) rfl))
  obtain ⟨T3, h3, X3, e3, W3, st3⟩ := putF X2 hx hZ hown (host := "") (Or.inl (own_w hw 16 rfl)) Via.refl e2 (Fld.other W2 F2 (Or.inr (slot_ne (Or.inr (own_w hw 17 rfl)) (Or.inr (own_w hw 15 rfl)) (by decide) (t := .int) (t' := .int) (by decide) (by decide)))) (E1.wr W2) (Or.inr ⟨(own_w hw 17 rfl), rfl, hnm⟩) (own_w hw 1 rfl) (ty := .int) (by decide) rfl rfl (g := (mkF m 11 #[.val (.ref u1), .val (.int u2), .val (.int u3)] [(.int u3), (.ref u1)])) rfl rfl (hb hby d1_11)
  have Fw3 := Fld.same W3 (Fld.other W2 F2 (Or.inr (slot_ne (Or.inr (own_w hw 17 rfl)) (Or.inr (own_w hw 15 rfl)) (by decide) (t := .int) (t' := .int) (by decide) (by decide))))
  have N3 := Fr.snoc X3 N2 g1
  have Z3 : n0 ≤ h3.size := Nat.le_trans Z2 (Keep.of_wr W3).1
  have K3 : Keep h0 h3 [u1] := Keep.wr K2 W3 (Or.inl (List.mem_of_getElem? (i := 0) rfl))
  obtain ⟨fs, hr, hrun, hended, hW, hsame⟩ := X3.leave (v := none) (fun _ => rfl)
  refine ⟨_, _, pre0 _ ?_, hrun, hended, _, _, rfl, ?_, ⟨_, rfl⟩, hW, hsame.mono (by decide) (by decide)⟩
  · show Steps p.tables e below (s₁.setTop (mkF m 0 #[.val (.ref u1), .val (.int u2), .val (.int u3)] [])) _
    refine XS.aloadN X0.here hx rfl (hb hby d1_0) rfl rfl ?_
    show Steps p.tables e below (s₁.setTop (mkF m 1 #[.val (.ref u1), .val (.int u2), .val (.int u3)] [(.ref u1)])) _
    refine st1.trans ?_
    show Steps p.tables e below (T1.setTop (mkF m 4 #[.val (.ref u1), .val (.int u2), .val (.int u3)] [])) _
    refine XS.aloadN X1.here hx rfl (hb hby d1_4) rfl rfl ?_
    show Steps p.tables e below (T1.setTop (mkF m 5 #[.val (.ref u1), .val (.int u2), .val (.int u3)] [(.ref u1)])) _
    refine XS.iloadN X1.here hx rfl (hb hby d1_5) rfl ?_
    show Steps p.tables e below (T1.setTop (mkF m 6 #[.val (.ref u1), .val (.int u2), .val (.int u3)] [(.int u2), (.ref u1)])) _
    refine st2 _ ?_
    show Steps p.tables e below (T2.setTop (mkF m 9 #[.val (.ref u1), .val (.int u2), .val (.int u3)] [])) _
    refine XS.aloadN X2.here hx rfl (hb hby d1_9) rfl rfl ?_
    show Steps p.tables e below (T2.setTop (mkF m 10 #[.val (.ref u1), .val (.int u2), .val (.int u3)] [(.ref u1)])) _
    refine XS.iloadN X2.here hx rfl (hb hby d1_10) rfl ?_
    show Steps p.tables e below (T2.setTop (mkF m 11 #[.val (.ref u1), .val (.int u2), .val (.int u3)] [(.int u3), (.ref u1)])) _
    refine st3 _ ?_
    show Steps p.tables e below (T3.setTop (mkF m 14 #[.val (.ref u1), .val (.int u2), .val (.int u3)] [])) _
    exact X3.returnOut hx Bd.returns (hb hby d1_14) hr
  · show Q_rm_init Z _ _ _ h0 n0 _ T3.heap _
    rw [e3]
    exact ⟨rfl, N3, K3, (Fld.other W3 Fw2 (Or.inr (slot_ne (Or.inr (own_w hw 15 rfl)) (Or.inr (own_w hw 17 rfl)) (by decide) (t := .int) (t' := .int) (by decide) (by decide)))), Fw3⟩
theorem d4_0 : decode prog_107_method_2_code 0 = .ok (.aload_n 0, 1) := by decide +kernel
theorem d4_1 : decode prog_107_method_2_code 1 = .ok (.getfield 7, 3) := by decide +kernel
theorem d4_4 : decode prog_107_method_2_code 4 = .ok (.aload_n 0, 1) := by decide +kernel
theorem d4_5 : decode prog_107_method_2_code 5 = .ok (.getfield 13, 3) := by decide +kernel
theorem d4_8 : decode prog_107_method_2_code 8 = .ok (.if_icmp .lt 7, 3) := by decide +kernel
theorem d4_15 : decode prog_107_method_2_code 15 = .ok (.iconst 0, 1) := by decide +kernel
theorem d4_11 : decode prog_107_method_2_code 11 = .ok (.iconst 1, 1) := by decide +kernel
theorem d4_12 : decode prog_107_method_2_code 12 = .ok (.goto 4, 3) := by decide +kernel
theorem d4_16 : decode prog_107_method_2_code 16 = .ok (.ireturn, 1) := by decide +kernel
theorem ef_rm_emp (m : MethodId) (x0 : Addr) : entryFrame m #[(.ref x0)] 1 = mkF m 0 #[.val (.ref x0)] [] := by first | (simp [entryFrame, mkF, argsToLocals, Value.category]; done) | rfl
def Q_rm_emp (Z : State) (u1 : Addr) (z1 : Int32) (z2 : Int32) (h0 : Heap) (n0 : Nat) (v : Option Value) (h : Heap) (L : List Loc) : Prop := v = some (.int (nar .boolean (bif (if_icmp.holds .lt z1 z2) then (0 : Int32) else (1 : Int32)))) ∧ Fr n0 L ∧ h = h0
set_option maxRecDepth 65536 in
set_option maxHeartbeats 40000000 in
theorem rm_emp (l : Launch) (Z : State) (a0 : Array Value) (hw : ∀ d ∈ tables_1, d.before a0 Z = true) (ws : List Jvm.Cond) (u1 : Addr) (z1 : Int32) (z2 : Int32) (h0 : Heap) (n0 : Nat) (Z0 : n0 ≤ h0.size) (F1 : Fld Z h0 u1 "com/example/syndic/syndic/Stretch" "start" "I" (.int z1)) (F2 : Fld Z h0 u1 "com/example/syndic/syndic/Stretch" "end" "I" (.int z2)) :
    MetFree l (⟨"com/example/syndic/syndic/Stretch", "isEmpty", "()Z"⟩ : MethodName) (head1 (Jvm.Cond.code (⟨"com/example/syndic/syndic/Stretch", "isEmpty", "()Z"⟩ : MethodName) prog_107_method_2_code 1 (some .boolean) :: ws) ({ frames := 0, cells := 0, slots := 0, locals := 0 } : Room)) (fun a U => a = #[(.ref u1)] ∧ Z.Warmed39 U.vm ∧ U.heap = h0) (fun _ _ _ _ _ => True) (fun _ U o U' => ∃ v L, o = .returned v ∧ Q_rm_emp Z u1 z1 z2 h0 n0 v U'.heap L ∧ FrameEnd U o U' L ({ frames := 0, cells := 0, slots := 0, locals := 0 } : Room).cells ({ frames := 0, cells := 0, slots := 0, locals := 0 } : Room).slots) := by
  refine MetFree.of_bodySF (plainFor_of_name pn_696378) hisR ?_
  intro p e s m args below meth c s₁ Bd hml0 hP hK
  obtain ⟨rfl, hZ, hh⟩ := hP
  have hx := Bd.exec
  have hby := Bd.bytes
  have hml : c.maxLocals = 1 := hml0
  have hown : s.vm.findClass "com/example/syndic/syndic/Stretch" = some m.cls := findClass_of_methodNamed Bd.named
  have hnm := (name_of_methodNamed Bd.named Bd.method).1
  have X0 : Stand p l e ({ frames := 0, cells := 0, slots := 0, locals := 0 } : Room) s m #[(.ref u1)] below meth c s₁ [] 0 0 := Stand.of_body Bd
  have e0 : s₁.heap = h0 := by rw [← hh, Bd.state]; rfl
  have N0 := Fr.nil n0
  have pre0 : ∀ t, Steps p.tables e below (s₁.setTop (mkF m 0 #[.val (.ref u1)] [])) t → Steps p.tables e below (s₁.setTop (entryFrame m #[(.ref u1)] 1)) t := fun t k => castTop (ef_rm_emp m u1) k
  obtain ⟨T1, X1, e1, st1⟩ := getF X0 hx hZ hown (host := "") (Or.inl (own_w hw 14 rfl)) Via.refl e0 F1 (g := (mkF m 1 #[.val (.ref u1)] [(.ref u1)])) rfl rfl (hb hby d4_1)
  obtain ⟨T2, X2, e2, st2⟩ := getF X1 hx hZ hown (host := "") (Or.inl (own_w hw 16 rfl)) Via.refl e1 F2 (g := (mkF m 5 #[.val (.ref u1)] [(.ref u1), (.int z1)])) rfl rfl (hb hby d4_5)
  have pre3 : ∀ t, Steps p.tables e below (T2.setTop (mkF m 8 #[.val (.ref u1)] [(.int z2), (.int z1)])) t → Steps p.tables e below (s₁.setTop (entryFrame m #[(.ref u1)] 1)) t := by
    intro t k
    refine pre0 t ?_
    show Steps p.tables e below (s₁.setTop (mkF m 0 #[.val (.ref u1)] [])) _
    refine XS.aloadN X0.here hx rfl (hb hby d4_0) rfl rfl ?_
    show Steps p.tables e below (s₁.setTop (mkF m 1 #[.val (.ref u1)] [(.ref u1)])) _
    refine st1 _ ?_
    show Steps p.tables e below (T1.setTop (mkF m 4 #[.val (.ref u1)] [(.int z1)])) _
    refine XS.aloadN X1.here hx rfl (hb hby d4_4) rfl rfl ?_
    show Steps p.tables e below (T1.setTop (mkF m 5 #[.val (.ref u1)] [(.ref u1), (.int z1)])) _
    refine st2 _ ?_
    exact k
  have pre5 : ∀ t, Steps p.tables e below (T2.setTop (mkF m 16 #[.val (.ref u1)] [(.int (bif (if_icmp.holds .lt z1 z2) then (0 : Int32) else (1 : Int32)))])) t → Steps p.tables e below (s₁.setTop (entryFrame m #[(.ref u1)] 1)) t := by
    intro t k
    refine pre3 t ?_
    show Steps p.tables e below (T2.setTop (mkF m 8 #[.val (.ref u1)] [(.int z2), (.int z1)])) _
    rcases Bool.eq_false_or_eq_true (if_icmp.holds .lt z1 z2) with hb8_4 | hb8_4
    · refine XS.icmpYes X2.here hx rfl (pc0 := 8) (pc' := 15) rfl (hb hby d4_8) rfl hb8_4 (by decide) (by decide) ?_
      show Steps p.tables e below (T2.setTop (mkF m 15 #[.val (.ref u1)] [])) _
      refine XS.iconst X2.here hx rfl (hb hby d4_15) ?_
      have k : Steps p.tables e below (T2.setTop (mkF m 16 #[.val (.ref u1)] [(.int (0 : Int32))])) t := by simpa only [hb8_4, cond_true, cond_false] using k
      exact k
    · refine XS.icmpNo X2.here hx rfl (hb hby d4_8) rfl hb8_4 ?_
      show Steps p.tables e below (T2.setTop (mkF m 11 #[.val (.ref u1)] [])) _
      refine XS.iconst X2.here hx rfl (hb hby d4_11) ?_
      show Steps p.tables e below (T2.setTop (mkF m 12 #[.val (.ref u1)] [(.int (1 : Int32))])) _
      refine XS.goto X2.here hx rfl (pc0 := 12) (pc' := 16) rfl (hb hby d4_12) (by decide) (by decide) ?_
      have k : Steps p.tables e below (T2.setTop (mkF m 16 #[.val (.ref u1)] [(.int (1 : Int32))])) t := by simpa only [hb8_4, cond_true, cond_false] using k
      exact k
  obtain ⟨fs, hr, hrun, hended, hW, hsame⟩ := X2.leave (v := some (.int (nar .boolean (bif (if_icmp.holds .lt z1 z2) then (0 : Int32) else (1 : Int32))))) (fun h => by rw [Bd.returns] at h; cases h)
  refine ⟨_, _, pre5 _ ?_, hrun, hended, _, _, rfl, ?_, ⟨_, rfl⟩, hW, hsame.mono (by decide) (by decide)⟩
  · show Steps p.tables e below (T2.setTop (mkF m 16 #[.val (.ref u1)] [(.int (bif (if_icmp.holds .lt z1 z2) then (0 : Int32) else (1 : Int32)))])) _
    exact retN X2 hx (t := .boolean) Bd.returns (by simp) (hb hby d4_16) hr
  · show Q_rm_emp Z _ _ _ h0 n0 _ T2.heap _
    rw [e2]
    exact ⟨rfl, N0, rfl⟩
theorem pd_329858 : parseMethodDescriptor "(II)V" = some ⟨[.int, .int], none⟩ := by decide +kernel
theorem pd_691901 : parseMethodDescriptor "()Z" = some ⟨[], some .boolean⟩ := by decide +kernel
theorem ef_rm_law (m : MethodId) (x0 : Int32) (x1 : Int32) : entryFrame m #[(.int x0), (.int x1)] maxLocals = mkF m 0 #[.val (.int x0), .val (.int x1), .unset, .unset, .unset, .unset, .unset] [] := by first | (simp [entryFrame, mkF, argsToLocals, Value.category, maxLocals]; done) | rfl
def Q_rm_law (Z : State) (u1 : Int32) (u2 : Int32) (h0 : Heap) (n0 : Nat) (v : Option Value) (h : Heap) (L : List Loc) : Prop := v = some (.int (1 : Int32)) ∧ Fr n0 L
theorem pn_759571 : plainName "com/example/syndic/syndic/StretchIsEmptyPinLaw" = true := by first | (simp [plainName, overriddenIn]; done) | decide +kernel
set_option maxRecDepth 65536 in
set_option maxHeartbeats 40000000 in
theorem rm_law (l : Launch) (Z : State) (a0 : Array Value) (hw : ∀ d ∈ tables_1, d.before a0 Z = true) (ws : List Jvm.Cond) (u1 : Int32) (u2 : Int32) (h0 : Heap) (n0 : Nat) (Z0 : n0 ≤ h0.size) :
    MetFree l x (head1 (Jvm.Cond.code x code maxLocals ret :: ws) room_1) (fun a U => a = #[(.int u1), (.int u2)] ∧ Z.Warmed39 U.vm ∧ U.heap = h0) (fun _ _ _ _ _ => True) (fun _ U o U' => ∃ v L, o = .returned v ∧ Q_rm_law Z u1 u2 h0 n0 v U'.heap L ∧ FrameEnd U o U' L room_1.cells room_1.slots) := by
  refine MetFree.of_bodySF (plainFor_of_name pn_759571) hisR ?_
  intro p e s m args below meth c s₁ Bd hml0 hP hK
  obtain ⟨rfl, hZ, hh⟩ := hP
  have hx := Bd.exec
  have hby := Bd.bytes
  have hml : c.maxLocals = 7 := hml0
  have hown : s.vm.findClass "com/example/syndic/syndic/StretchIsEmptyPinLaw" = some m.cls := findClass_of_methodNamed Bd.named
  have hnm := (name_of_methodNamed Bd.named Bd.method).1
  have X0 : Stand p l e room_1 s m #[(.int u1), (.int u2)] below meth c s₁ [] 0 0 := Stand.of_body Bd
  have e0 : s₁.heap = h0 := by rw [← hh, Bd.state]; rfl
  have N0 := Fr.nil n0
  have pre0 : ∀ t, Steps p.tables e below (s₁.setTop (mkF m 0 #[.val (.int u1), .val (.int u2), .unset, .unset, .unset, .unset, .unset] [])) t → Steps p.tables e below (s₁.setTop (entryFrame m #[(.int u1), (.int u2)] maxLocals)) t := fun t k => castTop (ef_rm_law m u1 u2) k
  obtain ⟨T1, h1, X1, e1, E1, A1, D1, -, st1⟩ := newO X0 hx hZ hown (own_w hw 0 rfl) (own_w hw 1 rfl) (own_w hw 2 rfl) e0 (g := (mkF m 0 #[.val (.int u1), .val (.int u2), .unset, .unset, .unset, .unset, .unset] [])) rfl (hb hby at_0) (by decide) (by decide)
  obtain ⟨b1, g1⟩ : ∃ z, z = h0.size := ⟨_, rfl⟩
  rw [← g1] at A1 D1 st1
  have fr_b1 : n0 ≤ b1 := Nat.le_trans Z0 (Nat.le_of_eq g1.symm)
  have Z1 : n0 ≤ h1.size := Nat.le_trans Z0 E1.1
  have F_start_b1 : Fld Z h1 b1 "com/example/syndic/syndic/Stretch" "start" "I" (.int (0 : Int32)) := D1 (Or.inr (own_w hw 15 rfl)) (ty := .int) (by decide)
  have F_end_b1 : Fld Z h1 b1 "com/example/syndic/syndic/Stretch" "end" "I" (.int (0 : Int32)) := D1 (Or.inr (own_w hw 17 rfl)) (ty := .int) (by decide)
  obtain ⟨_, _, ⟨T2, L2, k2, n2⟩, -, X2, ⟨Lc2, hQ2, l2, y2, z2⟩, st2⟩ := X1.specialBack hx (y := (⟨"com/example/syndic/syndic/Stretch", "<init>", "(II)V"⟩ : MethodName)) rfl hown (mvT hZ (own_w hw 3 rfl)) (mvT hZ (own_w hw 4 rfl)) (mvT hZ (own_w hw 5 rfl)) (by decide) (backOf (W := 1) (rm_init l Z a0 hw [] b1 u1 u2 h1 n0 Z1 F_start_b1 F_end_b1 A1 fr_b1) hZ (own_w hw 5 rfl) (own_w hw 2 rfl) (by decide) (by decide)) (g := (mkF m 6 #[.val (.int u1), .val (.int u2), .unset, .unset, .unset, .unset, .unset] [(.int u2), (.int u1), (.ref b1), (.ref b1)])) rfl (by rw [hml]; rfl) (Steps.refl _) (a := b1) (argsL := [(.int u1), (.int u2)]) (rest := [(.ref b1)]) (lenOf pd_329858 rfl) rfl (by show 2 * 0 + _ ≤ _; exact Nat.le_of_eq rfl) (hb hby at_6) (fun _ _ => ⟨rfl, e1, (by decide : 1 + 0 ≤ _), (by decide : 2 + 0 ≤ _)⟩)
  dsimp only [Pt.U, Pt.locs, Pt.cells, Pt.slots] at X2 l2 y2 z2 st2 hQ2
  subst l2 y2 z2
  obtain ⟨rfl, Nq2, Kq2, Fa2, Fb2⟩ := hQ2
  have N2 := Fr.app N0 Nq2
  have Z2 : n0 ≤ T2.heap.size := Nat.le_trans Z1 Kq2.1
  have pre3 : ∀ t, Steps p.tables e below (T2.setTop (mkF m 19 #[.val (.int u1), .val (.int u2), .val (.ref b1), .val (.long ((u2.toInt64) - (u1.toInt64))), .second, .unset, .unset] [(.int (lcmpW ((u2.toInt64) - (u1.toInt64)) (0 : Int64)))])) t → Steps p.tables e below (s₁.setTop (entryFrame m #[(.int u1), (.int u2)] maxLocals)) t := by
    intro t k
    refine pre0 t ?_
    show Steps p.tables e below (s₁.setTop (mkF m 0 #[.val (.int u1), .val (.int u2), .unset, .unset, .unset, .unset, .unset] [])) _
    refine st1 _ ?_
    show Steps p.tables e below (T1.setTop (mkF m 3 #[.val (.int u1), .val (.int u2), .unset, .unset, .unset, .unset, .unset] [(.ref b1)])) _
    refine XS.dup X1.here hx rfl (hb hby at_3) rfl rfl ?_
    show Steps p.tables e below (T1.setTop (mkF m 4 #[.val (.int u1), .val (.int u2), .unset, .unset, .unset, .unset, .unset] [(.ref b1), (.ref b1)])) _
    refine XS.iloadN X1.here hx rfl (hb hby at_4) rfl ?_
    show Steps p.tables e below (T1.setTop (mkF m 5 #[.val (.int u1), .val (.int u2), .unset, .unset, .unset, .unset, .unset] [(.int u1), (.ref b1), (.ref b1)])) _
    refine XS.iloadN X1.here hx rfl (hb hby at_5) rfl ?_
    show Steps p.tables e below (T1.setTop (mkF m 6 #[.val (.int u1), .val (.int u2), .unset, .unset, .unset, .unset, .unset] [(.int u2), (.int u1), (.ref b1), (.ref b1)])) _
    refine st2.trans ?_
    show Steps p.tables e below (T2.setTop (mkF m 9 #[.val (.int u1), .val (.int u2), .unset, .unset, .unset, .unset, .unset] [(.ref b1)])) _
    refine XS.astoreN X2.here hx rfl (hb hby at_9) rfl rfl (l' := #[.val (.int u1), .val (.int u2), .val (.ref b1), .unset, .unset, .unset, .unset]) rfl ?_
    show Steps p.tables e below (T2.setTop (mkF m 10 #[.val (.int u1), .val (.int u2), .val (.ref b1), .unset, .unset, .unset, .unset] [])) _
    refine XS.iloadN X2.here hx rfl (hb hby at_10) rfl ?_
    show Steps p.tables e below (T2.setTop (mkF m 11 #[.val (.int u1), .val (.int u2), .val (.ref b1), .unset, .unset, .unset, .unset] [(.int u2)])) _
    refine XS.i2l X2.here hx rfl (hb hby at_11) rfl ?_
    show Steps p.tables e below (T2.setTop (mkF m 12 #[.val (.int u1), .val (.int u2), .val (.ref b1), .unset, .unset, .unset, .unset] [(.long (u2.toInt64))])) _
    refine XS.iloadN X2.here hx rfl (hb hby at_12) rfl ?_
    show Steps p.tables e below (T2.setTop (mkF m 13 #[.val (.int u1), .val (.int u2), .val (.ref b1), .unset, .unset, .unset, .unset] [(.int u1), (.long (u2.toInt64))])) _
    refine XS.i2l X2.here hx rfl (hb hby at_13) rfl ?_
    show Steps p.tables e below (T2.setTop (mkF m 14 #[.val (.int u1), .val (.int u2), .val (.ref b1), .unset, .unset, .unset, .unset] [(.long (u1.toInt64)), (.long (u2.toInt64))])) _
    refine XS.lsub X2.here hx rfl (hb hby at_14) rfl ?_
    show Steps p.tables e below (T2.setTop (mkF m 15 #[.val (.int u1), .val (.int u2), .val (.ref b1), .unset, .unset, .unset, .unset] [(.long ((u2.toInt64) - (u1.toInt64)))])) _
    refine XS.lstoreN X2.here hx rfl (hb hby at_15) rfl (l' := #[.val (.int u1), .val (.int u2), .val (.ref b1), .val (.long ((u2.toInt64) - (u1.toInt64))), .second, .unset, .unset]) rfl ?_
    show Steps p.tables e below (T2.setTop (mkF m 16 #[.val (.int u1), .val (.int u2), .val (.ref b1), .val (.long ((u2.toInt64) - (u1.toInt64))), .second, .unset, .unset] [])) _
    refine XS.lloadN X2.here hx rfl (hb hby at_16) rfl ?_
    show Steps p.tables e below (T2.setTop (mkF m 17 #[.val (.int u1), .val (.int u2), .val (.ref b1), .val (.long ((u2.toInt64) - (u1.toInt64))), .second, .unset, .unset] [(.long ((u2.toInt64) - (u1.toInt64)))])) _
    refine XS.lconst X2.here hx rfl (hb hby at_17) ?_
    show Steps p.tables e below (T2.setTop (mkF m 18 #[.val (.int u1), .val (.int u2), .val (.ref b1), .val (.long ((u2.toInt64) - (u1.toInt64))), .second, .unset, .unset] [(.long (0 : Int64)), (.long ((u2.toInt64) - (u1.toInt64)))])) _
    refine XS.lcmp X2.here hx rfl (hb hby at_18) rfl ?_
    exact k
  have pre5 : ∀ t, Steps p.tables e below (T2.setTop (mkF m 27 #[.val (.int u1), .val (.int u2), .val (.ref b1), .val (.long ((u2.toInt64) - (u1.toInt64))), .second, .unset, .unset] [(.int (bif (ifCond.holds .gt (lcmpW ((u2.toInt64) - (u1.toInt64)) (0 : Int64))) then (0 : Int32) else (1 : Int32)))])) t → Steps p.tables e below (s₁.setTop (entryFrame m #[(.int u1), (.int u2)] maxLocals)) t := by
    intro t k
    refine pre3 t ?_
    show Steps p.tables e below (T2.setTop (mkF m 19 #[.val (.int u1), .val (.int u2), .val (.ref b1), .val (.long ((u2.toInt64) - (u1.toInt64))), .second, .unset, .unset] [(.int (lcmpW ((u2.toInt64) - (u1.toInt64)) (0 : Int64)))])) _
    rcases Bool.eq_false_or_eq_true (ifCond.holds .gt (lcmpW ((u2.toInt64) - (u1.toInt64)) (0 : Int64))) with hb19_4 | hb19_4
    · refine XS.ifYes X2.here hx rfl (pc0 := 19) (pc' := 26) rfl (hb hby at_19) rfl hb19_4 (by decide) (by decide) ?_
      show Steps p.tables e below (T2.setTop (mkF m 26 #[.val (.int u1), .val (.int u2), .val (.ref b1), .val (.long ((u2.toInt64) - (u1.toInt64))), .second, .unset, .unset] [])) _
      refine XS.iconst X2.here hx rfl (hb hby at_26) ?_
      have k : Steps p.tables e below (T2.setTop (mkF m 27 #[.val (.int u1), .val (.int u2), .val (.ref b1), .val (.long ((u2.toInt64) - (u1.toInt64))), .second, .unset, .unset] [(.int (0 : Int32))])) t := by simpa only [hb19_4, cond_true, cond_false] using k
      exact k
    · refine XS.ifNo X2.here hx rfl (hb hby at_19) rfl hb19_4 ?_
      show Steps p.tables e below (T2.setTop (mkF m 22 #[.val (.int u1), .val (.int u2), .val (.ref b1), .val (.long ((u2.toInt64) - (u1.toInt64))), .second, .unset, .unset] [])) _
      refine XS.iconst X2.here hx rfl (hb hby at_22) ?_
      show Steps p.tables e below (T2.setTop (mkF m 23 #[.val (.int u1), .val (.int u2), .val (.ref b1), .val (.long ((u2.toInt64) - (u1.toInt64))), .second, .unset, .unset] [(.int (1 : Int32))])) _
      refine XS.goto X2.here hx rfl (pc0 := 23) (pc' := 27) rfl (hb hby at_23) (by decide) (by decide) ?_
      have k : Steps p.tables e below (T2.setTop (mkF m 27 #[.val (.int u1), .val (.int u2), .val (.ref b1), .val (.long ((u2.toInt64) - (u1.toInt64))), .second, .unset, .unset] [(.int (1 : Int32))])) t := by simpa only [hb19_4, cond_true, cond_false] using k
      exact k
  obtain ⟨T6, h6, X6, e6, E6, A6, D6, -, st6⟩ := newO X2 hx hZ hown (own_w hw 0 rfl) (own_w hw 1 rfl) (own_w hw 2 rfl) rfl (g := (mkF m 29 #[.val (.int u1), .val (.int u2), .val (.ref b1), .val (.long ((u2.toInt64) - (u1.toInt64))), .second, .val (.int (bif (ifCond.holds .gt (lcmpW ((u2.toInt64) - (u1.toInt64)) (0 : Int64))) then (0 : Int32) else (1 : Int32))), .unset] [])) rfl (hb hby at_29) (by decide) (by decide)
  obtain ⟨b6, g6⟩ : ∃ z, z = T2.heap.size := ⟨_, rfl⟩
  rw [← g6] at A6 D6 st6
  have fr_b6 : n0 ≤ b6 := Nat.le_trans Z2 (Nat.le_of_eq g6.symm)
  have ne_b1_b6 : b1 ≠ b6 := Nat.ne_of_lt (Nat.lt_of_lt_of_le (A1.keep Kq2).lt (Nat.le_of_eq g6.symm))
  have Z6 : n0 ≤ h6.size := Nat.le_trans Z2 E6.1
  have F_start_b6 : Fld Z h6 b6 "com/example/syndic/syndic/Stretch" "start" "I" (.int (0 : Int32)) := D6 (Or.inr (own_w hw 15 rfl)) (ty := .int) (by decide)
  have F_end_b6 : Fld Z h6 b6 "com/example/syndic/syndic/Stretch" "end" "I" (.int (0 : Int32)) := D6 (Or.inr (own_w hw 17 rfl)) (ty := .int) (by decide)
  obtain ⟨_, _, ⟨T7, L7, k7, n7⟩, -, X7, ⟨Lc7, hQ7, l7, y7, z7⟩, st7⟩ := X6.specialBack hx (y := (⟨"com/example/syndic/syndic/Stretch", "<init>", "(II)V"⟩ : MethodName)) rfl hown (mvT hZ (own_w hw 3 rfl)) (mvT hZ (own_w hw 4 rfl)) (mvT hZ (own_w hw 5 rfl)) (by decide) (backOf (W := 1) (rm_init l Z a0 hw [] b6 u1 u1 h6 n0 Z6 F_start_b6 F_end_b6 A6 fr_b6) hZ (own_w hw 5 rfl) (own_w hw 2 rfl) (by decide) (by decide)) (g := (mkF m 35 #[.val (.int u1), .val (.int u2), .val (.ref b1), .val (.long ((u2.toInt64) - (u1.toInt64))), .second, .val (.int (bif (ifCond.holds .gt (lcmpW ((u2.toInt64) - (u1.toInt64)) (0 : Int64))) then (0 : Int32) else (1 : Int32))), .unset] [(.int u1), (.int u1), (.ref b6), (.ref b6)])) rfl (by rw [hml]; rfl) (Steps.refl _) (a := b6) (argsL := [(.int u1), (.int u1)]) (rest := [(.ref b6)]) (lenOf pd_329858 rfl) rfl (by show 2 * 0 + _ ≤ _; exact Nat.le_of_eq rfl) (hb hby at_35) (fun _ _ => ⟨rfl, e6, (by decide : 2 + 0 ≤ _), (by decide : 4 + 0 ≤ _)⟩)
  dsimp only [Pt.U, Pt.locs, Pt.cells, Pt.slots] at X7 l7 y7 z7 st7 hQ7
  subst l7 y7 z7
  obtain ⟨rfl, Nq7, Kq7, Fa7, Fb7⟩ := hQ7
  have N7 := Fr.app N2 Nq7
  have Z7 : n0 ≤ T7.heap.size := Nat.le_trans Z6 Kq7.1
  obtain ⟨cq8, kq8, q8a, q8b, q8c⟩ := isOf hZ rfl (((A1.keep Kq2).ext E6).keep Kq7)
  obtain ⟨_, _, ⟨T8, L8, k8, n8⟩, -, X8, ⟨Lc8, hQ8, l8, y8, z8⟩, st8⟩ := X7.virtualBack hx (y := (⟨"com/example/syndic/syndic/Stretch", "isEmpty", "()Z"⟩ : MethodName)) (z := (⟨"com/example/syndic/syndic/Stretch", "isEmpty", "()Z"⟩ : MethodName)) hown (mvT hZ (own_w hw 18 rfl)) (mvT hZ (own_w hw 19 rfl)) (notFace_of_selects (args := #[]) (mvT hZ (own_w hw 21 rfl))) (mvT hZ (own_w hw 21 rfl)) (mvT hZ (own_w hw 20 rfl)) (by decide) (backOf (W := 0) (rm_emp l Z a0 hw [] b1 u1 u2 T7.heap n0 Z7 ((Fa2.ext E6).keep Kq7 (ninS ne_b1_b6 nin0)) ((Fb2.ext E6).keep Kq7 (ninS ne_b1_b6 nin0))) hZ (own_w hw 22 rfl) (own_w hw 2 rfl) (by decide) (by decide)) q8a q8c (g := (mkF m 41 #[.val (.int u1), .val (.int u2), .val (.ref b1), .val (.long ((u2.toInt64) - (u1.toInt64))), .second, .val (.int (bif (ifCond.holds .gt (lcmpW ((u2.toInt64) - (u1.toInt64)) (0 : Int64))) then (0 : Int32) else (1 : Int32))), .val (.ref b6)] [(.ref b1)])) rfl (by rw [hml]; rfl) (Steps.refl _) (argsL := []) (rest := []) (lenOf pd_691901 rfl) rfl (by show 2 * 0 + _ ≤ _; exact Nat.le_of_eq rfl) (hb hby at_41) (fun _ _ => ⟨rfl, rfl, (by decide : 2 + 0 ≤ _), (by decide : 4 + 0 ≤ _)⟩)
  dsimp only [Pt.U, Pt.locs, Pt.cells, Pt.slots] at X8 l8 y8 z8 st8 hQ8
  subst l8 y8 z8
  obtain ⟨rfl, Nq8, eq8⟩ := hQ8
  have N8 := Fr.app N7 Nq8
  obtain ⟨cq9, kq9, q9a, q9b, q9c⟩ := isOf hZ eq8 (A6.keep Kq7)
  obtain ⟨_, _, ⟨T9, L9, k9, n9⟩, -, X9, ⟨Lc9, hQ9, l9, y9, z9⟩, st9⟩ := X8.virtualBack hx (y := (⟨"com/example/syndic/syndic/Stretch", "isEmpty", "()Z"⟩ : MethodName)) (z := (⟨"com/example/syndic/syndic/Stretch", "isEmpty", "()Z"⟩ : MethodName)) hown (mvT hZ (own_w hw 18 rfl)) (mvT hZ (own_w hw 19 rfl)) (notFace_of_selects (args := #[]) (mvT hZ (own_w hw 21 rfl))) (mvT hZ (own_w hw 21 rfl)) (mvT hZ (own_w hw 20 rfl)) (by decide) (backOf (W := 0) (rm_emp l Z a0 hw [] b6 u1 u1 T7.heap n0 Z7 Fa7 Fb7) hZ (own_w hw 22 rfl) (own_w hw 2 rfl) (by decide) (by decide)) q9a q9c (g := (mkF m 51 #[.val (.int u1), .val (.int u2), .val (.ref b1), .val (.long ((u2.toInt64) - (u1.toInt64))), .second, .val (.int (bif (ifCond.holds .gt (lcmpW ((u2.toInt64) - (u1.toInt64)) (0 : Int64))) then (0 : Int32) else (1 : Int32))), .val (.ref b6)] [(.ref b6)])) rfl (by rw [hml]; rfl) (Steps.refl _) (argsL := []) (rest := []) (lenOf pd_691901 rfl) rfl (by show 2 * 0 + _ ≤ _; exact Nat.le_of_eq rfl) (hb hby at_51) (fun _ _ => ⟨rfl, eq8, (by decide : 2 + 0 ≤ _), (by decide : 4 + 0 ≤ _)⟩)
  dsimp only [Pt.U, Pt.locs, Pt.cells, Pt.slots] at X9 l9 y9 z9 st9 hQ9
  subst l9 y9 z9
  obtain ⟨rfl, Nq9, eq9⟩ := hQ9
  have N9 := Fr.app N8 Nq9
  obtain ⟨fs, hr, hrun, hended, hW, hsame⟩ := X9.leave (v := some (.int (1 : Int32))) (fun h => by rw [Bd.returns] at h; cases h)
  refine ⟨_, _, pre5 _ ?_, hrun, hended, _, _, rfl, ?_, ⟨_, rfl⟩, hW, hsame.mono (by decide) (by decide)⟩
  · show Steps p.tables e below (T2.setTop (mkF m 27 #[.val (.int u1), .val (.int u2), .val (.ref b1), .val (.long ((u2.toInt64) - (u1.toInt64))), .second, .unset, .unset] [(.int (bif (ifCond.holds .gt (lcmpW ((u2.toInt64) - (u1.toInt64)) (0 : Int64))) then (0 : Int32) else (1 : Int32)))])) _
    refine XS.istore X2.here hx rfl (hb hby at_27) rfl (l' := #[.val (.int u1), .val (.int u2), .val (.ref b1), .val (.long ((u2.toInt64) - (u1.toInt64))), .second, .val (.int (bif (ifCond.holds .gt (lcmpW ((u2.toInt64) - (u1.toInt64)) (0 : Int64))) then (0 : Int32) else (1 : Int32))), .unset]) rfl ?_
    show Steps p.tables e below (T2.setTop (mkF m 29 #[.val (.int u1), .val (.int u2), .val (.ref b1), .val (.long ((u2.toInt64) - (u1.toInt64))), .second, .val (.int (bif (ifCond.holds .gt (lcmpW ((u2.toInt64) - (u1.toInt64)) (0 : Int64))) then (0 : Int32) else (1 : Int32))), .unset] [])) _
    refine st6 _ ?_
    show Steps p.tables e below (T6.setTop (mkF m 32 #[.val (.int u1), .val (.int u2), .val (.ref b1), .val (.long ((u2.toInt64) - (u1.toInt64))), .second, .val (.int (bif (ifCond.holds .gt (lcmpW ((u2.toInt64) - (u1.toInt64)) (0 : Int64))) then (0 : Int32) else (1 : Int32))), .unset] [(.ref b6)])) _
    refine XS.dup X6.here hx rfl (hb hby at_32) rfl rfl ?_
    show Steps p.tables e below (T6.setTop (mkF m 33 #[.val (.int u1), .val (.int u2), .val (.ref b1), .val (.long ((u2.toInt64) - (u1.toInt64))), .second, .val (.int (bif (ifCond.holds .gt (lcmpW ((u2.toInt64) - (u1.toInt64)) (0 : Int64))) then (0 : Int32) else (1 : Int32))), .unset] [(.ref b6), (.ref b6)])) _
    refine XS.iloadN X6.here hx rfl (hb hby at_33) rfl ?_
    show Steps p.tables e below (T6.setTop (mkF m 34 #[.val (.int u1), .val (.int u2), .val (.ref b1), .val (.long ((u2.toInt64) - (u1.toInt64))), .second, .val (.int (bif (ifCond.holds .gt (lcmpW ((u2.toInt64) - (u1.toInt64)) (0 : Int64))) then (0 : Int32) else (1 : Int32))), .unset] [(.int u1), (.ref b6), (.ref b6)])) _
    refine XS.iloadN X6.here hx rfl (hb hby at_34) rfl ?_
    show Steps p.tables e below (T6.setTop (mkF m 35 #[.val (.int u1), .val (.int u2), .val (.ref b1), .val (.long ((u2.toInt64) - (u1.toInt64))), .second, .val (.int (bif (ifCond.holds .gt (lcmpW ((u2.toInt64) - (u1.toInt64)) (0 : Int64))) then (0 : Int32) else (1 : Int32))), .unset] [(.int u1), (.int u1), (.ref b6), (.ref b6)])) _
    refine st7.trans ?_
    show Steps p.tables e below (T7.setTop (mkF m 38 #[.val (.int u1), .val (.int u2), .val (.ref b1), .val (.long ((u2.toInt64) - (u1.toInt64))), .second, .val (.int (bif (ifCond.holds .gt (lcmpW ((u2.toInt64) - (u1.toInt64)) (0 : Int64))) then (0 : Int32) else (1 : Int32))), .unset] [(.ref b6)])) _
    refine XS.astore X7.here hx rfl (hb hby at_38) rfl rfl (l' := #[.val (.int u1), .val (.int u2), .val (.ref b1), .val (.long ((u2.toInt64) - (u1.toInt64))), .second, .val (.int (bif (ifCond.holds .gt (lcmpW ((u2.toInt64) - (u1.toInt64)) (0 : Int64))) then (0 : Int32) else (1 : Int32))), .val (.ref b6)]) rfl ?_
    show Steps p.tables e below (T7.setTop (mkF m 40 #[.val (.int u1), .val (.int u2), .val (.ref b1), .val (.long ((u2.toInt64) - (u1.toInt64))), .second, .val (.int (bif (ifCond.holds .gt (lcmpW ((u2.toInt64) - (u1.toInt64)) (0 : Int64))) then (0 : Int32) else (1 : Int32))), .val (.ref b6)] [])) _
    refine XS.aloadN X7.here hx rfl (hb hby at_40) rfl rfl ?_
    show Steps p.tables e below (T7.setTop (mkF m 41 #[.val (.int u1), .val (.int u2), .val (.ref b1), .val (.long ((u2.toInt64) - (u1.toInt64))), .second, .val (.int (bif (ifCond.holds .gt (lcmpW ((u2.toInt64) - (u1.toInt64)) (0 : Int64))) then (0 : Int32) else (1 : Int32))), .val (.ref b6)] [(.ref b1)])) _
    refine st8.trans ?_
    show Steps p.tables e below (T8.setTop (mkF m 44 #[.val (.int u1), .val (.int u2), .val (.ref b1), .val (.long ((u2.toInt64) - (u1.toInt64))), .second, .val (.int (bif (ifCond.holds .gt (lcmpW ((u2.toInt64) - (u1.toInt64)) (0 : Int64))) then (0 : Int32) else (1 : Int32))), .val (.ref b6)] [(.int (nar .boolean (bif (if_icmp.holds .lt u1 u2) then (0 : Int32) else (1 : Int32))))])) _
    refine XS.iload X8.here hx rfl (hb hby at_44) rfl ?_
    show Steps p.tables e below (T8.setTop (mkF m 46 #[.val (.int u1), .val (.int u2), .val (.ref b1), .val (.long ((u2.toInt64) - (u1.toInt64))), .second, .val (.int (bif (ifCond.holds .gt (lcmpW ((u2.toInt64) - (u1.toInt64)) (0 : Int64))) then (0 : Int32) else (1 : Int32))), .val (.ref b6)] [(.int (bif (ifCond.holds .gt (lcmpW ((u2.toInt64) - (u1.toInt64)) (0 : Int64))) then (0 : Int32) else (1 : Int32))), (.int (nar .boolean (bif (if_icmp.holds .lt u1 u2) then (0 : Int32) else (1 : Int32))))])) _
    refine XS.icmpNo X8.here hx rfl (hb hby at_46) rfl (own_c1 _ _) ?_
    show Steps p.tables e below (T8.setTop (mkF m 49 #[.val (.int u1), .val (.int u2), .val (.ref b1), .val (.long ((u2.toInt64) - (u1.toInt64))), .second, .val (.int (bif (ifCond.holds .gt (lcmpW ((u2.toInt64) - (u1.toInt64)) (0 : Int64))) then (0 : Int32) else (1 : Int32))), .val (.ref b6)] [])) _
    refine XS.aload X8.here hx rfl (hb hby at_49) rfl rfl ?_
    show Steps p.tables e below (T8.setTop (mkF m 51 #[.val (.int u1), .val (.int u2), .val (.ref b1), .val (.long ((u2.toInt64) - (u1.toInt64))), .second, .val (.int (bif (ifCond.holds .gt (lcmpW ((u2.toInt64) - (u1.toInt64)) (0 : Int64))) then (0 : Int32) else (1 : Int32))), .val (.ref b6)] [(.ref b6)])) _
    refine st9.trans ?_
    show Steps p.tables e below (T9.setTop (mkF m 54 #[.val (.int u1), .val (.int u2), .val (.ref b1), .val (.long ((u2.toInt64) - (u1.toInt64))), .second, .val (.int (bif (ifCond.holds .gt (lcmpW ((u2.toInt64) - (u1.toInt64)) (0 : Int64))) then (0 : Int32) else (1 : Int32))), .val (.ref b6)] [(.int (nar .boolean (bif (if_icmp.holds .lt u1 u1) then (0 : Int32) else (1 : Int32))))])) _
    refine XS.ifNo X9.here hx rfl (hb hby at_54) rfl (own_c2 _) ?_
    show Steps p.tables e below (T9.setTop (mkF m 57 #[.val (.int u1), .val (.int u2), .val (.ref b1), .val (.long ((u2.toInt64) - (u1.toInt64))), .second, .val (.int (bif (ifCond.holds .gt (lcmpW ((u2.toInt64) - (u1.toInt64)) (0 : Int64))) then (0 : Int32) else (1 : Int32))), .val (.ref b6)] [])) _
    refine XS.iconst X9.here hx rfl (hb hby at_57) ?_
    show Steps p.tables e below (T9.setTop (mkF m 58 #[.val (.int u1), .val (.int u2), .val (.ref b1), .val (.long ((u2.toInt64) - (u1.toInt64))), .second, .val (.int (bif (ifCond.holds .gt (lcmpW ((u2.toInt64) - (u1.toInt64)) (0 : Int64))) then (0 : Int32) else (1 : Int32))), .val (.ref b6)] [(.int (1 : Int32))])) _
    refine XS.goto X9.here hx rfl (pc0 := 58) (pc' := 62) rfl (hb hby at_58) (by decide) (by decide) ?_
    show Steps p.tables e below (T9.setTop (mkF m 62 #[.val (.int u1), .val (.int u2), .val (.ref b1), .val (.long ((u2.toInt64) - (u1.toInt64))), .second, .val (.int (bif (ifCond.holds .gt (lcmpW ((u2.toInt64) - (u1.toInt64)) (0 : Int64))) then (0 : Int32) else (1 : Int32))), .val (.ref b6)] [(.int (1 : Int32))])) _
    exact retN X9 hx (t := .boolean) Bd.returns (by simp) (hb hby at_62) hr
  · show Q_rm_law Z _ _ h0 n0 _ T9.heap _
    rw [eq9]
    exact ⟨rfl, N9⟩
set_option maxRecDepth 65536 in
set_option maxHeartbeats 40000000 in
theorem comes_1 {Post : Tables → Env → Array Value → State → Outcome → State → Prop} (hpost : ∀ tb e args s v u, (limb_1_1.after args s (.returned v) u = true ∧ limb_1_2.after args s (.returned v) u = true ∧ True) → FrameEnd s (.returned v) u (Jvm.fieldLocs frame_1_writes args s ++ Jvm.arrayLocs frame_1_arrays args s ++ Jvm.staticLocs frame_1_statics s) 16 128 → Post tb e args s (.returned v) u) :
    ArmFor flags0 classFile x code maxLocals ret World_1 tables_1 room_1 Calls_1 rest_1 Pre_1 Post := by
  intro l hfl _ _ p e ha hc hk s m args below hf hA hF happ hP
  obtain ⟨hcalls, hrest, hpre⟩ := hP
  obtain ⟨-, -, -, hnamed, -, -, -, hat⟩ := (Spec.applies_iff hf).mp happ
  obtain ⟨hg, hn⟩ := and_e (Cond.before_iff.mp (show (Jvm.Cond.and given_1 narrow_1).before args s = true from hpre))
  obtain ⟨ha0, hb0⟩ := and_e hg
  obtain ⟨ha1, hb1⟩ := and_e hb0
  obtain ⟨w0, w1, rfl⟩ : ∃ w0 w1 : Value, args = #[w0, w1] := by
    have hs : args.size = 2 := by simpa [Cond.value, given_1] using ha0
    obtain ⟨L⟩ := args
    match L, hs with
    | [w0, w1], _ => exact ⟨w0, w1, rfl⟩
  have hw := fun d (hd : d ∈ tables_1) => atoms_spec (ws := Jvm.Cond.code x code maxLocals ret :: tables_1) hat d (List.mem_cons_of_mem _ hd)
  have hfit : Fit s := fun {y c} hc i hi => by
    obtain ⟨ha, rfl⟩ := Array.getElem?_eq_some_iff.mp hc
    have q := List.all_eq_true.mp ((Array.all_eq_true_iff_forall_mem.mp hF) _ (Array.getElem_mem ha)) i (List.mem_range.mpr hi)
    simpa [Array.getElem?_eq_getElem hi] using q
  obtain ⟨i0, ei0⟩ := is_v ha1
  obtain rfl : w0 = (.int i0) := Option.some.inj ei0
  obtain ⟨i1, ei1⟩ := is_v hb1
  obtain rfl : w1 = (.int i1) := Option.some.inj ei1
  obtain ⟨n, o, h1, h2, h3, _, L, rfl, ⟨rfl, N⟩, hq⟩ := rm_law l s _ hw tables_1 i0 i1 s.heap s.heap.size (Nat.le_refl _)  p e ha hc hk s m _ below hf ((Spec.applies_iff_loose hf).mp happ).1 ⟨rfl, State.Warmed39.refl s, rfl⟩ trivial
  refine ⟨n, _, h1, h2, h3, hpost _ _ _ _ _ _ ⟨Cond.after_iff.mpr rfl, Cond.after_iff.mpr (eq_i res_at (Term.int_eval (1)) rfl), trivial⟩ ⟨hq.1, hq.2.1, (hq.2.2.sift fun y hy => Or.inr (N y hy)).mono (by decide) (by decide)⟩⟩
theorem main_1_1 : Claimed_1_1 := comes_1 fun _ _ _ _ _ _ h hF => ⟨h.1, hF⟩
theorem main_1_2 : Claimed_1_2 := comes_1 fun _ _ _ _ _ _ h hF => ⟨h.2.1, hF⟩
end Jvm.Pilot.@@N@@
namespace Jvm.Pilot.@@N@@
open Jvm Jvm.ClassFile Sem Op Lib Jvm.Free Jvm.Stand Jvm.Pilot.@@N@@.Jvm.D
/-! MADE BY PROGRAM (witnessworld.py) out of the Statement's table words and the real class files: 10 classes; the members and pool entries that the words name. The judged class is class 1, her method 1. -/
namespace start1
open Jvm.ClassFile
def u (s : String) : CpInfo := .utf8 (stringToUtf16 s)
/-- a pool by its gaps: so many unusable entries, then the entry; so many at the end -/
def gap : Nat → List CpInfo → List CpInfo
  | 0, r => r
  | n + 1, r => .unusable :: gap n r
def poolList (es : List (Nat × CpInfo)) (last : Nat) : List CpInfo := es.foldr (fun e r => gap e.1 (e.2 :: r)) (gap last [])
def pool (es : List (Nat × CpInfo)) (last : Nat) : Array CpInfo := ⟨poolList es last⟩
def fileOf (pool : Array CpInfo) (this : Nat) (attrs : Array Attribute := #[]) (ms : Array MethodInfo := #[]) (fl : Nat := 33) (sup : Nat := 0) (ifs : Array Nat := #[]) (fds : Array FieldInfo := #[]) : ClassFile where
  minorVersion := 0
  majorVersion := 65
  constantPool := pool
  accessFlags := fl
  thisClass := this
  superClass := sup
  interfaces := ifs
  fields := fds
  methods := ms
  attributes := attrs
def plain (name : String) (sup : Option ClassId) : Class where
  name := name
  kind := .ordinary
  loader := none
  accessFlags := 33
  super := sup
  interfaces := #[]
  cf := none
  fields := #[]
  methods := #[]
  instanceTypes := #[]
  staticTypes := #[]
  resolved := #[]
  callSites := []
  init := .initialized
  statics := none
  mirror := none

def pool0 : Array CpInfo := pool [(5, u "<init>"), (0, u "()V"), (1, .class_ 10), (1, u "java/lang/Object")] 113

def k0c0 : Code := { maxStack := 0, maxLocals := 1, code := object_method_1_code, exceptionTable := #[], attributes := #[] }
def k0m0 : Method := { name := "<init>", desc := "()V", sig := { parameters := [], returnType := none }, accessFlags := 1, code := some k0c0 }
/-- java/lang/Object -/
def k0 : Class := { plain "java/lang/Object" none with
  accessFlags := 33
  interfaces := #[]
  cf := some (fileOf pool0 8 #[] #[{ accessFlags := 1, nameIndex := 5, descriptorIndex := 6, attributes := #[] }] 33 0 #[] #[])
  fields := #[]
  methods := #[k0m0]
  instanceTypes := #[]
  staticTypes := #[]
  resolved := Array.replicate 124 none
  statics := none }

def pool1 : Array CpInfo := pool [(2, .class_ 4), (1, u "java/lang/Object"), (0, u "<init>"), (0, u "()V"), (0, .class_ 8), (0, u "com/example/syndic/syndic/Stretch"), (0, .methodref 7 10), (0, .nameAndType 5 11), (0, u "(II)V"), (0, .methodref 7 13), (0, .nameAndType 14 15), (0, u "isEmpty"), (0, u "()Z"), (0, .class_ 17), (0, u "com/example/syndic/syndic/StretchIsEmptyPinLaw"), (2, u "law"), (0, u "(II)Z")] 3

def k1m0 : Method := { name := "<init>", desc := "()V", sig := { parameters := [], returnType := none }, accessFlags := 2, code := none }
def k1c1 : Code := { maxStack := 4, maxLocals := 7, code := code, exceptionTable := #[], attributes := #[] }
def k1m1 : Method := { name := "law", desc := "(II)Z", sig := { parameters := [.int, .int], returnType := some .boolean }, accessFlags := 9, code := some k1c1 }
/-- com/example/syndic/syndic/StretchIsEmptyPinLaw -/
def k1 : Class := { plain "com/example/syndic/syndic/StretchIsEmptyPinLaw" (some 0) with
  accessFlags := 49
  interfaces := #[]
  cf := some (fileOf pool1 16 #[] #[{ accessFlags := 2, nameIndex := 5, descriptorIndex := 6, attributes := #[] }, { accessFlags := 9, nameIndex := 20, descriptorIndex := 21, attributes := #[] }] 49 2 #[] #[])
  fields := #[]
  methods := #[k1m0, k1m1]
  instanceTypes := #[]
  staticTypes := #[]
  resolved := Array.replicate 25 none
  statics := none }

def pool2 : Array CpInfo := pool [(1, .methodref 2 3), (0, .class_ 4), (0, .nameAndType 5 6), (0, u "java/lang/Object"), (0, u "<init>"), (0, u "()V"), (0, .class_ 8), (0, u "java/lang/Record")] 13

def k2c0 : Code := { maxStack := 1, maxLocals := 1, code := jdk_30_method_1_code, exceptionTable := #[], attributes := #[] }
def k2m0 : Method := { name := "<init>", desc := "()V", sig := { parameters := [], returnType := none }, accessFlags := 4, code := some k2c0 }
/-- java/lang/Record -/
def k2 : Class := { plain "java/lang/Record" (some 0) with
  accessFlags := 1057
  interfaces := #[]
  cf := some (fileOf pool2 7 #[] #[{ accessFlags := 4, nameIndex := 5, descriptorIndex := 6, attributes := #[] }] 1057 2 #[] #[])
  fields := #[]
  methods := #[k2m0]
  instanceTypes := #[]
  staticTypes := #[]
  resolved := Array.replicate 22 none
  statics := none }

def pool3 : Array CpInfo := pool [(1, .methodref 2 3), (0, .class_ 4), (0, .nameAndType 5 6), (0, u "java/lang/Record"), (0, u "<init>"), (0, u "()V"), (0, .fieldref 8 9), (0, .class_ 10), (0, .nameAndType 11 12), (0, u "com/example/syndic/syndic/Stretch"), (0, u "start"), (0, u "I"), (0, .fieldref 8 14), (0, .nameAndType 15 12), (0, u "end"), (12, u "(II)V"), (3, u "isEmpty"), (0, u "()Z")] 25

def k3c0 : Code := { maxStack := 2, maxLocals := 3, code := prog_107_method_1_code, exceptionTable := #[], attributes := #[] }
def k3m0 : Method := { name := "<init>", desc := "(II)V", sig := { parameters := [.int, .int], returnType := none }, accessFlags := 0, code := some k3c0 }
def k3c1 : Code := { maxStack := 2, maxLocals := 1, code := prog_107_method_2_code, exceptionTable := #[], attributes := #[] }
def k3m1 : Method := { name := "isEmpty", desc := "()Z", sig := { parameters := [], returnType := some .boolean }, accessFlags := 0, code := some k3c1 }
/-- com/example/syndic/syndic/Stretch -/
def k3 : Class := { plain "com/example/syndic/syndic/Stretch" (some 2) with
  accessFlags := 48
  interfaces := #[]
  cf := some (fileOf pool3 8 #[] #[{ accessFlags := 0, nameIndex := 5, descriptorIndex := 28, attributes := #[] }, { accessFlags := 0, nameIndex := 32, descriptorIndex := 33, attributes := #[] }] 48 2 #[] #[{ accessFlags := 18, nameIndex := 11, descriptorIndex := 12, attributes := #[] }, { accessFlags := 18, nameIndex := 15, descriptorIndex := 12, attributes := #[] }])
  fields := #[{ name := "start", type := .int, accessFlags := 18, slot := 0, constantValue := 0 }, { name := "end", type := .int, accessFlags := 18, slot := 1, constantValue := 0 }]
  methods := #[k3m0, k3m1]
  instanceTypes := #[.int, .int]
  staticTypes := #[]
  resolved := Array.replicate 59 none
  statics := none }

def pool4 : Array CpInfo := pool [(1, u "java/lang/Cloneable"), (0, .class_ 1), (0, u "java/lang/Object"), (0, .class_ 3)] 3

/-- java/lang/Cloneable -/
def k4 : Class := { plain "java/lang/Cloneable" (some 0) with
  accessFlags := 1537
  interfaces := #[]
  cf := some (fileOf pool4 2 #[] #[] 1537 4 #[] #[])
  fields := #[]
  methods := #[]
  instanceTypes := #[]
  staticTypes := #[]
  resolved := Array.replicate 8 none
  statics := none }

def pool5 : Array CpInfo := pool [(1, u "java/io/Serializable"), (0, .class_ 1), (0, u "java/lang/Object"), (0, .class_ 3)] 3

/-- java/io/Serializable -/
def k5 : Class := { plain "java/io/Serializable" (some 0) with
  accessFlags := 1537
  interfaces := #[]
  cf := some (fileOf pool5 2 #[] #[] 1537 4 #[] #[])
  fields := #[]
  methods := #[]
  instanceTypes := #[]
  staticTypes := #[]
  resolved := Array.replicate 8 none
  statics := none }

/-- the primitive byte -/
def k6 : Class := { plain "byte" none with kind := .primitive 'B', accessFlags := 0x411 }
/-- [B -/
def k7 : Class := { plain "[B" (some 0) with kind := .array 6 .byte, interfaces := #[4, 5], accessFlags := 1041 }

/-- the primitive int -/
def k8 : Class := { plain "int" none with kind := .primitive 'I', accessFlags := 0x411 }
/-- [I -/
def k9 : Class := { plain "[I" (some 0) with kind := .array 8 .int, interfaces := #[4, 5], accessFlags := 1041 }

def heap : Heap := #[]
def classes : Array Class := #[k0, k1, k2, k3, k4, k5, k6, k7, k8, k9]
def interned : List (Array UInt16 × Addr) := []
def slotsUsed : Nat := 0
def theMethod : MethodId := ⟨1, 1⟩
def args0 : Array Value := #[.int 5, .int 7]
def aboutOver (below : List Frame) : State where
  vm := { classes := classes, interned := interned.toArray }
  heap := heap
  slotsUsed := slotsUsed
  threads := #[{ frames := .invoking theMethod args0 :: below }]
def below0 : List Frame := [.native { method := ⟨0, 0⟩, args := #[] }]
def about1 : State := aboutOver below0
def p0 : Program := .bare "" "" ""
def e0 : Env := launch0.env 0 0 0
theorem w_frames : about1.frames = Frame.invoking theMethod args0 :: below0 := rfl
set_option maxRecDepth 65536 in
theorem w_args : argsFit about1.vm theMethod args0 = true := by decide +kernel
set_option maxRecDepth 65536 in
theorem w_heap : heapFits about1 = true := by decide +kernel
set_option maxRecDepth 65536 in
theorem w_runnable : about1.curStatus? = some .runnable := by decide +kernel
set_option maxRecDepth 65536 in
theorem w_alone : about1.alone = true := by decide +kernel
set_option maxRecDepth 65536 in
theorem w_named : about1.methodNamed? x = some theMethod := by decide +kernel
set_option maxRecDepth 65536 in
theorem w_hears : about1.hears theMethod below0 = true := by decide +kernel
set_option maxRecDepth 65536 in
theorem w_ripe : about1.ripe theMethod args0 below0 = true := by decide +kernel
theorem w_running : about1.status = .running := rfl
set_option maxRecDepth 65536 in
theorem w_room : about1.hasRoom e0.platform room_1 = true :=
  launch0.hasRoom_least _ room_1 (by decide +kernel) (by decide +kernel) (by decide +kernel) (by decide +kernel) (by decide +kernel) (by decide +kernel)
theorem allAtoms_all (ts : List Jvm.Cond) (a : Array Jvm.Value) (st : Jvm.State) : (allAtoms ts).before a st = ts.all (fun c => c.before a st) := by
  induction ts with
  | nil => rfl
  | cons c t ih =>
    show (Jvm.Cond.and c (allAtoms t)).before a st = _
    rw [Jvm.Cond.before_and, ih, List.all_cons]
def words1 : List Jvm.Cond := Jvm.Cond.code x code maxLocals ret :: tables_1
/-- a 'code' word, met by the world's own term for the bytes: nothing is compared byte by byte -/
theorem code_word {y : MethodName} {bytes : ByteArray} {mx : Nat} {rt : Option FieldType} {a : Array Value} {s : State} {m : MethodId} {meth : Method} {c : Code} (h1 : s.methodNamed? y = some m) (h2 : s.vm.method? m = some meth) (h3 : meth.code = some c) (h4 : c.code = bytes)
    (h5 : (c.maxLocals == mx && c.exceptionTable.isEmpty && decide (c.maxStack ≤ mostOperands) && decide (meth.sig.returnType = rt) && !meth.locks && decide (parseMethodDescriptor y.desc = some meth.sig)) = true) : (Jvm.Cond.code y bytes mx rt).before a s = true := by
  simp only [Bool.and_eq_true, beq_iff_eq, Bool.not_eq_true', decide_eq_true_eq] at h5
  obtain ⟨⟨⟨⟨⟨g1, g2⟩, g3⟩, g4⟩, g5⟩, g6⟩ := h5
  simp [Cond.before, Cond.holds, Cond.value, h1, h2, h3, h4, g1, g2, g3, g4, g5, g6]
def isCode : Jvm.Cond → Bool
  | .code _ _ _ _ => true
  | _ => false
theorem all_split {L : List Jvm.Cond} {P : Jvm.Cond → Bool} (h1 : L.all (fun c => isCode c || P c) = true) (h2 : ∀ c ∈ L.filter isCode, P c = true) : L.all P = true := by
  refine List.all_eq_true.mpr fun c hc => ?_
  have h := List.all_eq_true.mp h1 c hc
  rcases Bool.eq_false_or_eq_true (isCode c) with hi | hi
  · exact h2 c (List.mem_filter.mpr ⟨hc, hi⟩)
  · simpa [hi] using h
set_option maxRecDepth 65536 in
theorem w_c0 : (Jvm.Cond.code x code maxLocals ret).before args0 about1 = true := code_word (m := ⟨1, 1⟩) (meth := k1m1) (c := k1c1) (by decide +kernel) rfl rfl rfl (by decide +kernel)
set_option maxRecDepth 65536 in
theorem w_c1 : (Jvm.Cond.code ({ cls := "com/example/syndic/syndic/Stretch", name := "<init>", desc := "(II)V" } : Jvm.MethodName) prog_107_method_1_code (3 : Nat) (Option.none : Option Jvm.ClassFile.FieldType)).before args0 about1 = true := code_word (m := ⟨3, 0⟩) (meth := k3m0) (c := k3c0) (by decide +kernel) rfl rfl rfl (by decide +kernel)
set_option maxRecDepth 65536 in
theorem w_c2 : (Jvm.Cond.code ({ cls := "java/lang/Record", name := "<init>", desc := "()V" } : Jvm.MethodName) jdk_30_method_1_code (1 : Nat) (Option.none : Option Jvm.ClassFile.FieldType)).before args0 about1 = true := code_word (m := ⟨2, 0⟩) (meth := k2m0) (c := k2c0) (by decide +kernel) rfl rfl rfl (by decide +kernel)
set_option maxRecDepth 65536 in
theorem w_c3 : (Jvm.Cond.code ({ cls := "java/lang/Object", name := "<init>", desc := "()V" } : Jvm.MethodName) object_method_1_code (1 : Nat) (Option.none : Option Jvm.ClassFile.FieldType)).before args0 about1 = true := code_word (m := ⟨0, 0⟩) (meth := k0m0) (c := k0c0) (by decide +kernel) rfl rfl rfl (by decide +kernel)
set_option maxRecDepth 65536 in
theorem w_c4 : (Jvm.Cond.code ({ cls := "com/example/syndic/syndic/Stretch", name := "isEmpty", desc := "()Z" } : Jvm.MethodName) prog_107_method_2_code (1 : Nat) (Option.some Jvm.ClassFile.FieldType.boolean)).before args0 about1 = true := code_word (m := ⟨3, 1⟩) (meth := k3m1) (c := k3c1) (by decide +kernel) rfl rfl rfl (by decide +kernel)
def codes1 : List Jvm.Cond := [Jvm.Cond.code x code maxLocals ret, Jvm.Cond.code ({ cls := "com/example/syndic/syndic/Stretch", name := "<init>", desc := "(II)V" } : Jvm.MethodName) prog_107_method_1_code (3 : Nat) (Option.none : Option Jvm.ClassFile.FieldType), Jvm.Cond.code ({ cls := "java/lang/Record", name := "<init>", desc := "()V" } : Jvm.MethodName) jdk_30_method_1_code (1 : Nat) (Option.none : Option Jvm.ClassFile.FieldType), Jvm.Cond.code ({ cls := "java/lang/Object", name := "<init>", desc := "()V" } : Jvm.MethodName) object_method_1_code (1 : Nat) (Option.none : Option Jvm.ClassFile.FieldType), Jvm.Cond.code ({ cls := "com/example/syndic/syndic/Stretch", name := "isEmpty", desc := "()Z" } : Jvm.MethodName) prog_107_method_2_code (1 : Nat) (Option.some Jvm.ClassFile.FieldType.boolean)]
set_option maxRecDepth 65536 in
theorem codes_eq : words1.filter isCode = codes1 := rfl
theorem w_codes : ∀ c ∈ words1.filter isCode, c.before args0 about1 = true := by
  rw [codes_eq]
  intro c hc
  simp only [codes1, List.mem_cons, List.not_mem_nil, or_false] at hc
  rcases hc with rfl | rfl | rfl | rfl | rfl
  · exact w_c0
  · exact w_c1
  · exact w_c2
  · exact w_c3
  · exact w_c4
set_option maxRecDepth 65536 in
theorem w_t1 : words1.all (fun c => isCode c || c.before args0 about1) = true := by decide +kernel
theorem w_tables : (allAtoms (Jvm.Cond.code x code maxLocals ret :: tables_1)).before args0 about1 = true := by
  rw [allAtoms_all]
  show words1.all (fun c => c.before args0 about1) = true
  refine all_split ?_ w_codes
  rw [w_t1]
set_option maxRecDepth 65536 in
theorem w_case : (Jvm.Cond.and given_1 narrow_1).before args0 about1 = true := by decide +kernel
theorem w_applies : (headSpec (Jvm.Cond.code x code maxLocals ret :: tables_1) room_1).applies x e0.platform about1 = true :=
  (Spec.applies_iff w_frames).mpr ⟨w_running, w_runnable, w_alone, w_named, w_hears, w_ripe, w_room, w_tables⟩
theorem atStart : AtStart classFile x code maxLocals ret World_1 tables_1 room_1 Calls_1 rest_1 Pre_1 launch0 p0 e0 about1 theMethod args0 below0 :=
  ⟨lists_1, trivial, launch0.admits_env _ _ _, launch0.least_env, fairChoices_fair.cas, fairChoices_fair.clock, w_frames, w_args, w_heap, w_applies, trivial, trivial, w_case⟩
end start1
theorem witness_1 : WitnessClaimed_1 := ⟨start1.p0, start1.e0, start1.about1, start1.theMethod, start1.args0, start1.below0, start1.atStart⟩
end Jvm.Pilot.@@N@@
