import JvmDerived
import JvmDerived.Pilot.@@N@@Statement
import JvmDerived.Pilot.@@N@@Code
set_option linter.unusedVariables false
set_option linter.unusedSimpArgs false
namespace Jvm.RoadKit
open Sem ClassFile Op Lib Jvm.Stand Jvm.Free Jvm.LawKit
section New
variable {p : Program} {l : Launch} {e : Env} {R : Room} {s : State} {m : MethodId} {args : Array Value} {below : List Frame} {meth : Method} {c : Code} {T : State} {locs : List Loc} {cells slots : Nat}
theorem retI (X : Stand p l e R s m args below meth c T locs cells slots) (hx : p.tables.exec = Jvm.exec) {pc : Nat} {Ls : Array Slot} {z : Int32} {rest : List Value} (hret : meth.sig.returnType = some .int) (hd : decode c.code pc = .ok (.ireturn, 1)) {fs : List Frame}
    (hl : ∀ (f : JFrame) (acts : List Action), f.method = m → f.locked = none → f.entered = [] → (doReturn e (T.setTop f) acts (some (.int z))).1 = T.setFrames fs) : Steps p.tables e below (T.setTop (mkF m pc Ls (.int z :: rest))) (T.setFrames fs) := by
  have hm' : T.vm.method? m = some meth := X.method'
  have hn : narrow .int (.int z) = .int z := rfl
  show Steps p.tables e below (T.setTop { method := m, pc := pc, locals := Ls, stack := _ :: rest, locked := none }) _
  jvm_step X.here [X.here.top, hx, hd, hm', hret, hn]
  first | (intro acts; rw [hl _ acts rfl rfl rfl]) | rw [hl _ _ rfl rfl rfl]
  exact Steps.refl _
end New
end Jvm.RoadKit
namespace Jvm.Pilot.@@N@@
open Jvm Jvm.ClassFile Sem Op Lib Jvm.Free Jvm.Stand Jvm.LawKit Jvm.RoadKit Bundle Jvm.Pilot.@@N@@.Jvm.D
/-! the comparisons, as plain decisions -/
theorem own_w {a0 : Array Value} {Z : State} (hw : ∀ d ∈ tables_1, d.before a0 Z = true) (i : Nat) {d : Jvm.Cond} (h : tables_1[i]? = some d) : d.before a0 Z = true := hw d (List.mem_of_getElem? h)
theorem own_ilt (x y : Int32) : if_icmp.holds .lt x y = decide (x < y) := rfl
theorem own_ile (x y : Int32) : if_icmp.holds .le x y = decide (x ≤ y) := rfl
theorem own_igt (x y : Int32) : if_icmp.holds .gt x y = decide (y < x) := rfl
theorem own_ige (x y : Int32) : if_icmp.holds .ge x y = decide (y ≤ x) := rfl
theorem own_ieq (x y : Int32) : if_icmp.holds .eq x y = decide (x = y) := rfl
theorem own_ine (x y : Int32) : if_icmp.holds .ne x y = decide (x ≠ y) := by
  by_cases h : x = y
  · rw [(teq h).2]; exact (decide_eq_false (not_not_intro h)).symm
  · rw [(feq h).2]; exact (decide_eq_true h).symm
theorem own_smono {s : State} {vm : Vm} {n n' : Nat} (h : s.Since vm n) (hn : n ≤ n') : s.Since vm n' := ⟨h.1, fun j p hj hp => ⟨(h.2 j p hj hp).1, Nat.lt_of_lt_of_le (h.2 j p hj hp).2 hn⟩⟩
theorem own_d0 : FP.dconst0 = FP.l2d (0 : Int64) := by rw [l2d_zero]; rfl
theorem own_lgt (x y : Int64) : ifCond.holds .gt (lcmpW x y) = decide (y < x) := by rw [if0, own_igt]; exact decide_eq_decide.mpr (lw_gt x y)
theorem own_llt (x y : Int64) : ifCond.holds .lt (lcmpW x y) = decide (x < y) := by rw [if0, own_ilt]; exact decide_eq_decide.mpr (lw_lt x y)
theorem own_leq (x y : Int64) : ifCond.holds .eq (lcmpW x y) = decide (x = y) := by rw [if0, own_ieq]; exact decide_eq_decide.mpr (lw_eq x y)
theorem own_lne (x y : Int64) : ifCond.holds .ne (lcmpW x y) = decide (x ≠ y) := by rw [if0, own_ine]; exact decide_eq_decide.mpr (not_congr (lw_eq x y))
theorem own_lle (x y : Int64) : ifCond.holds .le (lcmpW x y) = decide (x ≤ y) := by rw [if0, own_ile]; exact decide_eq_decide.mpr (by rw [← Int32.not_lt, lw_gt, Int64.not_lt])
theorem own_lge (x y : Int64) : ifCond.holds .ge (lcmpW x y) = decide (y ≤ x) := by rw [if0, own_ige]; exact decide_eq_decide.mpr (by rw [← Int32.not_lt, lw_lt, Int64.not_lt])
theorem own_b0 : B53 (0 : Int64) := by constructor <;> decide
theorem d2_0 : decode jdk_30_method_1_code 0 = .ok (.aload_n 0, 1) := by decide +kernel
theorem d2_1 : decode jdk_30_method_1_code 1 = .ok (.invokespecial 1, 3) := by decide +kernel
theorem d2_4 : decode jdk_30_method_1_code 4 = .ok (.return_, 1) := by decide +kernel
theorem ef_rm_rec (m : MethodId) (x0 : Addr) : entryFrame m #[(.ref x0)] 1 = mkF m 0 #[.val (.ref x0)] [] := by first | (simp [entryFrame, mkF, argsToLocals, Value.category]; done) | rfl
def Q_rm_rec (Z : State) (u1 : Addr) (h0 : Heap) (n0 : Nat) (v : Option Value) (h : Heap) (L : List Loc) : Prop := v = none ∧ Fr n0 L ∧ h = h0
theorem pn_976391 : plainName "java/lang/Record" = true := by first | (simp [plainName, overriddenIn]; done) | decide +kernel
set_option maxRecDepth 65536 in
set_option maxHeartbeats 40000000 in
theorem rm_rec (l : Launch) (Z : State) (a0 : Array Value) (hw : ∀ d ∈ tables_1, d.before a0 Z = true) (ws : List Jvm.Cond) (u1 : Addr) (h0 : Heap) (n0 : Nat) (Z0 : n0 ≤ h0.size) :
    MetFree l (⟨"java/lang/Record", "<init>", "()V"⟩ : MethodName) (head1 (Jvm.Cond.code (⟨"java/lang/Record", "<init>", "()V"⟩ : MethodName) jdk_30_method_1_code 1 none :: ws) ({ frames := 1, cells := 0, slots := 0, locals := 12 } : Room)) (fun a U => a = #[(.ref u1)] ∧ Z.Warmed39 U.vm ∧ U.heap = h0) (fun _ _ _ _ _ => True) (fun _ U o U' => ∃ v L, o = .returned v ∧ Q_rm_rec Z u1 h0 n0 v U'.heap L ∧ FrameEnd U o U' L ({ frames := 1, cells := 0, slots := 0, locals := 12 } : Room).cells ({ frames := 1, cells := 0, slots := 0, locals := 12 } : Room).slots) := by
  refine MetFree.of_bodySF (plainFor_of_name pn_976391) hisR ?_
  intro p e s m args below meth c s₁ Bd hml0 hP hK
  obtain ⟨rfl, hZ, hh⟩ := hP
  have hx := Bd.exec
  have hby := Bd.bytes
  have hml : c.maxLocals = 1 := hml0
  have hown : s.vm.findClass "java/lang/Record" = some m.cls := findClass_of_methodNamed Bd.named
  have hnm := (name_of_methodNamed Bd.named Bd.method).1
  have X0 : Stand p l e ({ frames := 1, cells := 0, slots := 0, locals := 12 } : Room) s m #[(.ref u1)] below meth c s₁ [] 0 0 := Stand.of_body Bd
  have e0 : s₁.heap = h0 := by rw [← hh, Bd.state]; rfl
  have N0 := Fr.nil n0
  have pre0 : ∀ t, Steps p.tables e below (s₁.setTop (mkF m 0 #[.val (.ref u1)] [])) t → Steps p.tables e below (s₁.setTop (entryFrame m #[(.ref u1)] 1)) t := fun t k => castTop (ef_rm_rec m u1) k
  obtain ⟨T1, X1, e1, st1⟩ := initO X0 hx hZ hown (own_w hw 11 rfl) (own_w hw 12 rfl) (own_w hw 13 rfl) e0 (g := (mkF m 1 #[.val (.ref u1)] [(.ref u1)])) rfl (by rw [hml]; rfl) rfl (hb hby d2_1) (by decide) (W := 0) (by show 2 * 0 + _ ≤ _; exact Nat.le_of_eq rfl) (by decide)
  obtain ⟨fs, hr, hrun, hended, hW, hsame⟩ := X1.leave (v := none) (fun _ => rfl)
  refine ⟨_, _, pre0 _ ?_, hrun, hended, _, _, rfl, ?_, ⟨_, rfl⟩, hW, hsame.mono (by decide) (by decide)⟩
  · show Steps p.tables e below (s₁.setTop (mkF m 0 #[.val (.ref u1)] [])) _
    refine XS.aloadN X0.here hx rfl (hb hby d2_0) rfl rfl ?_
    show Steps p.tables e below (s₁.setTop (mkF m 1 #[.val (.ref u1)] [(.ref u1)])) _
    refine st1 _ ?_
    show Steps p.tables e below (T1.setTop (mkF m 4 #[.val (.ref u1)] [])) _
    exact X1.returnOut hx Bd.returns (hb hby d2_4) hr
  · show Q_rm_rec Z _ h0 n0 _ T1.heap _
    rw [e1]
    exact ⟨rfl, N0, rfl⟩
theorem d1_0 : decode prog_15_method_1_code 0 = .ok (.aload_n 0, 1) := by decide +kernel
theorem d1_1 : decode prog_15_method_1_code 1 = .ok (.invokespecial 1, 3) := by decide +kernel
theorem pd_691897 : parseMethodDescriptor "()V" = some ⟨[], none⟩ := by decide +kernel
theorem d1_4 : decode prog_15_method_1_code 4 = .ok (.aload_n 0, 1) := by decide +kernel
theorem d1_5 : decode prog_15_method_1_code 5 = .ok (.dload_n 1, 1) := by decide +kernel
theorem d1_6 : decode prog_15_method_1_code 6 = .ok (.putfield 7, 3) := by decide +kernel
theorem d1_9 : decode prog_15_method_1_code 9 = .ok (.aload_n 0, 1) := by decide +kernel
theorem d1_10 : decode prog_15_method_1_code 10 = .ok (.iload_n 3, 1) := by decide +kernel
theorem d1_11 : decode prog_15_method_1_code 11 = .ok (.putfield 13, 3) := by decide +kernel
theorem d1_14 : decode prog_15_method_1_code 14 = .ok (.return_, 1) := by decide +kernel
theorem ef_rm_init (m : MethodId) (x0 : Addr) (x1 : UInt64) (x2 : Int32) : entryFrame m #[(.ref x0), (.double x1), (.int x2)] 4 = mkF m 0 #[.val (.ref x0), .val (.double x1), .second, .val (.int x2)] [] := by first | (simp [entryFrame, mkF, argsToLocals, Value.category]; done) | rfl
def Q_rm_init (Z : State) (u1 : Addr) (u2 : UInt64) (u3 : Int32) (h0 : Heap) (n0 : Nat) (v : Option Value) (h : Heap) (L : List Loc) : Prop := v = none ∧ Fr n0 L ∧ Keep h0 h [u1] ∧ Fld Z h u1 "com/example/orderly_cellar/orderlycellar/io/Preferences$Match" "quality" "D" (.double u2) ∧ Fld Z h u1 "com/example/orderly_cellar/orderlycellar/io/Preferences$Match" "specificity" "I" (.int u3)
theorem pn_130422 : plainName "com/example/orderly_cellar/orderlycellar/io/Preferences$Match" = true := by first | (simp [plainName, overriddenIn]; done) | decide +kernel
set_option maxRecDepth 65536 in
set_option maxHeartbeats 40000000 in
theorem rm_init (l : Launch) (Z : State) (a0 : Array Value) (hw : ∀ d ∈ tables_1, d.before a0 Z = true) (ws : List Jvm.Cond) (u1 : Addr) (u2 : UInt64) (u3 : Int32) (h0 : Heap) (n0 : Nat) (Z0 : n0 ≤ h0.size) (F1 : Fld Z h0 u1 "com/example/orderly_cellar/orderlycellar/io/Preferences$Match" "quality" "D" (.double (0 : UInt64))) (F2 : Fld Z h0 u1 "com/example/orderly_cellar/orderlycellar/io/Preferences$Match" "specificity" "I" (.int (0 : Int32))) (E1 : Exa Z h0 u1 "com/example/orderly_cellar/orderlycellar/io/Preferences$Match") (g1 : n0 ≤ u1) :
    MetFree l (⟨"com/example/orderly_cellar/orderlycellar/io/Preferences$Match", "<init>", "(DI)V"⟩ : MethodName) (head1 (Jvm.Cond.code (⟨"com/example/orderly_cellar/orderlycellar/io/Preferences$Match", "<init>", "(DI)V"⟩ : MethodName) prog_15_method_1_code 4 none :: ws) ({ frames := 2, cells := 0, slots := 0, locals := 24 } : Room)) (fun a U => a = #[(.ref u1), (.double u2), (.int u3)] ∧ Z.Warmed39 U.vm ∧ U.heap = h0) (fun _ _ _ _ _ => True) (fun _ U o U' => ∃ v L, o = .returned v ∧ Q_rm_init Z u1 u2 u3 h0 n0 v U'.heap L ∧ FrameEnd U o U' L ({ frames := 2, cells := 0, slots := 0, locals := 24 } : Room).cells ({ frames := 2, cells := 0, slots := 0, locals := 24 } : Room).slots) := by
  refine MetFree.of_bodySF (plainFor_of_name pn_130422) hisR ?_
  intro p e s m args below meth c s₁ Bd hml0 hP hK
  obtain ⟨rfl, hZ, hh⟩ := hP
  have hx := Bd.exec
  have hby := Bd.bytes
  have hml : c.maxLocals = 4 := hml0
  have hown : s.vm.findClass "com/example/orderly_cellar/orderlycellar/io/Preferences$Match" = some m.cls := findClass_of_methodNamed Bd.named
  have hnm := (name_of_methodNamed Bd.named Bd.method).1
  have X0 : Stand p l e ({ frames := 2, cells := 0, slots := 0, locals := 24 } : Room) s m #[(.ref u1), (.double u2), (.int u3)] below meth c s₁ [] 0 0 := Stand.of_body Bd
  have e0 : s₁.heap = h0 := by rw [← hh, Bd.state]; rfl
  have N0 := Fr.nil n0
  have K0 : Keep h0 h0 [u1] := Keep.refl _ _
  have pre0 : ∀ t, Steps p.tables e below (s₁.setTop (mkF m 0 #[.val (.ref u1), .val (.double u2), .second, .val (.int u3)] [])) t → Steps p.tables e below (s₁.setTop (entryFrame m #[(.ref u1), (.double u2), (.int u3)] 4)) t := fun t k => castTop (ef_rm_init m u1 u2 u3) k
  obtain ⟨_, _, ⟨T1, L1, k1, n1⟩, -, X1, ⟨Lc1, hQ1, l1, y1, z1⟩, st1⟩ := X0.specialBack hx (y := (⟨"java/lang/Record", "<init>", "()V"⟩ : MethodName)) rfl hown (mvT hZ (own_w hw 6 rfl)) (mvT hZ (own_w hw 7 rfl)) (mvT hZ (own_w hw 10 rfl)) (by decide) (backOf (W := 0) (rm_rec l Z a0 hw [] u1 h0 n0 Z0 ) hZ (own_w hw 10 rfl) (own_w hw 9 rfl) (by decide) (by decide)) (g := (mkF m 1 #[.val (.ref u1), .val (.double u2), .second, .val (.int u3)] [(.ref u1)])) rfl (by rw [hml]; rfl) (Steps.refl _) (a := u1) (argsL := []) (rest := []) (lenOf pd_691897 rfl) rfl (by show 2 * 0 + _ ≤ _; exact Nat.le_of_eq rfl) (hb hby d1_1) (fun _ _ => ⟨rfl, e0, (by decide : 0 + 0 ≤ _), (by decide : 0 + 0 ≤ _)⟩)
  dsimp only [Pt.U, Pt.locs, Pt.cells, Pt.slots] at X1 l1 y1 z1 st1 hQ1
  subst l1 y1 z1
  obtain ⟨rfl, Nq1, eq1⟩ := hQ1
  have N1 := Fr.app N0 Nq1
  obtain ⟨T2, h2, X2, e2, W2, st2⟩ := putF X1 hx hZ hown (host := "") (Or.inl (own_w hw 14 rfl)) Via.refl eq1 F1 E1 (Or.inr ⟨(own_w hw 15 rfl), rfl, hnm⟩) (own_w hw 1 rfl) (ty := .double) (by decide) rfl rfl (g := (mkF m 6 #[.val (.ref u1), .val (.double u2), .second, .val (.int u3)] [(.double u2), (.ref u1)])) rfl rfl (hb hby d1_6)
  have Fw2 := Fld.same W2 F1
  have N2 := Fr.snoc X2 N1 g1
  have Z2 : n0 ≤ h2.size := Nat.le_trans Z0 (Keep.of_wr W2).1
  have K2 : Keep h0 h2 [u1] := Keep.wr K0 W2 (Or.inl (List.mem_of_getElem? (i := 0) rfl))
  obtain ⟨T3, h3, X3, e3, W3, st3⟩ := putF X2 hx hZ hown (host := "") (Or.inl (own_w hw 16 rfl)) Via.refl e2 (Fld.other W2 F2 (Or.inr (slot_ne (Or.inr (own_w hw 17 rfl)) (Or.inr (own_w hw 15 rfl)) (by decide) (t := .int) (t' := .double) (by decide) (by decide)))) (E1.wr W2) (Or.inr ⟨(own_w hw 17 rfl), rfl, hnm⟩) (own_w hw 1 rfl) (ty := .int) (by decide) rfl rfl (g := (mkF m 11 #[.val (.ref u1), .val (.double u2), .second, .val (.int u3)] [(.int u3), (.ref u1)])) rfl rfl (hb hby d1_11)
  have Fw3 := Fld.same W3 (Fld.other W2 F2 (Or.inr (slot_ne (Or.inr (own_w hw 17 rfl)) (Or.inr (own_w hw 15 rfl)) (by decide) (t := .int) (t' := .double) (by decide) (by decide))))
  have N3 := Fr.snoc X3 N2 g1
  have Z3 : n0 ≤ h3.size := Nat.le_trans Z2 (Keep.of_wr W3).1
  have K3 : Keep h0 h3 [u1] := Keep.wr K2 W3 (Or.inl (List.mem_of_getElem? (i := 0) rfl))
  obtain ⟨fs, hr, hrun, hended, hW, hsame⟩ := X3.leave (v := none) (fun _ => rfl)
  refine ⟨_, _, pre0 _ ?_, hrun, hended, _, _, rfl, ?_, ⟨_, rfl⟩, hW, hsame.mono (by decide) (by decide)⟩
  · show Steps p.tables e below (s₁.setTop (mkF m 0 #[.val (.ref u1), .val (.double u2), .second, .val (.int u3)] [])) _
    refine XS.aloadN X0.here hx rfl (hb hby d1_0) rfl rfl ?_
    show Steps p.tables e below (s₁.setTop (mkF m 1 #[.val (.ref u1), .val (.double u2), .second, .val (.int u3)] [(.ref u1)])) _
    refine st1.trans ?_
    show Steps p.tables e below (T1.setTop (mkF m 4 #[.val (.ref u1), .val (.double u2), .second, .val (.int u3)] [])) _
    refine XS.aloadN X1.here hx rfl (hb hby d1_4) rfl rfl ?_
    show Steps p.tables e below (T1.setTop (mkF m 5 #[.val (.ref u1), .val (.double u2), .second, .val (.int u3)] [(.ref u1)])) _
    refine XS.dloadN X1.here hx rfl (hb hby d1_5) rfl ?_
    show Steps p.tables e below (T1.setTop (mkF m 6 #[.val (.ref u1), .val (.double u2), .second, .val (.int u3)] [(.double u2), (.ref u1)])) _
    refine st2 _ ?_
    show Steps p.tables e below (T2.setTop (mkF m 9 #[.val (.ref u1), .val (.double u2), .second, .val (.int u3)] [])) _
    refine XS.aloadN X2.here hx rfl (hb hby d1_9) rfl rfl ?_
    show Steps p.tables e below (T2.setTop (mkF m 10 #[.val (.ref u1), .val (.double u2), .second, .val (.int u3)] [(.ref u1)])) _
    refine XS.iloadN X2.here hx rfl (hb hby d1_10) rfl ?_
    show Steps p.tables e below (T2.setTop (mkF m 11 #[.val (.ref u1), .val (.double u2), .second, .val (.int u3)] [(.int u3), (.ref u1)])) _
    refine st3 _ ?_
    show Steps p.tables e below (T3.setTop (mkF m 14 #[.val (.ref u1), .val (.double u2), .second, .val (.int u3)] [])) _
    exact X3.returnOut hx Bd.returns (hb hby d1_14) hr
  · show Q_rm_init Z _ _ _ h0 n0 _ T3.heap _
    rw [e3]
    exact ⟨rfl, N3, K3, (Fld.other W3 Fw2 (Or.inr (slot_ne (Or.inr (own_w hw 15 rfl)) (Or.inr (own_w hw 17 rfl)) (by decide) (t := .double) (t' := .int) (by decide) (by decide)))), Fw3⟩
theorem d4_0 : decode prog_15_method_2_code 0 = .ok (.aload_n 0, 1) := by decide +kernel
theorem d4_1 : decode prog_15_method_2_code 1 = .ok (.getfield 7, 3) := by decide +kernel
theorem d4_4 : decode prog_15_method_2_code 4 = .ok (.dconst 0, 1) := by decide +kernel
theorem d4_5 : decode prog_15_method_2_code 5 = .ok (.dcmp .l, 1) := by decide +kernel
theorem d4_6 : decode prog_15_method_2_code 6 = .ok (.ifCond .le 42, 3) := by decide +kernel
theorem d4_48 : decode prog_15_method_2_code 48 = .ok (.iconst 0, 1) := by decide +kernel
theorem d4_49 : decode prog_15_method_2_code 49 = .ok (.ireturn, 1) := by decide +kernel
theorem d4_9 : decode prog_15_method_2_code 9 = .ok (.aload_n 0, 1) := by decide +kernel
theorem d4_10 : decode prog_15_method_2_code 10 = .ok (.getfield 7, 3) := by decide +kernel
theorem d4_13 : decode prog_15_method_2_code 13 = .ok (.aload_n 1, 1) := by decide +kernel
theorem d4_14 : decode prog_15_method_2_code 14 = .ok (.getfield 7, 3) := by decide +kernel
theorem d4_17 : decode prog_15_method_2_code 17 = .ok (.dcmp .l, 1) := by decide +kernel
theorem d4_18 : decode prog_15_method_2_code 18 = .ok (.ifCond .gt 26, 3) := by decide +kernel
theorem d4_44 : decode prog_15_method_2_code 44 = .ok (.iconst 1, 1) := by decide +kernel
theorem d4_45 : decode prog_15_method_2_code 45 = .ok (.goto 4, 3) := by decide +kernel
theorem d4_21 : decode prog_15_method_2_code 21 = .ok (.aload_n 0, 1) := by decide +kernel
theorem d4_22 : decode prog_15_method_2_code 22 = .ok (.getfield 7, 3) := by decide +kernel
theorem d4_25 : decode prog_15_method_2_code 25 = .ok (.aload_n 1, 1) := by decide +kernel
theorem d4_26 : decode prog_15_method_2_code 26 = .ok (.getfield 7, 3) := by decide +kernel
theorem d4_29 : decode prog_15_method_2_code 29 = .ok (.dcmp .l, 1) := by decide +kernel
theorem d4_30 : decode prog_15_method_2_code 30 = .ok (.ifCond .ne 18, 3) := by decide +kernel
theorem d4_33 : decode prog_15_method_2_code 33 = .ok (.aload_n 0, 1) := by decide +kernel
theorem d4_34 : decode prog_15_method_2_code 34 = .ok (.getfield 13, 3) := by decide +kernel
theorem d4_37 : decode prog_15_method_2_code 37 = .ok (.aload_n 1, 1) := by decide +kernel
theorem d4_38 : decode prog_15_method_2_code 38 = .ok (.getfield 13, 3) := by decide +kernel
theorem d4_41 : decode prog_15_method_2_code 41 = .ok (.if_icmp .le 7, 3) := by decide +kernel
theorem ef_rm_beats (m : MethodId) (x0 : Addr) (x1 : Addr) : entryFrame m #[(.ref x0), (.ref x1)] 2 = mkF m 0 #[.val (.ref x0), .val (.ref x1)] [] := by first | (simp [entryFrame, mkF, argsToLocals, Value.category]; done) | rfl
def Q_rm_beats (Z : State) (u1 : Addr) (u2 : Addr) (z1 : Int64) (z2 : Int64) (z3 : Int32) (z4 : Int32) (h0 : Heap) (n0 : Nat) (v : Option Value) (h : Heap) (L : List Loc) : Prop := v = some (.int (nar .boolean (bif (ifCond.holds .le (lcmpW z1 (0 : Int64))) then (0 : Int32) else (bif (ifCond.holds .gt (lcmpW z1 z2)) then (1 : Int32) else (bif (ifCond.holds .ne (lcmpW z1 z2)) then (0 : Int32) else (bif (if_icmp.holds .le z3 z4) then (0 : Int32) else (1 : Int32))))))) ∧ Fr n0 L ∧ h = h0
set_option maxRecDepth 65536 in
set_option maxHeartbeats 40000000 in
theorem rm_beats (l : Launch) (Z : State) (a0 : Array Value) (hw : ∀ d ∈ tables_1, d.before a0 Z = true) (ws : List Jvm.Cond) (u1 : Addr) (u2 : Addr) (z1 : Int64) (z2 : Int64) (z3 : Int32) (z4 : Int32) (h0 : Heap) (n0 : Nat) (Z0 : n0 ≤ h0.size) (F1 : Fld Z h0 u1 "com/example/orderly_cellar/orderlycellar/io/Preferences$Match" "quality" "D" (.double (FP.l2d z1))) (F2 : Fld Z h0 u2 "com/example/orderly_cellar/orderlycellar/io/Preferences$Match" "quality" "D" (.double (FP.l2d z2))) (F3 : Fld Z h0 u1 "com/example/orderly_cellar/orderlycellar/io/Preferences$Match" "specificity" "I" (.int z3)) (F4 : Fld Z h0 u2 "com/example/orderly_cellar/orderlycellar/io/Preferences$Match" "specificity" "I" (.int z4)) (B1 : B53 z1) (B2 : B53 z2) :
    MetFree l (⟨"com/example/orderly_cellar/orderlycellar/io/Preferences$Match", "beats", "(Lcom/example/orderly_cellar/orderlycellar/io/Preferences$Match;)Z"⟩ : MethodName) (head1 (Jvm.Cond.code (⟨"com/example/orderly_cellar/orderlycellar/io/Preferences$Match", "beats", "(Lcom/example/orderly_cellar/orderlycellar/io/Preferences$Match;)Z"⟩ : MethodName) prog_15_method_2_code 2 (some .boolean) :: ws) ({ frames := 0, cells := 0, slots := 0, locals := 0 } : Room)) (fun a U => a = #[(.ref u1), (.ref u2)] ∧ Z.Warmed39 U.vm ∧ U.heap = h0) (fun _ _ _ _ _ => True) (fun _ U o U' => ∃ v L, o = .returned v ∧ Q_rm_beats Z u1 u2 z1 z2 z3 z4 h0 n0 v U'.heap L ∧ FrameEnd U o U' L ({ frames := 0, cells := 0, slots := 0, locals := 0 } : Room).cells ({ frames := 0, cells := 0, slots := 0, locals := 0 } : Room).slots) := by
  refine MetFree.of_bodySF (plainFor_of_name pn_130422) hisR ?_
  intro p e s m args below meth c s₁ Bd hml0 hP hK
  obtain ⟨rfl, hZ, hh⟩ := hP
  have hx := Bd.exec
  have hby := Bd.bytes
  have hml : c.maxLocals = 2 := hml0
  have hown : s.vm.findClass "com/example/orderly_cellar/orderlycellar/io/Preferences$Match" = some m.cls := findClass_of_methodNamed Bd.named
  have hnm := (name_of_methodNamed Bd.named Bd.method).1
  have X0 : Stand p l e ({ frames := 0, cells := 0, slots := 0, locals := 0 } : Room) s m #[(.ref u1), (.ref u2)] below meth c s₁ [] 0 0 := Stand.of_body Bd
  have e0 : s₁.heap = h0 := by rw [← hh, Bd.state]; rfl
  have N0 := Fr.nil n0
  have pre0 : ∀ t, Steps p.tables e below (s₁.setTop (mkF m 0 #[.val (.ref u1), .val (.ref u2)] [])) t → Steps p.tables e below (s₁.setTop (entryFrame m #[(.ref u1), (.ref u2)] 2)) t := fun t k => castTop (ef_rm_beats m u1 u2) k
  obtain ⟨T1, X1, e1, st1⟩ := getF X0 hx hZ hown (host := "") (Or.inl (own_w hw 14 rfl)) Via.refl e0 F1 (g := (mkF m 1 #[.val (.ref u1), .val (.ref u2)] [(.ref u1)])) rfl rfl (hb hby d4_1)
  have pre2 : ∀ t, Steps p.tables e below (T1.setTop (mkF m 6 #[.val (.ref u1), .val (.ref u2)] [(.int (lcmpW z1 (0 : Int64)))])) t → Steps p.tables e below (s₁.setTop (entryFrame m #[(.ref u1), (.ref u2)] 2)) t := by
    intro t k
    refine pre0 t ?_
    show Steps p.tables e below (s₁.setTop (mkF m 0 #[.val (.ref u1), .val (.ref u2)] [])) _
    refine XS.aloadN X0.here hx rfl (hb hby d4_0) rfl rfl ?_
    show Steps p.tables e below (s₁.setTop (mkF m 1 #[.val (.ref u1), .val (.ref u2)] [(.ref u1)])) _
    refine st1 _ ?_
    show Steps p.tables e below (T1.setTop (mkF m 4 #[.val (.ref u1), .val (.ref u2)] [(.double (FP.l2d z1))])) _
    refine XS.dconst0 X1.here hx rfl (hb hby d4_4) (v := FP.l2d (0 : Int64)) own_d0 ?_
    show Steps p.tables e below (T1.setTop (mkF m 5 #[.val (.ref u1), .val (.ref u2)] [(.double (FP.l2d (0 : Int64))), (.double (FP.l2d z1))])) _
    refine XS.dcmpS X1.here hx rfl (hb hby d4_5) rfl (v := lcmpW z1 (0 : Int64)) (dcmpV_w B1 own_b0 _) ?_
    exact k
  rcases Bool.eq_false_or_eq_true (ifCond.holds .le (lcmpW z1 (0 : Int64))) with hb6 | hb6
  · obtain ⟨fs, hr, hrun, hended, hW, hsame⟩ := X1.leave (v := some (.int (nar .boolean (0 : Int32)))) (fun h => by rw [Bd.returns] at h; cases h)
    refine ⟨_, _, pre2 _ ?_, hrun, hended, _, _, rfl, ?_, ⟨_, rfl⟩, hW, hsame.mono (by decide) (by decide)⟩
    · show Steps p.tables e below (T1.setTop (mkF m 6 #[.val (.ref u1), .val (.ref u2)] [(.int (lcmpW z1 (0 : Int64)))])) _
      refine XS.ifYes X1.here hx rfl (pc0 := 6) (pc' := 48) rfl (hb hby d4_6) rfl hb6 (by decide) (by decide) ?_
      show Steps p.tables e below (T1.setTop (mkF m 48 #[.val (.ref u1), .val (.ref u2)] [])) _
      refine XS.iconst X1.here hx rfl (hb hby d4_48) ?_
      show Steps p.tables e below (T1.setTop (mkF m 49 #[.val (.ref u1), .val (.ref u2)] [(.int (0 : Int32))])) _
      exact retN X1 hx (t := .boolean) Bd.returns (by simp) (hb hby d4_49) hr
    · show Q_rm_beats Z _ _ _ _ _ _ h0 n0 _ T1.heap _
      rw [e1]
      exact ⟨(by simp only [hb6, cond_true, cond_false]), N0, rfl⟩
  · obtain ⟨T3, X3, e3, st3⟩ := getF X1 hx hZ hown (host := "") (Or.inl (own_w hw 14 rfl)) Via.refl e1 F1 (g := (mkF m 10 #[.val (.ref u1), .val (.ref u2)] [(.ref u1)])) rfl rfl (hb hby d4_10)
    obtain ⟨T4, X4, e4, st4⟩ := getF X3 hx hZ hown (host := "") (Or.inl (own_w hw 14 rfl)) Via.refl e3 F2 (g := (mkF m 14 #[.val (.ref u1), .val (.ref u2)] [(.ref u2), (.double (FP.l2d z1))])) rfl rfl (hb hby d4_14)
    have pre5 : ∀ t, Steps p.tables e below (T4.setTop (mkF m 18 #[.val (.ref u1), .val (.ref u2)] [(.int (lcmpW z1 z2))])) t → Steps p.tables e below (s₁.setTop (entryFrame m #[(.ref u1), (.ref u2)] 2)) t := by
      intro t k
      refine pre2 t ?_
      show Steps p.tables e below (T1.setTop (mkF m 6 #[.val (.ref u1), .val (.ref u2)] [(.int (lcmpW z1 (0 : Int64)))])) _
      refine XS.ifNo X1.here hx rfl (hb hby d4_6) rfl hb6 ?_
      show Steps p.tables e below (T1.setTop (mkF m 9 #[.val (.ref u1), .val (.ref u2)] [])) _
      refine XS.aloadN X1.here hx rfl (hb hby d4_9) rfl rfl ?_
      show Steps p.tables e below (T1.setTop (mkF m 10 #[.val (.ref u1), .val (.ref u2)] [(.ref u1)])) _
      refine st3 _ ?_
      show Steps p.tables e below (T3.setTop (mkF m 13 #[.val (.ref u1), .val (.ref u2)] [(.double (FP.l2d z1))])) _
      refine XS.aloadN X3.here hx rfl (hb hby d4_13) rfl rfl ?_
      show Steps p.tables e below (T3.setTop (mkF m 14 #[.val (.ref u1), .val (.ref u2)] [(.ref u2), (.double (FP.l2d z1))])) _
      refine st4 _ ?_
      show Steps p.tables e below (T4.setTop (mkF m 17 #[.val (.ref u1), .val (.ref u2)] [(.double (FP.l2d z2)), (.double (FP.l2d z1))])) _
      refine XS.dcmpS X4.here hx rfl (hb hby d4_17) rfl (v := lcmpW z1 z2) (dcmpV_w B1 B2 _) ?_
      exact k
    rcases Bool.eq_false_or_eq_true (ifCond.holds .gt (lcmpW z1 z2)) with hb18 | hb18
    · obtain ⟨fs, hr, hrun, hended, hW, hsame⟩ := X4.leave (v := some (.int (nar .boolean (1 : Int32)))) (fun h => by rw [Bd.returns] at h; cases h)
      refine ⟨_, _, pre5 _ ?_, hrun, hended, _, _, rfl, ?_, ⟨_, rfl⟩, hW, hsame.mono (by decide) (by decide)⟩
      · show Steps p.tables e below (T4.setTop (mkF m 18 #[.val (.ref u1), .val (.ref u2)] [(.int (lcmpW z1 z2))])) _
        refine XS.ifYes X4.here hx rfl (pc0 := 18) (pc' := 44) rfl (hb hby d4_18) rfl hb18 (by decide) (by decide) ?_
        show Steps p.tables e below (T4.setTop (mkF m 44 #[.val (.ref u1), .val (.ref u2)] [])) _
        refine XS.iconst X4.here hx rfl (hb hby d4_44) ?_
        show Steps p.tables e below (T4.setTop (mkF m 45 #[.val (.ref u1), .val (.ref u2)] [(.int (1 : Int32))])) _
        refine XS.goto X4.here hx rfl (pc0 := 45) (pc' := 49) rfl (hb hby d4_45) (by decide) (by decide) ?_
        show Steps p.tables e below (T4.setTop (mkF m 49 #[.val (.ref u1), .val (.ref u2)] [(.int (1 : Int32))])) _
        exact retN X4 hx (t := .boolean) Bd.returns (by simp) (hb hby d4_49) hr
      · show Q_rm_beats Z _ _ _ _ _ _ h0 n0 _ T4.heap _
        rw [e4]
        exact ⟨(by simp only [hb6, hb18, cond_true, cond_false]), N0, rfl⟩
    · obtain ⟨T6, X6, e6, st6⟩ := getF X4 hx hZ hown (host := "") (Or.inl (own_w hw 14 rfl)) Via.refl e4 F1 (g := (mkF m 22 #[.val (.ref u1), .val (.ref u2)] [(.ref u1)])) rfl rfl (hb hby d4_22)
      obtain ⟨T7, X7, e7, st7⟩ := getF X6 hx hZ hown (host := "") (Or.inl (own_w hw 14 rfl)) Via.refl e6 F2 (g := (mkF m 26 #[.val (.ref u1), .val (.ref u2)] [(.ref u2), (.double (FP.l2d z1))])) rfl rfl (hb hby d4_26)
      have pre8 : ∀ t, Steps p.tables e below (T7.setTop (mkF m 30 #[.val (.ref u1), .val (.ref u2)] [(.int (lcmpW z1 z2))])) t → Steps p.tables e below (s₁.setTop (entryFrame m #[(.ref u1), (.ref u2)] 2)) t := by
        intro t k
        refine pre5 t ?_
        show Steps p.tables e below (T4.setTop (mkF m 18 #[.val (.ref u1), .val (.ref u2)] [(.int (lcmpW z1 z2))])) _
        refine XS.ifNo X4.here hx rfl (hb hby d4_18) rfl hb18 ?_
        show Steps p.tables e below (T4.setTop (mkF m 21 #[.val (.ref u1), .val (.ref u2)] [])) _
        refine XS.aloadN X4.here hx rfl (hb hby d4_21) rfl rfl ?_
        show Steps p.tables e below (T4.setTop (mkF m 22 #[.val (.ref u1), .val (.ref u2)] [(.ref u1)])) _
        refine st6 _ ?_
        show Steps p.tables e below (T6.setTop (mkF m 25 #[.val (.ref u1), .val (.ref u2)] [(.double (FP.l2d z1))])) _
        refine XS.aloadN X6.here hx rfl (hb hby d4_25) rfl rfl ?_
        show Steps p.tables e below (T6.setTop (mkF m 26 #[.val (.ref u1), .val (.ref u2)] [(.ref u2), (.double (FP.l2d z1))])) _
        refine st7 _ ?_
        show Steps p.tables e below (T7.setTop (mkF m 29 #[.val (.ref u1), .val (.ref u2)] [(.double (FP.l2d z2)), (.double (FP.l2d z1))])) _
        refine XS.dcmpS X7.here hx rfl (hb hby d4_29) rfl (v := lcmpW z1 z2) (dcmpV_w B1 B2 _) ?_
        exact k
      rcases Bool.eq_false_or_eq_true (ifCond.holds .ne (lcmpW z1 z2)) with hb30 | hb30
      · obtain ⟨fs, hr, hrun, hended, hW, hsame⟩ := X7.leave (v := some (.int (nar .boolean (0 : Int32)))) (fun h => by rw [Bd.returns] at h; cases h)
        refine ⟨_, _, pre8 _ ?_, hrun, hended, _, _, rfl, ?_, ⟨_, rfl⟩, hW, hsame.mono (by decide) (by decide)⟩
        · show Steps p.tables e below (T7.setTop (mkF m 30 #[.val (.ref u1), .val (.ref u2)] [(.int (lcmpW z1 z2))])) _
          refine XS.ifYes X7.here hx rfl (pc0 := 30) (pc' := 48) rfl (hb hby d4_30) rfl hb30 (by decide) (by decide) ?_
          show Steps p.tables e below (T7.setTop (mkF m 48 #[.val (.ref u1), .val (.ref u2)] [])) _
          refine XS.iconst X7.here hx rfl (hb hby d4_48) ?_
          show Steps p.tables e below (T7.setTop (mkF m 49 #[.val (.ref u1), .val (.ref u2)] [(.int (0 : Int32))])) _
          exact retN X7 hx (t := .boolean) Bd.returns (by simp) (hb hby d4_49) hr
        · show Q_rm_beats Z _ _ _ _ _ _ h0 n0 _ T7.heap _
          rw [e7]
          exact ⟨(by simp only [hb6, hb18, hb30, cond_true, cond_false]), N0, rfl⟩
      · obtain ⟨T9, X9, e9, st9⟩ := getF X7 hx hZ hown (host := "") (Or.inl (own_w hw 16 rfl)) Via.refl e7 F3 (g := (mkF m 34 #[.val (.ref u1), .val (.ref u2)] [(.ref u1)])) rfl rfl (hb hby d4_34)
        obtain ⟨T10, X10, e10, st10⟩ := getF X9 hx hZ hown (host := "") (Or.inl (own_w hw 16 rfl)) Via.refl e9 F4 (g := (mkF m 38 #[.val (.ref u1), .val (.ref u2)] [(.ref u2), (.int z3)])) rfl rfl (hb hby d4_38)
        have pre11 : ∀ t, Steps p.tables e below (T10.setTop (mkF m 41 #[.val (.ref u1), .val (.ref u2)] [(.int z4), (.int z3)])) t → Steps p.tables e below (s₁.setTop (entryFrame m #[(.ref u1), (.ref u2)] 2)) t := by
          intro t k
          refine pre8 t ?_
          show Steps p.tables e below (T7.setTop (mkF m 30 #[.val (.ref u1), .val (.ref u2)] [(.int (lcmpW z1 z2))])) _
          refine XS.ifNo X7.here hx rfl (hb hby d4_30) rfl hb30 ?_
          show Steps p.tables e below (T7.setTop (mkF m 33 #[.val (.ref u1), .val (.ref u2)] [])) _
          refine XS.aloadN X7.here hx rfl (hb hby d4_33) rfl rfl ?_
          show Steps p.tables e below (T7.setTop (mkF m 34 #[.val (.ref u1), .val (.ref u2)] [(.ref u1)])) _
          refine st9 _ ?_
          show Steps p.tables e below (T9.setTop (mkF m 37 #[.val (.ref u1), .val (.ref u2)] [(.int z3)])) _
          refine XS.aloadN X9.here hx rfl (hb hby d4_37) rfl rfl ?_
          show Steps p.tables e below (T9.setTop (mkF m 38 #[.val (.ref u1), .val (.ref u2)] [(.ref u2), (.int z3)])) _
          refine st10 _ ?_
          exact k
        rcases Bool.eq_false_or_eq_true (if_icmp.holds .le z3 z4) with hb41 | hb41
        · obtain ⟨fs, hr, hrun, hended, hW, hsame⟩ := X10.leave (v := some (.int (nar .boolean (0 : Int32)))) (fun h => by rw [Bd.returns] at h; cases h)
          refine ⟨_, _, pre11 _ ?_, hrun, hended, _, _, rfl, ?_, ⟨_, rfl⟩, hW, hsame.mono (by decide) (by decide)⟩
          · show Steps p.tables e below (T10.setTop (mkF m 41 #[.val (.ref u1), .val (.ref u2)] [(.int z4), (.int z3)])) _
            refine XS.icmpYes X10.here hx rfl (pc0 := 41) (pc' := 48) rfl (hb hby d4_41) rfl hb41 (by decide) (by decide) ?_
            show Steps p.tables e below (T10.setTop (mkF m 48 #[.val (.ref u1), .val (.ref u2)] [])) _
            refine XS.iconst X10.here hx rfl (hb hby d4_48) ?_
            show Steps p.tables e below (T10.setTop (mkF m 49 #[.val (.ref u1), .val (.ref u2)] [(.int (0 : Int32))])) _
            exact retN X10 hx (t := .boolean) Bd.returns (by simp) (hb hby d4_49) hr
          · show Q_rm_beats Z _ _ _ _ _ _ h0 n0 _ T10.heap _
            rw [e10]
            exact ⟨(by simp only [hb6, hb18, hb30, hb41, cond_true, cond_false]), N0, rfl⟩
        · obtain ⟨fs, hr, hrun, hended, hW, hsame⟩ := X10.leave (v := some (.int (nar .boolean (1 : Int32)))) (fun h => by rw [Bd.returns] at h; cases h)
          refine ⟨_, _, pre11 _ ?_, hrun, hended, _, _, rfl, ?_, ⟨_, rfl⟩, hW, hsame.mono (by decide) (by decide)⟩
          · show Steps p.tables e below (T10.setTop (mkF m 41 #[.val (.ref u1), .val (.ref u2)] [(.int z4), (.int z3)])) _
            refine XS.icmpNo X10.here hx rfl (hb hby d4_41) rfl hb41 ?_
            show Steps p.tables e below (T10.setTop (mkF m 44 #[.val (.ref u1), .val (.ref u2)] [])) _
            refine XS.iconst X10.here hx rfl (hb hby d4_44) ?_
            show Steps p.tables e below (T10.setTop (mkF m 45 #[.val (.ref u1), .val (.ref u2)] [(.int (1 : Int32))])) _
            refine XS.goto X10.here hx rfl (pc0 := 45) (pc' := 49) rfl (hb hby d4_45) (by decide) (by decide) ?_
            show Steps p.tables e below (T10.setTop (mkF m 49 #[.val (.ref u1), .val (.ref u2)] [(.int (1 : Int32))])) _
            exact retN X10 hx (t := .boolean) Bd.returns (by simp) (hb hby d4_49) hr
          · show Q_rm_beats Z _ _ _ _ _ _ h0 n0 _ T10.heap _
            rw [e10]
            exact ⟨(by simp only [hb6, hb18, hb30, hb41, cond_true, cond_false]), N0, rfl⟩
theorem d5_0 : decode method_2_code 0 = .ok (.iload_n 0, 1) := by decide +kernel
theorem d5_1 : decode method_2_code 1 = .ok (.i2l, 1) := by decide +kernel
theorem d5_2 : decode method_2_code 2 = .ok (.ldc2_w 7, 3) := by decide +kernel
theorem d5_5 : decode method_2_code 5 = .ok (.lmul, 1) := by decide +kernel
theorem d5_6 : decode method_2_code 6 = .ok (.iload_n 1, 1) := by decide +kernel
theorem d5_7 : decode method_2_code 7 = .ok (.i2l, 1) := by decide +kernel
theorem d5_8 : decode method_2_code 8 = .ok (.ldc2_w 9, 3) := by decide +kernel
theorem d5_11 : decode method_2_code 11 = .ok (.ladd, 1) := by decide +kernel
theorem d5_12 : decode method_2_code 12 = .ok (.ladd, 1) := by decide +kernel
theorem d5_13 : decode method_2_code 13 = .ok (.lreturn, 1) := by decide +kernel
theorem ef_rm_key (m : MethodId) (x0 : Int32) (x1 : Int32) : entryFrame m #[(.int x0), (.int x1)] 2 = mkF m 0 #[.val (.int x0), .val (.int x1)] [] := by first | (simp [entryFrame, mkF, argsToLocals, Value.category]; done) | rfl
def Q_rm_key (Z : State) (u1 : Int32) (u2 : Int32) (h0 : Heap) (n0 : Nat) (v : Option Value) (h : Heap) (L : List Loc) : Prop := v = some (.long (((u1.toInt64) * (4294967296 : Int64)) + ((u2.toInt64) + (2147483648 : Int64)))) ∧ Fr n0 L ∧ h = h0
theorem pn_699733 : plainName "com/example/orderly_cellar/orderlycellar/io/MatchBeatsPinLaw" = true := by first | (simp [plainName, overriddenIn]; done) | decide +kernel
set_option maxRecDepth 65536 in
set_option maxHeartbeats 40000000 in
theorem rm_key (l : Launch) (Z : State) (a0 : Array Value) (hw : ∀ d ∈ tables_1, d.before a0 Z = true) (ws : List Jvm.Cond) (u1 : Int32) (u2 : Int32) (h0 : Heap) (n0 : Nat) (Z0 : n0 ≤ h0.size) :
    MetFree l (⟨"com/example/orderly_cellar/orderlycellar/io/MatchBeatsPinLaw", "key", "(II)J"⟩ : MethodName) (head1 (Jvm.Cond.code (⟨"com/example/orderly_cellar/orderlycellar/io/MatchBeatsPinLaw", "key", "(II)J"⟩ : MethodName) method_2_code 2 (some .long) :: ws) ({ frames := 0, cells := 0, slots := 0, locals := 0 } : Room)) (fun a U => a = #[(.int u1), (.int u2)] ∧ Z.Warmed39 U.vm ∧ U.heap = h0) (fun _ _ _ _ _ => True) (fun _ U o U' => ∃ v L, o = .returned v ∧ Q_rm_key Z u1 u2 h0 n0 v U'.heap L ∧ FrameEnd U o U' L ({ frames := 0, cells := 0, slots := 0, locals := 0 } : Room).cells ({ frames := 0, cells := 0, slots := 0, locals := 0 } : Room).slots) := by
  refine MetFree.of_bodySF (plainFor_of_name pn_699733) hisR ?_
  intro p e s m args below meth c s₁ Bd hml0 hP hK
  obtain ⟨rfl, hZ, hh⟩ := hP
  have hx := Bd.exec
  have hby := Bd.bytes
  have hml : c.maxLocals = 2 := hml0
  have hown : s.vm.findClass "com/example/orderly_cellar/orderlycellar/io/MatchBeatsPinLaw" = some m.cls := findClass_of_methodNamed Bd.named
  have hnm := (name_of_methodNamed Bd.named Bd.method).1
  have X0 : Stand p l e ({ frames := 0, cells := 0, slots := 0, locals := 0 } : Room) s m #[(.int u1), (.int u2)] below meth c s₁ [] 0 0 := Stand.of_body Bd
  have e0 : s₁.heap = h0 := by rw [← hh, Bd.state]; rfl
  have N0 := Fr.nil n0
  have pre0 : ∀ t, Steps p.tables e below (s₁.setTop (mkF m 0 #[.val (.int u1), .val (.int u2)] [])) t → Steps p.tables e below (s₁.setTop (entryFrame m #[(.int u1), (.int u2)] 2)) t := fun t k => castTop (ef_rm_key m u1 u2) k
  obtain ⟨fs, hr, hrun, hended, hW, hsame⟩ := X0.leave (v := some (.long (((u1.toInt64) * (4294967296 : Int64)) + ((u2.toInt64) + (2147483648 : Int64))))) (fun h => by rw [Bd.returns] at h; cases h)
  refine ⟨_, _, pre0 _ ?_, hrun, hended, _, _, rfl, ?_, ⟨_, rfl⟩, hW, hsame.mono (by decide) (by decide)⟩
  · show Steps p.tables e below (s₁.setTop (mkF m 0 #[.val (.int u1), .val (.int u2)] [])) _
    refine XS.iloadN X0.here hx rfl (hb hby d5_0) rfl ?_
    show Steps p.tables e below (s₁.setTop (mkF m 1 #[.val (.int u1), .val (.int u2)] [(.int u1)])) _
    refine XS.i2l X0.here hx rfl (hb hby d5_1) rfl ?_
    show Steps p.tables e below (s₁.setTop (mkF m 2 #[.val (.int u1), .val (.int u2)] [(.long (u1.toInt64))])) _
    refine X0.ldc2Long hx hown (mvT hZ (own_w hw 27 rfl)) (g := (mkF m 2 #[.val (.int u1), .val (.int u2)] [(.long (u1.toInt64))])) rfl (hb hby d5_2) _ ?_
    show Steps p.tables e below (s₁.setTop (mkF m 5 #[.val (.int u1), .val (.int u2)] [(.long (4294967296 : Int64)), (.long (u1.toInt64))])) _
    refine XS.lmul X0.here hx rfl (hb hby d5_5) rfl ?_
    show Steps p.tables e below (s₁.setTop (mkF m 6 #[.val (.int u1), .val (.int u2)] [(.long ((u1.toInt64) * (4294967296 : Int64)))])) _
    refine XS.iloadN X0.here hx rfl (hb hby d5_6) rfl ?_
    show Steps p.tables e below (s₁.setTop (mkF m 7 #[.val (.int u1), .val (.int u2)] [(.int u2), (.long ((u1.toInt64) * (4294967296 : Int64)))])) _
    refine XS.i2l X0.here hx rfl (hb hby d5_7) rfl ?_
    show Steps p.tables e below (s₁.setTop (mkF m 8 #[.val (.int u1), .val (.int u2)] [(.long (u2.toInt64)), (.long ((u1.toInt64) * (4294967296 : Int64)))])) _
    refine X0.ldc2Long hx hown (mvT hZ (own_w hw 28 rfl)) (g := (mkF m 8 #[.val (.int u1), .val (.int u2)] [(.long (u2.toInt64)), (.long ((u1.toInt64) * (4294967296 : Int64)))])) rfl (hb hby d5_8) _ ?_
    show Steps p.tables e below (s₁.setTop (mkF m 11 #[.val (.int u1), .val (.int u2)] [(.long (2147483648 : Int64)), (.long (u2.toInt64)), (.long ((u1.toInt64) * (4294967296 : Int64)))])) _
    refine XS.ladd X0.here hx rfl (hb hby d5_11) rfl ?_
    show Steps p.tables e below (s₁.setTop (mkF m 12 #[.val (.int u1), .val (.int u2)] [(.long ((u2.toInt64) + (2147483648 : Int64))), (.long ((u1.toInt64) * (4294967296 : Int64)))])) _
    refine XS.ladd X0.here hx rfl (hb hby d5_12) rfl ?_
    show Steps p.tables e below (s₁.setTop (mkF m 13 #[.val (.int u1), .val (.int u2)] [(.long (((u1.toInt64) * (4294967296 : Int64)) + ((u2.toInt64) + (2147483648 : Int64))))])) _
    jvm_step X0.here [X0.here.top, hx, (hb hby d5_13), X0.method', Bd.returns, narrow]
    first | (intro acts; rw [hr _ acts rfl rfl rfl]) | rw [hr _ _ rfl rfl rfl]
    exact Steps.refl _
  · show Q_rm_key Z _ _ h0 n0 _ s₁.heap _
    rw [e0]
    exact ⟨rfl, N0, rfl⟩
theorem own_ki (A B P S T : Int) (hA : -3 ≤ A ∧ A ≤ 4) (hB : -2147483648 ≤ B ∧ B < 2147483648) (p : (P - A * 4294967296) % 18446744073709551616 = 0) (s : (S - (B + 2147483648)) % 18446744073709551616 = 0) (t : (T - (P + S)) % 18446744073709551616 = 0) (rP : -9223372036854775808 ≤ P ∧ P < 9223372036854775808) (rS : -9223372036854775808 ≤ S ∧ S < 9223372036854775808) (rT : -9223372036854775808 ≤ T ∧ T < 9223372036854775808) : T = A * 4294967296 + (B + 2147483648) := by omega
theorem own_ia (x : Int32) : -3 ≤ ((x &&& (7 : Int32)) - (3 : Int32)).toInt ∧ ((x &&& (7 : Int32)) - (3 : Int32)).toInt ≤ 4 := by
  have m1 := c_mask x (7 : Int32) 3 (by decide) (by decide)
  have a1 := c_isub (x &&& (7 : Int32)) (3 : Int32)
  have e3 : (3 : Int32).toInt = 3 := by decide
  have r1 := rng32 ((x &&& (7 : Int32)) - (3 : Int32))
  omega
theorem own_bi {i : Int32} (h : -3 ≤ i.toInt ∧ i.toInt ≤ 4) : B53 (i.toInt64) := by
  have a := c_i2l i
  constructor <;> omega
theorem own_t (i j s t : Int32) (h : ifCond.holds .le i = true) : if_icmp.holds .ne (nar .boolean (bif (ifCond.holds .le (lcmpW (i.toInt64) (0 : Int64))) then (0 : Int32) else (bif (ifCond.holds .gt (lcmpW (i.toInt64) (j.toInt64))) then (1 : Int32) else (bif (ifCond.holds .ne (lcmpW (i.toInt64) (j.toInt64))) then (0 : Int32) else (bif (if_icmp.holds .le s t) then (0 : Int32) else (1 : Int32)))))) (0 : Int32) = false := by
  have e : ifCond.holds .le (lcmpW (i.toInt64) (0 : Int64)) = true := by
    rw [own_lle]; rw [if0, own_ile] at h
    have h := of_decide_eq_true h
    refine decide_eq_true ?_
    rw [Int64.le_iff_toInt_le, c_i2l]; rw [Int32.le_iff_toInt_le] at h
    have e0 : (0 : Int64).toInt = 0 := by decide
    have e1 : (0 : Int32).toInt = 0 := by decide
    omega
  rw [e, cond_true]; decide
theorem own_f (i j s t : Int32) (hi : -3 ≤ i.toInt ∧ i.toInt ≤ 4) (hj : -3 ≤ j.toInt ∧ j.toInt ≤ 4) (h : ifCond.holds .le i = false) : if_icmp.holds .ne (nar .boolean (bif (ifCond.holds .le (lcmpW (i.toInt64) (0 : Int64))) then (0 : Int32) else (bif (ifCond.holds .gt (lcmpW (i.toInt64) (j.toInt64))) then (1 : Int32) else (bif (ifCond.holds .ne (lcmpW (i.toInt64) (j.toInt64))) then (0 : Int32) else (bif (if_icmp.holds .le s t) then (0 : Int32) else (1 : Int32)))))) (bif (ifCond.holds .le (lcmpW (((i.toInt64) * (4294967296 : Int64)) + ((s.toInt64) + (2147483648 : Int64))) (((j.toInt64) * (4294967296 : Int64)) + ((t.toInt64) + (2147483648 : Int64))))) then (0 : Int32) else (1 : Int32)) = false := by
  have e0 : (0 : Int64).toInt = 0 := by decide
  have e1 : (0 : Int32).toInt = 0 := by decide
  have eM : (4294967296 : Int64).toInt = 4294967296 := by decide
  have eH : (2147483648 : Int64).toInt = 2147483648 := by decide
  have key : ∀ (a b : Int32), -3 ≤ a.toInt ∧ a.toInt ≤ 4 → (((a.toInt64) * (4294967296 : Int64)) + ((b.toInt64) + (2147483648 : Int64))).toInt = a.toInt * 4294967296 + (b.toInt + 2147483648) := by
    intro a b ha
    have a1 := c_lmul (a.toInt64) (4294967296 : Int64)
    have a2 := c_ladd (b.toInt64) (2147483648 : Int64)
    have a3 := c_ladd ((a.toInt64) * (4294967296 : Int64)) ((b.toInt64) + (2147483648 : Int64))
    rw [eM, c_i2l] at a1
    rw [eH, c_i2l] at a2
    have r0 := rng32 b
    have r1 := rng64 ((a.toInt64) * (4294967296 : Int64))
    have r2 := rng64 ((b.toInt64) + (2147483648 : Int64))
    have r3 := rng64 (((a.toInt64) * (4294967296 : Int64)) + ((b.toInt64) + (2147483648 : Int64)))
    exact own_ki _ _ _ _ _ ha r0 a1 a2 a3 r1 r2 r3
  have k1 := key i s hi
  have k2 := key j t hj
  have rs := rng32 s
  have rt := rng32 t
  rw [if0, own_ile] at h
  have h := of_decide_eq_false h
  rw [Int32.le_iff_toInt_le, e1] at h
  have ci := c_i2l i
  have cj := c_i2l j
  simp only [own_lle, own_lgt, own_lne, own_ile]
  have p1 : ¬ (i.toInt64 ≤ (0 : Int64)) := by rw [Int64.le_iff_toInt_le]; omega
  rw [decide_eq_false p1, cond_false]
  by_cases q1 : j.toInt64 < i.toInt64
  · have q2 : ¬ ((((i.toInt64) * (4294967296 : Int64)) + ((s.toInt64) + (2147483648 : Int64))) ≤ (((j.toInt64) * (4294967296 : Int64)) + ((t.toInt64) + (2147483648 : Int64)))) := by
      rw [Int64.le_iff_toInt_le]; rw [Int64.lt_iff_toInt_lt] at q1; omega
    rw [decide_eq_true q1, cond_true, decide_eq_false q2, cond_false]; decide
  · rw [decide_eq_false q1, cond_false]
    by_cases q3 : i.toInt64 ≠ j.toInt64
    · have q2 : (((i.toInt64) * (4294967296 : Int64)) + ((s.toInt64) + (2147483648 : Int64))) ≤ (((j.toInt64) * (4294967296 : Int64)) + ((t.toInt64) + (2147483648 : Int64))) := by
        rw [Int64.le_iff_toInt_le]; rw [Int64.lt_iff_toInt_lt] at q1; rw [ne_eq, ← Int64.toInt_inj] at q3; omega
      rw [decide_eq_true q3, cond_true, decide_eq_true q2, cond_true]; decide
    · rw [decide_eq_false q3, cond_false]
      have q4 : i.toInt = j.toInt := by
        have := Classical.not_not.mp q3
        rw [← ci, ← cj, this]
      have q2 : ((((i.toInt64) * (4294967296 : Int64)) + ((s.toInt64) + (2147483648 : Int64))) ≤ (((j.toInt64) * (4294967296 : Int64)) + ((t.toInt64) + (2147483648 : Int64)))) ↔ s ≤ t := by
        rw [Int64.le_iff_toInt_le, Int32.le_iff_toInt_le]; omega
      rw [decide_eq_decide.mpr q2]
      cases decide (s ≤ t) <;> decide
theorem pd_89436 : parseMethodDescriptor "(DI)V" = some ⟨[.double, .int], none⟩ := by decide +kernel
theorem pd_359624 : parseMethodDescriptor "(Lcom/example/orderly_cellar/orderlycellar/io/Preferences$Match;)Z" = some ⟨[(.object "com/example/orderly_cellar/orderlycellar/io/Preferences$Match")], some .boolean⟩ := by decide +kernel
theorem pd_329846 : parseMethodDescriptor "(II)J" = some ⟨[.int, .int], some .long⟩ := by decide +kernel
theorem ef_rm_law (m : MethodId) (x0 : Int32) (x1 : Int32) (x2 : Int32) (x3 : Int32) : entryFrame m #[(.int x0), (.int x1), (.int x2), (.int x3)] maxLocals = mkF m 0 #[.val (.int x0), .val (.int x1), .val (.int x2), .val (.int x3), .unset, .unset, .unset, .unset, .unset] [] := by first | (simp [entryFrame, mkF, argsToLocals, Value.category, maxLocals]; done) | rfl
def Q_rm_law (Z : State) (u1 : Int32) (u2 : Int32) (u3 : Int32) (u4 : Int32) (h0 : Heap) (n0 : Nat) (v : Option Value) (h : Heap) (L : List Loc) : Prop := v = some (.int (1 : Int32)) ∧ Fr n0 L
set_option maxRecDepth 65536 in
set_option maxHeartbeats 40000000 in
theorem rm_law (l : Launch) (Z : State) (a0 : Array Value) (hw : ∀ d ∈ tables_1, d.before a0 Z = true) (ws : List Jvm.Cond) (u1 : Int32) (u2 : Int32) (u3 : Int32) (u4 : Int32) (h0 : Heap) (n0 : Nat) (Z0 : n0 ≤ h0.size) :
    MetFree l x (head1 (Jvm.Cond.code x code maxLocals ret :: ws) room_1) (fun a U => a = #[(.int u1), (.int u2), (.int u3), (.int u4)] ∧ Z.Warmed39 U.vm ∧ U.heap = h0) (fun _ _ _ _ _ => True) (fun _ U o U' => ∃ v L, o = .returned v ∧ Q_rm_law Z u1 u2 u3 u4 h0 n0 v U'.heap L ∧ FrameEnd U o U' L room_1.cells room_1.slots) := by
  refine MetFree.of_bodySF (plainFor_of_name pn_699733) hisR ?_
  intro p e s m args below meth c s₁ Bd hml0 hP hK
  obtain ⟨rfl, hZ, hh⟩ := hP
  have hx := Bd.exec
  have hby := Bd.bytes
  have hml : c.maxLocals = 9 := hml0
  have hown : s.vm.findClass "com/example/orderly_cellar/orderlycellar/io/MatchBeatsPinLaw" = some m.cls := findClass_of_methodNamed Bd.named
  have hnm := (name_of_methodNamed Bd.named Bd.method).1
  have X0 : Stand p l e room_1 s m #[(.int u1), (.int u2), (.int u3), (.int u4)] below meth c s₁ [] 0 0 := Stand.of_body Bd
  have e0 : s₁.heap = h0 := by rw [← hh, Bd.state]; rfl
  have N0 := Fr.nil n0
  have pre0 : ∀ t, Steps p.tables e below (s₁.setTop (mkF m 0 #[.val (.int u1), .val (.int u2), .val (.int u3), .val (.int u4), .unset, .unset, .unset, .unset, .unset] [])) t → Steps p.tables e below (s₁.setTop (entryFrame m #[(.int u1), (.int u2), (.int u3), (.int u4)] maxLocals)) t := fun t k => castTop (ef_rm_law m u1 u2 u3 u4) k
  obtain ⟨T1, h1, X1, e1, E1, A1, D1, -, st1⟩ := newO X0 hx hZ hown (own_w hw 0 rfl) (own_w hw 1 rfl) (own_w hw 2 rfl) e0 (g := (mkF m 16 #[.val (.int u1), .val (.int u2), .val (.int u3), .val (.int u4), .val (.int ((u1 &&& (7 : Int32)) - (3 : Int32))), .val (.int ((u3 &&& (7 : Int32)) - (3 : Int32))), .unset, .unset, .unset] [])) rfl (hb hby at_16) (by decide) (by decide)
  obtain ⟨b1, g1⟩ : ∃ z, z = h0.size := ⟨_, rfl⟩
  rw [← g1] at A1 D1 st1
  have fr_b1 : n0 ≤ b1 := Nat.le_trans Z0 (Nat.le_of_eq g1.symm)
  have Z1 : n0 ≤ h1.size := Nat.le_trans Z0 E1.1
  have F_quality_b1 : Fld Z h1 b1 "com/example/orderly_cellar/orderlycellar/io/Preferences$Match" "quality" "D" (.double (0 : UInt64)) := D1 (Or.inr (own_w hw 15 rfl)) (ty := .double) (by decide)
  have F_specificity_b1 : Fld Z h1 b1 "com/example/orderly_cellar/orderlycellar/io/Preferences$Match" "specificity" "I" (.int (0 : Int32)) := D1 (Or.inr (own_w hw 17 rfl)) (ty := .int) (by decide)
  obtain ⟨_, _, ⟨T2, L2, k2, n2⟩, -, X2, ⟨Lc2, hQ2, l2, y2, z2⟩, st2⟩ := X1.specialBack hx (y := (⟨"com/example/orderly_cellar/orderlycellar/io/Preferences$Match", "<init>", "(DI)V"⟩ : MethodName)) rfl hown (mvT hZ (own_w hw 3 rfl)) (mvT hZ (own_w hw 4 rfl)) (mvT hZ (own_w hw 5 rfl)) (by decide) (backOf (W := 1) (rm_init l Z a0 hw [] b1 (FP.l2d (((u1 &&& (7 : Int32)) - (3 : Int32)).toInt64)) u2 h1 n0 Z1 F_quality_b1 F_specificity_b1 A1 fr_b1) hZ (own_w hw 5 rfl) (own_w hw 2 rfl) (by decide) (by decide)) (g := (mkF m 24 #[.val (.int u1), .val (.int u2), .val (.int u3), .val (.int u4), .val (.int ((u1 &&& (7 : Int32)) - (3 : Int32))), .val (.int ((u3 &&& (7 : Int32)) - (3 : Int32))), .unset, .unset, .unset] [(.int u2), (.double (FP.l2d (((u1 &&& (7 : Int32)) - (3 : Int32)).toInt64))), (.ref b1), (.ref b1)])) rfl (by rw [hml]; rfl) (Steps.refl _) (a := b1) (argsL := [(.double (FP.l2d (((u1 &&& (7 : Int32)) - (3 : Int32)).toInt64))), (.int u2)]) (rest := [(.ref b1)]) (lenOf pd_89436 rfl) rfl (by show 2 * 0 + _ ≤ _; exact Nat.le_of_eq rfl) (hb hby at_24) (fun _ _ => ⟨rfl, e1, (by decide : 1 + 0 ≤ _), (by decide : 2 + 0 ≤ _)⟩)
  dsimp only [Pt.U, Pt.locs, Pt.cells, Pt.slots] at X2 l2 y2 z2 st2 hQ2
  subst l2 y2 z2
  obtain ⟨rfl, Nq2, Kq2, Fa2, Fb2⟩ := hQ2
  have N2 := Fr.app N0 Nq2
  have Z2 : n0 ≤ T2.heap.size := Nat.le_trans Z1 Kq2.1
  obtain ⟨T3, h3, X3, e3, E3, A3, D3, -, st3⟩ := newO X2 hx hZ hown (own_w hw 0 rfl) (own_w hw 1 rfl) (own_w hw 2 rfl) rfl (g := (mkF m 29 #[.val (.int u1), .val (.int u2), .val (.int u3), .val (.int u4), .val (.int ((u1 &&& (7 : Int32)) - (3 : Int32))), .val (.int ((u3 &&& (7 : Int32)) - (3 : Int32))), .val (.ref b1), .unset, .unset] [])) rfl (hb hby at_29) (by decide) (by decide)
  obtain ⟨b3, g3⟩ : ∃ z, z = T2.heap.size := ⟨_, rfl⟩
  rw [← g3] at A3 D3 st3
  have fr_b3 : n0 ≤ b3 := Nat.le_trans Z2 (Nat.le_of_eq g3.symm)
  have ne_b1_b3 : b1 ≠ b3 := Nat.ne_of_lt (Nat.lt_of_lt_of_le (A1.keep Kq2).lt (Nat.le_of_eq g3.symm))
  have Z3 : n0 ≤ h3.size := Nat.le_trans Z2 E3.1
  have F_quality_b3 : Fld Z h3 b3 "com/example/orderly_cellar/orderlycellar/io/Preferences$Match" "quality" "D" (.double (0 : UInt64)) := D3 (Or.inr (own_w hw 15 rfl)) (ty := .double) (by decide)
  have F_specificity_b3 : Fld Z h3 b3 "com/example/orderly_cellar/orderlycellar/io/Preferences$Match" "specificity" "I" (.int (0 : Int32)) := D3 (Or.inr (own_w hw 17 rfl)) (ty := .int) (by decide)
  obtain ⟨_, _, ⟨T4, L4, k4, n4⟩, -, X4, ⟨Lc4, hQ4, l4, y4, z4⟩, st4⟩ := X3.specialBack hx (y := (⟨"com/example/orderly_cellar/orderlycellar/io/Preferences$Match", "<init>", "(DI)V"⟩ : MethodName)) rfl hown (mvT hZ (own_w hw 3 rfl)) (mvT hZ (own_w hw 4 rfl)) (mvT hZ (own_w hw 5 rfl)) (by decide) (backOf (W := 1) (rm_init l Z a0 hw [] b3 (FP.l2d (((u3 &&& (7 : Int32)) - (3 : Int32)).toInt64)) u4 h3 n0 Z3 F_quality_b3 F_specificity_b3 A3 fr_b3) hZ (own_w hw 5 rfl) (own_w hw 2 rfl) (by decide) (by decide)) (g := (mkF m 37 #[.val (.int u1), .val (.int u2), .val (.int u3), .val (.int u4), .val (.int ((u1 &&& (7 : Int32)) - (3 : Int32))), .val (.int ((u3 &&& (7 : Int32)) - (3 : Int32))), .val (.ref b1), .unset, .unset] [(.int u4), (.double (FP.l2d (((u3 &&& (7 : Int32)) - (3 : Int32)).toInt64))), (.ref b3), (.ref b3)])) rfl (by rw [hml]; rfl) (Steps.refl _) (a := b3) (argsL := [(.double (FP.l2d (((u3 &&& (7 : Int32)) - (3 : Int32)).toInt64))), (.int u4)]) (rest := [(.ref b3)]) (lenOf pd_89436 rfl) rfl (by show 2 * 0 + _ ≤ _; exact Nat.le_of_eq rfl) (hb hby at_37) (fun _ _ => ⟨rfl, e3, (by decide : 2 + 0 ≤ _), (by decide : 4 + 0 ≤ _)⟩)
  dsimp only [Pt.U, Pt.locs, Pt.cells, Pt.slots] at X4 l4 y4 z4 st4 hQ4
  subst l4 y4 z4
  obtain ⟨rfl, Nq4, Kq4, Fa4, Fb4⟩ := hQ4
  have N4 := Fr.app N2 Nq4
  have Z4 : n0 ≤ T4.heap.size := Nat.le_trans Z3 Kq4.1
  have pre5 : ∀ t, Steps p.tables e below (T4.setTop (mkF m 44 #[.val (.int u1), .val (.int u2), .val (.int u3), .val (.int u4), .val (.int ((u1 &&& (7 : Int32)) - (3 : Int32))), .val (.int ((u3 &&& (7 : Int32)) - (3 : Int32))), .val (.ref b1), .val (.ref b3), .unset] [(.int ((u1 &&& (7 : Int32)) - (3 : Int32)))])) t → Steps p.tables e below (s₁.setTop (entryFrame m #[(.int u1), (.int u2), (.int u3), (.int u4)] maxLocals)) t := by
    intro t k
    refine pre0 t ?_
    show Steps p.tables e below (s₁.setTop (mkF m 0 #[.val (.int u1), .val (.int u2), .val (.int u3), .val (.int u4), .unset, .unset, .unset, .unset, .unset] [])) _
    refine XS.iloadN X0.here hx rfl (hb hby at_0) rfl ?_
    show Steps p.tables e below (s₁.setTop (mkF m 1 #[.val (.int u1), .val (.int u2), .val (.int u3), .val (.int u4), .unset, .unset, .unset, .unset, .unset] [(.int u1)])) _
    refine XS.bipush X0.here hx rfl (hb hby at_1) ?_
    show Steps p.tables e below (s₁.setTop (mkF m 3 #[.val (.int u1), .val (.int u2), .val (.int u3), .val (.int u4), .unset, .unset, .unset, .unset, .unset] [(.int (7 : Int32)), (.int u1)])) _
    refine XS.iand X0.here hx rfl (hb hby at_3) rfl ?_
    show Steps p.tables e below (s₁.setTop (mkF m 4 #[.val (.int u1), .val (.int u2), .val (.int u3), .val (.int u4), .unset, .unset, .unset, .unset, .unset] [(.int (u1 &&& (7 : Int32)))])) _
    refine XS.iconst X0.here hx rfl (hb hby at_4) ?_
    show Steps p.tables e below (s₁.setTop (mkF m 5 #[.val (.int u1), .val (.int u2), .val (.int u3), .val (.int u4), .unset, .unset, .unset, .unset, .unset] [(.int (3 : Int32)), (.int (u1 &&& (7 : Int32)))])) _
    refine XS.isub X0.here hx rfl (hb hby at_5) rfl ?_
    show Steps p.tables e below (s₁.setTop (mkF m 6 #[.val (.int u1), .val (.int u2), .val (.int u3), .val (.int u4), .unset, .unset, .unset, .unset, .unset] [(.int ((u1 &&& (7 : Int32)) - (3 : Int32)))])) _
    refine XS.istore X0.here hx rfl (hb hby at_6) rfl (l' := #[.val (.int u1), .val (.int u2), .val (.int u3), .val (.int u4), .val (.int ((u1 &&& (7 : Int32)) - (3 : Int32))), .unset, .unset, .unset, .unset]) rfl ?_
    show Steps p.tables e below (s₁.setTop (mkF m 8 #[.val (.int u1), .val (.int u2), .val (.int u3), .val (.int u4), .val (.int ((u1 &&& (7 : Int32)) - (3 : Int32))), .unset, .unset, .unset, .unset] [])) _
    refine XS.iloadN X0.here hx rfl (hb hby at_8) rfl ?_
    show Steps p.tables e below (s₁.setTop (mkF m 9 #[.val (.int u1), .val (.int u2), .val (.int u3), .val (.int u4), .val (.int ((u1 &&& (7 : Int32)) - (3 : Int32))), .unset, .unset, .unset, .unset] [(.int u3)])) _
    refine XS.bipush X0.here hx rfl (hb hby at_9) ?_
    show Steps p.tables e below (s₁.setTop (mkF m 11 #[.val (.int u1), .val (.int u2), .val (.int u3), .val (.int u4), .val (.int ((u1 &&& (7 : Int32)) - (3 : Int32))), .unset, .unset, .unset, .unset] [(.int (7 : Int32)), (.int u3)])) _
    refine XS.iand X0.here hx rfl (hb hby at_11) rfl ?_
    show Steps p.tables e below (s₁.setTop (mkF m 12 #[.val (.int u1), .val (.int u2), .val (.int u3), .val (.int u4), .val (.int ((u1 &&& (7 : Int32)) - (3 : Int32))), .unset, .unset, .unset, .unset] [(.int (u3 &&& (7 : Int32)))])) _
    refine XS.iconst X0.here hx rfl (hb hby at_12) ?_
    show Steps p.tables e below (s₁.setTop (mkF m 13 #[.val (.int u1), .val (.int u2), .val (.int u3), .val (.int u4), .val (.int ((u1 &&& (7 : Int32)) - (3 : Int32))), .unset, .unset, .unset, .unset] [(.int (3 : Int32)), (.int (u3 &&& (7 : Int32)))])) _
    refine XS.isub X0.here hx rfl (hb hby at_13) rfl ?_
    show Steps p.tables e below (s₁.setTop (mkF m 14 #[.val (.int u1), .val (.int u2), .val (.int u3), .val (.int u4), .val (.int ((u1 &&& (7 : Int32)) - (3 : Int32))), .unset, .unset, .unset, .unset] [(.int ((u3 &&& (7 : Int32)) - (3 : Int32)))])) _
    refine XS.istore X0.here hx rfl (hb hby at_14) rfl (l' := #[.val (.int u1), .val (.int u2), .val (.int u3), .val (.int u4), .val (.int ((u1 &&& (7 : Int32)) - (3 : Int32))), .val (.int ((u3 &&& (7 : Int32)) - (3 : Int32))), .unset, .unset, .unset]) rfl ?_
    show Steps p.tables e below (s₁.setTop (mkF m 16 #[.val (.int u1), .val (.int u2), .val (.int u3), .val (.int u4), .val (.int ((u1 &&& (7 : Int32)) - (3 : Int32))), .val (.int ((u3 &&& (7 : Int32)) - (3 : Int32))), .unset, .unset, .unset] [])) _
    refine st1 _ ?_
    show Steps p.tables e below (T1.setTop (mkF m 19 #[.val (.int u1), .val (.int u2), .val (.int u3), .val (.int u4), .val (.int ((u1 &&& (7 : Int32)) - (3 : Int32))), .val (.int ((u3 &&& (7 : Int32)) - (3 : Int32))), .unset, .unset, .unset] [(.ref b1)])) _
    refine XS.dup X1.here hx rfl (hb hby at_19) rfl rfl ?_
    show Steps p.tables e below (T1.setTop (mkF m 20 #[.val (.int u1), .val (.int u2), .val (.int u3), .val (.int u4), .val (.int ((u1 &&& (7 : Int32)) - (3 : Int32))), .val (.int ((u3 &&& (7 : Int32)) - (3 : Int32))), .unset, .unset, .unset] [(.ref b1), (.ref b1)])) _
    refine XS.iload X1.here hx rfl (hb hby at_20) rfl ?_
    show Steps p.tables e below (T1.setTop (mkF m 22 #[.val (.int u1), .val (.int u2), .val (.int u3), .val (.int u4), .val (.int ((u1 &&& (7 : Int32)) - (3 : Int32))), .val (.int ((u3 &&& (7 : Int32)) - (3 : Int32))), .unset, .unset, .unset] [(.int ((u1 &&& (7 : Int32)) - (3 : Int32))), (.ref b1), (.ref b1)])) _
    refine XS.i2dS X1.here hx rfl (hb hby at_22) rfl (v := FP.l2d ((u1 &&& (7 : Int32)) - (3 : Int32)).toInt64) (i2d_w _) ?_
    show Steps p.tables e below (T1.setTop (mkF m 23 #[.val (.int u1), .val (.int u2), .val (.int u3), .val (.int u4), .val (.int ((u1 &&& (7 : Int32)) - (3 : Int32))), .val (.int ((u3 &&& (7 : Int32)) - (3 : Int32))), .unset, .unset, .unset] [(.double (FP.l2d (((u1 &&& (7 : Int32)) - (3 : Int32)).toInt64))), (.ref b1), (.ref b1)])) _
    refine XS.iloadN X1.here hx rfl (hb hby at_23) rfl ?_
    show Steps p.tables e below (T1.setTop (mkF m 24 #[.val (.int u1), .val (.int u2), .val (.int u3), .val (.int u4), .val (.int ((u1 &&& (7 : Int32)) - (3 : Int32))), .val (.int ((u3 &&& (7 : Int32)) - (3 : Int32))), .unset, .unset, .unset] [(.int u2), (.double (FP.l2d (((u1 &&& (7 : Int32)) - (3 : Int32)).toInt64))), (.ref b1), (.ref b1)])) _
    refine st2.trans ?_
    show Steps p.tables e below (T2.setTop (mkF m 27 #[.val (.int u1), .val (.int u2), .val (.int u3), .val (.int u4), .val (.int ((u1 &&& (7 : Int32)) - (3 : Int32))), .val (.int ((u3 &&& (7 : Int32)) - (3 : Int32))), .unset, .unset, .unset] [(.ref b1)])) _
    refine XS.astore X2.here hx rfl (hb hby at_27) rfl rfl (l' := #[.val (.int u1), .val (.int u2), .val (.int u3), .val (.int u4), .val (.int ((u1 &&& (7 : Int32)) - (3 : Int32))), .val (.int ((u3 &&& (7 : Int32)) - (3 : Int32))), .val (.ref b1), .unset, .unset]) rfl ?_
    show Steps p.tables e below (T2.setTop (mkF m 29 #[.val (.int u1), .val (.int u2), .val (.int u3), .val (.int u4), .val (.int ((u1 &&& (7 : Int32)) - (3 : Int32))), .val (.int ((u3 &&& (7 : Int32)) - (3 : Int32))), .val (.ref b1), .unset, .unset] [])) _
    refine st3 _ ?_
    show Steps p.tables e below (T3.setTop (mkF m 32 #[.val (.int u1), .val (.int u2), .val (.int u3), .val (.int u4), .val (.int ((u1 &&& (7 : Int32)) - (3 : Int32))), .val (.int ((u3 &&& (7 : Int32)) - (3 : Int32))), .val (.ref b1), .unset, .unset] [(.ref b3)])) _
    refine XS.dup X3.here hx rfl (hb hby at_32) rfl rfl ?_
    show Steps p.tables e below (T3.setTop (mkF m 33 #[.val (.int u1), .val (.int u2), .val (.int u3), .val (.int u4), .val (.int ((u1 &&& (7 : Int32)) - (3 : Int32))), .val (.int ((u3 &&& (7 : Int32)) - (3 : Int32))), .val (.ref b1), .unset, .unset] [(.ref b3), (.ref b3)])) _
    refine XS.iload X3.here hx rfl (hb hby at_33) rfl ?_
    show Steps p.tables e below (T3.setTop (mkF m 35 #[.val (.int u1), .val (.int u2), .val (.int u3), .val (.int u4), .val (.int ((u1 &&& (7 : Int32)) - (3 : Int32))), .val (.int ((u3 &&& (7 : Int32)) - (3 : Int32))), .val (.ref b1), .unset, .unset] [(.int ((u3 &&& (7 : Int32)) - (3 : Int32))), (.ref b3), (.ref b3)])) _
    refine XS.i2dS X3.here hx rfl (hb hby at_35) rfl (v := FP.l2d ((u3 &&& (7 : Int32)) - (3 : Int32)).toInt64) (i2d_w _) ?_
    show Steps p.tables e below (T3.setTop (mkF m 36 #[.val (.int u1), .val (.int u2), .val (.int u3), .val (.int u4), .val (.int ((u1 &&& (7 : Int32)) - (3 : Int32))), .val (.int ((u3 &&& (7 : Int32)) - (3 : Int32))), .val (.ref b1), .unset, .unset] [(.double (FP.l2d (((u3 &&& (7 : Int32)) - (3 : Int32)).toInt64))), (.ref b3), (.ref b3)])) _
    refine XS.iloadN X3.here hx rfl (hb hby at_36) rfl ?_
    show Steps p.tables e below (T3.setTop (mkF m 37 #[.val (.int u1), .val (.int u2), .val (.int u3), .val (.int u4), .val (.int ((u1 &&& (7 : Int32)) - (3 : Int32))), .val (.int ((u3 &&& (7 : Int32)) - (3 : Int32))), .val (.ref b1), .unset, .unset] [(.int u4), (.double (FP.l2d (((u3 &&& (7 : Int32)) - (3 : Int32)).toInt64))), (.ref b3), (.ref b3)])) _
    refine st4.trans ?_
    show Steps p.tables e below (T4.setTop (mkF m 40 #[.val (.int u1), .val (.int u2), .val (.int u3), .val (.int u4), .val (.int ((u1 &&& (7 : Int32)) - (3 : Int32))), .val (.int ((u3 &&& (7 : Int32)) - (3 : Int32))), .val (.ref b1), .unset, .unset] [(.ref b3)])) _
    refine XS.astore X4.here hx rfl (hb hby at_40) rfl rfl (l' := #[.val (.int u1), .val (.int u2), .val (.int u3), .val (.int u4), .val (.int ((u1 &&& (7 : Int32)) - (3 : Int32))), .val (.int ((u3 &&& (7 : Int32)) - (3 : Int32))), .val (.ref b1), .val (.ref b3), .unset]) rfl ?_
    show Steps p.tables e below (T4.setTop (mkF m 42 #[.val (.int u1), .val (.int u2), .val (.int u3), .val (.int u4), .val (.int ((u1 &&& (7 : Int32)) - (3 : Int32))), .val (.int ((u3 &&& (7 : Int32)) - (3 : Int32))), .val (.ref b1), .val (.ref b3), .unset] [])) _
    refine XS.iload X4.here hx rfl (hb hby at_42) rfl ?_
    exact k
  rcases Bool.eq_false_or_eq_true (ifCond.holds .le ((u1 &&& (7 : Int32)) - (3 : Int32))) with hb44 | hb44
  · obtain ⟨cq6, kq6, q6a, q6b, q6c⟩ := isOf hZ rfl (((A1.keep Kq2).ext E3).keep Kq4)
    obtain ⟨_, _, ⟨T6, L6, k6, n6⟩, -, X6, ⟨Lc6, hQ6, l6, y6, z6⟩, st6⟩ := X4.virtualBack hx (y := (⟨"com/example/orderly_cellar/orderlycellar/io/Preferences$Match", "beats", "(Lcom/example/orderly_cellar/orderlycellar/io/Preferences$Match;)Z"⟩ : MethodName)) (z := (⟨"com/example/orderly_cellar/orderlycellar/io/Preferences$Match", "beats", "(Lcom/example/orderly_cellar/orderlycellar/io/Preferences$Match;)Z"⟩ : MethodName)) hown (mvT hZ (own_w hw 18 rfl)) (mvT hZ (own_w hw 19 rfl)) (notFace_of_selects (args := #[]) (mvT hZ (own_w hw 21 rfl))) (mvT hZ (own_w hw 21 rfl)) (mvT hZ (own_w hw 20 rfl)) (by decide) (backOf (W := 0) (rm_beats l Z a0 hw [] b1 b3 (((u1 &&& (7 : Int32)) - (3 : Int32)).toInt64) (((u3 &&& (7 : Int32)) - (3 : Int32)).toInt64) u2 u4 T4.heap n0 Z4 ((Fa2.ext E3).keep Kq4 (ninS ne_b1_b3 nin0)) Fa4 ((Fb2.ext E3).keep Kq4 (ninS ne_b1_b3 nin0)) Fb4 (own_bi (own_ia u1)) (own_bi (own_ia u3))) hZ (own_w hw 22 rfl) (own_w hw 2 rfl) (by decide) (by decide)) q6a q6c (g := (mkF m 74 #[.val (.int u1), .val (.int u2), .val (.int u3), .val (.int u4), .val (.int ((u1 &&& (7 : Int32)) - (3 : Int32))), .val (.int ((u3 &&& (7 : Int32)) - (3 : Int32))), .val (.ref b1), .val (.ref b3), .val (.int (0 : Int32))] [(.ref b3), (.ref b1)])) rfl (by rw [hml]; rfl) (Steps.refl _) (argsL := [(.ref b3)]) (rest := []) (lenOf pd_359624 rfl) rfl (by show 2 * 0 + _ ≤ _; exact Nat.le_of_eq rfl) (hb hby at_74) (fun _ _ => ⟨rfl, rfl, (by decide : 2 + 0 ≤ _), (by decide : 4 + 0 ≤ _)⟩)
    dsimp only [Pt.U, Pt.locs, Pt.cells, Pt.slots] at X6 l6 y6 z6 st6 hQ6
    subst l6 y6 z6
    obtain ⟨rfl, Nq6, eq6⟩ := hQ6
    have N6 := Fr.app N4 Nq6
    obtain ⟨fs, hr, hrun, hended, hW, hsame⟩ := X6.leave (v := some (.int (1 : Int32))) (fun h => by rw [Bd.returns] at h; cases h)
    refine ⟨_, _, pre5 _ ?_, hrun, hended, _, _, rfl, ?_, ⟨_, rfl⟩, hW, hsame.mono (by decide) (by decide)⟩
    · show Steps p.tables e below (T4.setTop (mkF m 44 #[.val (.int u1), .val (.int u2), .val (.int u3), .val (.int u4), .val (.int ((u1 &&& (7 : Int32)) - (3 : Int32))), .val (.int ((u3 &&& (7 : Int32)) - (3 : Int32))), .val (.ref b1), .val (.ref b3), .unset] [(.int ((u1 &&& (7 : Int32)) - (3 : Int32)))])) _
      refine XS.ifYes X4.here hx rfl (pc0 := 44) (pc' := 67) rfl (hb hby at_44) rfl hb44 (by decide) (by decide) ?_
      show Steps p.tables e below (T4.setTop (mkF m 67 #[.val (.int u1), .val (.int u2), .val (.int u3), .val (.int u4), .val (.int ((u1 &&& (7 : Int32)) - (3 : Int32))), .val (.int ((u3 &&& (7 : Int32)) - (3 : Int32))), .val (.ref b1), .val (.ref b3), .unset] [])) _
      refine XS.iconst X4.here hx rfl (hb hby at_67) ?_
      show Steps p.tables e below (T4.setTop (mkF m 68 #[.val (.int u1), .val (.int u2), .val (.int u3), .val (.int u4), .val (.int ((u1 &&& (7 : Int32)) - (3 : Int32))), .val (.int ((u3 &&& (7 : Int32)) - (3 : Int32))), .val (.ref b1), .val (.ref b3), .unset] [(.int (0 : Int32))])) _
      refine XS.istore X4.here hx rfl (hb hby at_68) rfl (l' := #[.val (.int u1), .val (.int u2), .val (.int u3), .val (.int u4), .val (.int ((u1 &&& (7 : Int32)) - (3 : Int32))), .val (.int ((u3 &&& (7 : Int32)) - (3 : Int32))), .val (.ref b1), .val (.ref b3), .val (.int (0 : Int32))]) rfl ?_
      show Steps p.tables e below (T4.setTop (mkF m 70 #[.val (.int u1), .val (.int u2), .val (.int u3), .val (.int u4), .val (.int ((u1 &&& (7 : Int32)) - (3 : Int32))), .val (.int ((u3 &&& (7 : Int32)) - (3 : Int32))), .val (.ref b1), .val (.ref b3), .val (.int (0 : Int32))] [])) _
      refine XS.aload X4.here hx rfl (hb hby at_70) rfl rfl ?_
      show Steps p.tables e below (T4.setTop (mkF m 72 #[.val (.int u1), .val (.int u2), .val (.int u3), .val (.int u4), .val (.int ((u1 &&& (7 : Int32)) - (3 : Int32))), .val (.int ((u3 &&& (7 : Int32)) - (3 : Int32))), .val (.ref b1), .val (.ref b3), .val (.int (0 : Int32))] [(.ref b1)])) _
      refine XS.aload X4.here hx rfl (hb hby at_72) rfl rfl ?_
      show Steps p.tables e below (T4.setTop (mkF m 74 #[.val (.int u1), .val (.int u2), .val (.int u3), .val (.int u4), .val (.int ((u1 &&& (7 : Int32)) - (3 : Int32))), .val (.int ((u3 &&& (7 : Int32)) - (3 : Int32))), .val (.ref b1), .val (.ref b3), .val (.int (0 : Int32))] [(.ref b3), (.ref b1)])) _
      refine st6.trans ?_
      show Steps p.tables e below (T6.setTop (mkF m 77 #[.val (.int u1), .val (.int u2), .val (.int u3), .val (.int u4), .val (.int ((u1 &&& (7 : Int32)) - (3 : Int32))), .val (.int ((u3 &&& (7 : Int32)) - (3 : Int32))), .val (.ref b1), .val (.ref b3), .val (.int (0 : Int32))] [(.int (nar .boolean (bif (ifCond.holds .le (lcmpW (((u1 &&& (7 : Int32)) - (3 : Int32)).toInt64) (0 : Int64))) then (0 : Int32) else (bif (ifCond.holds .gt (lcmpW (((u1 &&& (7 : Int32)) - (3 : Int32)).toInt64) (((u3 &&& (7 : Int32)) - (3 : Int32)).toInt64))) then (1 : Int32) else (bif (ifCond.holds .ne (lcmpW (((u1 &&& (7 : Int32)) - (3 : Int32)).toInt64) (((u3 &&& (7 : Int32)) - (3 : Int32)).toInt64))) then (0 : Int32) else (bif (if_icmp.holds .le u2 u4) then (0 : Int32) else (1 : Int32)))))))])) _
      refine XS.iload X6.here hx rfl (hb hby at_77) rfl ?_
      show Steps p.tables e below (T6.setTop (mkF m 79 #[.val (.int u1), .val (.int u2), .val (.int u3), .val (.int u4), .val (.int ((u1 &&& (7 : Int32)) - (3 : Int32))), .val (.int ((u3 &&& (7 : Int32)) - (3 : Int32))), .val (.ref b1), .val (.ref b3), .val (.int (0 : Int32))] [(.int (0 : Int32)), (.int (nar .boolean (bif (ifCond.holds .le (lcmpW (((u1 &&& (7 : Int32)) - (3 : Int32)).toInt64) (0 : Int64))) then (0 : Int32) else (bif (ifCond.holds .gt (lcmpW (((u1 &&& (7 : Int32)) - (3 : Int32)).toInt64) (((u3 &&& (7 : Int32)) - (3 : Int32)).toInt64))) then (1 : Int32) else (bif (ifCond.holds .ne (lcmpW (((u1 &&& (7 : Int32)) - (3 : Int32)).toInt64) (((u3 &&& (7 : Int32)) - (3 : Int32)).toInt64))) then (0 : Int32) else (bif (if_icmp.holds .le u2 u4) then (0 : Int32) else (1 : Int32)))))))])) _
      refine XS.icmpNo X6.here hx rfl (hb hby at_79) rfl (own_t _ _ _ _ hb44) ?_
      show Steps p.tables e below (T6.setTop (mkF m 82 #[.val (.int u1), .val (.int u2), .val (.int u3), .val (.int u4), .val (.int ((u1 &&& (7 : Int32)) - (3 : Int32))), .val (.int ((u3 &&& (7 : Int32)) - (3 : Int32))), .val (.ref b1), .val (.ref b3), .val (.int (0 : Int32))] [])) _
      refine XS.iconst X6.here hx rfl (hb hby at_82) ?_
      show Steps p.tables e below (T6.setTop (mkF m 83 #[.val (.int u1), .val (.int u2), .val (.int u3), .val (.int u4), .val (.int ((u1 &&& (7 : Int32)) - (3 : Int32))), .val (.int ((u3 &&& (7 : Int32)) - (3 : Int32))), .val (.ref b1), .val (.ref b3), .val (.int (0 : Int32))] [(.int (1 : Int32))])) _
      refine XS.goto X6.here hx rfl (pc0 := 83) (pc' := 87) rfl (hb hby at_83) (by decide) (by decide) ?_
      show Steps p.tables e below (T6.setTop (mkF m 87 #[.val (.int u1), .val (.int u2), .val (.int u3), .val (.int u4), .val (.int ((u1 &&& (7 : Int32)) - (3 : Int32))), .val (.int ((u3 &&& (7 : Int32)) - (3 : Int32))), .val (.ref b1), .val (.ref b3), .val (.int (0 : Int32))] [(.int (1 : Int32))])) _
      exact retN X6 hx (t := .boolean) Bd.returns (by simp) (hb hby at_87) hr
    · show Q_rm_law Z _ _ _ _ h0 n0 _ T6.heap _
      rw [eq6]
      exact ⟨rfl, N6⟩
  · obtain ⟨_, _, ⟨T7, L7, k7, n7⟩, -, X7, ⟨Lc7, hQ7, l7, y7, z7⟩, st7⟩ := Jvm.LawKit.callS X4 hx (y := (⟨"com/example/orderly_cellar/orderlycellar/io/MatchBeatsPinLaw", "key", "(II)J"⟩ : MethodName)) hown (mvT hZ (own_w hw 23 rfl)) (mvT hZ (own_w hw 24 rfl)) (mvT hZ (own_w hw 25 rfl)) (mvT hZ (own_w hw 26 rfl)) (by decide) (backOf (W := 0) (rm_key l Z a0 hw [] ((u1 &&& (7 : Int32)) - (3 : Int32)) u2 T4.heap n0 Z4 ) hZ (own_w hw 26 rfl) (own_w hw 25 rfl) (by decide) (by decide)) (g := (mkF m 50 #[.val (.int u1), .val (.int u2), .val (.int u3), .val (.int u4), .val (.int ((u1 &&& (7 : Int32)) - (3 : Int32))), .val (.int ((u3 &&& (7 : Int32)) - (3 : Int32))), .val (.ref b1), .val (.ref b3), .unset] [(.int u2), (.int ((u1 &&& (7 : Int32)) - (3 : Int32)))])) rfl (by rw [hml]; rfl) (argsL := [(.int ((u1 &&& (7 : Int32)) - (3 : Int32))), (.int u2)]) (rest := []) (lenOf pd_329846 rfl) rfl (by show 2 * 0 + _ ≤ _; exact Nat.le_of_eq rfl) (hb hby at_50) (fun _ _ => ⟨rfl, rfl, (by decide : 2 + 0 ≤ _), (by decide : 4 + 0 ≤ _)⟩)
    dsimp only [Pt.U, Pt.locs, Pt.cells, Pt.slots] at X7 l7 y7 z7 st7 hQ7
    subst l7 y7 z7
    obtain ⟨rfl, Nq7, eq7⟩ := hQ7
    have N7 := Fr.app N4 Nq7
    obtain ⟨_, _, ⟨T8, L8, k8, n8⟩, -, X8, ⟨Lc8, hQ8, l8, y8, z8⟩, st8⟩ := Jvm.LawKit.callS X7 hx (y := (⟨"com/example/orderly_cellar/orderlycellar/io/MatchBeatsPinLaw", "key", "(II)J"⟩ : MethodName)) hown (mvT hZ (own_w hw 23 rfl)) (mvT hZ (own_w hw 24 rfl)) (mvT hZ (own_w hw 25 rfl)) (mvT hZ (own_w hw 26 rfl)) (by decide) (backOf (W := 2) (rm_key l Z a0 hw [] ((u3 &&& (7 : Int32)) - (3 : Int32)) u4 T4.heap n0 Z4 ) hZ (own_w hw 26 rfl) (own_w hw 25 rfl) (by decide) (by decide)) (g := (mkF m 56 #[.val (.int u1), .val (.int u2), .val (.int u3), .val (.int u4), .val (.int ((u1 &&& (7 : Int32)) - (3 : Int32))), .val (.int ((u3 &&& (7 : Int32)) - (3 : Int32))), .val (.ref b1), .val (.ref b3), .unset] [(.int u4), (.int ((u3 &&& (7 : Int32)) - (3 : Int32))), (.long (((((u1 &&& (7 : Int32)) - (3 : Int32)).toInt64) * (4294967296 : Int64)) + ((u2.toInt64) + (2147483648 : Int64))))])) rfl (by rw [hml]; rfl) (argsL := [(.int ((u3 &&& (7 : Int32)) - (3 : Int32))), (.int u4)]) (rest := [(.long (((((u1 &&& (7 : Int32)) - (3 : Int32)).toInt64) * (4294967296 : Int64)) + ((u2.toInt64) + (2147483648 : Int64))))]) (lenOf pd_329846 rfl) rfl (by show 2 * 0 + _ ≤ _; exact Nat.le_of_eq rfl) (hb hby at_56) (fun _ _ => ⟨rfl, eq7, (by decide : 2 + 0 ≤ _), (by decide : 4 + 0 ≤ _)⟩)
    dsimp only [Pt.U, Pt.locs, Pt.cells, Pt.slots] at X8 l8 y8 z8 st8 hQ8
    subst l8 y8 z8
    obtain ⟨rfl, Nq8, eq8⟩ := hQ8
    have N8 := Fr.app N7 Nq8
    have pre9 : ∀ t, Steps p.tables e below (T8.setTop (mkF m 60 #[.val (.int u1), .val (.int u2), .val (.int u3), .val (.int u4), .val (.int ((u1 &&& (7 : Int32)) - (3 : Int32))), .val (.int ((u3 &&& (7 : Int32)) - (3 : Int32))), .val (.ref b1), .val (.ref b3), .unset] [(.int (lcmpW (((((u1 &&& (7 : Int32)) - (3 : Int32)).toInt64) * (4294967296 : Int64)) + ((u2.toInt64) + (2147483648 : Int64))) (((((u3 &&& (7 : Int32)) - (3 : Int32)).toInt64) * (4294967296 : Int64)) + ((u4.toInt64) + (2147483648 : Int64)))))])) t → Steps p.tables e below (s₁.setTop (entryFrame m #[(.int u1), (.int u2), (.int u3), (.int u4)] maxLocals)) t := by
      intro t k
      refine pre5 t ?_
      show Steps p.tables e below (T4.setTop (mkF m 44 #[.val (.int u1), .val (.int u2), .val (.int u3), .val (.int u4), .val (.int ((u1 &&& (7 : Int32)) - (3 : Int32))), .val (.int ((u3 &&& (7 : Int32)) - (3 : Int32))), .val (.ref b1), .val (.ref b3), .unset] [(.int ((u1 &&& (7 : Int32)) - (3 : Int32)))])) _
      refine XS.ifNo X4.here hx rfl (hb hby at_44) rfl hb44 ?_
      show Steps p.tables e below (T4.setTop (mkF m 47 #[.val (.int u1), .val (.int u2), .val (.int u3), .val (.int u4), .val (.int ((u1 &&& (7 : Int32)) - (3 : Int32))), .val (.int ((u3 &&& (7 : Int32)) - (3 : Int32))), .val (.ref b1), .val (.ref b3), .unset] [])) _
      refine XS.iload X4.here hx rfl (hb hby at_47) rfl ?_
      show Steps p.tables e below (T4.setTop (mkF m 49 #[.val (.int u1), .val (.int u2), .val (.int u3), .val (.int u4), .val (.int ((u1 &&& (7 : Int32)) - (3 : Int32))), .val (.int ((u3 &&& (7 : Int32)) - (3 : Int32))), .val (.ref b1), .val (.ref b3), .unset] [(.int ((u1 &&& (7 : Int32)) - (3 : Int32)))])) _
      refine XS.iloadN X4.here hx rfl (hb hby at_49) rfl ?_
      show Steps p.tables e below (T4.setTop (mkF m 50 #[.val (.int u1), .val (.int u2), .val (.int u3), .val (.int u4), .val (.int ((u1 &&& (7 : Int32)) - (3 : Int32))), .val (.int ((u3 &&& (7 : Int32)) - (3 : Int32))), .val (.ref b1), .val (.ref b3), .unset] [(.int u2), (.int ((u1 &&& (7 : Int32)) - (3 : Int32)))])) _
      refine st7 _ ?_
      show Steps p.tables e below (T7.setTop (mkF m 53 #[.val (.int u1), .val (.int u2), .val (.int u3), .val (.int u4), .val (.int ((u1 &&& (7 : Int32)) - (3 : Int32))), .val (.int ((u3 &&& (7 : Int32)) - (3 : Int32))), .val (.ref b1), .val (.ref b3), .unset] [(.long (((((u1 &&& (7 : Int32)) - (3 : Int32)).toInt64) * (4294967296 : Int64)) + ((u2.toInt64) + (2147483648 : Int64))))])) _
      refine XS.iload X7.here hx rfl (hb hby at_53) rfl ?_
      show Steps p.tables e below (T7.setTop (mkF m 55 #[.val (.int u1), .val (.int u2), .val (.int u3), .val (.int u4), .val (.int ((u1 &&& (7 : Int32)) - (3 : Int32))), .val (.int ((u3 &&& (7 : Int32)) - (3 : Int32))), .val (.ref b1), .val (.ref b3), .unset] [(.int ((u3 &&& (7 : Int32)) - (3 : Int32))), (.long (((((u1 &&& (7 : Int32)) - (3 : Int32)).toInt64) * (4294967296 : Int64)) + ((u2.toInt64) + (2147483648 : Int64))))])) _
      refine XS.iloadN X7.here hx rfl (hb hby at_55) rfl ?_
      show Steps p.tables e below (T7.setTop (mkF m 56 #[.val (.int u1), .val (.int u2), .val (.int u3), .val (.int u4), .val (.int ((u1 &&& (7 : Int32)) - (3 : Int32))), .val (.int ((u3 &&& (7 : Int32)) - (3 : Int32))), .val (.ref b1), .val (.ref b3), .unset] [(.int u4), (.int ((u3 &&& (7 : Int32)) - (3 : Int32))), (.long (((((u1 &&& (7 : Int32)) - (3 : Int32)).toInt64) * (4294967296 : Int64)) + ((u2.toInt64) + (2147483648 : Int64))))])) _
      refine st8 _ ?_
      show Steps p.tables e below (T8.setTop (mkF m 59 #[.val (.int u1), .val (.int u2), .val (.int u3), .val (.int u4), .val (.int ((u1 &&& (7 : Int32)) - (3 : Int32))), .val (.int ((u3 &&& (7 : Int32)) - (3 : Int32))), .val (.ref b1), .val (.ref b3), .unset] [(.long (((((u3 &&& (7 : Int32)) - (3 : Int32)).toInt64) * (4294967296 : Int64)) + ((u4.toInt64) + (2147483648 : Int64)))), (.long (((((u1 &&& (7 : Int32)) - (3 : Int32)).toInt64) * (4294967296 : Int64)) + ((u2.toInt64) + (2147483648 : Int64))))])) _
      refine XS.lcmp X8.here hx rfl (hb hby at_59) rfl ?_
      exact k
    have pre11 : ∀ t, Steps p.tables e below (T8.setTop (mkF m 68 #[.val (.int u1), .val (.int u2), .val (.int u3), .val (.int u4), .val (.int ((u1 &&& (7 : Int32)) - (3 : Int32))), .val (.int ((u3 &&& (7 : Int32)) - (3 : Int32))), .val (.ref b1), .val (.ref b3), .unset] [(.int (bif (ifCond.holds .le (lcmpW (((((u1 &&& (7 : Int32)) - (3 : Int32)).toInt64) * (4294967296 : Int64)) + ((u2.toInt64) + (2147483648 : Int64))) (((((u3 &&& (7 : Int32)) - (3 : Int32)).toInt64) * (4294967296 : Int64)) + ((u4.toInt64) + (2147483648 : Int64))))) then (0 : Int32) else (1 : Int32)))])) t → Steps p.tables e below (s₁.setTop (entryFrame m #[(.int u1), (.int u2), (.int u3), (.int u4)] maxLocals)) t := by
      intro t k
      refine pre9 t ?_
      show Steps p.tables e below (T8.setTop (mkF m 60 #[.val (.int u1), .val (.int u2), .val (.int u3), .val (.int u4), .val (.int ((u1 &&& (7 : Int32)) - (3 : Int32))), .val (.int ((u3 &&& (7 : Int32)) - (3 : Int32))), .val (.ref b1), .val (.ref b3), .unset] [(.int (lcmpW (((((u1 &&& (7 : Int32)) - (3 : Int32)).toInt64) * (4294967296 : Int64)) + ((u2.toInt64) + (2147483648 : Int64))) (((((u3 &&& (7 : Int32)) - (3 : Int32)).toInt64) * (4294967296 : Int64)) + ((u4.toInt64) + (2147483648 : Int64)))))])) _
      rcases Bool.eq_false_or_eq_true (ifCond.holds .le (lcmpW (((((u1 &&& (7 : Int32)) - (3 : Int32)).toInt64) * (4294967296 : Int64)) + ((u2.toInt64) + (2147483648 : Int64))) (((((u3 &&& (7 : Int32)) - (3 : Int32)).toInt64) * (4294967296 : Int64)) + ((u4.toInt64) + (2147483648 : Int64))))) with hb60_10 | hb60_10
      · refine XS.ifYes X8.here hx rfl (pc0 := 60) (pc' := 67) rfl (hb hby at_60) rfl hb60_10 (by decide) (by decide) ?_
        show Steps p.tables e below (T8.setTop (mkF m 67 #[.val (.int u1), .val (.int u2), .val (.int u3), .val (.int u4), .val (.int ((u1 &&& (7 : Int32)) - (3 : Int32))), .val (.int ((u3 &&& (7 : Int32)) - (3 : Int32))), .val (.ref b1), .val (.ref b3), .unset] [])) _
        refine XS.iconst X8.here hx rfl (hb hby at_67) ?_
        have k : Steps p.tables e below (T8.setTop (mkF m 68 #[.val (.int u1), .val (.int u2), .val (.int u3), .val (.int u4), .val (.int ((u1 &&& (7 : Int32)) - (3 : Int32))), .val (.int ((u3 &&& (7 : Int32)) - (3 : Int32))), .val (.ref b1), .val (.ref b3), .unset] [(.int (0 : Int32))])) t := by simpa only [hb60_10, cond_true, cond_false] using k
        exact k
      · refine XS.ifNo X8.here hx rfl (hb hby at_60) rfl hb60_10 ?_
        show Steps p.tables e below (T8.setTop (mkF m 63 #[.val (.int u1), .val (.int u2), .val (.int u3), .val (.int u4), .val (.int ((u1 &&& (7 : Int32)) - (3 : Int32))), .val (.int ((u3 &&& (7 : Int32)) - (3 : Int32))), .val (.ref b1), .val (.ref b3), .unset] [])) _
        refine XS.iconst X8.here hx rfl (hb hby at_63) ?_
        show Steps p.tables e below (T8.setTop (mkF m 64 #[.val (.int u1), .val (.int u2), .val (.int u3), .val (.int u4), .val (.int ((u1 &&& (7 : Int32)) - (3 : Int32))), .val (.int ((u3 &&& (7 : Int32)) - (3 : Int32))), .val (.ref b1), .val (.ref b3), .unset] [(.int (1 : Int32))])) _
        refine XS.goto X8.here hx rfl (pc0 := 64) (pc' := 68) rfl (hb hby at_64) (by decide) (by decide) ?_
        have k : Steps p.tables e below (T8.setTop (mkF m 68 #[.val (.int u1), .val (.int u2), .val (.int u3), .val (.int u4), .val (.int ((u1 &&& (7 : Int32)) - (3 : Int32))), .val (.int ((u3 &&& (7 : Int32)) - (3 : Int32))), .val (.ref b1), .val (.ref b3), .unset] [(.int (1 : Int32))])) t := by simpa only [hb60_10, cond_true, cond_false] using k
        exact k
    obtain ⟨cq12, kq12, q12a, q12b, q12c⟩ := isOf hZ eq8 (((A1.keep Kq2).ext E3).keep Kq4)
    obtain ⟨_, _, ⟨T12, L12, k12, n12⟩, -, X12, ⟨Lc12, hQ12, l12, y12, z12⟩, st12⟩ := X8.virtualBack hx (y := (⟨"com/example/orderly_cellar/orderlycellar/io/Preferences$Match", "beats", "(Lcom/example/orderly_cellar/orderlycellar/io/Preferences$Match;)Z"⟩ : MethodName)) (z := (⟨"com/example/orderly_cellar/orderlycellar/io/Preferences$Match", "beats", "(Lcom/example/orderly_cellar/orderlycellar/io/Preferences$Match;)Z"⟩ : MethodName)) hown (mvT hZ (own_w hw 18 rfl)) (mvT hZ (own_w hw 19 rfl)) (notFace_of_selects (args := #[]) (mvT hZ (own_w hw 21 rfl))) (mvT hZ (own_w hw 21 rfl)) (mvT hZ (own_w hw 20 rfl)) (by decide) (backOf (W := 0) (rm_beats l Z a0 hw [] b1 b3 (((u1 &&& (7 : Int32)) - (3 : Int32)).toInt64) (((u3 &&& (7 : Int32)) - (3 : Int32)).toInt64) u2 u4 T4.heap n0 Z4 ((Fa2.ext E3).keep Kq4 (ninS ne_b1_b3 nin0)) Fa4 ((Fb2.ext E3).keep Kq4 (ninS ne_b1_b3 nin0)) Fb4 (own_bi (own_ia u1)) (own_bi (own_ia u3))) hZ (own_w hw 22 rfl) (own_w hw 2 rfl) (by decide) (by decide)) q12a q12c (g := (mkF m 74 #[.val (.int u1), .val (.int u2), .val (.int u3), .val (.int u4), .val (.int ((u1 &&& (7 : Int32)) - (3 : Int32))), .val (.int ((u3 &&& (7 : Int32)) - (3 : Int32))), .val (.ref b1), .val (.ref b3), .val (.int (bif (ifCond.holds .le (lcmpW (((((u1 &&& (7 : Int32)) - (3 : Int32)).toInt64) * (4294967296 : Int64)) + ((u2.toInt64) + (2147483648 : Int64))) (((((u3 &&& (7 : Int32)) - (3 : Int32)).toInt64) * (4294967296 : Int64)) + ((u4.toInt64) + (2147483648 : Int64))))) then (0 : Int32) else (1 : Int32)))] [(.ref b3), (.ref b1)])) rfl (by rw [hml]; rfl) (Steps.refl _) (argsL := [(.ref b3)]) (rest := []) (lenOf pd_359624 rfl) rfl (by show 2 * 0 + _ ≤ _; exact Nat.le_of_eq rfl) (hb hby at_74) (fun _ _ => ⟨rfl, eq8, (by decide : 2 + 0 ≤ _), (by decide : 4 + 0 ≤ _)⟩)
    dsimp only [Pt.U, Pt.locs, Pt.cells, Pt.slots] at X12 l12 y12 z12 st12 hQ12
    subst l12 y12 z12
    obtain ⟨rfl, Nq12, eq12⟩ := hQ12
    have N12 := Fr.app N8 Nq12
    obtain ⟨fs, hr, hrun, hended, hW, hsame⟩ := X12.leave (v := some (.int (1 : Int32))) (fun h => by rw [Bd.returns] at h; cases h)
    refine ⟨_, _, pre11 _ ?_, hrun, hended, _, _, rfl, ?_, ⟨_, rfl⟩, hW, hsame.mono (by decide) (by decide)⟩
    · show Steps p.tables e below (T8.setTop (mkF m 68 #[.val (.int u1), .val (.int u2), .val (.int u3), .val (.int u4), .val (.int ((u1 &&& (7 : Int32)) - (3 : Int32))), .val (.int ((u3 &&& (7 : Int32)) - (3 : Int32))), .val (.ref b1), .val (.ref b3), .unset] [(.int (bif (ifCond.holds .le (lcmpW (((((u1 &&& (7 : Int32)) - (3 : Int32)).toInt64) * (4294967296 : Int64)) + ((u2.toInt64) + (2147483648 : Int64))) (((((u3 &&& (7 : Int32)) - (3 : Int32)).toInt64) * (4294967296 : Int64)) + ((u4.toInt64) + (2147483648 : Int64))))) then (0 : Int32) else (1 : Int32)))])) _
      refine XS.istore X8.here hx rfl (hb hby at_68) rfl (l' := #[.val (.int u1), .val (.int u2), .val (.int u3), .val (.int u4), .val (.int ((u1 &&& (7 : Int32)) - (3 : Int32))), .val (.int ((u3 &&& (7 : Int32)) - (3 : Int32))), .val (.ref b1), .val (.ref b3), .val (.int (bif (ifCond.holds .le (lcmpW (((((u1 &&& (7 : Int32)) - (3 : Int32)).toInt64) * (4294967296 : Int64)) + ((u2.toInt64) + (2147483648 : Int64))) (((((u3 &&& (7 : Int32)) - (3 : Int32)).toInt64) * (4294967296 : Int64)) + ((u4.toInt64) + (2147483648 : Int64))))) then (0 : Int32) else (1 : Int32)))]) rfl ?_
      show Steps p.tables e below (T8.setTop (mkF m 70 #[.val (.int u1), .val (.int u2), .val (.int u3), .val (.int u4), .val (.int ((u1 &&& (7 : Int32)) - (3 : Int32))), .val (.int ((u3 &&& (7 : Int32)) - (3 : Int32))), .val (.ref b1), .val (.ref b3), .val (.int (bif (ifCond.holds .le (lcmpW (((((u1 &&& (7 : Int32)) - (3 : Int32)).toInt64) * (4294967296 : Int64)) + ((u2.toInt64) + (2147483648 : Int64))) (((((u3 &&& (7 : Int32)) - (3 : Int32)).toInt64) * (4294967296 : Int64)) + ((u4.toInt64) + (2147483648 : Int64))))) then (0 : Int32) else (1 : Int32)))] [])) _
      refine XS.aload X8.here hx rfl (hb hby at_70) rfl rfl ?_
      show Steps p.tables e below (T8.setTop (mkF m 72 #[.val (.int u1), .val (.int u2), .val (.int u3), .val (.int u4), .val (.int ((u1 &&& (7 : Int32)) - (3 : Int32))), .val (.int ((u3 &&& (7 : Int32)) - (3 : Int32))), .val (.ref b1), .val (.ref b3), .val (.int (bif (ifCond.holds .le (lcmpW (((((u1 &&& (7 : Int32)) - (3 : Int32)).toInt64) * (4294967296 : Int64)) + ((u2.toInt64) + (2147483648 : Int64))) (((((u3 &&& (7 : Int32)) - (3 : Int32)).toInt64) * (4294967296 : Int64)) + ((u4.toInt64) + (2147483648 : Int64))))) then (0 : Int32) else (1 : Int32)))] [(.ref b1)])) _
      refine XS.aload X8.here hx rfl (hb hby at_72) rfl rfl ?_
      show Steps p.tables e below (T8.setTop (mkF m 74 #[.val (.int u1), .val (.int u2), .val (.int u3), .val (.int u4), .val (.int ((u1 &&& (7 : Int32)) - (3 : Int32))), .val (.int ((u3 &&& (7 : Int32)) - (3 : Int32))), .val (.ref b1), .val (.ref b3), .val (.int (bif (ifCond.holds .le (lcmpW (((((u1 &&& (7 : Int32)) - (3 : Int32)).toInt64) * (4294967296 : Int64)) + ((u2.toInt64) + (2147483648 : Int64))) (((((u3 &&& (7 : Int32)) - (3 : Int32)).toInt64) * (4294967296 : Int64)) + ((u4.toInt64) + (2147483648 : Int64))))) then (0 : Int32) else (1 : Int32)))] [(.ref b3), (.ref b1)])) _
      refine st12.trans ?_
      show Steps p.tables e below (T12.setTop (mkF m 77 #[.val (.int u1), .val (.int u2), .val (.int u3), .val (.int u4), .val (.int ((u1 &&& (7 : Int32)) - (3 : Int32))), .val (.int ((u3 &&& (7 : Int32)) - (3 : Int32))), .val (.ref b1), .val (.ref b3), .val (.int (bif (ifCond.holds .le (lcmpW (((((u1 &&& (7 : Int32)) - (3 : Int32)).toInt64) * (4294967296 : Int64)) + ((u2.toInt64) + (2147483648 : Int64))) (((((u3 &&& (7 : Int32)) - (3 : Int32)).toInt64) * (4294967296 : Int64)) + ((u4.toInt64) + (2147483648 : Int64))))) then (0 : Int32) else (1 : Int32)))] [(.int (nar .boolean (bif (ifCond.holds .le (lcmpW (((u1 &&& (7 : Int32)) - (3 : Int32)).toInt64) (0 : Int64))) then (0 : Int32) else (bif (ifCond.holds .gt (lcmpW (((u1 &&& (7 : Int32)) - (3 : Int32)).toInt64) (((u3 &&& (7 : Int32)) - (3 : Int32)).toInt64))) then (1 : Int32) else (bif (ifCond.holds .ne (lcmpW (((u1 &&& (7 : Int32)) - (3 : Int32)).toInt64) (((u3 &&& (7 : Int32)) - (3 : Int32)).toInt64))) then (0 : Int32) else (bif (if_icmp.holds .le u2 u4) then (0 : Int32) else (1 : Int32)))))))])) _
      refine XS.iload X12.here hx rfl (hb hby at_77) rfl ?_
      show Steps p.tables e below (T12.setTop (mkF m 79 #[.val (.int u1), .val (.int u2), .val (.int u3), .val (.int u4), .val (.int ((u1 &&& (7 : Int32)) - (3 : Int32))), .val (.int ((u3 &&& (7 : Int32)) - (3 : Int32))), .val (.ref b1), .val (.ref b3), .val (.int (bif (ifCond.holds .le (lcmpW (((((u1 &&& (7 : Int32)) - (3 : Int32)).toInt64) * (4294967296 : Int64)) + ((u2.toInt64) + (2147483648 : Int64))) (((((u3 &&& (7 : Int32)) - (3 : Int32)).toInt64) * (4294967296 : Int64)) + ((u4.toInt64) + (2147483648 : Int64))))) then (0 : Int32) else (1 : Int32)))] [(.int (bif (ifCond.holds .le (lcmpW (((((u1 &&& (7 : Int32)) - (3 : Int32)).toInt64) * (4294967296 : Int64)) + ((u2.toInt64) + (2147483648 : Int64))) (((((u3 &&& (7 : Int32)) - (3 : Int32)).toInt64) * (4294967296 : Int64)) + ((u4.toInt64) + (2147483648 : Int64))))) then (0 : Int32) else (1 : Int32))), (.int (nar .boolean (bif (ifCond.holds .le (lcmpW (((u1 &&& (7 : Int32)) - (3 : Int32)).toInt64) (0 : Int64))) then (0 : Int32) else (bif (ifCond.holds .gt (lcmpW (((u1 &&& (7 : Int32)) - (3 : Int32)).toInt64) (((u3 &&& (7 : Int32)) - (3 : Int32)).toInt64))) then (1 : Int32) else (bif (ifCond.holds .ne (lcmpW (((u1 &&& (7 : Int32)) - (3 : Int32)).toInt64) (((u3 &&& (7 : Int32)) - (3 : Int32)).toInt64))) then (0 : Int32) else (bif (if_icmp.holds .le u2 u4) then (0 : Int32) else (1 : Int32)))))))])) _
      refine XS.icmpNo X12.here hx rfl (hb hby at_79) rfl (own_f _ _ _ _ (own_ia u1) (own_ia u3) hb44) ?_
      show Steps p.tables e below (T12.setTop (mkF m 82 #[.val (.int u1), .val (.int u2), .val (.int u3), .val (.int u4), .val (.int ((u1 &&& (7 : Int32)) - (3 : Int32))), .val (.int ((u3 &&& (7 : Int32)) - (3 : Int32))), .val (.ref b1), .val (.ref b3), .val (.int (bif (ifCond.holds .le (lcmpW (((((u1 &&& (7 : Int32)) - (3 : Int32)).toInt64) * (4294967296 : Int64)) + ((u2.toInt64) + (2147483648 : Int64))) (((((u3 &&& (7 : Int32)) - (3 : Int32)).toInt64) * (4294967296 : Int64)) + ((u4.toInt64) + (2147483648 : Int64))))) then (0 : Int32) else (1 : Int32)))] [])) _
      refine XS.iconst X12.here hx rfl (hb hby at_82) ?_
      show Steps p.tables e below (T12.setTop (mkF m 83 #[.val (.int u1), .val (.int u2), .val (.int u3), .val (.int u4), .val (.int ((u1 &&& (7 : Int32)) - (3 : Int32))), .val (.int ((u3 &&& (7 : Int32)) - (3 : Int32))), .val (.ref b1), .val (.ref b3), .val (.int (bif (ifCond.holds .le (lcmpW (((((u1 &&& (7 : Int32)) - (3 : Int32)).toInt64) * (4294967296 : Int64)) + ((u2.toInt64) + (2147483648 : Int64))) (((((u3 &&& (7 : Int32)) - (3 : Int32)).toInt64) * (4294967296 : Int64)) + ((u4.toInt64) + (2147483648 : Int64))))) then (0 : Int32) else (1 : Int32)))] [(.int (1 : Int32))])) _
      refine XS.goto X12.here hx rfl (pc0 := 83) (pc' := 87) rfl (hb hby at_83) (by decide) (by decide) ?_
      show Steps p.tables e below (T12.setTop (mkF m 87 #[.val (.int u1), .val (.int u2), .val (.int u3), .val (.int u4), .val (.int ((u1 &&& (7 : Int32)) - (3 : Int32))), .val (.int ((u3 &&& (7 : Int32)) - (3 : Int32))), .val (.ref b1), .val (.ref b3), .val (.int (bif (ifCond.holds .le (lcmpW (((((u1 &&& (7 : Int32)) - (3 : Int32)).toInt64) * (4294967296 : Int64)) + ((u2.toInt64) + (2147483648 : Int64))) (((((u3 &&& (7 : Int32)) - (3 : Int32)).toInt64) * (4294967296 : Int64)) + ((u4.toInt64) + (2147483648 : Int64))))) then (0 : Int32) else (1 : Int32)))] [(.int (1 : Int32))])) _
      exact retN X12 hx (t := .boolean) Bd.returns (by simp) (hb hby at_87) hr
    · show Q_rm_law Z _ _ _ _ h0 n0 _ T12.heap _
      rw [eq12]
      exact ⟨rfl, N12⟩
set_option maxRecDepth 65536 in
set_option maxHeartbeats 40000000 in
theorem comes_1 {Post : Tables → Env → Array Value → State → Outcome → State → Prop} (hpost : ∀ tb e args s v u, (limb_1_1.after args s (.returned v) u = true ∧ limb_1_2.after args s (.returned v) u = true ∧ True) → FrameEnd s (.returned v) u (Jvm.fieldLocs frame_1_writes args s ++ Jvm.arrayLocs frame_1_arrays args s ++ Jvm.staticLocs frame_1_statics s) 16 128 → Post tb e args s (.returned v) u) :
    ArmFor flags0 classFile x code maxLocals ret World_1 tables_1 room_1 Calls_1 rest_1 Pre_1 Post := by
  intro l hfl _ _ p e ha hc hk s m args below hf hA hF happ hP
  obtain ⟨hcalls, hrest, hpre⟩ := hP
  obtain ⟨-, -, -, hnamed, -, -, -, hat⟩ := (Spec.applies_iff hf).mp happ
  obtain ⟨hg, hn⟩ := and_e (Cond.before_iff.mp (show (Jvm.Cond.and given_1 narrow_1).before args s = true from hpre))
  obtain ⟨ha0, hb0⟩ := and_e hg
  obtain ⟨ha1, hb1⟩ := and_e hb0
  obtain ⟨ha2, hb2⟩ := and_e hb1
  obtain ⟨ha3, hb3⟩ := and_e hb2
  obtain ⟨w0, w1, w2, w3, rfl⟩ : ∃ w0 w1 w2 w3 : Value, args = #[w0, w1, w2, w3] := by
    have hs : args.size = 4 := by simpa [Cond.value, given_1] using ha0
    obtain ⟨L⟩ := args
    match L, hs with
    | [w0, w1, w2, w3], _ => exact ⟨w0, w1, w2, w3, rfl⟩
  have hw := fun d (hd : d ∈ tables_1) => atoms_spec (ws := Jvm.Cond.code x code maxLocals ret :: tables_1) hat d (List.mem_cons_of_mem _ hd)
  have hfit : Fit s := fun {y c} hc i hi => by
    obtain ⟨ha, rfl⟩ := Array.getElem?_eq_some_iff.mp hc
    have q := List.all_eq_true.mp ((Array.all_eq_true_iff_forall_mem.mp hF) _ (Array.getElem_mem ha)) i (List.mem_range.mpr hi)
    simpa [Array.getElem?_eq_getElem hi] using q
  obtain ⟨i0, ei0⟩ := is_v ha1
  obtain rfl : w0 = (.int i0) := Option.some.inj ei0
  obtain ⟨i1, ei1⟩ := is_v ha2
  obtain rfl : w1 = (.int i1) := Option.some.inj ei1
  obtain ⟨i2, ei2⟩ := is_v ha3
  obtain rfl : w2 = (.int i2) := Option.some.inj ei2
  obtain ⟨i3, ei3⟩ := is_v hb3
  obtain rfl : w3 = (.int i3) := Option.some.inj ei3
  obtain ⟨n, o, h1, h2, h3, _, L, rfl, ⟨rfl, N⟩, hq⟩ := rm_law l s _ hw tables_1 i0 i1 i2 i3 s.heap s.heap.size (Nat.le_refl _)  p e ha hc hk s m _ below hf ((Spec.applies_iff_loose hf).mp happ).1 ⟨rfl, State.Warmed39.refl s, rfl⟩ trivial
  refine ⟨n, _, h1, h2, h3, hpost _ _ _ _ _ _ ⟨Cond.after_iff.mpr rfl, Cond.after_iff.mpr (eq_i res_at (Term.int_eval (1)) rfl), trivial⟩ ⟨hq.1, hq.2.1, (hq.2.2.sift fun y hy => Or.inr (N y hy)).mono (by decide) (by decide)⟩⟩
theorem main_1_1 : Claimed_1_1 := comes_1 fun _ _ _ _ _ _ h hF => ⟨h.1, hF⟩
theorem main_1_2 : Claimed_1_2 := comes_1 fun _ _ _ _ _ _ h hF => ⟨h.2.1, hF⟩
end Jvm.Pilot.@@N@@
namespace Jvm.Pilot.@@N@@
open Jvm Jvm.ClassFile Sem Op Lib Jvm.Free Jvm.Stand Jvm.Pilot.@@N@@.Jvm.D
/-! MADE BY PROGRAM (witnessworld.py) out of the Statement's table words and the real class files: 10 classes; the members and pool entries that the words name. The judged class is class 1, her method 2. -/
namespace start1
open Jvm.ClassFile
def u (s : String) : CpInfo := .utf8 (stringToUtf16 s)
/-- a pool by its gaps: so many unusable entries, then the entry; so many at the end -/
def gap : Nat → List CpInfo → List CpInfo
  | 0, r => r
  | n + 1, r => .unusable :: gap n r
def poolList (es : List (Nat × CpInfo)) (last : Nat) : List CpInfo := es.foldr (fun e r => gap e.1 (e.2 :: r)) (gap last [])
def pool (es : List (Nat × CpInfo)) (last : Nat) : Array CpInfo := ⟨poolList es last⟩
def fileOf (pool : Array CpInfo) (this : Nat) (attrs : Array Attribute := #[]) (ms : Array MethodInfo := #[]) (fl : Nat := 33) (sup : Nat := 0) (ifs : Array Nat := #[]) (fds : Array FieldInfo := #[]) : ClassFile where
  minorVersion := 0
  majorVersion := 65
  constantPool := pool
  accessFlags := fl
  thisClass := this
  superClass := sup
  interfaces := ifs
  fields := fds
  methods := ms
  attributes := attrs
def plain (name : String) (sup : Option ClassId) : Class where
  name := name
  kind := .ordinary
  loader := none
  accessFlags := 33
  super := sup
  interfaces := #[]
  cf := none
  fields := #[]
  methods := #[]
  instanceTypes := #[]
  staticTypes := #[]
  resolved := #[]
  callSites := []
  init := .initialized
  statics := none
  mirror := none

def pool0 : Array CpInfo := pool [(5, u "<init>"), (0, u "()V"), (1, .class_ 10), (1, u "java/lang/Object")] 113

def k0c0 : Code := { maxStack := 0, maxLocals := 1, code := object_method_1_code, exceptionTable := #[], attributes := #[] }
def k0m0 : Method := { name := "<init>", desc := "()V", sig := { parameters := [], returnType := none }, accessFlags := 1, code := some k0c0 }
/-- java/lang/Object -/
def k0 : Class := { plain "java/lang/Object" none with
  accessFlags := 33
  interfaces := #[]
  cf := some (fileOf pool0 8 #[] #[{ accessFlags := 1, nameIndex := 5, descriptorIndex := 6, attributes := #[] }] 33 0 #[] #[])
  fields := #[]
  methods := #[k0m0]
  instanceTypes := #[]
  staticTypes := #[]
  resolved := Array.replicate 124 none
  statics := none }

def pool1 : Array CpInfo := pool [(2, .class_ 4), (1, u "java/lang/Object"), (0, u "<init>"), (0, u "()V"), (0, .long 4294967296), (1, .long 2147483648), (1, .class_ 12), (0, u "com/example/orderly_cellar/orderlycellar/io/Preferences$Match"), (0, .methodref 11 14), (0, .nameAndType 5 15), (0, u "(DI)V"), (0, .methodref 17 18), (0, .class_ 19), (0, .nameAndType 20 21), (0, u "com/example/orderly_cellar/orderlycellar/io/MatchBeatsPinLaw"), (0, u "key"), (0, u "(II)J"), (0, .methodref 11 23), (0, .nameAndType 24 25), (0, u "beats"), (0, u "(Lcom/example/orderly_cellar/orderlycellar/io/Preferences$Match;)Z"), (2, u "law"), (0, u "(IIII)Z")] 7

def k1m0 : Method := { name := "<init>", desc := "()V", sig := { parameters := [], returnType := none }, accessFlags := 2, code := none }
def k1c1 : Code := { maxStack := 6, maxLocals := 2, code := method_2_code, exceptionTable := #[], attributes := #[] }
def k1m1 : Method := { name := "key", desc := "(II)J", sig := { parameters := [.int, .int], returnType := some .long }, accessFlags := 10, code := some k1c1 }
def k1c2 : Code := { maxStack := 5, maxLocals := 9, code := code, exceptionTable := #[], attributes := #[] }
def k1m2 : Method := { name := "law", desc := "(IIII)Z", sig := { parameters := [.int, .int, .int, .int], returnType := some .boolean }, accessFlags := 9, code := some k1c2 }
/-- com/example/orderly_cellar/orderlycellar/io/MatchBeatsPinLaw -/
def k1 : Class := { plain "com/example/orderly_cellar/orderlycellar/io/MatchBeatsPinLaw" (some 0) with
  accessFlags := 49
  interfaces := #[]
  cf := some (fileOf pool1 17 #[] #[{ accessFlags := 2, nameIndex := 5, descriptorIndex := 6, attributes := #[] }, { accessFlags := 10, nameIndex := 20, descriptorIndex := 21, attributes := #[] }, { accessFlags := 9, nameIndex := 28, descriptorIndex := 29, attributes := #[] }] 49 2 #[] #[])
  fields := #[]
  methods := #[k1m0, k1m1, k1m2]
  instanceTypes := #[]
  staticTypes := #[]
  resolved := Array.replicate 37 none
  statics := none }

def pool2 : Array CpInfo := pool [(1, .methodref 2 3), (0, .class_ 4), (0, .nameAndType 5 6), (0, u "java/lang/Object"), (0, u "<init>"), (0, u "()V"), (0, .class_ 8), (0, u "java/lang/Record")] 13

def k2c0 : Code := { maxStack := 1, maxLocals := 1, code := jdk_30_method_1_code, exceptionTable := #[], attributes := #[] }
def k2m0 : Method := { name := "<init>", desc := "()V", sig := { parameters := [], returnType := none }, accessFlags := 4, code := some k2c0 }
/-- java/lang/Record -/
def k2 : Class := { plain "java/lang/Record" (some 0) with
  accessFlags := 1057
  interfaces := #[]
  cf := some (fileOf pool2 7 #[] #[{ accessFlags := 4, nameIndex := 5, descriptorIndex := 6, attributes := #[] }] 1057 2 #[] #[])
  fields := #[]
  methods := #[k2m0]
  instanceTypes := #[]
  staticTypes := #[]
  resolved := Array.replicate 22 none
  statics := none }

def pool3 : Array CpInfo := pool [(1, .methodref 2 3), (0, .class_ 4), (0, .nameAndType 5 6), (0, u "java/lang/Record"), (0, u "<init>"), (0, u "()V"), (0, .fieldref 8 9), (0, .class_ 10), (0, .nameAndType 11 12), (0, u "com/example/orderly_cellar/orderlycellar/io/Preferences$Match"), (0, u "quality"), (0, u "D"), (0, .fieldref 8 14), (0, .nameAndType 15 16), (0, u "specificity"), (0, u "I"), (12, u "(DI)V"), (3, u "beats"), (0, u "(Lcom/example/orderly_cellar/orderlycellar/io/Preferences$Match;)Z"), (8, .class_ 44), (0, u "com/example/orderly_cellar/orderlycellar/io/Preferences")] 20

def k3c0 : Code := { maxStack := 3, maxLocals := 4, code := prog_15_method_1_code, exceptionTable := #[], attributes := #[] }
def k3m0 : Method := { name := "<init>", desc := "(DI)V", sig := { parameters := [.double, .int], returnType := none }, accessFlags := 0, code := some k3c0 }
def k3c1 : Code := { maxStack := 4, maxLocals := 2, code := prog_15_method_2_code, exceptionTable := #[], attributes := #[] }
def k3m1 : Method := { name := "beats", desc := "(Lcom/example/orderly_cellar/orderlycellar/io/Preferences$Match;)Z", sig := { parameters := [(.object "com/example/orderly_cellar/orderlycellar/io/Preferences$Match")], returnType := some .boolean }, accessFlags := 0, code := some k3c1 }
/-- com/example/orderly_cellar/orderlycellar/io/Preferences$Match -/
def k3 : Class := { plain "com/example/orderly_cellar/orderlycellar/io/Preferences$Match" (some 2) with
  accessFlags := 48
  interfaces := #[]
  cf := some (fileOf pool3 8 #[.nestHost 43] #[{ accessFlags := 0, nameIndex := 5, descriptorIndex := 29, attributes := #[] }, { accessFlags := 0, nameIndex := 33, descriptorIndex := 34, attributes := #[] }] 48 2 #[] #[{ accessFlags := 18, nameIndex := 11, descriptorIndex := 12, attributes := #[] }, { accessFlags := 18, nameIndex := 15, descriptorIndex := 16, attributes := #[] }])
  fields := #[{ name := "quality", type := .double, accessFlags := 18, slot := 0, constantValue := 0 }, { name := "specificity", type := .int, accessFlags := 18, slot := 1, constantValue := 0 }]
  methods := #[k3m0, k3m1]
  instanceTypes := #[.double, .int]
  staticTypes := #[]
  resolved := Array.replicate 65 none
  statics := none }

def pool4 : Array CpInfo := pool [(1, u "java/lang/Cloneable"), (0, .class_ 1), (0, u "java/lang/Object"), (0, .class_ 3)] 3

/-- java/lang/Cloneable -/
def k4 : Class := { plain "java/lang/Cloneable" (some 0) with
  accessFlags := 1537
  interfaces := #[]
  cf := some (fileOf pool4 2 #[] #[] 1537 4 #[] #[])
  fields := #[]
  methods := #[]
  instanceTypes := #[]
  staticTypes := #[]
  resolved := Array.replicate 8 none
  statics := none }

def pool5 : Array CpInfo := pool [(1, u "java/io/Serializable"), (0, .class_ 1), (0, u "java/lang/Object"), (0, .class_ 3)] 3

/-- java/io/Serializable -/
def k5 : Class := { plain "java/io/Serializable" (some 0) with
  accessFlags := 1537
  interfaces := #[]
  cf := some (fileOf pool5 2 #[] #[] 1537 4 #[] #[])
  fields := #[]
  methods := #[]
  instanceTypes := #[]
  staticTypes := #[]
  resolved := Array.replicate 8 none
  statics := none }

/-- the primitive byte -/
def k6 : Class := { plain "byte" none with kind := .primitive 'B', accessFlags := 0x411 }
/-- [B -/
def k7 : Class := { plain "[B" (some 0) with kind := .array 6 .byte, interfaces := #[4, 5], accessFlags := 1041 }

/-- the primitive int -/
def k8 : Class := { plain "int" none with kind := .primitive 'I', accessFlags := 0x411 }
/-- [I -/
def k9 : Class := { plain "[I" (some 0) with kind := .array 8 .int, interfaces := #[4, 5], accessFlags := 1041 }

def heap : Heap := #[]
def classes : Array Class := #[k0, k1, k2, k3, k4, k5, k6, k7, k8, k9]
def interned : List (Array UInt16 × Addr) := []
def slotsUsed : Nat := 0
def theMethod : MethodId := ⟨1, 2⟩
def args0 : Array Value := #[.int 5, .int 1, .int 4, .int 2]
def aboutOver (below : List Frame) : State where
  vm := { classes := classes, interned := interned.toArray }
  heap := heap
  slotsUsed := slotsUsed
  threads := #[{ frames := .invoking theMethod args0 :: below }]
def below0 : List Frame := [.native { method := ⟨0, 0⟩, args := #[] }]
def about1 : State := aboutOver below0
def p0 : Program := .bare "" "" ""
def e0 : Env := launch0.env 0 0 0
theorem w_frames : about1.frames = Frame.invoking theMethod args0 :: below0 := rfl
set_option maxRecDepth 65536 in
theorem w_args : argsFit about1.vm theMethod args0 = true := by decide +kernel
set_option maxRecDepth 65536 in
theorem w_heap : heapFits about1 = true := by decide +kernel
set_option maxRecDepth 65536 in
theorem w_runnable : about1.curStatus? = some .runnable := by decide +kernel
set_option maxRecDepth 65536 in
theorem w_alone : about1.alone = true := by decide +kernel
set_option maxRecDepth 65536 in
theorem w_named : about1.methodNamed? x = some theMethod := by decide +kernel
set_option maxRecDepth 65536 in
theorem w_hears : about1.hears theMethod below0 = true := by decide +kernel
set_option maxRecDepth 65536 in
theorem w_ripe : about1.ripe theMethod args0 below0 = true := by decide +kernel
theorem w_running : about1.status = .running := rfl
set_option maxRecDepth 65536 in
theorem w_room : about1.hasRoom e0.platform room_1 = true :=
  launch0.hasRoom_least _ room_1 (by decide +kernel) (by decide +kernel) (by decide +kernel) (by decide +kernel) (by decide +kernel) (by decide +kernel)
theorem allAtoms_all (ts : List Jvm.Cond) (a : Array Jvm.Value) (st : Jvm.State) : (allAtoms ts).before a st = ts.all (fun c => c.before a st) := by
  induction ts with
  | nil => rfl
  | cons c t ih =>
    show (Jvm.Cond.and c (allAtoms t)).before a st = _
    rw [Jvm.Cond.before_and, ih, List.all_cons]
def words1 : List Jvm.Cond := Jvm.Cond.code x code maxLocals ret :: tables_1
/-- a 'code' word, met by the world's own term for the bytes: nothing is compared byte by byte -/
theorem code_word {y : MethodName} {bytes : ByteArray} {mx : Nat} {rt : Option FieldType} {a : Array Value} {s : State} {m : MethodId} {meth : Method} {c : Code} (h1 : s.methodNamed? y = some m) (h2 : s.vm.method? m = some meth) (h3 : meth.code = some c) (h4 : c.code = bytes)
    (h5 : (c.maxLocals == mx && c.exceptionTable.isEmpty && decide (c.maxStack ≤ mostOperands) && decide (meth.sig.returnType = rt) && !meth.locks && decide (parseMethodDescriptor y.desc = some meth.sig)) = true) : (Jvm.Cond.code y bytes mx rt).before a s = true := by
  simp only [Bool.and_eq_true, beq_iff_eq, Bool.not_eq_true', decide_eq_true_eq] at h5
  obtain ⟨⟨⟨⟨⟨g1, g2⟩, g3⟩, g4⟩, g5⟩, g6⟩ := h5
  simp [Cond.before, Cond.holds, Cond.value, h1, h2, h3, h4, g1, g2, g3, g4, g5, g6]
def isCode : Jvm.Cond → Bool
  | .code _ _ _ _ => true
  | _ => false
theorem all_split {L : List Jvm.Cond} {P : Jvm.Cond → Bool} (h1 : L.all (fun c => isCode c || P c) = true) (h2 : ∀ c ∈ L.filter isCode, P c = true) : L.all P = true := by
  refine List.all_eq_true.mpr fun c hc => ?_
  have h := List.all_eq_true.mp h1 c hc
  rcases Bool.eq_false_or_eq_true (isCode c) with hi | hi
  · exact h2 c (List.mem_filter.mpr ⟨hc, hi⟩)
  · simpa [hi] using h
set_option maxRecDepth 65536 in
theorem w_c0 : (Jvm.Cond.code x code maxLocals ret).before args0 about1 = true := code_word (m := ⟨1, 2⟩) (meth := k1m2) (c := k1c2) (by decide +kernel) rfl rfl rfl (by decide +kernel)
set_option maxRecDepth 65536 in
theorem w_c1 : (Jvm.Cond.code ({ cls := "com/example/orderly_cellar/orderlycellar/io/Preferences$Match", name := "<init>", desc := "(DI)V" } : Jvm.MethodName) prog_15_method_1_code (4 : Nat) (Option.none : Option Jvm.ClassFile.FieldType)).before args0 about1 = true := code_word (m := ⟨3, 0⟩) (meth := k3m0) (c := k3c0) (by decide +kernel) rfl rfl rfl (by decide +kernel)
set_option maxRecDepth 65536 in
theorem w_c2 : (Jvm.Cond.code ({ cls := "java/lang/Record", name := "<init>", desc := "()V" } : Jvm.MethodName) jdk_30_method_1_code (1 : Nat) (Option.none : Option Jvm.ClassFile.FieldType)).before args0 about1 = true := code_word (m := ⟨2, 0⟩) (meth := k2m0) (c := k2c0) (by decide +kernel) rfl rfl rfl (by decide +kernel)
set_option maxRecDepth 65536 in
theorem w_c3 : (Jvm.Cond.code ({ cls := "java/lang/Object", name := "<init>", desc := "()V" } : Jvm.MethodName) object_method_1_code (1 : Nat) (Option.none : Option Jvm.ClassFile.FieldType)).before args0 about1 = true := code_word (m := ⟨0, 0⟩) (meth := k0m0) (c := k0c0) (by decide +kernel) rfl rfl rfl (by decide +kernel)
set_option maxRecDepth 65536 in
theorem w_c4 : (Jvm.Cond.code ({ cls := "com/example/orderly_cellar/orderlycellar/io/Preferences$Match", name := "beats", desc := "(Lcom/example/orderly_cellar/orderlycellar/io/Preferences$Match;)Z" } : Jvm.MethodName) prog_15_method_2_code (2 : Nat) (Option.some Jvm.ClassFile.FieldType.boolean)).before args0 about1 = true := code_word (m := ⟨3, 1⟩) (meth := k3m1) (c := k3c1) (by decide +kernel) rfl rfl rfl (by decide +kernel)
set_option maxRecDepth 65536 in
theorem w_c5 : (Jvm.Cond.code ({ cls := "com/example/orderly_cellar/orderlycellar/io/MatchBeatsPinLaw", name := "key", desc := "(II)J" } : Jvm.MethodName) method_2_code (2 : Nat) (Option.some Jvm.ClassFile.FieldType.long)).before args0 about1 = true := code_word (m := ⟨1, 1⟩) (meth := k1m1) (c := k1c1) (by decide +kernel) rfl rfl rfl (by decide +kernel)
def codes1 : List Jvm.Cond := [Jvm.Cond.code x code maxLocals ret, Jvm.Cond.code ({ cls := "com/example/orderly_cellar/orderlycellar/io/Preferences$Match", name := "<init>", desc := "(DI)V" } : Jvm.MethodName) prog_15_method_1_code (4 : Nat) (Option.none : Option Jvm.ClassFile.FieldType), Jvm.Cond.code ({ cls := "java/lang/Record", name := "<init>", desc := "()V" } : Jvm.MethodName) jdk_30_method_1_code (1 : Nat) (Option.none : Option Jvm.ClassFile.FieldType), Jvm.Cond.code ({ cls := "java/lang/Object", name := "<init>", desc := "()V" } : Jvm.MethodName) object_method_1_code (1 : Nat) (Option.none : Option Jvm.ClassFile.FieldType), Jvm.Cond.code ({ cls := "com/example/orderly_cellar/orderlycellar/io/Preferences$Match", name := "beats", desc := "(Lcom/example/orderly_cellar/orderlycellar/io/Preferences$Match;)Z" } : Jvm.MethodName) prog_15_method_2_code (2 : Nat) (Option.some Jvm.ClassFile.FieldType.boolean), Jvm.Cond.code ({ cls := "com/example/orderly_cellar/orderlycellar/io/MatchBeatsPinLaw", name := "key", desc := "(II)J" } : Jvm.MethodName) method_2_code (2 : Nat) (Option.some Jvm.ClassFile.FieldType.long)]
set_option maxRecDepth 65536 in
theorem codes_eq : words1.filter isCode = codes1 := rfl
theorem w_codes : ∀ c ∈ words1.filter isCode, c.before args0 about1 = true := by
  rw [codes_eq]
  intro c hc
  simp only [codes1, List.mem_cons, List.not_mem_nil, or_false] at hc
  rcases hc with rfl | rfl | rfl | rfl | rfl | rfl
  · exact w_c0
  · exact w_c1
  · exact w_c2
  · exact w_c3
  · exact w_c4
  · exact w_c5
set_option maxRecDepth 65536 in
theorem w_t1 : (words1.take 24).all (fun c => isCode c || c.before args0 about1) = true := by decide +kernel
set_option maxRecDepth 65536 in
theorem w_t2 : (words1.drop 24).all (fun c => isCode c || c.before args0 about1) = true := by decide +kernel
theorem w_tables : (allAtoms (Jvm.Cond.code x code maxLocals ret :: tables_1)).before args0 about1 = true := by
  rw [allAtoms_all]
  show words1.all (fun c => c.before args0 about1) = true
  refine all_split ?_ w_codes
  rw [← List.take_append_drop 24 words1, List.all_append, w_t1, w_t2]
  rfl
set_option maxRecDepth 65536 in
theorem w_case : (Jvm.Cond.and given_1 narrow_1).before args0 about1 = true := by decide +kernel
theorem w_applies : (headSpec (Jvm.Cond.code x code maxLocals ret :: tables_1) room_1).applies x e0.platform about1 = true :=
  (Spec.applies_iff w_frames).mpr ⟨w_running, w_runnable, w_alone, w_named, w_hears, w_ripe, w_room, w_tables⟩
theorem atStart : AtStart classFile x code maxLocals ret World_1 tables_1 room_1 Calls_1 rest_1 Pre_1 launch0 p0 e0 about1 theMethod args0 below0 :=
  ⟨lists_1, trivial, launch0.admits_env _ _ _, launch0.least_env, fairChoices_fair.cas, fairChoices_fair.clock, w_frames, w_args, w_heap, w_applies, trivial, trivial, w_case⟩
end start1
theorem witness_1 : WitnessClaimed_1 := ⟨start1.p0, start1.e0, start1.about1, start1.theMethod, start1.args0, start1.below0, start1.atStart⟩
end Jvm.Pilot.@@N@@
