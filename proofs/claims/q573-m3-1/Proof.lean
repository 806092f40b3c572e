import JvmDerived
import JvmDerived.Pilot.@@N@@Statement
import JvmDerived.Pilot.@@N@@Code
set_option linter.unusedVariables false
set_option linter.unusedSimpArgs false
namespace Jvm.RoadKit
open Sem ClassFile Op Lib Jvm.Stand Jvm.Free Jvm.LawKit
section New
variable {p : Program} {l : Launch} {e : Env} {R : Room} {s : State} {m : MethodId} {args : Array Value} {below : List Frame} {meth : Method} {c : Code} {T : State} {locs : List Loc} {cells slots : Nat}
theorem retI (X : Stand p l e R s m args below meth c T locs cells slots) (hx : p.tables.exec = Jvm.exec) {pc : Nat} {Ls : Array Slot} {z : Int32} {rest : List Value} (hret : meth.sig.returnType = some .int) (hd : decode c.code pc = .ok (.ireturn, 1)) {fs : List Frame}
    (hl : ∀ (f : JFrame) (acts : List Action), f.method = m → f.locked = none → f.entered = [] → (doReturn e (T.setTop f) acts (some (.int z))).1 = T.setFrames fs) : Steps p.tables e below (T.setTop (mkF m pc Ls (.int z :: rest))) (T.setFrames fs) := by
  have hm' : T.vm.method? m = some meth := X.method'
  have hn : narrow .int (.int z) = .int z := rfl
  show Steps p.tables e below (T.setTop { method := m, pc := pc, locals := Ls, stack := _ :: rest, locked := none }) _
  jvm_step X.here [X.here.top, hx, hd, hm', hret, hn]
  first | (intro acts; rw [hl _ acts rfl rfl rfl]) | rw [hl _ _ rfl rfl rfl]
  exact Steps.refl _
end New
end Jvm.RoadKit
namespace Jvm.Pilot.@@N@@
open Jvm Jvm.ClassFile Sem Op Lib Jvm.Free Jvm.Stand Jvm.LawKit Jvm.RoadKit Bundle Jvm.Pilot.@@N@@.Jvm.D
/-! the comparisons, as plain decisions -/
theorem own_w {a0 : Array Value} {Z : State} (hw : ∀ d ∈ tables_1, d.before a0 Z = true) (i : Nat) {d : Jvm.Cond} (h : tables_1[i]? = some d) : d.before a0 Z = true := hw d (List.mem_of_getElem? h)
theorem own_ilt (x y : Int32) : if_icmp.holds .lt x y = decide (x < y) := rfl
theorem own_ile (x y : Int32) : if_icmp.holds .le x y = decide (x ≤ y) := rfl
theorem own_igt (x y : Int32) : if_icmp.holds .gt x y = decide (y < x) := rfl
theorem own_ige (x y : Int32) : if_icmp.holds .ge x y = decide (y ≤ x) := rfl
theorem own_ieq (x y : Int32) : if_icmp.holds .eq x y = decide (x = y) := rfl
theorem own_ine (x y : Int32) : if_icmp.holds .ne x y = decide (x ≠ y) := by
  by_cases h : x = y
  · rw [(teq h).2]; exact (decide_eq_false (not_not_intro h)).symm
  · rw [(feq h).2]; exact (decide_eq_true h).symm
theorem own_smono {s : State} {vm : Vm} {n n' : Nat} (h : s.Since vm n) (hn : n ≤ n') : s.Since vm n' := ⟨h.1, fun j p hj hp => ⟨(h.2 j p hj hp).1, Nat.lt_of_lt_of_le (h.2 j p hj hp).2 hn⟩⟩
theorem own_d0 : FP.dconst0 = FP.l2d (0 : Int64) := by rw [l2d_zero]; rfl
theorem own_lgt (x y : Int64) : ifCond.holds .gt (lcmpW x y) = decide (y < x) := by rw [if0, own_igt]; exact decide_eq_decide.mpr (lw_gt x y)
theorem own_llt (x y : Int64) : ifCond.holds .lt (lcmpW x y) = decide (x < y) := by rw [if0, own_ilt]; exact decide_eq_decide.mpr (lw_lt x y)
theorem own_leq (x y : Int64) : ifCond.holds .eq (lcmpW x y) = decide (x = y) := by rw [if0, own_ieq]; exact decide_eq_decide.mpr (lw_eq x y)
theorem own_lne (x y : Int64) : ifCond.holds .ne (lcmpW x y) = decide (x ≠ y) := by rw [if0, own_ine]; exact decide_eq_decide.mpr (not_congr (lw_eq x y))
theorem own_lle (x y : Int64) : ifCond.holds .le (lcmpW x y) = decide (x ≤ y) := by rw [if0, own_ile]; exact decide_eq_decide.mpr (by rw [← Int32.not_lt, lw_gt, Int64.not_lt])
theorem own_lge (x y : Int64) : ifCond.holds .ge (lcmpW x y) = decide (y ≤ x) := by rw [if0, own_ige]; exact decide_eq_decide.mpr (by rw [← Int32.not_lt, lw_lt, Int64.not_lt])
theorem d2_0 : decode jdk_30_method_1_code 0 = .ok (.aload_n 0, 1) := by decide +kernel
theorem d2_1 : decode jdk_30_method_1_code 1 = .ok (.invokespecial 1, 3) := by decide +kernel
theorem d2_4 : decode jdk_30_method_1_code 4 = .ok (.return_, 1) := by decide +kernel
theorem ef_rm_rec (m : MethodId) (x0 : Addr) : entryFrame m #[(.ref x0)] 1 = mkF m 0 #[.val (.ref x0)] [] := by first | (simp [entryFrame, mkF, argsToLocals, Value.category]; done) | rfl
def Q_rm_rec (Z : State) (u1 : Addr) (h0 : Heap) (n0 : Nat) (v : Option Value) (h : Heap) (L : List Loc) : Prop := v = none ∧ Fr n0 L ∧ h = h0
theorem pn_976391 : plainName "java/lang/Record" = true := by first | (simp [plainName, overriddenIn]; done) | decide +kernel
set_option maxRecDepth 65536 in
set_option maxHeartbeats 40000000 in
theorem rm_rec (l : Launch) (Z : State) (a0 : Array Value) (hw : ∀ d ∈ tables_1, d.before a0 Z = true) (ws : List Jvm.Cond) (u1 : Addr) (h0 : Heap) (n0 : Nat) (Z0 : n0 ≤ h0.size) :
    MetFree l (⟨"java/lang/Record", "<init>", "()V"⟩ : MethodName) (head1 (Jvm.Cond.code (⟨"java/lang/Record", "<init>", "()V"⟩ : MethodName) jdk_30_method_1_code 1 none :: ws) ({ frames := 1, cells := 0, slots := 0, locals := 12 } : Room)) (fun a U => a = #[(.ref u1)] ∧ Z.Warmed39 U.vm ∧ U.heap = h0) (fun _ _ _ _ _ => True) (fun _ U o U' => ∃ v L, o = .returned v ∧ Q_rm_rec Z u1 h0 n0 v U'.heap L ∧ FrameEnd U o U' L ({ frames := 1, cells := 0, slots := 0, locals := 12 } : Room).cells ({ frames := 1, cells := 0, slots := 0, locals := 12 } : Room).slots) := by
  refine MetFree.of_bodySF (plainFor_of_name pn_976391) hisR ?_
  intro p e s m args below meth c s₁ Bd hml0 hP hK
  obtain ⟨rfl, hZ, hh⟩ := hP
  have hx := Bd.exec
  have hby := Bd.bytes
  have hml : c.maxLocals = 1 := hml0
  have hown : s.vm.findClass "java/lang/Record" = some m.cls := findClass_of_methodNamed Bd.named
  have hnm := (name_of_methodNamed Bd.named Bd.method).1
  have X0 : Stand p l e ({ frames := 1, cells := 0, slots := 0, locals := 12 } : Room) s m #[(.ref u1)] below meth c s₁ [] 0 0 := Stand.of_body Bd
  have e0 : s₁.heap = h0 := by rw [← hh, Bd.state]; rfl
  have N0 := Fr.nil n0
  have pre0 : ∀ t, Steps p.tables e below (s₁.setTop (mkF m 0 #[.val (.ref u1)] [])) t → Steps p.tables e below (s₁.setTop (entryFrame m #[(.ref u1)] 1)) t := fun t k => castTop (ef_rm_rec m u1) k
  obtain ⟨T1, X1, e1, st1⟩ := initO X0 hx hZ hown (own_w hw 11 rfl) (own_w hw 12 rfl) (own_w hw 13 rfl) e0 (g := (mkF m 1 #[.val (.ref u1)] [(.ref u1)])) rfl (by rw [hml]; rfl) rfl (hb hby d2_1) (by decide) (W := 0) (by show 2 * 0 + _ ≤ _; exact Nat.le_of_eq rfl) (by decide)
  obtain ⟨fs, hr, hrun, hended, hW, hsame⟩ := X1.leave (v := none) (fun _ => rfl)
  refine ⟨_, _, pre0 _ ?_, hrun, hended, _, _, rfl, ?_, ⟨_, rfl⟩, hW, hsame.mono (by decide) (by decide)⟩
  · show Steps p.tables e below (s₁.setTop (mkF m 0 #[.val (.ref u1)] [])) _
    refine XS.aloadN X0.here hx rfl (hb hby d2_0) rfl rfl ?_
    show Steps p.tables e below (s₁.setTop (mkF m 1 #[.val (.ref u1)] [(.ref u1)])) _
    refine st1 _ ?_
    show Steps p.tables e below (T1.setTop (mkF m 4 #[.val (.ref u1)] [])) _
    exact X1.returnOut hx Bd.returns (hb hby d2_4) hr
  · show Q_rm_rec Z _ h0 n0 _ T1.heap _
    rw [e1]
    exact ⟨rfl, N0, rfl⟩
theorem d1_0 : decode prog_34_method_1_code 0 = .ok (.aload_n 0, 1) := by decide +kernel
theorem d1_1 : decode prog_34_method_1_code 1 = .ok (.invokespecial 1, 3) := by decide +kernel
theorem pd_691897 : parseMethodDescriptor "()V" = some ⟨[], none⟩ := by decide +kernel
theorem d1_4 : decode prog_34_method_1_code 4 = .ok (.iload_n 3, 1) := by decide +kernel
theorem d1_5 : decode prog_34_method_1_code 5 = .ok (.ifCond .eq 23, 3) := by decide +kernel
theorem d1_8 : decode prog_34_method_1_code 8 = .ok (.lload_n 1, 1) := by decide +kernel
theorem d1_9 : decode prog_34_method_1_code 9 = .ok (.lconst 0, 1) := by decide +kernel
theorem d1_10 : decode prog_34_method_1_code 10 = .ok (.lcmp, 1) := by decide +kernel
theorem d1_11 : decode prog_34_method_1_code 11 = .ok (.ifCond .lt 17, 3) := by decide +kernel
theorem d1_28 : decode prog_34_method_1_code 28 = .ok (.aload_n 0, 1) := by decide +kernel
theorem d1_29 : decode prog_34_method_1_code 29 = .ok (.lload_n 1, 1) := by decide +kernel
theorem d1_30 : decode prog_34_method_1_code 30 = .ok (.putfield 16, 3) := by decide +kernel
theorem d1_33 : decode prog_34_method_1_code 33 = .ok (.aload_n 0, 1) := by decide +kernel
theorem d1_34 : decode prog_34_method_1_code 34 = .ok (.iload_n 3, 1) := by decide +kernel
theorem d1_35 : decode prog_34_method_1_code 35 = .ok (.putfield 22, 3) := by decide +kernel
theorem d1_38 : decode prog_34_method_1_code 38 = .ok (.return_, 1) := by decide +kernel
theorem ef_rm_init (m : MethodId) (x0 : Addr) (x1 : Int64) (x2 : Int32) : entryFrame m #[(.ref x0), (.long x1), (.int x2)] 4 = mkF m 0 #[.val (.ref x0), .val (.long x1), .second, .val (.int x2)] [] := by first | (simp [entryFrame, mkF, argsToLocals, Value.category]; done) | rfl
def Q_rm_init (Z : State) (u1 : Addr) (u2 : Int64) (u3 : Int32) (h0 : Heap) (n0 : Nat) (v : Option Value) (h : Heap) (L : List Loc) : Prop := v = none ∧ Fr n0 L ∧ Keep h0 h [u1] ∧ Fld Z h u1 "com/example/knotwire/knotwire/IntValue" "bits" "J" (.long u2) ∧ Fld Z h u1 "com/example/knotwire/knotwire/IntValue" "negative" "Z" (.int (nar .boolean u3))
theorem pn_967037 : plainName "com/example/knotwire/knotwire/IntValue" = true := by first | (simp [plainName, overriddenIn]; done) | decide +kernel
set_option maxRecDepth 65536 in
set_option maxHeartbeats 40000000 in
theorem rm_init (l : Launch) (Z : State) (a0 : Array Value) (hw : ∀ d ∈ tables_1, d.before a0 Z = true) (ws : List Jvm.Cond) (u1 : Addr) (u2 : Int64) (u3 : Int32) (h0 : Heap) (n0 : Nat) (Z0 : n0 ≤ h0.size) (F1 : Fld Z h0 u1 "com/example/knotwire/knotwire/IntValue" "bits" "J" (.long (0 : Int64))) (F2 : Fld Z h0 u1 "com/example/knotwire/knotwire/IntValue" "negative" "Z" (.int (0 : Int32))) (E1 : Exa Z h0 u1 "com/example/knotwire/knotwire/IntValue") (g1 : n0 ≤ u1) (hneg : ifCond.holds .eq u3 = false → ifCond.holds .lt (lcmpW u2 (0 : Int64)) = true) :
    MetFree l (⟨"com/example/knotwire/knotwire/IntValue", "<init>", "(JZ)V"⟩ : MethodName) (head1 (Jvm.Cond.code (⟨"com/example/knotwire/knotwire/IntValue", "<init>", "(JZ)V"⟩ : MethodName) prog_34_method_1_code 4 none :: ws) ({ frames := 2, cells := 0, slots := 0, locals := 24 } : Room)) (fun a U => a = #[(.ref u1), (.long u2), (.int u3)] ∧ Z.Warmed39 U.vm ∧ U.heap = h0) (fun _ _ _ _ _ => True) (fun _ U o U' => ∃ v L, o = .returned v ∧ Q_rm_init Z u1 u2 u3 h0 n0 v U'.heap L ∧ FrameEnd U o U' L ({ frames := 2, cells := 0, slots := 0, locals := 24 } : Room).cells ({ frames := 2, cells := 0, slots := 0, locals := 24 } : Room).slots) := by
  refine MetFree.of_bodySF (plainFor_of_name pn_967037) hisR ?_
  intro p e s m args below meth c s₁ Bd hml0 hP hK
  obtain ⟨rfl, hZ, hh⟩ := hP
  have hx := Bd.exec
  have hby := Bd.bytes
  have hml : c.maxLocals = 4 := hml0
  have hown : s.vm.findClass "com/example/knotwire/knotwire/IntValue" = some m.cls := findClass_of_methodNamed Bd.named
  have hnm := (name_of_methodNamed Bd.named Bd.method).1
  have X0 : Stand p l e ({ frames := 2, cells := 0, slots := 0, locals := 24 } : Room) s m #[(.ref u1), (.long u2), (.int u3)] below meth c s₁ [] 0 0 := Stand.of_body Bd
  have e0 : s₁.heap = h0 := by rw [← hh, Bd.state]; rfl
  have N0 := Fr.nil n0
  have K0 : Keep h0 h0 [u1] := Keep.refl _ _
  have pre0 : ∀ t, Steps p.tables e below (s₁.setTop (mkF m 0 #[.val (.ref u1), .val (.long u2), .second, .val (.int u3)] [])) t → Steps p.tables e below (s₁.setTop (entryFrame m #[(.ref u1), (.long u2), (.int u3)] 4)) t := fun t k => castTop (ef_rm_init m u1 u2 u3) k
  obtain ⟨_, _, ⟨T1, L1, k1, n1⟩, -, X1, ⟨Lc1, hQ1, l1, y1, z1⟩, st1⟩ := X0.specialBack hx (y := (⟨"java/lang/Record", "<init>", "()V"⟩ : MethodName)) rfl hown (mvT hZ (own_w hw 6 rfl)) (mvT hZ (own_w hw 7 rfl)) (mvT hZ (own_w hw 10 rfl)) (by decide) (backOf (W := 0) (rm_rec l Z a0 hw [] u1 h0 n0 Z0 ) hZ (own_w hw 10 rfl) (own_w hw 9 rfl) (by decide) (by decide)) (g := (mkF m 1 #[.val (.ref u1), .val (.long u2), .second, .val (.int u3)] [(.ref u1)])) rfl (by rw [hml]; rfl) (Steps.refl _) (a := u1) (argsL := []) (rest := []) (lenOf pd_691897 rfl) rfl (by show 2 * 0 + _ ≤ _; exact Nat.le_of_eq rfl) (hb hby d1_1) (fun _ _ => ⟨rfl, e0, (by decide : 0 + 0 ≤ _), (by decide : 0 + 0 ≤ _)⟩)
  dsimp only [Pt.U, Pt.locs, Pt.cells, Pt.slots] at X1 l1 y1 z1 st1 hQ1
  subst l1 y1 z1
  obtain ⟨rfl, Nq1, eq1⟩ := hQ1
  have N1 := Fr.app N0 Nq1
  have pre2 : ∀ t, Steps p.tables e below (T1.setTop (mkF m 5 #[.val (.ref u1), .val (.long u2), .second, .val (.int u3)] [(.int u3)])) t → Steps p.tables e below (s₁.setTop (entryFrame m #[(.ref u1), (.long u2), (.int u3)] 4)) t := by
    intro t k
    refine pre0 t ?_
    show Steps p.tables e below (s₁.setTop (mkF m 0 #[.val (.ref u1), .val (.long u2), .second, .val (.int u3)] [])) _
    refine XS.aloadN X0.here hx rfl (hb hby d1_0) rfl rfl ?_
    show Steps p.tables e below (s₁.setTop (mkF m 1 #[.val (.ref u1), .val (.long u2), .second, .val (.int u3)] [(.ref u1)])) _
    refine st1.trans ?_
    show Steps p.tables e below (T1.setTop (mkF m 4 #[.val (.ref u1), .val (.long u2), .second, .val (.int u3)] [])) _
    refine XS.iloadN X1.here hx rfl (hb hby d1_4) rfl ?_
    exact k
  have pre4 : ∀ t, Steps p.tables e below (T1.setTop (mkF m 28 #[.val (.ref u1), .val (.long u2), .second, .val (.int u3)] [])) t → Steps p.tables e below (s₁.setTop (entryFrame m #[(.ref u1), (.long u2), (.int u3)] 4)) t := by
    intro t k
    refine pre2 t ?_
    show Steps p.tables e below (T1.setTop (mkF m 5 #[.val (.ref u1), .val (.long u2), .second, .val (.int u3)] [(.int u3)])) _
    rcases Bool.eq_false_or_eq_true (ifCond.holds .eq u3) with hb5_3 | hb5_3
    · refine XS.ifYes X1.here hx rfl (pc0 := 5) (pc' := 28) rfl (hb hby d1_5) rfl hb5_3 (by decide) (by decide) ?_
      exact k
    · refine XS.ifNo X1.here hx rfl (hb hby d1_5) rfl hb5_3 ?_
      show Steps p.tables e below (T1.setTop (mkF m 8 #[.val (.ref u1), .val (.long u2), .second, .val (.int u3)] [])) _
      refine XS.lloadN X1.here hx rfl (hb hby d1_8) rfl ?_
      show Steps p.tables e below (T1.setTop (mkF m 9 #[.val (.ref u1), .val (.long u2), .second, .val (.int u3)] [(.long u2)])) _
      refine XS.lconst X1.here hx rfl (hb hby d1_9) ?_
      show Steps p.tables e below (T1.setTop (mkF m 10 #[.val (.ref u1), .val (.long u2), .second, .val (.int u3)] [(.long (0 : Int64)), (.long u2)])) _
      refine XS.lcmp X1.here hx rfl (hb hby d1_10) rfl ?_
      show Steps p.tables e below (T1.setTop (mkF m 11 #[.val (.ref u1), .val (.long u2), .second, .val (.int u3)] [(.int (lcmpW u2 (0 : Int64)))])) _
      refine XS.ifYes X1.here hx rfl (pc0 := 11) (pc' := 28) rfl (hb hby d1_11) rfl (hneg hb5_3) (by decide) (by decide) ?_
      exact k
  obtain ⟨T5, h5, X5, e5, W5, st5⟩ := putF X1 hx hZ hown (host := "") (Or.inl (own_w hw 14 rfl)) Via.refl eq1 F1 E1 (Or.inr ⟨(own_w hw 15 rfl), rfl, hnm⟩) (own_w hw 1 rfl) (ty := .long) (by decide) rfl rfl (g := (mkF m 30 #[.val (.ref u1), .val (.long u2), .second, .val (.int u3)] [(.long u2), (.ref u1)])) rfl rfl (hb hby d1_30)
  have Fw5 := Fld.same W5 F1
  have N5 := Fr.snoc X5 N1 g1
  have Z5 : n0 ≤ h5.size := Nat.le_trans Z0 (Keep.of_wr W5).1
  have K5 : Keep h0 h5 [u1] := Keep.wr K0 W5 (Or.inl (List.mem_of_getElem? (i := 0) rfl))
  obtain ⟨T6, h6, X6, e6, W6, st6⟩ := putFN X5 hx hZ hown (own_w hw 16 rfl) Via.refl e5 (Fld.other W5 F2 (Or.inr (slot_ne (Or.inr (own_w hw 17 rfl)) (Or.inr (own_w hw 15 rfl)) (by decide) (t := .boolean) (t' := .long) (by decide) (by decide)))) (E1.wr W5) (Or.inr ⟨(own_w hw 17 rfl), rfl, hnm⟩) (own_w hw 1 rfl) (ty := .boolean) (v' := (.int (nar .boolean u3))) (by decide) rfl (fits_nar_bool _) (g := (mkF m 35 #[.val (.ref u1), .val (.long u2), .second, .val (.int u3)] [(.int u3), (.ref u1)])) rfl rfl (hb hby d1_35)
  have Fw6 := Fld.same W6 (Fld.other W5 F2 (Or.inr (slot_ne (Or.inr (own_w hw 17 rfl)) (Or.inr (own_w hw 15 rfl)) (by decide) (t := .boolean) (t' := .long) (by decide) (by decide))))
  have N6 := Fr.snoc X6 N5 g1
  have Z6 : n0 ≤ h6.size := Nat.le_trans Z5 (Keep.of_wr W6).1
  have K6 : Keep h0 h6 [u1] := Keep.wr K5 W6 (Or.inl (List.mem_of_getElem? (i := 0) rfl))
  obtain ⟨fs, hr, hrun, hended, hW, hsame⟩ := X6.leave (v := none) (fun _ => rfl)
  refine ⟨_, _, pre4 _ ?_, hrun, hended, _, _, rfl, ?_, ⟨_, rfl⟩, hW, hsame.mono (by decide) (by decide)⟩
  · show Steps p.tables e below (T1.setTop (mkF m 28 #[.val (.ref u1), .val (.long u2), .second, .val (.int u3)] [])) _
    refine XS.aloadN X1.here hx rfl (hb hby d1_28) rfl rfl ?_
    show Steps p.tables e below (T1.setTop (mkF m 29 #[.val (.ref u1), .val (.long u2), .second, .val (.int u3)] [(.ref u1)])) _
    refine XS.lloadN X1.here hx rfl (hb hby d1_29) rfl ?_
    show Steps p.tables e below (T1.setTop (mkF m 30 #[.val (.ref u1), .val (.long u2), .second, .val (.int u3)] [(.long u2), (.ref u1)])) _
    refine st5 _ ?_
    show Steps p.tables e below (T5.setTop (mkF m 33 #[.val (.ref u1), .val (.long u2), .second, .val (.int u3)] [])) _
    refine XS.aloadN X5.here hx rfl (hb hby d1_33) rfl rfl ?_
    show Steps p.tables e below (T5.setTop (mkF m 34 #[.val (.ref u1), .val (.long u2), .second, .val (.int u3)] [(.ref u1)])) _
    refine XS.iloadN X5.here hx rfl (hb hby d1_34) rfl ?_
    show Steps p.tables e below (T5.setTop (mkF m 35 #[.val (.ref u1), .val (.long u2), .second, .val (.int u3)] [(.int u3), (.ref u1)])) _
    refine st6 _ ?_
    show Steps p.tables e below (T6.setTop (mkF m 38 #[.val (.ref u1), .val (.long u2), .second, .val (.int u3)] [])) _
    exact X6.returnOut hx Bd.returns (hb hby d1_38) hr
  · show Q_rm_init Z _ _ _ h0 n0 _ T6.heap _
    rw [e6]
    exact ⟨rfl, N6, K6, (Fld.other W6 Fw5 (Or.inr (slot_ne (Or.inr (own_w hw 15 rfl)) (Or.inr (own_w hw 17 rfl)) (by decide) (t := .long) (t' := .boolean) (by decide) (by decide)))), Fw6⟩
theorem d4_0 : decode prog_34_method_5_code 0 = .ok (.aload_n 0, 1) := by decide +kernel
theorem d4_1 : decode prog_34_method_5_code 1 = .ok (.getfield 22, 3) := by decide +kernel
theorem d4_4 : decode prog_34_method_5_code 4 = .ok (.ifCond .ne 12, 3) := by decide +kernel
theorem d4_16 : decode prog_34_method_5_code 16 = .ok (.iconst 1, 1) := by decide +kernel
theorem d4_17 : decode prog_34_method_5_code 17 = .ok (.goto 4, 3) := by decide +kernel
theorem d4_21 : decode prog_34_method_5_code 21 = .ok (.ireturn, 1) := by decide +kernel
theorem d4_7 : decode prog_34_method_5_code 7 = .ok (.aload_n 0, 1) := by decide +kernel
theorem d4_8 : decode prog_34_method_5_code 8 = .ok (.getfield 16, 3) := by decide +kernel
theorem d4_11 : decode prog_34_method_5_code 11 = .ok (.lconst 0, 1) := by decide +kernel
theorem d4_12 : decode prog_34_method_5_code 12 = .ok (.lcmp, 1) := by decide +kernel
theorem d4_13 : decode prog_34_method_5_code 13 = .ok (.ifCond .lt 7, 3) := by decide +kernel
theorem d4_20 : decode prog_34_method_5_code 20 = .ok (.iconst 0, 1) := by decide +kernel
theorem ef_rm_fits (m : MethodId) (x0 : Addr) : entryFrame m #[(.ref x0)] 1 = mkF m 0 #[.val (.ref x0)] [] := by first | (simp [entryFrame, mkF, argsToLocals, Value.category]; done) | rfl
def Q_rm_fits (Z : State) (u1 : Addr) (z1 : Int64) (z2 : Int32) (h0 : Heap) (n0 : Nat) (v : Option Value) (h : Heap) (L : List Loc) : Prop := v = some (.int (nar .boolean (bif (ifCond.holds .ne z2) then (1 : Int32) else (bif (ifCond.holds .lt (lcmpW z1 (0 : Int64))) then (0 : Int32) else (1 : Int32))))) ∧ Fr n0 L ∧ h = h0
set_option maxRecDepth 65536 in
set_option maxHeartbeats 40000000 in
theorem rm_fits (l : Launch) (Z : State) (a0 : Array Value) (hw : ∀ d ∈ tables_1, d.before a0 Z = true) (ws : List Jvm.Cond) (u1 : Addr) (z1 : Int64) (z2 : Int32) (h0 : Heap) (n0 : Nat) (Z0 : n0 ≤ h0.size) (F1 : Fld Z h0 u1 "com/example/knotwire/knotwire/IntValue" "bits" "J" (.long z1)) (F2 : Fld Z h0 u1 "com/example/knotwire/knotwire/IntValue" "negative" "Z" (.int z2)) :
    MetFree l (⟨"com/example/knotwire/knotwire/IntValue", "fitsLong", "()Z"⟩ : MethodName) (head1 (Jvm.Cond.code (⟨"com/example/knotwire/knotwire/IntValue", "fitsLong", "()Z"⟩ : MethodName) prog_34_method_5_code 1 (some .boolean) :: ws) ({ frames := 0, cells := 0, slots := 0, locals := 0 } : Room)) (fun a U => a = #[(.ref u1)] ∧ Z.Warmed39 U.vm ∧ U.heap = h0) (fun _ _ _ _ _ => True) (fun _ U o U' => ∃ v L, o = .returned v ∧ Q_rm_fits Z u1 z1 z2 h0 n0 v U'.heap L ∧ FrameEnd U o U' L ({ frames := 0, cells := 0, slots := 0, locals := 0 } : Room).cells ({ frames := 0, cells := 0, slots := 0, locals := 0 } : Room).slots) := by
  refine MetFree.of_bodySF (plainFor_of_name pn_967037) hisR ?_
  intro p e s m args below meth c s₁ Bd hml0 hP hK
  obtain ⟨rfl, hZ, hh⟩ := hP
  have hx := Bd.exec
  have hby := Bd.bytes
  have hml : c.maxLocals = 1 := hml0
  have hown : s.vm.findClass "com/example/knotwire/knotwire/IntValue" = some m.cls := findClass_of_methodNamed Bd.named
  have hnm := (name_of_methodNamed Bd.named Bd.method).1
  have X0 : Stand p l e ({ frames := 0, cells := 0, slots := 0, locals := 0 } : Room) s m #[(.ref u1)] below meth c s₁ [] 0 0 := Stand.of_body Bd
  have e0 : s₁.heap = h0 := by rw [← hh, Bd.state]; rfl
  have N0 := Fr.nil n0
  have pre0 : ∀ t, Steps p.tables e below (s₁.setTop (mkF m 0 #[.val (.ref u1)] [])) t → Steps p.tables e below (s₁.setTop (entryFrame m #[(.ref u1)] 1)) t := fun t k => castTop (ef_rm_fits m u1) k
  obtain ⟨T1, X1, e1, st1⟩ := getF X0 hx hZ hown (host := "") (Or.inl (own_w hw 16 rfl)) Via.refl e0 F2 (g := (mkF m 1 #[.val (.ref u1)] [(.ref u1)])) rfl rfl (hb hby d4_1)
  have pre2 : ∀ t, Steps p.tables e below (T1.setTop (mkF m 4 #[.val (.ref u1)] [(.int z2)])) t → Steps p.tables e below (s₁.setTop (entryFrame m #[(.ref u1)] 1)) t := by
    intro t k
    refine pre0 t ?_
    show Steps p.tables e below (s₁.setTop (mkF m 0 #[.val (.ref u1)] [])) _
    refine XS.aloadN X0.here hx rfl (hb hby d4_0) rfl rfl ?_
    show Steps p.tables e below (s₁.setTop (mkF m 1 #[.val (.ref u1)] [(.ref u1)])) _
    refine st1 _ ?_
    exact k
  rcases Bool.eq_false_or_eq_true (ifCond.holds .ne z2) with hb4 | hb4
  · obtain ⟨fs, hr, hrun, hended, hW, hsame⟩ := X1.leave (v := some (.int (nar .boolean (1 : Int32)))) (fun h => by rw [Bd.returns] at h; cases h)
    refine ⟨_, _, pre2 _ ?_, hrun, hended, _, _, rfl, ?_, ⟨_, rfl⟩, hW, hsame.mono (by decide) (by decide)⟩
    · show Steps p.tables e below (T1.setTop (mkF m 4 #[.val (.ref u1)] [(.int z2)])) _
      refine XS.ifYes X1.here hx rfl (pc0 := 4) (pc' := 16) rfl (hb hby d4_4) rfl hb4 (by decide) (by decide) ?_
      show Steps p.tables e below (T1.setTop (mkF m 16 #[.val (.ref u1)] [])) _
      refine XS.iconst X1.here hx rfl (hb hby d4_16) ?_
      show Steps p.tables e below (T1.setTop (mkF m 17 #[.val (.ref u1)] [(.int (1 : Int32))])) _
      refine XS.goto X1.here hx rfl (pc0 := 17) (pc' := 21) rfl (hb hby d4_17) (by decide) (by decide) ?_
      show Steps p.tables e below (T1.setTop (mkF m 21 #[.val (.ref u1)] [(.int (1 : Int32))])) _
      exact retN X1 hx (t := .boolean) Bd.returns (by simp) (hb hby d4_21) hr
    · show Q_rm_fits Z _ _ _ h0 n0 _ T1.heap _
      rw [e1]
      exact ⟨(by simp only [hb4, cond_true, cond_false]), N0, rfl⟩
  · obtain ⟨T3, X3, e3, st3⟩ := getF X1 hx hZ hown (host := "") (Or.inl (own_w hw 14 rfl)) Via.refl e1 F1 (g := (mkF m 8 #[.val (.ref u1)] [(.ref u1)])) rfl rfl (hb hby d4_8)
    have pre4 : ∀ t, Steps p.tables e below (T3.setTop (mkF m 13 #[.val (.ref u1)] [(.int (lcmpW z1 (0 : Int64)))])) t → Steps p.tables e below (s₁.setTop (entryFrame m #[(.ref u1)] 1)) t := by
      intro t k
      refine pre2 t ?_
      show Steps p.tables e below (T1.setTop (mkF m 4 #[.val (.ref u1)] [(.int z2)])) _
      refine XS.ifNo X1.here hx rfl (hb hby d4_4) rfl hb4 ?_
      show Steps p.tables e below (T1.setTop (mkF m 7 #[.val (.ref u1)] [])) _
      refine XS.aloadN X1.here hx rfl (hb hby d4_7) rfl rfl ?_
      show Steps p.tables e below (T1.setTop (mkF m 8 #[.val (.ref u1)] [(.ref u1)])) _
      refine st3 _ ?_
      show Steps p.tables e below (T3.setTop (mkF m 11 #[.val (.ref u1)] [(.long z1)])) _
      refine XS.lconst X3.here hx rfl (hb hby d4_11) ?_
      show Steps p.tables e below (T3.setTop (mkF m 12 #[.val (.ref u1)] [(.long (0 : Int64)), (.long z1)])) _
      refine XS.lcmp X3.here hx rfl (hb hby d4_12) rfl ?_
      exact k
    have pre6 : ∀ t, Steps p.tables e below (T3.setTop (mkF m 21 #[.val (.ref u1)] [(.int (bif (ifCond.holds .lt (lcmpW z1 (0 : Int64))) then (0 : Int32) else (1 : Int32)))])) t → Steps p.tables e below (s₁.setTop (entryFrame m #[(.ref u1)] 1)) t := by
      intro t k
      refine pre4 t ?_
      show Steps p.tables e below (T3.setTop (mkF m 13 #[.val (.ref u1)] [(.int (lcmpW z1 (0 : Int64)))])) _
      rcases Bool.eq_false_or_eq_true (ifCond.holds .lt (lcmpW z1 (0 : Int64))) with hb13_5 | hb13_5
      · refine XS.ifYes X3.here hx rfl (pc0 := 13) (pc' := 20) rfl (hb hby d4_13) rfl hb13_5 (by decide) (by decide) ?_
        show Steps p.tables e below (T3.setTop (mkF m 20 #[.val (.ref u1)] [])) _
        refine XS.iconst X3.here hx rfl (hb hby d4_20) ?_
        have k : Steps p.tables e below (T3.setTop (mkF m 21 #[.val (.ref u1)] [(.int (0 : Int32))])) t := by simpa only [hb13_5, cond_true, cond_false] using k
        exact k
      · refine XS.ifNo X3.here hx rfl (hb hby d4_13) rfl hb13_5 ?_
        show Steps p.tables e below (T3.setTop (mkF m 16 #[.val (.ref u1)] [])) _
        refine XS.iconst X3.here hx rfl (hb hby d4_16) ?_
        show Steps p.tables e below (T3.setTop (mkF m 17 #[.val (.ref u1)] [(.int (1 : Int32))])) _
        refine XS.goto X3.here hx rfl (pc0 := 17) (pc' := 21) rfl (hb hby d4_17) (by decide) (by decide) ?_
        have k : Steps p.tables e below (T3.setTop (mkF m 21 #[.val (.ref u1)] [(.int (1 : Int32))])) t := by simpa only [hb13_5, cond_true, cond_false] using k
        exact k
    obtain ⟨fs, hr, hrun, hended, hW, hsame⟩ := X3.leave (v := some (.int (nar .boolean (bif (ifCond.holds .lt (lcmpW z1 (0 : Int64))) then (0 : Int32) else (1 : Int32))))) (fun h => by rw [Bd.returns] at h; cases h)
    refine ⟨_, _, pre6 _ ?_, hrun, hended, _, _, rfl, ?_, ⟨_, rfl⟩, hW, hsame.mono (by decide) (by decide)⟩
    · show Steps p.tables e below (T3.setTop (mkF m 21 #[.val (.ref u1)] [(.int (bif (ifCond.holds .lt (lcmpW z1 (0 : Int64))) then (0 : Int32) else (1 : Int32)))])) _
      exact retN X3 hx (t := .boolean) Bd.returns (by simp) (hb hby d4_21) hr
    · show Q_rm_fits Z _ _ _ h0 n0 _ T3.heap _
      rw [e3]
      exact ⟨(by simp only [hb4, cond_true, cond_false]), N0, rfl⟩
theorem own_neg (u1 : Int64) (u2 : Int32) : ifCond.holds .eq (bif (ifCond.holds .eq (u2 &&& (1 : Int32))) then (0 : Int32) else (1 : Int32)) = false → ifCond.holds .lt (lcmpW (bif (ifCond.holds .eq (bif (ifCond.holds .eq (u2 &&& (1 : Int32))) then (0 : Int32) else (1 : Int32))) then u1 else (u1 ||| (-9223372036854775808 : Int64))) (0 : Int64)) = true := by
  intro h
  rw [h, cond_false, own_llt]
  refine decide_eq_true ?_
  rw [Int64.lt_iff_toInt_lt]
  have e0 : (0 : Int64).toInt = 0 := by decide
  rw [e0]
  exact (c_orSL u1 (-9223372036854775808 : Int64)).2.2 (by decide)
theorem pd_869680 : parseMethodDescriptor "(JZ)V" = some ⟨[.long, .boolean], none⟩ := by decide +kernel
theorem pd_691901 : parseMethodDescriptor "()Z" = some ⟨[], some .boolean⟩ := by decide +kernel
theorem own_law (u1 : Int64) (u2 : Int32) : (bif (if_icmp.holds .ne (nar .boolean (bif (ifCond.holds .ne (nar .boolean (bif (ifCond.holds .eq (u2 &&& (1 : Int32))) then (0 : Int32) else (1 : Int32)))) then (1 : Int32) else (bif (ifCond.holds .lt (lcmpW (bif (ifCond.holds .eq (bif (ifCond.holds .eq (u2 &&& (1 : Int32))) then (0 : Int32) else (1 : Int32))) then u1 else (u1 ||| (-9223372036854775808 : Int64))) (0 : Int64))) then (0 : Int32) else (1 : Int32)))) (bif (ifCond.holds .eq (bif (ifCond.holds .eq (u2 &&& (1 : Int32))) then (0 : Int32) else (1 : Int32))) then (bif (ifCond.holds .ne (lcmpW (((bif (ifCond.holds .eq (bif (ifCond.holds .eq (u2 &&& (1 : Int32))) then (0 : Int32) else (1 : Int32))) then u1 else (u1 ||| (-9223372036854775808 : Int64))).toUInt64 >>> ((63 : Int32) &&& 0x3f).toInt64.toUInt64).toInt64) (0 : Int64))) then (0 : Int32) else (1 : Int32)) else (1 : Int32))) then (0 : Int32) else (1 : Int32)) = (1 : Int32) := by
  have a1 := c_lushr u1 (63 : Int32) 63 (by decide) (by decide)
  have r1 := rng64 u1
  have e0 : (0 : Int64).toInt = 0 := by decide
  have key : (((u1.toUInt64 >>> ((63 : Int32) &&& 0x3f).toInt64.toUInt64).toInt64) ≠ (0 : Int64)) ↔ u1 < (0 : Int64) := by
    rw [Int64.lt_iff_toInt_lt, e0, ne_eq, ← Int64.toInt_inj, a1, e0]; omega
  generalize ifCond.holds .eq (u2 &&& (1 : Int32)) = b
  have q0 : ifCond.holds .eq (0 : Int32) = true := by decide
  have q1 : ifCond.holds .eq (1 : Int32) = false := by decide
  have q2 : ifCond.holds .ne (nar .boolean (0 : Int32)) = false := by decide
  have q3 : ifCond.holds .ne (nar .boolean (1 : Int32)) = true := by decide
  cases b
  · simp only [cond_false, cond_true, q0, q1, q2, q3]; decide
  · simp only [cond_false, cond_true, q0, q1, q2, q3, own_llt, own_lne, decide_eq_decide.mpr key]
    cases decide (u1 < (0 : Int64)) <;> decide
theorem ef_rm_law (m : MethodId) (x0 : Int64) (x1 : Int32) : entryFrame m #[(.long x0), (.int x1)] maxLocals = mkF m 0 #[.val (.long x0), .second, .val (.int x1), .unset, .unset, .unset, .unset, .unset] [] := by first | (simp [entryFrame, mkF, argsToLocals, Value.category, maxLocals]; done) | rfl
def Q_rm_law (Z : State) (u1 : Int64) (u2 : Int32) (h0 : Heap) (n0 : Nat) (v : Option Value) (h : Heap) (L : List Loc) : Prop := v = some (.int (1 : Int32)) ∧ Fr n0 L
theorem pn_232784 : plainName "com/example/knotwire/knotwire/IntValueFitsLongPinLaw" = true := by first | (simp [plainName, overriddenIn]; done) | decide +kernel
set_option maxRecDepth 65536 in
set_option maxHeartbeats 40000000 in
theorem rm_law (l : Launch) (Z : State) (a0 : Array Value) (hw : ∀ d ∈ tables_1, d.before a0 Z = true) (ws : List Jvm.Cond) (u1 : Int64) (u2 : Int32) (h0 : Heap) (n0 : Nat) (Z0 : n0 ≤ h0.size) :
    MetFree l x (head1 (Jvm.Cond.code x code maxLocals ret :: ws) room_1) (fun a U => a = #[(.long u1), (.int u2)] ∧ Z.Warmed39 U.vm ∧ U.heap = h0) (fun _ _ _ _ _ => True) (fun _ U o U' => ∃ v L, o = .returned v ∧ Q_rm_law Z u1 u2 h0 n0 v U'.heap L ∧ FrameEnd U o U' L room_1.cells room_1.slots) := by
  refine MetFree.of_bodySF (plainFor_of_name pn_232784) hisR ?_
  intro p e s m args below meth c s₁ Bd hml0 hP hK
  obtain ⟨rfl, hZ, hh⟩ := hP
  have hx := Bd.exec
  have hby := Bd.bytes
  have hml : c.maxLocals = 8 := hml0
  have hown : s.vm.findClass "com/example/knotwire/knotwire/IntValueFitsLongPinLaw" = some m.cls := findClass_of_methodNamed Bd.named
  have hnm := (name_of_methodNamed Bd.named Bd.method).1
  have X0 : Stand p l e room_1 s m #[(.long u1), (.int u2)] below meth c s₁ [] 0 0 := Stand.of_body Bd
  have e0 : s₁.heap = h0 := by rw [← hh, Bd.state]; rfl
  have N0 := Fr.nil n0
  have pre0 : ∀ t, Steps p.tables e below (s₁.setTop (mkF m 0 #[.val (.long u1), .second, .val (.int u2), .unset, .unset, .unset, .unset, .unset] [])) t → Steps p.tables e below (s₁.setTop (entryFrame m #[(.long u1), (.int u2)] maxLocals)) t := fun t k => castTop (ef_rm_law m u1 u2) k
  have pre1 : ∀ t, Steps p.tables e below (s₁.setTop (mkF m 3 #[.val (.long u1), .second, .val (.int u2), .unset, .unset, .unset, .unset, .unset] [(.int (u2 &&& (1 : Int32)))])) t → Steps p.tables e below (s₁.setTop (entryFrame m #[(.long u1), (.int u2)] maxLocals)) t := by
    intro t k
    refine pre0 t ?_
    show Steps p.tables e below (s₁.setTop (mkF m 0 #[.val (.long u1), .second, .val (.int u2), .unset, .unset, .unset, .unset, .unset] [])) _
    refine XS.iloadN X0.here hx rfl (hb hby at_0) rfl ?_
    show Steps p.tables e below (s₁.setTop (mkF m 1 #[.val (.long u1), .second, .val (.int u2), .unset, .unset, .unset, .unset, .unset] [(.int u2)])) _
    refine XS.iconst X0.here hx rfl (hb hby at_1) ?_
    show Steps p.tables e below (s₁.setTop (mkF m 2 #[.val (.long u1), .second, .val (.int u2), .unset, .unset, .unset, .unset, .unset] [(.int (1 : Int32)), (.int u2)])) _
    refine XS.iand X0.here hx rfl (hb hby at_2) rfl ?_
    exact k
  have pre3 : ∀ t, Steps p.tables e below (s₁.setTop (mkF m 11 #[.val (.long u1), .second, .val (.int u2), .unset, .unset, .unset, .unset, .unset] [(.int (bif (ifCond.holds .eq (u2 &&& (1 : Int32))) then (0 : Int32) else (1 : Int32)))])) t → Steps p.tables e below (s₁.setTop (entryFrame m #[(.long u1), (.int u2)] maxLocals)) t := by
    intro t k
    refine pre1 t ?_
    show Steps p.tables e below (s₁.setTop (mkF m 3 #[.val (.long u1), .second, .val (.int u2), .unset, .unset, .unset, .unset, .unset] [(.int (u2 &&& (1 : Int32)))])) _
    rcases Bool.eq_false_or_eq_true (ifCond.holds .eq (u2 &&& (1 : Int32))) with hb3_2 | hb3_2
    · refine XS.ifYes X0.here hx rfl (pc0 := 3) (pc' := 10) rfl (hb hby at_3) rfl hb3_2 (by decide) (by decide) ?_
      show Steps p.tables e below (s₁.setTop (mkF m 10 #[.val (.long u1), .second, .val (.int u2), .unset, .unset, .unset, .unset, .unset] [])) _
      refine XS.iconst X0.here hx rfl (hb hby at_10) ?_
      have k : Steps p.tables e below (s₁.setTop (mkF m 11 #[.val (.long u1), .second, .val (.int u2), .unset, .unset, .unset, .unset, .unset] [(.int (0 : Int32))])) t := by simpa only [hb3_2, cond_true, cond_false] using k
      exact k
    · refine XS.ifNo X0.here hx rfl (hb hby at_3) rfl hb3_2 ?_
      show Steps p.tables e below (s₁.setTop (mkF m 6 #[.val (.long u1), .second, .val (.int u2), .unset, .unset, .unset, .unset, .unset] [])) _
      refine XS.iconst X0.here hx rfl (hb hby at_6) ?_
      show Steps p.tables e below (s₁.setTop (mkF m 7 #[.val (.long u1), .second, .val (.int u2), .unset, .unset, .unset, .unset, .unset] [(.int (1 : Int32))])) _
      refine XS.goto X0.here hx rfl (pc0 := 7) (pc' := 11) rfl (hb hby at_7) (by decide) (by decide) ?_
      have k : Steps p.tables e below (s₁.setTop (mkF m 11 #[.val (.long u1), .second, .val (.int u2), .unset, .unset, .unset, .unset, .unset] [(.int (1 : Int32))])) t := by simpa only [hb3_2, cond_true, cond_false] using k
      exact k
  have pre4 : ∀ t, Steps p.tables e below (s₁.setTop (mkF m 13 #[.val (.long u1), .second, .val (.int u2), .val (.int (bif (ifCond.holds .eq (u2 &&& (1 : Int32))) then (0 : Int32) else (1 : Int32))), .unset, .unset, .unset, .unset] [(.int (bif (ifCond.holds .eq (u2 &&& (1 : Int32))) then (0 : Int32) else (1 : Int32)))])) t → Steps p.tables e below (s₁.setTop (entryFrame m #[(.long u1), (.int u2)] maxLocals)) t := by
    intro t k
    refine pre3 t ?_
    show Steps p.tables e below (s₁.setTop (mkF m 11 #[.val (.long u1), .second, .val (.int u2), .unset, .unset, .unset, .unset, .unset] [(.int (bif (ifCond.holds .eq (u2 &&& (1 : Int32))) then (0 : Int32) else (1 : Int32)))])) _
    refine XS.istoreN X0.here hx rfl (hb hby at_11) rfl (l' := #[.val (.long u1), .second, .val (.int u2), .val (.int (bif (ifCond.holds .eq (u2 &&& (1 : Int32))) then (0 : Int32) else (1 : Int32))), .unset, .unset, .unset, .unset]) rfl ?_
    show Steps p.tables e below (s₁.setTop (mkF m 12 #[.val (.long u1), .second, .val (.int u2), .val (.int (bif (ifCond.holds .eq (u2 &&& (1 : Int32))) then (0 : Int32) else (1 : Int32))), .unset, .unset, .unset, .unset] [])) _
    refine XS.iloadN X0.here hx rfl (hb hby at_12) rfl ?_
    exact k
  have pre6 : ∀ t, Steps p.tables e below (s₁.setTop (mkF m 25 #[.val (.long u1), .second, .val (.int u2), .val (.int (bif (ifCond.holds .eq (u2 &&& (1 : Int32))) then (0 : Int32) else (1 : Int32))), .unset, .unset, .unset, .unset] [(.long (bif (ifCond.holds .eq (bif (ifCond.holds .eq (u2 &&& (1 : Int32))) then (0 : Int32) else (1 : Int32))) then u1 else (u1 ||| (-9223372036854775808 : Int64))))])) t → Steps p.tables e below (s₁.setTop (entryFrame m #[(.long u1), (.int u2)] maxLocals)) t := by
    intro t k
    refine pre4 t ?_
    show Steps p.tables e below (s₁.setTop (mkF m 13 #[.val (.long u1), .second, .val (.int u2), .val (.int (bif (ifCond.holds .eq (u2 &&& (1 : Int32))) then (0 : Int32) else (1 : Int32))), .unset, .unset, .unset, .unset] [(.int (bif (ifCond.holds .eq (u2 &&& (1 : Int32))) then (0 : Int32) else (1 : Int32)))])) _
    rcases Bool.eq_false_or_eq_true (ifCond.holds .eq (bif (ifCond.holds .eq (u2 &&& (1 : Int32))) then (0 : Int32) else (1 : Int32))) with hb13_5 | hb13_5
    · refine XS.ifYes X0.here hx rfl (pc0 := 13) (pc' := 24) rfl (hb hby at_13) rfl hb13_5 (by decide) (by decide) ?_
      show Steps p.tables e below (s₁.setTop (mkF m 24 #[.val (.long u1), .second, .val (.int u2), .val (.int (bif (ifCond.holds .eq (u2 &&& (1 : Int32))) then (0 : Int32) else (1 : Int32))), .unset, .unset, .unset, .unset] [])) _
      refine XS.lloadN X0.here hx rfl (hb hby at_24) rfl ?_
      have k : Steps p.tables e below (s₁.setTop (mkF m 25 #[.val (.long u1), .second, .val (.int u2), .val (.int (bif (ifCond.holds .eq (u2 &&& (1 : Int32))) then (0 : Int32) else (1 : Int32))), .unset, .unset, .unset, .unset] [(.long u1)])) t := by simpa only [hb13_5, cond_true, cond_false] using k
      exact k
    · refine XS.ifNo X0.here hx rfl (hb hby at_13) rfl hb13_5 ?_
      show Steps p.tables e below (s₁.setTop (mkF m 16 #[.val (.long u1), .second, .val (.int u2), .val (.int (bif (ifCond.holds .eq (u2 &&& (1 : Int32))) then (0 : Int32) else (1 : Int32))), .unset, .unset, .unset, .unset] [])) _
      refine XS.lloadN X0.here hx rfl (hb hby at_16) rfl ?_
      show Steps p.tables e below (s₁.setTop (mkF m 17 #[.val (.long u1), .second, .val (.int u2), .val (.int (bif (ifCond.holds .eq (u2 &&& (1 : Int32))) then (0 : Int32) else (1 : Int32))), .unset, .unset, .unset, .unset] [(.long u1)])) _
      refine X0.ldc2Long hx hown (mvT hZ (own_w hw 23 rfl)) (g := (mkF m 17 #[.val (.long u1), .second, .val (.int u2), .val (.int (bif (ifCond.holds .eq (u2 &&& (1 : Int32))) then (0 : Int32) else (1 : Int32))), .unset, .unset, .unset, .unset] [(.long u1)])) rfl (hb hby at_17) _ ?_
      show Steps p.tables e below (s₁.setTop (mkF m 20 #[.val (.long u1), .second, .val (.int u2), .val (.int (bif (ifCond.holds .eq (u2 &&& (1 : Int32))) then (0 : Int32) else (1 : Int32))), .unset, .unset, .unset, .unset] [(.long (-9223372036854775808 : Int64)), (.long u1)])) _
      refine XS.lor X0.here hx rfl (hb hby at_20) rfl ?_
      show Steps p.tables e below (s₁.setTop (mkF m 21 #[.val (.long u1), .second, .val (.int u2), .val (.int (bif (ifCond.holds .eq (u2 &&& (1 : Int32))) then (0 : Int32) else (1 : Int32))), .unset, .unset, .unset, .unset] [(.long (u1 ||| (-9223372036854775808 : Int64)))])) _
      refine XS.goto X0.here hx rfl (pc0 := 21) (pc' := 25) rfl (hb hby at_21) (by decide) (by decide) ?_
      have k : Steps p.tables e below (s₁.setTop (mkF m 25 #[.val (.long u1), .second, .val (.int u2), .val (.int (bif (ifCond.holds .eq (u2 &&& (1 : Int32))) then (0 : Int32) else (1 : Int32))), .unset, .unset, .unset, .unset] [(.long (u1 ||| (-9223372036854775808 : Int64)))])) t := by simpa only [hb13_5, cond_true, cond_false] using k
      exact k
  obtain ⟨T7, h7, X7, e7, E7, A7, D7, -, st7⟩ := newO X0 hx hZ hown (own_w hw 0 rfl) (own_w hw 1 rfl) (own_w hw 2 rfl) e0 (g := (mkF m 27 #[.val (.long u1), .second, .val (.int u2), .val (.int (bif (ifCond.holds .eq (u2 &&& (1 : Int32))) then (0 : Int32) else (1 : Int32))), .val (.long (bif (ifCond.holds .eq (bif (ifCond.holds .eq (u2 &&& (1 : Int32))) then (0 : Int32) else (1 : Int32))) then u1 else (u1 ||| (-9223372036854775808 : Int64)))), .second, .unset, .unset] [])) rfl (hb hby at_27) (by decide) (by decide)
  obtain ⟨b7, g7⟩ : ∃ z, z = h0.size := ⟨_, rfl⟩
  rw [← g7] at A7 D7 st7
  have fr_b7 : n0 ≤ b7 := Nat.le_trans Z0 (Nat.le_of_eq g7.symm)
  have Z7 : n0 ≤ h7.size := Nat.le_trans Z0 E7.1
  have F_bits_b7 : Fld Z h7 b7 "com/example/knotwire/knotwire/IntValue" "bits" "J" (.long (0 : Int64)) := D7 (Or.inr (own_w hw 15 rfl)) (ty := .long) (by decide)
  have F_negative_b7 : Fld Z h7 b7 "com/example/knotwire/knotwire/IntValue" "negative" "Z" (.int (0 : Int32)) := D7 (Or.inr (own_w hw 17 rfl)) (ty := .boolean) (by decide)
  obtain ⟨_, _, ⟨T8, L8, k8, n8⟩, -, X8, ⟨Lc8, hQ8, l8, y8, z8⟩, st8⟩ := X7.specialBack hx (y := (⟨"com/example/knotwire/knotwire/IntValue", "<init>", "(JZ)V"⟩ : MethodName)) rfl hown (mvT hZ (own_w hw 3 rfl)) (mvT hZ (own_w hw 4 rfl)) (mvT hZ (own_w hw 5 rfl)) (by decide) (backOf (W := 1) (rm_init l Z a0 hw [] b7 (bif (ifCond.holds .eq (bif (ifCond.holds .eq (u2 &&& (1 : Int32))) then (0 : Int32) else (1 : Int32))) then u1 else (u1 ||| (-9223372036854775808 : Int64))) (bif (ifCond.holds .eq (u2 &&& (1 : Int32))) then (0 : Int32) else (1 : Int32)) h7 n0 Z7 F_bits_b7 F_negative_b7 A7 fr_b7 (own_neg u1 u2)) hZ (own_w hw 5 rfl) (own_w hw 2 rfl) (by decide) (by decide)) (g := (mkF m 34 #[.val (.long u1), .second, .val (.int u2), .val (.int (bif (ifCond.holds .eq (u2 &&& (1 : Int32))) then (0 : Int32) else (1 : Int32))), .val (.long (bif (ifCond.holds .eq (bif (ifCond.holds .eq (u2 &&& (1 : Int32))) then (0 : Int32) else (1 : Int32))) then u1 else (u1 ||| (-9223372036854775808 : Int64)))), .second, .unset, .unset] [(.int (bif (ifCond.holds .eq (u2 &&& (1 : Int32))) then (0 : Int32) else (1 : Int32))), (.long (bif (ifCond.holds .eq (bif (ifCond.holds .eq (u2 &&& (1 : Int32))) then (0 : Int32) else (1 : Int32))) then u1 else (u1 ||| (-9223372036854775808 : Int64)))), (.ref b7), (.ref b7)])) rfl (by rw [hml]; rfl) (Steps.refl _) (a := b7) (argsL := [(.long (bif (ifCond.holds .eq (bif (ifCond.holds .eq (u2 &&& (1 : Int32))) then (0 : Int32) else (1 : Int32))) then u1 else (u1 ||| (-9223372036854775808 : Int64)))), (.int (bif (ifCond.holds .eq (u2 &&& (1 : Int32))) then (0 : Int32) else (1 : Int32)))]) (rest := [(.ref b7)]) (lenOf pd_869680 rfl) rfl (by show 2 * 0 + _ ≤ _; exact Nat.le_of_eq rfl) (hb hby at_34) (fun _ _ => ⟨rfl, e7, (by decide : 1 + 0 ≤ _), (by decide : 2 + 0 ≤ _)⟩)
  dsimp only [Pt.U, Pt.locs, Pt.cells, Pt.slots] at X8 l8 y8 z8 st8 hQ8
  subst l8 y8 z8
  obtain ⟨rfl, Nq8, Kq8, Fa8, Fb8⟩ := hQ8
  have N8 := Fr.app N0 Nq8
  have Z8 : n0 ≤ T8.heap.size := Nat.le_trans Z7 Kq8.1
  have pre9 : ∀ t, Steps p.tables e below (T8.setTop (mkF m 40 #[.val (.long u1), .second, .val (.int u2), .val (.int (bif (ifCond.holds .eq (u2 &&& (1 : Int32))) then (0 : Int32) else (1 : Int32))), .val (.long (bif (ifCond.holds .eq (bif (ifCond.holds .eq (u2 &&& (1 : Int32))) then (0 : Int32) else (1 : Int32))) then u1 else (u1 ||| (-9223372036854775808 : Int64)))), .second, .val (.ref b7), .unset] [(.int (bif (ifCond.holds .eq (u2 &&& (1 : Int32))) then (0 : Int32) else (1 : Int32)))])) t → Steps p.tables e below (s₁.setTop (entryFrame m #[(.long u1), (.int u2)] maxLocals)) t := by
    intro t k
    refine pre6 t ?_
    show Steps p.tables e below (s₁.setTop (mkF m 25 #[.val (.long u1), .second, .val (.int u2), .val (.int (bif (ifCond.holds .eq (u2 &&& (1 : Int32))) then (0 : Int32) else (1 : Int32))), .unset, .unset, .unset, .unset] [(.long (bif (ifCond.holds .eq (bif (ifCond.holds .eq (u2 &&& (1 : Int32))) then (0 : Int32) else (1 : Int32))) then u1 else (u1 ||| (-9223372036854775808 : Int64))))])) _
    refine XS.lstore X0.here hx rfl (hb hby at_25) rfl (l' := #[.val (.long u1), .second, .val (.int u2), .val (.int (bif (ifCond.holds .eq (u2 &&& (1 : Int32))) then (0 : Int32) else (1 : Int32))), .val (.long (bif (ifCond.holds .eq (bif (ifCond.holds .eq (u2 &&& (1 : Int32))) then (0 : Int32) else (1 : Int32))) then u1 else (u1 ||| (-9223372036854775808 : Int64)))), .second, .unset, .unset]) rfl ?_
    show Steps p.tables e below (s₁.setTop (mkF m 27 #[.val (.long u1), .second, .val (.int u2), .val (.int (bif (ifCond.holds .eq (u2 &&& (1 : Int32))) then (0 : Int32) else (1 : Int32))), .val (.long (bif (ifCond.holds .eq (bif (ifCond.holds .eq (u2 &&& (1 : Int32))) then (0 : Int32) else (1 : Int32))) then u1 else (u1 ||| (-9223372036854775808 : Int64)))), .second, .unset, .unset] [])) _
    refine st7 _ ?_
    show Steps p.tables e below (T7.setTop (mkF m 30 #[.val (.long u1), .second, .val (.int u2), .val (.int (bif (ifCond.holds .eq (u2 &&& (1 : Int32))) then (0 : Int32) else (1 : Int32))), .val (.long (bif (ifCond.holds .eq (bif (ifCond.holds .eq (u2 &&& (1 : Int32))) then (0 : Int32) else (1 : Int32))) then u1 else (u1 ||| (-9223372036854775808 : Int64)))), .second, .unset, .unset] [(.ref b7)])) _
    refine XS.dup X7.here hx rfl (hb hby at_30) rfl rfl ?_
    show Steps p.tables e below (T7.setTop (mkF m 31 #[.val (.long u1), .second, .val (.int u2), .val (.int (bif (ifCond.holds .eq (u2 &&& (1 : Int32))) then (0 : Int32) else (1 : Int32))), .val (.long (bif (ifCond.holds .eq (bif (ifCond.holds .eq (u2 &&& (1 : Int32))) then (0 : Int32) else (1 : Int32))) then u1 else (u1 ||| (-9223372036854775808 : Int64)))), .second, .unset, .unset] [(.ref b7), (.ref b7)])) _
    refine XS.lload X7.here hx rfl (hb hby at_31) rfl ?_
    show Steps p.tables e below (T7.setTop (mkF m 33 #[.val (.long u1), .second, .val (.int u2), .val (.int (bif (ifCond.holds .eq (u2 &&& (1 : Int32))) then (0 : Int32) else (1 : Int32))), .val (.long (bif (ifCond.holds .eq (bif (ifCond.holds .eq (u2 &&& (1 : Int32))) then (0 : Int32) else (1 : Int32))) then u1 else (u1 ||| (-9223372036854775808 : Int64)))), .second, .unset, .unset] [(.long (bif (ifCond.holds .eq (bif (ifCond.holds .eq (u2 &&& (1 : Int32))) then (0 : Int32) else (1 : Int32))) then u1 else (u1 ||| (-9223372036854775808 : Int64)))), (.ref b7), (.ref b7)])) _
    refine XS.iloadN X7.here hx rfl (hb hby at_33) rfl ?_
    show Steps p.tables e below (T7.setTop (mkF m 34 #[.val (.long u1), .second, .val (.int u2), .val (.int (bif (ifCond.holds .eq (u2 &&& (1 : Int32))) then (0 : Int32) else (1 : Int32))), .val (.long (bif (ifCond.holds .eq (bif (ifCond.holds .eq (u2 &&& (1 : Int32))) then (0 : Int32) else (1 : Int32))) then u1 else (u1 ||| (-9223372036854775808 : Int64)))), .second, .unset, .unset] [(.int (bif (ifCond.holds .eq (u2 &&& (1 : Int32))) then (0 : Int32) else (1 : Int32))), (.long (bif (ifCond.holds .eq (bif (ifCond.holds .eq (u2 &&& (1 : Int32))) then (0 : Int32) else (1 : Int32))) then u1 else (u1 ||| (-9223372036854775808 : Int64)))), (.ref b7), (.ref b7)])) _
    refine st8.trans ?_
    show Steps p.tables e below (T8.setTop (mkF m 37 #[.val (.long u1), .second, .val (.int u2), .val (.int (bif (ifCond.holds .eq (u2 &&& (1 : Int32))) then (0 : Int32) else (1 : Int32))), .val (.long (bif (ifCond.holds .eq (bif (ifCond.holds .eq (u2 &&& (1 : Int32))) then (0 : Int32) else (1 : Int32))) then u1 else (u1 ||| (-9223372036854775808 : Int64)))), .second, .unset, .unset] [(.ref b7)])) _
    refine XS.astore X8.here hx rfl (hb hby at_37) rfl rfl (l' := #[.val (.long u1), .second, .val (.int u2), .val (.int (bif (ifCond.holds .eq (u2 &&& (1 : Int32))) then (0 : Int32) else (1 : Int32))), .val (.long (bif (ifCond.holds .eq (bif (ifCond.holds .eq (u2 &&& (1 : Int32))) then (0 : Int32) else (1 : Int32))) then u1 else (u1 ||| (-9223372036854775808 : Int64)))), .second, .val (.ref b7), .unset]) rfl ?_
    show Steps p.tables e below (T8.setTop (mkF m 39 #[.val (.long u1), .second, .val (.int u2), .val (.int (bif (ifCond.holds .eq (u2 &&& (1 : Int32))) then (0 : Int32) else (1 : Int32))), .val (.long (bif (ifCond.holds .eq (bif (ifCond.holds .eq (u2 &&& (1 : Int32))) then (0 : Int32) else (1 : Int32))) then u1 else (u1 ||| (-9223372036854775808 : Int64)))), .second, .val (.ref b7), .unset] [])) _
    refine XS.iloadN X8.here hx rfl (hb hby at_39) rfl ?_
    exact k
  have pre12 : ∀ t, Steps p.tables e below (T8.setTop (mkF m 66 #[.val (.long u1), .second, .val (.int u2), .val (.int (bif (ifCond.holds .eq (u2 &&& (1 : Int32))) then (0 : Int32) else (1 : Int32))), .val (.long (bif (ifCond.holds .eq (bif (ifCond.holds .eq (u2 &&& (1 : Int32))) then (0 : Int32) else (1 : Int32))) then u1 else (u1 ||| (-9223372036854775808 : Int64)))), .second, .val (.ref b7), .val (.int (bif (ifCond.holds .eq (bif (ifCond.holds .eq (u2 &&& (1 : Int32))) then (0 : Int32) else (1 : Int32))) then (bif (ifCond.holds .ne (lcmpW (((bif (ifCond.holds .eq (bif (ifCond.holds .eq (u2 &&& (1 : Int32))) then (0 : Int32) else (1 : Int32))) then u1 else (u1 ||| (-9223372036854775808 : Int64))).toUInt64 >>> ((63 : Int32) &&& 0x3f).toInt64.toUInt64).toInt64) (0 : Int64))) then (0 : Int32) else (1 : Int32)) else (1 : Int32)))] [])) t → Steps p.tables e below (s₁.setTop (entryFrame m #[(.long u1), (.int u2)] maxLocals)) t := by
    intro t k
    refine pre9 t ?_
    show Steps p.tables e below (T8.setTop (mkF m 40 #[.val (.long u1), .second, .val (.int u2), .val (.int (bif (ifCond.holds .eq (u2 &&& (1 : Int32))) then (0 : Int32) else (1 : Int32))), .val (.long (bif (ifCond.holds .eq (bif (ifCond.holds .eq (u2 &&& (1 : Int32))) then (0 : Int32) else (1 : Int32))) then u1 else (u1 ||| (-9223372036854775808 : Int64)))), .second, .val (.ref b7), .unset] [(.int (bif (ifCond.holds .eq (u2 &&& (1 : Int32))) then (0 : Int32) else (1 : Int32)))])) _
    rcases Bool.eq_false_or_eq_true (ifCond.holds .eq (bif (ifCond.holds .eq (u2 &&& (1 : Int32))) then (0 : Int32) else (1 : Int32))) with hb40_10 | hb40_10
    · refine XS.ifYes X8.here hx rfl (pc0 := 40) (pc' := 49) rfl (hb hby at_40) rfl hb40_10 (by decide) (by decide) ?_
      show Steps p.tables e below (T8.setTop (mkF m 49 #[.val (.long u1), .second, .val (.int u2), .val (.int (bif (ifCond.holds .eq (u2 &&& (1 : Int32))) then (0 : Int32) else (1 : Int32))), .val (.long (bif (ifCond.holds .eq (bif (ifCond.holds .eq (u2 &&& (1 : Int32))) then (0 : Int32) else (1 : Int32))) then u1 else (u1 ||| (-9223372036854775808 : Int64)))), .second, .val (.ref b7), .unset] [])) _
      refine XS.lload X8.here hx rfl (hb hby at_49) rfl ?_
      show Steps p.tables e below (T8.setTop (mkF m 51 #[.val (.long u1), .second, .val (.int u2), .val (.int (bif (ifCond.holds .eq (u2 &&& (1 : Int32))) then (0 : Int32) else (1 : Int32))), .val (.long (bif (ifCond.holds .eq (bif (ifCond.holds .eq (u2 &&& (1 : Int32))) then (0 : Int32) else (1 : Int32))) then u1 else (u1 ||| (-9223372036854775808 : Int64)))), .second, .val (.ref b7), .unset] [(.long (bif (ifCond.holds .eq (bif (ifCond.holds .eq (u2 &&& (1 : Int32))) then (0 : Int32) else (1 : Int32))) then u1 else (u1 ||| (-9223372036854775808 : Int64))))])) _
      refine XS.bipush X8.here hx rfl (hb hby at_51) ?_
      show Steps p.tables e below (T8.setTop (mkF m 53 #[.val (.long u1), .second, .val (.int u2), .val (.int (bif (ifCond.holds .eq (u2 &&& (1 : Int32))) then (0 : Int32) else (1 : Int32))), .val (.long (bif (ifCond.holds .eq (bif (ifCond.holds .eq (u2 &&& (1 : Int32))) then (0 : Int32) else (1 : Int32))) then u1 else (u1 ||| (-9223372036854775808 : Int64)))), .second, .val (.ref b7), .unset] [(.int (63 : Int32)), (.long (bif (ifCond.holds .eq (bif (ifCond.holds .eq (u2 &&& (1 : Int32))) then (0 : Int32) else (1 : Int32))) then u1 else (u1 ||| (-9223372036854775808 : Int64))))])) _
      refine XS.lushr X8.here hx rfl (hb hby at_53) rfl ?_
      show Steps p.tables e below (T8.setTop (mkF m 54 #[.val (.long u1), .second, .val (.int u2), .val (.int (bif (ifCond.holds .eq (u2 &&& (1 : Int32))) then (0 : Int32) else (1 : Int32))), .val (.long (bif (ifCond.holds .eq (bif (ifCond.holds .eq (u2 &&& (1 : Int32))) then (0 : Int32) else (1 : Int32))) then u1 else (u1 ||| (-9223372036854775808 : Int64)))), .second, .val (.ref b7), .unset] [(.long (((bif (ifCond.holds .eq (bif (ifCond.holds .eq (u2 &&& (1 : Int32))) then (0 : Int32) else (1 : Int32))) then u1 else (u1 ||| (-9223372036854775808 : Int64))).toUInt64 >>> ((63 : Int32) &&& 0x3f).toInt64.toUInt64).toInt64))])) _
      refine XS.lconst X8.here hx rfl (hb hby at_54) ?_
      show Steps p.tables e below (T8.setTop (mkF m 55 #[.val (.long u1), .second, .val (.int u2), .val (.int (bif (ifCond.holds .eq (u2 &&& (1 : Int32))) then (0 : Int32) else (1 : Int32))), .val (.long (bif (ifCond.holds .eq (bif (ifCond.holds .eq (u2 &&& (1 : Int32))) then (0 : Int32) else (1 : Int32))) then u1 else (u1 ||| (-9223372036854775808 : Int64)))), .second, .val (.ref b7), .unset] [(.long (0 : Int64)), (.long (((bif (ifCond.holds .eq (bif (ifCond.holds .eq (u2 &&& (1 : Int32))) then (0 : Int32) else (1 : Int32))) then u1 else (u1 ||| (-9223372036854775808 : Int64))).toUInt64 >>> ((63 : Int32) &&& 0x3f).toInt64.toUInt64).toInt64))])) _
      refine XS.lcmp X8.here hx rfl (hb hby at_55) rfl ?_
      show Steps p.tables e below (T8.setTop (mkF m 56 #[.val (.long u1), .second, .val (.int u2), .val (.int (bif (ifCond.holds .eq (u2 &&& (1 : Int32))) then (0 : Int32) else (1 : Int32))), .val (.long (bif (ifCond.holds .eq (bif (ifCond.holds .eq (u2 &&& (1 : Int32))) then (0 : Int32) else (1 : Int32))) then u1 else (u1 ||| (-9223372036854775808 : Int64)))), .second, .val (.ref b7), .unset] [(.int (lcmpW (((bif (ifCond.holds .eq (bif (ifCond.holds .eq (u2 &&& (1 : Int32))) then (0 : Int32) else (1 : Int32))) then u1 else (u1 ||| (-9223372036854775808 : Int64))).toUInt64 >>> ((63 : Int32) &&& 0x3f).toInt64.toUInt64).toInt64) (0 : Int64)))])) _
      rcases Bool.eq_false_or_eq_true (ifCond.holds .ne (lcmpW (((bif (ifCond.holds .eq (bif (ifCond.holds .eq (u2 &&& (1 : Int32))) then (0 : Int32) else (1 : Int32))) then u1 else (u1 ||| (-9223372036854775808 : Int64))).toUInt64 >>> ((63 : Int32) &&& 0x3f).toInt64.toUInt64).toInt64) (0 : Int64))) with hb56_11 | hb56_11
      · refine XS.ifYes X8.here hx rfl (pc0 := 56) (pc' := 63) rfl (hb hby at_56) rfl hb56_11 (by decide) (by decide) ?_
        show Steps p.tables e below (T8.setTop (mkF m 63 #[.val (.long u1), .second, .val (.int u2), .val (.int (bif (ifCond.holds .eq (u2 &&& (1 : Int32))) then (0 : Int32) else (1 : Int32))), .val (.long (bif (ifCond.holds .eq (bif (ifCond.holds .eq (u2 &&& (1 : Int32))) then (0 : Int32) else (1 : Int32))) then u1 else (u1 ||| (-9223372036854775808 : Int64)))), .second, .val (.ref b7), .unset] [])) _
        refine XS.iconst X8.here hx rfl (hb hby at_63) ?_
        show Steps p.tables e below (T8.setTop (mkF m 64 #[.val (.long u1), .second, .val (.int u2), .val (.int (bif (ifCond.holds .eq (u2 &&& (1 : Int32))) then (0 : Int32) else (1 : Int32))), .val (.long (bif (ifCond.holds .eq (bif (ifCond.holds .eq (u2 &&& (1 : Int32))) then (0 : Int32) else (1 : Int32))) then u1 else (u1 ||| (-9223372036854775808 : Int64)))), .second, .val (.ref b7), .unset] [(.int (0 : Int32))])) _
        refine XS.istore X8.here hx rfl (hb hby at_64) rfl (l' := #[.val (.long u1), .second, .val (.int u2), .val (.int (bif (ifCond.holds .eq (u2 &&& (1 : Int32))) then (0 : Int32) else (1 : Int32))), .val (.long (bif (ifCond.holds .eq (bif (ifCond.holds .eq (u2 &&& (1 : Int32))) then (0 : Int32) else (1 : Int32))) then u1 else (u1 ||| (-9223372036854775808 : Int64)))), .second, .val (.ref b7), .val (.int (0 : Int32))]) rfl ?_
        have k : Steps p.tables e below (T8.setTop (mkF m 66 #[.val (.long u1), .second, .val (.int u2), .val (.int (bif (ifCond.holds .eq (u2 &&& (1 : Int32))) then (0 : Int32) else (1 : Int32))), .val (.long (bif (ifCond.holds .eq (bif (ifCond.holds .eq (u2 &&& (1 : Int32))) then (0 : Int32) else (1 : Int32))) then u1 else (u1 ||| (-9223372036854775808 : Int64)))), .second, .val (.ref b7), .val (.int (0 : Int32))] [])) t := by (try simp only [hb56_11] at k); simpa only [hb40_10, hb56_11, cond_true, cond_false] using k
        exact k
      · refine XS.ifNo X8.here hx rfl (hb hby at_56) rfl hb56_11 ?_
        show Steps p.tables e below (T8.setTop (mkF m 59 #[.val (.long u1), .second, .val (.int u2), .val (.int (bif (ifCond.holds .eq (u2 &&& (1 : Int32))) then (0 : Int32) else (1 : Int32))), .val (.long (bif (ifCond.holds .eq (bif (ifCond.holds .eq (u2 &&& (1 : Int32))) then (0 : Int32) else (1 : Int32))) then u1 else (u1 ||| (-9223372036854775808 : Int64)))), .second, .val (.ref b7), .unset] [])) _
        refine XS.iconst X8.here hx rfl (hb hby at_59) ?_
        show Steps p.tables e below (T8.setTop (mkF m 60 #[.val (.long u1), .second, .val (.int u2), .val (.int (bif (ifCond.holds .eq (u2 &&& (1 : Int32))) then (0 : Int32) else (1 : Int32))), .val (.long (bif (ifCond.holds .eq (bif (ifCond.holds .eq (u2 &&& (1 : Int32))) then (0 : Int32) else (1 : Int32))) then u1 else (u1 ||| (-9223372036854775808 : Int64)))), .second, .val (.ref b7), .unset] [(.int (1 : Int32))])) _
        refine XS.goto X8.here hx rfl (pc0 := 60) (pc' := 64) rfl (hb hby at_60) (by decide) (by decide) ?_
        show Steps p.tables e below (T8.setTop (mkF m 64 #[.val (.long u1), .second, .val (.int u2), .val (.int (bif (ifCond.holds .eq (u2 &&& (1 : Int32))) then (0 : Int32) else (1 : Int32))), .val (.long (bif (ifCond.holds .eq (bif (ifCond.holds .eq (u2 &&& (1 : Int32))) then (0 : Int32) else (1 : Int32))) then u1 else (u1 ||| (-9223372036854775808 : Int64)))), .second, .val (.ref b7), .unset] [(.int (1 : Int32))])) _
        refine XS.istore X8.here hx rfl (hb hby at_64) rfl (l' := #[.val (.long u1), .second, .val (.int u2), .val (.int (bif (ifCond.holds .eq (u2 &&& (1 : Int32))) then (0 : Int32) else (1 : Int32))), .val (.long (bif (ifCond.holds .eq (bif (ifCond.holds .eq (u2 &&& (1 : Int32))) then (0 : Int32) else (1 : Int32))) then u1 else (u1 ||| (-9223372036854775808 : Int64)))), .second, .val (.ref b7), .val (.int (1 : Int32))]) rfl ?_
        have k : Steps p.tables e below (T8.setTop (mkF m 66 #[.val (.long u1), .second, .val (.int u2), .val (.int (bif (ifCond.holds .eq (u2 &&& (1 : Int32))) then (0 : Int32) else (1 : Int32))), .val (.long (bif (ifCond.holds .eq (bif (ifCond.holds .eq (u2 &&& (1 : Int32))) then (0 : Int32) else (1 : Int32))) then u1 else (u1 ||| (-9223372036854775808 : Int64)))), .second, .val (.ref b7), .val (.int (1 : Int32))] [])) t := by (try simp only [hb56_11] at k); simpa only [hb40_10, hb56_11, cond_true, cond_false] using k
        exact k
    · refine XS.ifNo X8.here hx rfl (hb hby at_40) rfl hb40_10 ?_
      show Steps p.tables e below (T8.setTop (mkF m 43 #[.val (.long u1), .second, .val (.int u2), .val (.int (bif (ifCond.holds .eq (u2 &&& (1 : Int32))) then (0 : Int32) else (1 : Int32))), .val (.long (bif (ifCond.holds .eq (bif (ifCond.holds .eq (u2 &&& (1 : Int32))) then (0 : Int32) else (1 : Int32))) then u1 else (u1 ||| (-9223372036854775808 : Int64)))), .second, .val (.ref b7), .unset] [])) _
      refine XS.iconst X8.here hx rfl (hb hby at_43) ?_
      show Steps p.tables e below (T8.setTop (mkF m 44 #[.val (.long u1), .second, .val (.int u2), .val (.int (bif (ifCond.holds .eq (u2 &&& (1 : Int32))) then (0 : Int32) else (1 : Int32))), .val (.long (bif (ifCond.holds .eq (bif (ifCond.holds .eq (u2 &&& (1 : Int32))) then (0 : Int32) else (1 : Int32))) then u1 else (u1 ||| (-9223372036854775808 : Int64)))), .second, .val (.ref b7), .unset] [(.int (1 : Int32))])) _
      refine XS.istore X8.here hx rfl (hb hby at_44) rfl (l' := #[.val (.long u1), .second, .val (.int u2), .val (.int (bif (ifCond.holds .eq (u2 &&& (1 : Int32))) then (0 : Int32) else (1 : Int32))), .val (.long (bif (ifCond.holds .eq (bif (ifCond.holds .eq (u2 &&& (1 : Int32))) then (0 : Int32) else (1 : Int32))) then u1 else (u1 ||| (-9223372036854775808 : Int64)))), .second, .val (.ref b7), .val (.int (1 : Int32))]) rfl ?_
      show Steps p.tables e below (T8.setTop (mkF m 46 #[.val (.long u1), .second, .val (.int u2), .val (.int (bif (ifCond.holds .eq (u2 &&& (1 : Int32))) then (0 : Int32) else (1 : Int32))), .val (.long (bif (ifCond.holds .eq (bif (ifCond.holds .eq (u2 &&& (1 : Int32))) then (0 : Int32) else (1 : Int32))) then u1 else (u1 ||| (-9223372036854775808 : Int64)))), .second, .val (.ref b7), .val (.int (1 : Int32))] [])) _
      refine XS.goto X8.here hx rfl (pc0 := 46) (pc' := 66) rfl (hb hby at_46) (by decide) (by decide) ?_
      have k : Steps p.tables e below (T8.setTop (mkF m 66 #[.val (.long u1), .second, .val (.int u2), .val (.int (bif (ifCond.holds .eq (u2 &&& (1 : Int32))) then (0 : Int32) else (1 : Int32))), .val (.long (bif (ifCond.holds .eq (bif (ifCond.holds .eq (u2 &&& (1 : Int32))) then (0 : Int32) else (1 : Int32))) then u1 else (u1 ||| (-9223372036854775808 : Int64)))), .second, .val (.ref b7), .val (.int (1 : Int32))] [])) t := by simpa only [hb40_10, cond_true, cond_false] using k
      exact k
  obtain ⟨cq13, kq13, q13a, q13b, q13c⟩ := isOf hZ rfl (A7.keep Kq8)
  obtain ⟨_, _, ⟨T13, L13, k13, n13⟩, -, X13, ⟨Lc13, hQ13, l13, y13, z13⟩, st13⟩ := X8.virtualBack hx (y := (⟨"com/example/knotwire/knotwire/IntValue", "fitsLong", "()Z"⟩ : MethodName)) (z := (⟨"com/example/knotwire/knotwire/IntValue", "fitsLong", "()Z"⟩ : MethodName)) hown (mvT hZ (own_w hw 18 rfl)) (mvT hZ (own_w hw 19 rfl)) (notFace_of_selects (args := #[]) (mvT hZ (own_w hw 21 rfl))) (mvT hZ (own_w hw 21 rfl)) (mvT hZ (own_w hw 20 rfl)) (by decide) (backOf (W := 0) (rm_fits l Z a0 hw [] b7 (bif (ifCond.holds .eq (bif (ifCond.holds .eq (u2 &&& (1 : Int32))) then (0 : Int32) else (1 : Int32))) then u1 else (u1 ||| (-9223372036854775808 : Int64))) (nar .boolean (bif (ifCond.holds .eq (u2 &&& (1 : Int32))) then (0 : Int32) else (1 : Int32))) T8.heap n0 Z8 Fa8 Fb8) hZ (own_w hw 22 rfl) (own_w hw 2 rfl) (by decide) (by decide)) q13a q13c (g := (mkF m 68 #[.val (.long u1), .second, .val (.int u2), .val (.int (bif (ifCond.holds .eq (u2 &&& (1 : Int32))) then (0 : Int32) else (1 : Int32))), .val (.long (bif (ifCond.holds .eq (bif (ifCond.holds .eq (u2 &&& (1 : Int32))) then (0 : Int32) else (1 : Int32))) then u1 else (u1 ||| (-9223372036854775808 : Int64)))), .second, .val (.ref b7), .val (.int (bif (ifCond.holds .eq (bif (ifCond.holds .eq (u2 &&& (1 : Int32))) then (0 : Int32) else (1 : Int32))) then (bif (ifCond.holds .ne (lcmpW (((bif (ifCond.holds .eq (bif (ifCond.holds .eq (u2 &&& (1 : Int32))) then (0 : Int32) else (1 : Int32))) then u1 else (u1 ||| (-9223372036854775808 : Int64))).toUInt64 >>> ((63 : Int32) &&& 0x3f).toInt64.toUInt64).toInt64) (0 : Int64))) then (0 : Int32) else (1 : Int32)) else (1 : Int32)))] [(.ref b7)])) rfl (by rw [hml]; rfl) (Steps.refl _) (argsL := []) (rest := []) (lenOf pd_691901 rfl) rfl (by show 2 * 0 + _ ≤ _; exact Nat.le_of_eq rfl) (hb hby at_68) (fun _ _ => ⟨rfl, rfl, (by decide : 1 + 0 ≤ _), (by decide : 2 + 0 ≤ _)⟩)
  dsimp only [Pt.U, Pt.locs, Pt.cells, Pt.slots] at X13 l13 y13 z13 st13 hQ13
  subst l13 y13 z13
  obtain ⟨rfl, Nq13, eq13⟩ := hQ13
  have N13 := Fr.app N8 Nq13
  have pre14 : ∀ t, Steps p.tables e below (T13.setTop (mkF m 73 #[.val (.long u1), .second, .val (.int u2), .val (.int (bif (ifCond.holds .eq (u2 &&& (1 : Int32))) then (0 : Int32) else (1 : Int32))), .val (.long (bif (ifCond.holds .eq (bif (ifCond.holds .eq (u2 &&& (1 : Int32))) then (0 : Int32) else (1 : Int32))) then u1 else (u1 ||| (-9223372036854775808 : Int64)))), .second, .val (.ref b7), .val (.int (bif (ifCond.holds .eq (bif (ifCond.holds .eq (u2 &&& (1 : Int32))) then (0 : Int32) else (1 : Int32))) then (bif (ifCond.holds .ne (lcmpW (((bif (ifCond.holds .eq (bif (ifCond.holds .eq (u2 &&& (1 : Int32))) then (0 : Int32) else (1 : Int32))) then u1 else (u1 ||| (-9223372036854775808 : Int64))).toUInt64 >>> ((63 : Int32) &&& 0x3f).toInt64.toUInt64).toInt64) (0 : Int64))) then (0 : Int32) else (1 : Int32)) else (1 : Int32)))] [(.int (bif (ifCond.holds .eq (bif (ifCond.holds .eq (u2 &&& (1 : Int32))) then (0 : Int32) else (1 : Int32))) then (bif (ifCond.holds .ne (lcmpW (((bif (ifCond.holds .eq (bif (ifCond.holds .eq (u2 &&& (1 : Int32))) then (0 : Int32) else (1 : Int32))) then u1 else (u1 ||| (-9223372036854775808 : Int64))).toUInt64 >>> ((63 : Int32) &&& 0x3f).toInt64.toUInt64).toInt64) (0 : Int64))) then (0 : Int32) else (1 : Int32)) else (1 : Int32))), (.int (nar .boolean (bif (ifCond.holds .ne (nar .boolean (bif (ifCond.holds .eq (u2 &&& (1 : Int32))) then (0 : Int32) else (1 : Int32)))) then (1 : Int32) else (bif (ifCond.holds .lt (lcmpW (bif (ifCond.holds .eq (bif (ifCond.holds .eq (u2 &&& (1 : Int32))) then (0 : Int32) else (1 : Int32))) then u1 else (u1 ||| (-9223372036854775808 : Int64))) (0 : Int64))) then (0 : Int32) else (1 : Int32)))))])) t → Steps p.tables e below (s₁.setTop (entryFrame m #[(.long u1), (.int u2)] maxLocals)) t := by
    intro t k
    refine pre12 t ?_
    show Steps p.tables e below (T8.setTop (mkF m 66 #[.val (.long u1), .second, .val (.int u2), .val (.int (bif (ifCond.holds .eq (u2 &&& (1 : Int32))) then (0 : Int32) else (1 : Int32))), .val (.long (bif (ifCond.holds .eq (bif (ifCond.holds .eq (u2 &&& (1 : Int32))) then (0 : Int32) else (1 : Int32))) then u1 else (u1 ||| (-9223372036854775808 : Int64)))), .second, .val (.ref b7), .val (.int (bif (ifCond.holds .eq (bif (ifCond.holds .eq (u2 &&& (1 : Int32))) then (0 : Int32) else (1 : Int32))) then (bif (ifCond.holds .ne (lcmpW (((bif (ifCond.holds .eq (bif (ifCond.holds .eq (u2 &&& (1 : Int32))) then (0 : Int32) else (1 : Int32))) then u1 else (u1 ||| (-9223372036854775808 : Int64))).toUInt64 >>> ((63 : Int32) &&& 0x3f).toInt64.toUInt64).toInt64) (0 : Int64))) then (0 : Int32) else (1 : Int32)) else (1 : Int32)))] [])) _
    refine XS.aload X8.here hx rfl (hb hby at_66) rfl rfl ?_
    show Steps p.tables e below (T8.setTop (mkF m 68 #[.val (.long u1), .second, .val (.int u2), .val (.int (bif (ifCond.holds .eq (u2 &&& (1 : Int32))) then (0 : Int32) else (1 : Int32))), .val (.long (bif (ifCond.holds .eq (bif (ifCond.holds .eq (u2 &&& (1 : Int32))) then (0 : Int32) else (1 : Int32))) then u1 else (u1 ||| (-9223372036854775808 : Int64)))), .second, .val (.ref b7), .val (.int (bif (ifCond.holds .eq (bif (ifCond.holds .eq (u2 &&& (1 : Int32))) then (0 : Int32) else (1 : Int32))) then (bif (ifCond.holds .ne (lcmpW (((bif (ifCond.holds .eq (bif (ifCond.holds .eq (u2 &&& (1 : Int32))) then (0 : Int32) else (1 : Int32))) then u1 else (u1 ||| (-9223372036854775808 : Int64))).toUInt64 >>> ((63 : Int32) &&& 0x3f).toInt64.toUInt64).toInt64) (0 : Int64))) then (0 : Int32) else (1 : Int32)) else (1 : Int32)))] [(.ref b7)])) _
    refine st13.trans ?_
    show Steps p.tables e below (T13.setTop (mkF m 71 #[.val (.long u1), .second, .val (.int u2), .val (.int (bif (ifCond.holds .eq (u2 &&& (1 : Int32))) then (0 : Int32) else (1 : Int32))), .val (.long (bif (ifCond.holds .eq (bif (ifCond.holds .eq (u2 &&& (1 : Int32))) then (0 : Int32) else (1 : Int32))) then u1 else (u1 ||| (-9223372036854775808 : Int64)))), .second, .val (.ref b7), .val (.int (bif (ifCond.holds .eq (bif (ifCond.holds .eq (u2 &&& (1 : Int32))) then (0 : Int32) else (1 : Int32))) then (bif (ifCond.holds .ne (lcmpW (((bif (ifCond.holds .eq (bif (ifCond.holds .eq (u2 &&& (1 : Int32))) then (0 : Int32) else (1 : Int32))) then u1 else (u1 ||| (-9223372036854775808 : Int64))).toUInt64 >>> ((63 : Int32) &&& 0x3f).toInt64.toUInt64).toInt64) (0 : Int64))) then (0 : Int32) else (1 : Int32)) else (1 : Int32)))] [(.int (nar .boolean (bif (ifCond.holds .ne (nar .boolean (bif (ifCond.holds .eq (u2 &&& (1 : Int32))) then (0 : Int32) else (1 : Int32)))) then (1 : Int32) else (bif (ifCond.holds .lt (lcmpW (bif (ifCond.holds .eq (bif (ifCond.holds .eq (u2 &&& (1 : Int32))) then (0 : Int32) else (1 : Int32))) then u1 else (u1 ||| (-9223372036854775808 : Int64))) (0 : Int64))) then (0 : Int32) else (1 : Int32)))))])) _
    refine XS.iload X13.here hx rfl (hb hby at_71) rfl ?_
    exact k
  have pre16 : ∀ t, Steps p.tables e below (T13.setTop (mkF m 81 #[.val (.long u1), .second, .val (.int u2), .val (.int (bif (ifCond.holds .eq (u2 &&& (1 : Int32))) then (0 : Int32) else (1 : Int32))), .val (.long (bif (ifCond.holds .eq (bif (ifCond.holds .eq (u2 &&& (1 : Int32))) then (0 : Int32) else (1 : Int32))) then u1 else (u1 ||| (-9223372036854775808 : Int64)))), .second, .val (.ref b7), .val (.int (bif (ifCond.holds .eq (bif (ifCond.holds .eq (u2 &&& (1 : Int32))) then (0 : Int32) else (1 : Int32))) then (bif (ifCond.holds .ne (lcmpW (((bif (ifCond.holds .eq (bif (ifCond.holds .eq (u2 &&& (1 : Int32))) then (0 : Int32) else (1 : Int32))) then u1 else (u1 ||| (-9223372036854775808 : Int64))).toUInt64 >>> ((63 : Int32) &&& 0x3f).toInt64.toUInt64).toInt64) (0 : Int64))) then (0 : Int32) else (1 : Int32)) else (1 : Int32)))] [(.int (bif (if_icmp.holds .ne (nar .boolean (bif (ifCond.holds .ne (nar .boolean (bif (ifCond.holds .eq (u2 &&& (1 : Int32))) then (0 : Int32) else (1 : Int32)))) then (1 : Int32) else (bif (ifCond.holds .lt (lcmpW (bif (ifCond.holds .eq (bif (ifCond.holds .eq (u2 &&& (1 : Int32))) then (0 : Int32) else (1 : Int32))) then u1 else (u1 ||| (-9223372036854775808 : Int64))) (0 : Int64))) then (0 : Int32) else (1 : Int32)))) (bif (ifCond.holds .eq (bif (ifCond.holds .eq (u2 &&& (1 : Int32))) then (0 : Int32) else (1 : Int32))) then (bif (ifCond.holds .ne (lcmpW (((bif (ifCond.holds .eq (bif (ifCond.holds .eq (u2 &&& (1 : Int32))) then (0 : Int32) else (1 : Int32))) then u1 else (u1 ||| (-9223372036854775808 : Int64))).toUInt64 >>> ((63 : Int32) &&& 0x3f).toInt64.toUInt64).toInt64) (0 : Int64))) then (0 : Int32) else (1 : Int32)) else (1 : Int32))) then (0 : Int32) else (1 : Int32)))])) t → Steps p.tables e below (s₁.setTop (entryFrame m #[(.long u1), (.int u2)] maxLocals)) t := by
    intro t k
    refine pre14 t ?_
    show Steps p.tables e below (T13.setTop (mkF m 73 #[.val (.long u1), .second, .val (.int u2), .val (.int (bif (ifCond.holds .eq (u2 &&& (1 : Int32))) then (0 : Int32) else (1 : Int32))), .val (.long (bif (ifCond.holds .eq (bif (ifCond.holds .eq (u2 &&& (1 : Int32))) then (0 : Int32) else (1 : Int32))) then u1 else (u1 ||| (-9223372036854775808 : Int64)))), .second, .val (.ref b7), .val (.int (bif (ifCond.holds .eq (bif (ifCond.holds .eq (u2 &&& (1 : Int32))) then (0 : Int32) else (1 : Int32))) then (bif (ifCond.holds .ne (lcmpW (((bif (ifCond.holds .eq (bif (ifCond.holds .eq (u2 &&& (1 : Int32))) then (0 : Int32) else (1 : Int32))) then u1 else (u1 ||| (-9223372036854775808 : Int64))).toUInt64 >>> ((63 : Int32) &&& 0x3f).toInt64.toUInt64).toInt64) (0 : Int64))) then (0 : Int32) else (1 : Int32)) else (1 : Int32)))] [(.int (bif (ifCond.holds .eq (bif (ifCond.holds .eq (u2 &&& (1 : Int32))) then (0 : Int32) else (1 : Int32))) then (bif (ifCond.holds .ne (lcmpW (((bif (ifCond.holds .eq (bif (ifCond.holds .eq (u2 &&& (1 : Int32))) then (0 : Int32) else (1 : Int32))) then u1 else (u1 ||| (-9223372036854775808 : Int64))).toUInt64 >>> ((63 : Int32) &&& 0x3f).toInt64.toUInt64).toInt64) (0 : Int64))) then (0 : Int32) else (1 : Int32)) else (1 : Int32))), (.int (nar .boolean (bif (ifCond.holds .ne (nar .boolean (bif (ifCond.holds .eq (u2 &&& (1 : Int32))) then (0 : Int32) else (1 : Int32)))) then (1 : Int32) else (bif (ifCond.holds .lt (lcmpW (bif (ifCond.holds .eq (bif (ifCond.holds .eq (u2 &&& (1 : Int32))) then (0 : Int32) else (1 : Int32))) then u1 else (u1 ||| (-9223372036854775808 : Int64))) (0 : Int64))) then (0 : Int32) else (1 : Int32)))))])) _
    rcases Bool.eq_false_or_eq_true (if_icmp.holds .ne (nar .boolean (bif (ifCond.holds .ne (nar .boolean (bif (ifCond.holds .eq (u2 &&& (1 : Int32))) then (0 : Int32) else (1 : Int32)))) then (1 : Int32) else (bif (ifCond.holds .lt (lcmpW (bif (ifCond.holds .eq (bif (ifCond.holds .eq (u2 &&& (1 : Int32))) then (0 : Int32) else (1 : Int32))) then u1 else (u1 ||| (-9223372036854775808 : Int64))) (0 : Int64))) then (0 : Int32) else (1 : Int32)))) (bif (ifCond.holds .eq (bif (ifCond.holds .eq (u2 &&& (1 : Int32))) then (0 : Int32) else (1 : Int32))) then (bif (ifCond.holds .ne (lcmpW (((bif (ifCond.holds .eq (bif (ifCond.holds .eq (u2 &&& (1 : Int32))) then (0 : Int32) else (1 : Int32))) then u1 else (u1 ||| (-9223372036854775808 : Int64))).toUInt64 >>> ((63 : Int32) &&& 0x3f).toInt64.toUInt64).toInt64) (0 : Int64))) then (0 : Int32) else (1 : Int32)) else (1 : Int32))) with hb73_15 | hb73_15
    · refine XS.icmpYes X13.here hx rfl (pc0 := 73) (pc' := 80) rfl (hb hby at_73) rfl hb73_15 (by decide) (by decide) ?_
      show Steps p.tables e below (T13.setTop (mkF m 80 #[.val (.long u1), .second, .val (.int u2), .val (.int (bif (ifCond.holds .eq (u2 &&& (1 : Int32))) then (0 : Int32) else (1 : Int32))), .val (.long (bif (ifCond.holds .eq (bif (ifCond.holds .eq (u2 &&& (1 : Int32))) then (0 : Int32) else (1 : Int32))) then u1 else (u1 ||| (-9223372036854775808 : Int64)))), .second, .val (.ref b7), .val (.int (bif (ifCond.holds .eq (bif (ifCond.holds .eq (u2 &&& (1 : Int32))) then (0 : Int32) else (1 : Int32))) then (bif (ifCond.holds .ne (lcmpW (((bif (ifCond.holds .eq (bif (ifCond.holds .eq (u2 &&& (1 : Int32))) then (0 : Int32) else (1 : Int32))) then u1 else (u1 ||| (-9223372036854775808 : Int64))).toUInt64 >>> ((63 : Int32) &&& 0x3f).toInt64.toUInt64).toInt64) (0 : Int64))) then (0 : Int32) else (1 : Int32)) else (1 : Int32)))] [])) _
      refine XS.iconst X13.here hx rfl (hb hby at_80) ?_
      have k : Steps p.tables e below (T13.setTop (mkF m 81 #[.val (.long u1), .second, .val (.int u2), .val (.int (bif (ifCond.holds .eq (u2 &&& (1 : Int32))) then (0 : Int32) else (1 : Int32))), .val (.long (bif (ifCond.holds .eq (bif (ifCond.holds .eq (u2 &&& (1 : Int32))) then (0 : Int32) else (1 : Int32))) then u1 else (u1 ||| (-9223372036854775808 : Int64)))), .second, .val (.ref b7), .val (.int (bif (ifCond.holds .eq (bif (ifCond.holds .eq (u2 &&& (1 : Int32))) then (0 : Int32) else (1 : Int32))) then (bif (ifCond.holds .ne (lcmpW (((bif (ifCond.holds .eq (bif (ifCond.holds .eq (u2 &&& (1 : Int32))) then (0 : Int32) else (1 : Int32))) then u1 else (u1 ||| (-9223372036854775808 : Int64))).toUInt64 >>> ((63 : Int32) &&& 0x3f).toInt64.toUInt64).toInt64) (0 : Int64))) then (0 : Int32) else (1 : Int32)) else (1 : Int32)))] [(.int (0 : Int32))])) t := by simpa only [hb73_15, cond_true, cond_false] using k
      exact k
    · refine XS.icmpNo X13.here hx rfl (hb hby at_73) rfl hb73_15 ?_
      show Steps p.tables e below (T13.setTop (mkF m 76 #[.val (.long u1), .second, .val (.int u2), .val (.int (bif (ifCond.holds .eq (u2 &&& (1 : Int32))) then (0 : Int32) else (1 : Int32))), .val (.long (bif (ifCond.holds .eq (bif (ifCond.holds .eq (u2 &&& (1 : Int32))) then (0 : Int32) else (1 : Int32))) then u1 else (u1 ||| (-9223372036854775808 : Int64)))), .second, .val (.ref b7), .val (.int (bif (ifCond.holds .eq (bif (ifCond.holds .eq (u2 &&& (1 : Int32))) then (0 : Int32) else (1 : Int32))) then (bif (ifCond.holds .ne (lcmpW (((bif (ifCond.holds .eq (bif (ifCond.holds .eq (u2 &&& (1 : Int32))) then (0 : Int32) else (1 : Int32))) then u1 else (u1 ||| (-9223372036854775808 : Int64))).toUInt64 >>> ((63 : Int32) &&& 0x3f).toInt64.toUInt64).toInt64) (0 : Int64))) then (0 : Int32) else (1 : Int32)) else (1 : Int32)))] [])) _
      refine XS.iconst X13.here hx rfl (hb hby at_76) ?_
      show Steps p.tables e below (T13.setTop (mkF m 77 #[.val (.long u1), .second, .val (.int u2), .val (.int (bif (ifCond.holds .eq (u2 &&& (1 : Int32))) then (0 : Int32) else (1 : Int32))), .val (.long (bif (ifCond.holds .eq (bif (ifCond.holds .eq (u2 &&& (1 : Int32))) then (0 : Int32) else (1 : Int32))) then u1 else (u1 ||| (-9223372036854775808 : Int64)))), .second, .val (.ref b7), .val (.int (bif (ifCond.holds .eq (bif (ifCond.holds .eq (u2 &&& (1 : Int32))) then (0 : Int32) else (1 : Int32))) then (bif (ifCond.holds .ne (lcmpW (((bif (ifCond.holds .eq (bif (ifCond.holds .eq (u2 &&& (1 : Int32))) then (0 : Int32) else (1 : Int32))) then u1 else (u1 ||| (-9223372036854775808 : Int64))).toUInt64 >>> ((63 : Int32) &&& 0x3f).toInt64.toUInt64).toInt64) (0 : Int64))) then (0 : Int32) else (1 : Int32)) else (1 : Int32)))] [(.int (1 : Int32))])) _
      refine XS.goto X13.here hx rfl (pc0 := 77) (pc' := 81) rfl (hb hby at_77) (by decide) (by decide) ?_
      have k : Steps p.tables e below (T13.setTop (mkF m 81 #[.val (.long u1), .second, .val (.int u2), .val (.int (bif (ifCond.holds .eq (u2 &&& (1 : Int32))) then (0 : Int32) else (1 : Int32))), .val (.long (bif (ifCond.holds .eq (bif (ifCond.holds .eq (u2 &&& (1 : Int32))) then (0 : Int32) else (1 : Int32))) then u1 else (u1 ||| (-9223372036854775808 : Int64)))), .second, .val (.ref b7), .val (.int (bif (ifCond.holds .eq (bif (ifCond.holds .eq (u2 &&& (1 : Int32))) then (0 : Int32) else (1 : Int32))) then (bif (ifCond.holds .ne (lcmpW (((bif (ifCond.holds .eq (bif (ifCond.holds .eq (u2 &&& (1 : Int32))) then (0 : Int32) else (1 : Int32))) then u1 else (u1 ||| (-9223372036854775808 : Int64))).toUInt64 >>> ((63 : Int32) &&& 0x3f).toInt64.toUInt64).toInt64) (0 : Int64))) then (0 : Int32) else (1 : Int32)) else (1 : Int32)))] [(.int (1 : Int32))])) t := by simpa only [hb73_15, cond_true, cond_false] using k
      exact k
  obtain ⟨fs, hr, hrun, hended, hW, hsame⟩ := X13.leave (v := some (.int (1 : Int32))) (fun h => by rw [Bd.returns] at h; cases h)
  refine ⟨_, _, pre16 _ ?_, hrun, hended, _, _, rfl, ?_, ⟨_, rfl⟩, hW, hsame.mono (by decide) (by decide)⟩
  · show Steps p.tables e below (T13.setTop (mkF m 81 #[.val (.long u1), .second, .val (.int u2), .val (.int (bif (ifCond.holds .eq (u2 &&& (1 : Int32))) then (0 : Int32) else (1 : Int32))), .val (.long (bif (ifCond.holds .eq (bif (ifCond.holds .eq (u2 &&& (1 : Int32))) then (0 : Int32) else (1 : Int32))) then u1 else (u1 ||| (-9223372036854775808 : Int64)))), .second, .val (.ref b7), .val (.int (bif (ifCond.holds .eq (bif (ifCond.holds .eq (u2 &&& (1 : Int32))) then (0 : Int32) else (1 : Int32))) then (bif (ifCond.holds .ne (lcmpW (((bif (ifCond.holds .eq (bif (ifCond.holds .eq (u2 &&& (1 : Int32))) then (0 : Int32) else (1 : Int32))) then u1 else (u1 ||| (-9223372036854775808 : Int64))).toUInt64 >>> ((63 : Int32) &&& 0x3f).toInt64.toUInt64).toInt64) (0 : Int64))) then (0 : Int32) else (1 : Int32)) else (1 : Int32)))] [(.int (bif (if_icmp.holds .ne (nar .boolean (bif (ifCond.holds .ne (nar .boolean (bif (ifCond.holds .eq (u2 &&& (1 : Int32))) then (0 : Int32) else (1 : Int32)))) then (1 : Int32) else (bif (ifCond.holds .lt (lcmpW (bif (ifCond.holds .eq (bif (ifCond.holds .eq (u2 &&& (1 : Int32))) then (0 : Int32) else (1 : Int32))) then u1 else (u1 ||| (-9223372036854775808 : Int64))) (0 : Int64))) then (0 : Int32) else (1 : Int32)))) (bif (ifCond.holds .eq (bif (ifCond.holds .eq (u2 &&& (1 : Int32))) then (0 : Int32) else (1 : Int32))) then (bif (ifCond.holds .ne (lcmpW (((bif (ifCond.holds .eq (bif (ifCond.holds .eq (u2 &&& (1 : Int32))) then (0 : Int32) else (1 : Int32))) then u1 else (u1 ||| (-9223372036854775808 : Int64))).toUInt64 >>> ((63 : Int32) &&& 0x3f).toInt64.toUInt64).toInt64) (0 : Int64))) then (0 : Int32) else (1 : Int32)) else (1 : Int32))) then (0 : Int32) else (1 : Int32)))])) _
    rw [own_law]
    exact retN X13 hx (t := .boolean) Bd.returns (by simp) (hb hby at_81) hr
  · show Q_rm_law Z _ _ h0 n0 _ T13.heap _
    rw [eq13]
    exact ⟨rfl, N13⟩
set_option maxRecDepth 65536 in
set_option maxHeartbeats 40000000 in
theorem comes_1 {Post : Tables → Env → Array Value → State → Outcome → State → Prop} (hpost : ∀ tb e args s v u, (limb_1_1.after args s (.returned v) u = true ∧ limb_1_2.after args s (.returned v) u = true ∧ True) → FrameEnd s (.returned v) u (Jvm.fieldLocs frame_1_writes args s ++ Jvm.arrayLocs frame_1_arrays args s ++ Jvm.staticLocs frame_1_statics s) 16 128 → Post tb e args s (.returned v) u) :
    ArmFor flags0 classFile x code maxLocals ret World_1 tables_1 room_1 Calls_1 rest_1 Pre_1 Post := by
  intro l hfl _ _ p e ha hc hk s m args below hf hA hF happ hP
  obtain ⟨hcalls, hrest, hpre⟩ := hP
  obtain ⟨-, -, -, hnamed, -, -, -, hat⟩ := (Spec.applies_iff hf).mp happ
  obtain ⟨hg, hn⟩ := and_e (Cond.before_iff.mp (show (Jvm.Cond.and given_1 narrow_1).before args s = true from hpre))
  obtain ⟨ha0, hb0⟩ := and_e hg
  obtain ⟨ha1, hb1⟩ := and_e hb0
  obtain ⟨w0, w1, rfl⟩ : ∃ w0 w1 : Value, args = #[w0, w1] := by
    have hs : args.size = 2 := by simpa [Cond.value, given_1] using ha0
    obtain ⟨L⟩ := args
    match L, hs with
    | [w0, w1], _ => exact ⟨w0, w1, rfl⟩
  have hw := fun d (hd : d ∈ tables_1) => atoms_spec (ws := Jvm.Cond.code x code maxLocals ret :: tables_1) hat d (List.mem_cons_of_mem _ hd)
  have hfit : Fit s := fun {y c} hc i hi => by
    obtain ⟨ha, rfl⟩ := Array.getElem?_eq_some_iff.mp hc
    have q := List.all_eq_true.mp ((Array.all_eq_true_iff_forall_mem.mp hF) _ (Array.getElem_mem ha)) i (List.mem_range.mpr hi)
    simpa [Array.getElem?_eq_getElem hi] using q
  obtain ⟨i0, ei0⟩ := isL_v ha1
  obtain rfl : w0 = (.long i0) := Option.some.inj ei0
  obtain ⟨i1, ei1⟩ := is_v hb1
  obtain rfl : w1 = (.int i1) := Option.some.inj ei1
  obtain ⟨n, o, h1, h2, h3, _, L, rfl, ⟨rfl, N⟩, hq⟩ := rm_law l s _ hw tables_1 i0 i1 s.heap s.heap.size (Nat.le_refl _)  p e ha hc hk s m _ below hf ((Spec.applies_iff_loose hf).mp happ).1 ⟨rfl, State.Warmed39.refl s, rfl⟩ trivial
  refine ⟨n, _, h1, h2, h3, hpost _ _ _ _ _ _ ⟨Cond.after_iff.mpr rfl, Cond.after_iff.mpr (eq_i res_at (Term.int_eval (1)) rfl), trivial⟩ ⟨hq.1, hq.2.1, (hq.2.2.sift fun y hy => Or.inr (N y hy)).mono (by decide) (by decide)⟩⟩
theorem main_1_1 : Claimed_1_1 := comes_1 fun _ _ _ _ _ _ h hF => ⟨h.1, hF⟩
theorem main_1_2 : Claimed_1_2 := comes_1 fun _ _ _ _ _ _ h hF => ⟨h.2.1, hF⟩
end Jvm.Pilot.@@N@@
namespace Jvm.Pilot.@@N@@
open Jvm Jvm.ClassFile Sem Op Lib Jvm.Free Jvm.Stand Jvm.Pilot.@@N@@.Jvm.D
/-! MADE BY PROGRAM (witnessworld.py) out of the Statement's table words and the real class files: 11 classes; the members and pool entries that the words name. The judged class is class 1, her method 1. -/
namespace start1
open Jvm.ClassFile
def u (s : String) : CpInfo := .utf8 (stringToUtf16 s)
/-- a pool by its gaps: so many unusable entries, then the entry; so many at the end -/
def gap : Nat → List CpInfo → List CpInfo
  | 0, r => r
  | n + 1, r => .unusable :: gap n r
def poolList (es : List (Nat × CpInfo)) (last : Nat) : List CpInfo := es.foldr (fun e r => gap e.1 (e.2 :: r)) (gap last [])
def pool (es : List (Nat × CpInfo)) (last : Nat) : Array CpInfo := ⟨poolList es last⟩
def fileOf (pool : Array CpInfo) (this : Nat) (attrs : Array Attribute := #[]) (ms : Array MethodInfo := #[]) (fl : Nat := 33) (sup : Nat := 0) (ifs : Array Nat := #[]) (fds : Array FieldInfo := #[]) : ClassFile where
  minorVersion := 0
  majorVersion := 65
  constantPool := pool
  accessFlags := fl
  thisClass := this
  superClass := sup
  interfaces := ifs
  fields := fds
  methods := ms
  attributes := attrs
def plain (name : String) (sup : Option ClassId) : Class where
  name := name
  kind := .ordinary
  loader := none
  accessFlags := 33
  super := sup
  interfaces := #[]
  cf := none
  fields := #[]
  methods := #[]
  instanceTypes := #[]
  staticTypes := #[]
  resolved := #[]
  callSites := []
  init := .initialized
  statics := none
  mirror := none

def pool0 : Array CpInfo := pool [(5, u "<init>"), (0, u "()V"), (1, .class_ 10), (1, u "java/lang/Object")] 113

def k0c0 : Code := { maxStack := 0, maxLocals := 1, code := object_method_1_code, exceptionTable := #[], attributes := #[] }
def k0m0 : Method := { name := "<init>", desc := "()V", sig := { parameters := [], returnType := none }, accessFlags := 1, code := some k0c0 }
/-- java/lang/Object -/
def k0 : Class := { plain "java/lang/Object" none with
  accessFlags := 33
  interfaces := #[]
  cf := some (fileOf pool0 8 #[] #[{ accessFlags := 1, nameIndex := 5, descriptorIndex := 6, attributes := #[] }] 33 0 #[] #[])
  fields := #[]
  methods := #[k0m0]
  instanceTypes := #[]
  staticTypes := #[]
  resolved := Array.replicate 124 none
  statics := none }

def pool1 : Array CpInfo := pool [(2, .class_ 4), (1, u "java/lang/Object"), (0, u "<init>"), (0, u "()V"), (2, .long 9223372036854775808), (1, .class_ 12), (0, u "com/example/knotwire/knotwire/IntValue"), (0, .methodref 11 14), (0, .nameAndType 5 15), (0, u "(JZ)V"), (0, .methodref 11 17), (0, .nameAndType 18 19), (0, u "fitsLong"), (0, u "()Z"), (0, .class_ 21), (0, u "com/example/knotwire/knotwire/IntValueFitsLongPinLaw"), (2, u "law"), (0, u "(JI)Z")] 3

def k1m0 : Method := { name := "<init>", desc := "()V", sig := { parameters := [], returnType := none }, accessFlags := 1, code := none }
def k1c1 : Code := { maxStack := 5, maxLocals := 8, code := code, exceptionTable := #[], attributes := #[] }
def k1m1 : Method := { name := "law", desc := "(JI)Z", sig := { parameters := [.long, .int], returnType := some .boolean }, accessFlags := 9, code := some k1c1 }
/-- com/example/knotwire/knotwire/IntValueFitsLongPinLaw -/
def k1 : Class := { plain "com/example/knotwire/knotwire/IntValueFitsLongPinLaw" (some 0) with
  accessFlags := 49
  interfaces := #[]
  cf := some (fileOf pool1 20 #[] #[{ accessFlags := 1, nameIndex := 5, descriptorIndex := 6, attributes := #[] }, { accessFlags := 9, nameIndex := 24, descriptorIndex := 25, attributes := #[] }] 49 2 #[] #[])
  fields := #[]
  methods := #[k1m0, k1m1]
  instanceTypes := #[]
  staticTypes := #[]
  resolved := Array.replicate 29 none
  statics := none }

def pool2 : Array CpInfo := pool [(1, .methodref 2 3), (0, .class_ 4), (0, .nameAndType 5 6), (0, u "java/lang/Object"), (0, u "<init>"), (0, u "()V"), (0, .class_ 8), (0, u "java/lang/Record")] 13

def k2c0 : Code := { maxStack := 1, maxLocals := 1, code := jdk_30_method_1_code, exceptionTable := #[], attributes := #[] }
def k2m0 : Method := { name := "<init>", desc := "()V", sig := { parameters := [], returnType := none }, accessFlags := 4, code := some k2c0 }
/-- java/lang/Record -/
def k2 : Class := { plain "java/lang/Record" (some 0) with
  accessFlags := 1057
  interfaces := #[]
  cf := some (fileOf pool2 7 #[] #[{ accessFlags := 4, nameIndex := 5, descriptorIndex := 6, attributes := #[] }] 1057 2 #[] #[])
  fields := #[]
  methods := #[k2m0]
  instanceTypes := #[]
  staticTypes := #[]
  resolved := Array.replicate 22 none
  statics := none }

def pool3 : Array CpInfo := pool [(1, .class_ 2), (0, u "com/example/knotwire/knotwire/Value"), (0, .class_ 4), (0, u "java/lang/Object")] 17

/-- com/example/knotwire/knotwire/Value -/
def k3 : Class := { plain "com/example/knotwire/knotwire/Value" (some 0) with
  accessFlags := 1537
  interfaces := #[]
  cf := some (fileOf pool3 1 #[] #[] 1537 3 #[] #[])
  fields := #[]
  methods := #[]
  instanceTypes := #[]
  staticTypes := #[]
  resolved := Array.replicate 22 none
  statics := none }

def pool4 : Array CpInfo := pool [(1, .methodref 2 3), (0, .class_ 4), (0, .nameAndType 5 6), (0, u "java/lang/Record"), (0, u "<init>"), (0, u "()V"), (9, .fieldref 17 18), (0, .class_ 19), (0, .nameAndType 20 21), (0, u "com/example/knotwire/knotwire/IntValue"), (0, u "bits"), (0, u "J"), (0, .fieldref 17 23), (0, .nameAndType 24 25), (0, u "negative"), (0, u "Z"), (2, u "(JZ)V"), (2, u "MIN"), (0, u "Ljava/math/BigInteger;"), (8, u "MAX"), (22, u "fitsLong"), (0, u "()Z"), (32, .class_ 99), (0, u "com/example/knotwire/knotwire/Value")] 44

def k4c0 : Code := { maxStack := 4, maxLocals := 4, code := prog_34_method_1_code, exceptionTable := #[], attributes := #[] }
def k4m0 : Method := { name := "<init>", desc := "(JZ)V", sig := { parameters := [.long, .boolean], returnType := none }, accessFlags := 1, code := some k4c0 }
def k4c1 : Code := { maxStack := 4, maxLocals := 1, code := prog_34_method_5_code, exceptionTable := #[], attributes := #[] }
def k4m1 : Method := { name := "fitsLong", desc := "()Z", sig := { parameters := [], returnType := some .boolean }, accessFlags := 1, code := some k4c1 }
/-- com/example/knotwire/knotwire/IntValue -/
def k4 : Class := { plain "com/example/knotwire/knotwire/IntValue" (some 2) with
  accessFlags := 49
  interfaces := #[3]
  cf := some (fileOf pool4 17 #[] #[{ accessFlags := 1, nameIndex := 5, descriptorIndex := 28, attributes := #[] }, { accessFlags := 1, nameIndex := 64, descriptorIndex := 65, attributes := #[] }] 49 2 #[98] #[{ accessFlags := 18, nameIndex := 20, descriptorIndex := 21, attributes := #[] }, { accessFlags := 18, nameIndex := 24, descriptorIndex := 25, attributes := #[] }, { accessFlags := 25, nameIndex := 31, descriptorIndex := 32, attributes := #[] }, { accessFlags := 25, nameIndex := 41, descriptorIndex := 32, attributes := #[] }])
  fields := #[{ name := "bits", type := .long, accessFlags := 18, slot := 0, constantValue := 0 }, { name := "negative", type := .boolean, accessFlags := 18, slot := 1, constantValue := 0 }, { name := "MIN", type := (.object "java/math/BigInteger"), accessFlags := 25, slot := 0, constantValue := 0 }, { name := "MAX", type := (.object "java/math/BigInteger"), accessFlags := 25, slot := 1, constantValue := 0 }]
  methods := #[k4m0, k4m1]
  instanceTypes := #[.long, .boolean]
  staticTypes := #[(.object "java/math/BigInteger"), (.object "java/math/BigInteger")]
  resolved := Array.replicate 144 none
  statics := none }

def pool5 : Array CpInfo := pool [(1, u "java/lang/Cloneable"), (0, .class_ 1), (0, u "java/lang/Object"), (0, .class_ 3)] 3

/-- java/lang/Cloneable -/
def k5 : Class := { plain "java/lang/Cloneable" (some 0) with
  accessFlags := 1537
  interfaces := #[]
  cf := some (fileOf pool5 2 #[] #[] 1537 4 #[] #[])
  fields := #[]
  methods := #[]
  instanceTypes := #[]
  staticTypes := #[]
  resolved := Array.replicate 8 none
  statics := none }

def pool6 : Array CpInfo := pool [(1, u "java/io/Serializable"), (0, .class_ 1), (0, u "java/lang/Object"), (0, .class_ 3)] 3

/-- java/io/Serializable -/
def k6 : Class := { plain "java/io/Serializable" (some 0) with
  accessFlags := 1537
  interfaces := #[]
  cf := some (fileOf pool6 2 #[] #[] 1537 4 #[] #[])
  fields := #[]
  methods := #[]
  instanceTypes := #[]
  staticTypes := #[]
  resolved := Array.replicate 8 none
  statics := none }

/-- the primitive byte -/
def k7 : Class := { plain "byte" none with kind := .primitive 'B', accessFlags := 0x411 }
/-- [B -/
def k8 : Class := { plain "[B" (some 0) with kind := .array 7 .byte, interfaces := #[5, 6], accessFlags := 1041 }

/-- the primitive int -/
def k9 : Class := { plain "int" none with kind := .primitive 'I', accessFlags := 0x411 }
/-- [I -/
def k10 : Class := { plain "[I" (some 0) with kind := .array 9 .int, interfaces := #[5, 6], accessFlags := 1041 }

def heap : Heap := #[]
def classes : Array Class := #[k0, k1, k2, k3, k4, k5, k6, k7, k8, k9, k10]
def interned : List (Array UInt16 × Addr) := []
def slotsUsed : Nat := 0
def theMethod : MethodId := ⟨1, 1⟩
def args0 : Array Value := #[.long 5, .int 1]
def aboutOver (below : List Frame) : State where
  vm := { classes := classes, interned := interned.toArray }
  heap := heap
  slotsUsed := slotsUsed
  threads := #[{ frames := .invoking theMethod args0 :: below }]
def below0 : List Frame := [.native { method := ⟨0, 0⟩, args := #[] }]
def about1 : State := aboutOver below0
def p0 : Program := .bare "" "" ""
def e0 : Env := launch0.env 0 0 0
theorem w_frames : about1.frames = Frame.invoking theMethod args0 :: below0 := rfl
set_option maxRecDepth 65536 in
theorem w_args : argsFit about1.vm theMethod args0 = true := by decide +kernel
set_option maxRecDepth 65536 in
theorem w_heap : heapFits about1 = true := by decide +kernel
set_option maxRecDepth 65536 in
theorem w_runnable : about1.curStatus? = some .runnable := by decide +kernel
set_option maxRecDepth 65536 in
theorem w_alone : about1.alone = true := by decide +kernel
set_option maxRecDepth 65536 in
theorem w_named : about1.methodNamed? x = some theMethod := by decide +kernel
set_option maxRecDepth 65536 in
theorem w_hears : about1.hears theMethod below0 = true := by decide +kernel
set_option maxRecDepth 65536 in
theorem w_ripe : about1.ripe theMethod args0 below0 = true := by decide +kernel
theorem w_running : about1.status = .running := rfl
set_option maxRecDepth 65536 in
theorem w_room : about1.hasRoom e0.platform room_1 = true :=
  launch0.hasRoom_least _ room_1 (by decide +kernel) (by decide +kernel) (by decide +kernel) (by decide +kernel) (by decide +kernel) (by decide +kernel)
theorem allAtoms_all (ts : List Jvm.Cond) (a : Array Jvm.Value) (st : Jvm.State) : (allAtoms ts).before a st = ts.all (fun c => c.before a st) := by
  induction ts with
  | nil => rfl
  | cons c t ih =>
    show (Jvm.Cond.and c (allAtoms t)).before a st = _
    rw [Jvm.Cond.before_and, ih, List.all_cons]
def words1 : List Jvm.Cond := Jvm.Cond.code x code maxLocals ret :: tables_1
/-- a 'code' word, met by the world's own term for the bytes: nothing is compared byte by byte -/
theorem code_word {y : MethodName} {bytes : ByteArray} {mx : Nat} {rt : Option FieldType} {a : Array Value} {s : State} {m : MethodId} {meth : Method} {c : Code} (h1 : s.methodNamed? y = some m) (h2 : s.vm.method? m = some meth) (h3 : meth.code = some c) (h4 : c.code = bytes)
    (h5 : (c.maxLocals == mx && c.exceptionTable.isEmpty && decide (c.maxStack ≤ mostOperands) && decide (meth.sig.returnType = rt) && !meth.locks && decide (parseMethodDescriptor y.desc = some meth.sig)) = true) : (Jvm.Cond.code y bytes mx rt).before a s = true := by
  simp only [Bool.and_eq_true, beq_iff_eq, Bool.not_eq_true', decide_eq_true_eq] at h5
  obtain ⟨⟨⟨⟨⟨g1, g2⟩, g3⟩, g4⟩, g5⟩, g6⟩ := h5
  simp [Cond.before, Cond.holds, Cond.value, h1, h2, h3, h4, g1, g2, g3, g4, g5, g6]
def isCode : Jvm.Cond → Bool
  | .code _ _ _ _ => true
  | _ => false
theorem all_split {L : List Jvm.Cond} {P : Jvm.Cond → Bool} (h1 : L.all (fun c => isCode c || P c) = true) (h2 : ∀ c ∈ L.filter isCode, P c = true) : L.all P = true := by
  refine List.all_eq_true.mpr fun c hc => ?_
  have h := List.all_eq_true.mp h1 c hc
  rcases Bool.eq_false_or_eq_true (isCode c) with hi | hi
  · exact h2 c (List.mem_filter.mpr ⟨hc, hi⟩)
  · simpa [hi] using h
set_option maxRecDepth 65536 in
theorem w_c0 : (Jvm.Cond.code x code maxLocals ret).before args0 about1 = true := code_word (m := ⟨1, 1⟩) (meth := k1m1) (c := k1c1) (by decide +kernel) rfl rfl rfl (by decide +kernel)
set_option maxRecDepth 65536 in
theorem w_c1 : (Jvm.Cond.code ({ cls := "com/example/knotwire/knotwire/IntValue", name := "<init>", desc := "(JZ)V" } : Jvm.MethodName) prog_34_method_1_code (4 : Nat) (Option.none : Option Jvm.ClassFile.FieldType)).before args0 about1 = true := code_word (m := ⟨4, 0⟩) (meth := k4m0) (c := k4c0) (by decide +kernel) rfl rfl rfl (by decide +kernel)
set_option maxRecDepth 65536 in
theorem w_c2 : (Jvm.Cond.code ({ cls := "java/lang/Record", name := "<init>", desc := "()V" } : Jvm.MethodName) jdk_30_method_1_code (1 : Nat) (Option.none : Option Jvm.ClassFile.FieldType)).before args0 about1 = true := code_word (m := ⟨2, 0⟩) (meth := k2m0) (c := k2c0) (by decide +kernel) rfl rfl rfl (by decide +kernel)
set_option maxRecDepth 65536 in
theorem w_c3 : (Jvm.Cond.code ({ cls := "java/lang/Object", name := "<init>", desc := "()V" } : Jvm.MethodName) object_method_1_code (1 : Nat) (Option.none : Option Jvm.ClassFile.FieldType)).before args0 about1 = true := code_word (m := ⟨0, 0⟩) (meth := k0m0) (c := k0c0) (by decide +kernel) rfl rfl rfl (by decide +kernel)
set_option maxRecDepth 65536 in
theorem w_c4 : (Jvm.Cond.code ({ cls := "com/example/knotwire/knotwire/IntValue", name := "fitsLong", desc := "()Z" } : Jvm.MethodName) prog_34_method_5_code (1 : Nat) (Option.some Jvm.ClassFile.FieldType.boolean)).before args0 about1 = true := code_word (m := ⟨4, 1⟩) (meth := k4m1) (c := k4c1) (by decide +kernel) rfl rfl rfl (by decide +kernel)
def codes1 : List Jvm.Cond := [Jvm.Cond.code x code maxLocals ret, Jvm.Cond.code ({ cls := "com/example/knotwire/knotwire/IntValue", name := "<init>", desc := "(JZ)V" } : Jvm.MethodName) prog_34_method_1_code (4 : Nat) (Option.none : Option Jvm.ClassFile.FieldType), Jvm.Cond.code ({ cls := "java/lang/Record", name := "<init>", desc := "()V" } : Jvm.MethodName) jdk_30_method_1_code (1 : Nat) (Option.none : Option Jvm.ClassFile.FieldType), Jvm.Cond.code ({ cls := "java/lang/Object", name := "<init>", desc := "()V" } : Jvm.MethodName) object_method_1_code (1 : Nat) (Option.none : Option Jvm.ClassFile.FieldType), Jvm.Cond.code ({ cls := "com/example/knotwire/knotwire/IntValue", name := "fitsLong", desc := "()Z" } : Jvm.MethodName) prog_34_method_5_code (1 : Nat) (Option.some Jvm.ClassFile.FieldType.boolean)]
set_option maxRecDepth 65536 in
theorem codes_eq : words1.filter isCode = codes1 := rfl
theorem w_codes : ∀ c ∈ words1.filter isCode, c.before args0 about1 = true := by
  rw [codes_eq]
  intro c hc
  simp only [codes1, List.mem_cons, List.not_mem_nil, or_false] at hc
  rcases hc with rfl | rfl | rfl | rfl | rfl
  · exact w_c0
  · exact w_c1
  · exact w_c2
  · exact w_c3
  · exact w_c4
set_option maxRecDepth 65536 in
theorem w_t1 : (words1.take 24).all (fun c => isCode c || c.before args0 about1) = true := by decide +kernel
set_option maxRecDepth 65536 in
theorem w_t2 : (words1.drop 24).all (fun c => isCode c || c.before args0 about1) = true := by decide +kernel
theorem w_tables : (allAtoms (Jvm.Cond.code x code maxLocals ret :: tables_1)).before args0 about1 = true := by
  rw [allAtoms_all]
  show words1.all (fun c => c.before args0 about1) = true
  refine all_split ?_ w_codes
  rw [← List.take_append_drop 24 words1, List.all_append, w_t1, w_t2]
  rfl
set_option maxRecDepth 65536 in
theorem w_case : (Jvm.Cond.and given_1 narrow_1).before args0 about1 = true := by decide +kernel
theorem w_applies : (headSpec (Jvm.Cond.code x code maxLocals ret :: tables_1) room_1).applies x e0.platform about1 = true :=
  (Spec.applies_iff w_frames).mpr ⟨w_running, w_runnable, w_alone, w_named, w_hears, w_ripe, w_room, w_tables⟩
theorem atStart : AtStart classFile x code maxLocals ret World_1 tables_1 room_1 Calls_1 rest_1 Pre_1 launch0 p0 e0 about1 theMethod args0 below0 :=
  ⟨lists_1, trivial, launch0.admits_env _ _ _, launch0.least_env, fairChoices_fair.cas, fairChoices_fair.clock, w_frames, w_args, w_heap, w_applies, trivial, trivial, w_case⟩
end start1
theorem witness_1 : WitnessClaimed_1 := ⟨start1.p0, start1.e0, start1.about1, start1.theMethod, start1.args0, start1.below0, start1.atStart⟩
end Jvm.Pilot.@@N@@
