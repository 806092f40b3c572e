import JvmDerived
import JvmDerived.Pilot.@@N@@Statement
import JvmDerived.Pilot.@@N@@Code
set_option linter.unusedVariables false
set_option linter.unusedSimpArgs false
namespace Jvm.RoadKit
open Sem ClassFile Op Lib Jvm.Stand Jvm.Free Jvm.LawKit
section New
variable {p : Program} {l : Launch} {e : Env} {R : Room} {s : State} {m : MethodId} {args : Array Value} {below : List Frame} {meth : Method} {c : Code} {T : State} {locs : List Loc} {cells slots : Nat}
theorem retI (X : Stand p l e R s m args below meth c T locs cells slots) (hx : p.tables.exec = Jvm.exec) {pc : Nat} {Ls : Array Slot} {z : Int32} {rest : List Value} (hret : meth.sig.returnType = some .int) (hd : decode c.code pc = .ok (.ireturn, 1)) {fs : List Frame}
    (hl : ∀ (f : JFrame) (acts : List Action), f.method = m → f.locked = none → f.entered = [] → (doReturn e (T.setTop f) acts (some (.int z))).1 = T.setFrames fs) : Steps p.tables e below (T.setTop (mkF m pc Ls (.int z :: rest))) (T.setFrames fs) := by
  have hm' : T.vm.method? m = some meth := X.method'
  have hn : narrow .int (.int z) = .int z := rfl
  show Steps p.tables e below (T.setTop { method := m, pc := pc, locals := Ls, stack := _ :: rest, locked := none }) _
  jvm_step X.here [X.here.top, hx, hd, hm', hret, hn]
  first | (intro acts; rw [hl _ acts rfl rfl rfl]) | rw [hl _ _ rfl rfl rfl]
  exact Steps.refl _
end New
end Jvm.RoadKit
namespace Jvm.Pilot.@@N@@
open Jvm Jvm.ClassFile Sem Op Lib Jvm.Free Jvm.Stand Jvm.LawKit Jvm.RoadKit Bundle Jvm.Pilot.@@N@@.Jvm.D
/-! the comparisons, as plain decisions -/
theorem own_w {a0 : Array Value} {Z : State} (hw : ∀ d ∈ tables_1, d.before a0 Z = true) (i : Nat) {d : Jvm.Cond} (h : tables_1[i]? = some d) : d.before a0 Z = true := hw d (List.mem_of_getElem? h)
theorem own_ilt (x y : Int32) : if_icmp.holds .lt x y = decide (x < y) := rfl
theorem own_ile (x y : Int32) : if_icmp.holds .le x y = decide (x ≤ y) := rfl
theorem own_igt (x y : Int32) : if_icmp.holds .gt x y = decide (y < x) := rfl
theorem own_ige (x y : Int32) : if_icmp.holds .ge x y = decide (y ≤ x) := rfl
theorem own_ieq (x y : Int32) : if_icmp.holds .eq x y = decide (x = y) := rfl
theorem own_ine (x y : Int32) : if_icmp.holds .ne x y = decide (x ≠ y) := by
  by_cases h : x = y
  · rw [(teq h).2]; exact (decide_eq_false (not_not_intro h)).symm
  · rw [(feq h).2]; exact (decide_eq_true h).symm
theorem own_smono {s : State} {vm : Vm} {n n' : Nat} (h : s.Since vm n) (hn : n ≤ n') : s.Since vm n' := ⟨h.1, fun j p hj hp => ⟨(h.2 j p hj hp).1, Nat.lt_of_lt_of_le (h.2 j p hj hp).2 hn⟩⟩
theorem own_d0 : FP.dconst0 = FP.l2d (0 : Int64) := by rw [l2d_zero]; rfl
theorem own_lgt (x y : Int64) : ifCond.holds .gt (lcmpW x y) = decide (y < x) := by rw [if0, own_igt]; exact decide_eq_decide.mpr (lw_gt x y)
theorem own_llt (x y : Int64) : ifCond.holds .lt (lcmpW x y) = decide (x < y) := by rw [if0, own_ilt]; exact decide_eq_decide.mpr (lw_lt x y)
theorem own_leq (x y : Int64) : ifCond.holds .eq (lcmpW x y) = decide (x = y) := by rw [if0, own_ieq]; exact decide_eq_decide.mpr (lw_eq x y)
theorem own_lne (x y : Int64) : ifCond.holds .ne (lcmpW x y) = decide (x ≠ y) := by rw [if0, own_ine]; exact decide_eq_decide.mpr (not_congr (lw_eq x y))
theorem own_lle (x y : Int64) : ifCond.holds .le (lcmpW x y) = decide (x ≤ y) := by rw [if0, own_ile]; exact decide_eq_decide.mpr (by rw [← Int32.not_lt, lw_gt, Int64.not_lt])
theorem own_lge (x y : Int64) : ifCond.holds .ge (lcmpW x y) = decide (y ≤ x) := by rw [if0, own_ige]; exact decide_eq_decide.mpr (by rw [← Int32.not_lt, lw_lt, Int64.not_lt])
theorem own_n (u2 : Int64) : 0 ≤ (u2 &&& (4398046511103 : Int64)).toInt ∧ (u2 &&& (4398046511103 : Int64)).toInt < 4398046511104 := by
  have m1 := c_maskL u2 (4398046511103 : Int64) 42 (by decide) (by decide)
  rw [m1]; omega
theorem own_q (u1 : Int64) : 0 ≤ (u1 &&& (1048575 : Int64)).toInt ∧ (u1 &&& (1048575 : Int64)).toInt < 1048576 := by
  have m1 := c_maskL u1 (1048575 : Int64) 20 (by decide) (by decide)
  rw [m1]; omega
theorem own_eM : (4398046511104 : Int64).toInt = 4398046511104 := by decide
theorem own_i1 (n : Int64) (h : 0 ≤ n.toInt ∧ n.toInt < 4398046511104) : ifCond.holds .lt (lcmpW n (0 : Int64)) = false := by
  rw [own_llt]; refine decide_eq_false ?_
  rw [Int64.lt_iff_toInt_lt]; have e : (0 : Int64).toInt = 0 := by decide
  omega
theorem own_i2 (n : Int64) (h : 0 ≤ n.toInt ∧ n.toInt < 4398046511104) : ifCond.holds .lt (lcmpW n (4398046511104 : Int64)) = true := by
  rw [own_llt]; refine decide_eq_true ?_
  rw [Int64.lt_iff_toInt_lt, own_eM]; omega
theorem own_id (a n : Int64) (h : 0 ≤ n.toInt ∧ n.toInt < 4398046511104) : (a * (4398046511104 : Int64)) + n = (a <<< ((42 : Int32) &&& 0x3f).toInt64) ||| n := by
  have a1 := c_lmul a (4398046511104 : Int64)
  have a2 := c_ladd (a * (4398046511104 : Int64)) n
  have a3 := c_lshl a (42 : Int32) 42 (by decide)
  rw [own_eM] at a1
  have a4 := c_orL (a <<< ((42 : Int32) &&& 0x3f).toInt64) n 42 (by decide) 4398046511104 (by decide) (by omega) h.1 h.2
  have r1 := rng64 ((a * (4398046511104 : Int64)) + n)
  have r2 := rng64 ((a <<< ((42 : Int32) &&& 0x3f).toInt64) ||| n)
  apply Int64.toInt_inj.mp
  omega
theorem own_c1 (a n : Int64) (h : 0 ≤ n.toInt ∧ n.toInt < 4398046511104) : ifCond.holds .eq (lcmpW ((a * (4398046511104 : Int64)) + n) ((a <<< ((42 : Int32) &&& 0x3f).toInt64) ||| n)) = true := by
  rw [own_leq]; exact decide_eq_true (own_id a n h)
theorem own_val (q n : Int64) (hq : 0 ≤ q.toInt ∧ q.toInt < 1048576) (h : 0 ≤ n.toInt ∧ n.toInt < 4398046511104) : ((q * (4398046511104 : Int64)) + n).toInt = q.toInt * 4398046511104 + n.toInt := by
  have a1 := c_lmul q (4398046511104 : Int64)
  have a2 := c_ladd (q * (4398046511104 : Int64)) n
  rw [own_eM] at a1
  have r1 := rng64 ((q * (4398046511104 : Int64)) + n)
  have r2 := rng64 (q * (4398046511104 : Int64))
  omega
theorem own_c2 (q n : Int64) (hq : 0 ≤ q.toInt ∧ q.toInt < 1048576) (h : 0 ≤ n.toInt ∧ n.toInt < 4398046511104) : ifCond.holds .ge (lcmpW ((q * (4398046511104 : Int64)) + n) (0 : Int64)) = true := by
  rw [own_lge]; refine decide_eq_true ?_
  have e : (0 : Int64).toInt = 0 := by decide
  rw [Int64.le_iff_toInt_le, own_val q n hq h, e]; omega
theorem own_c3 (q n : Int64) (hq : 0 ≤ q.toInt ∧ q.toInt < 1048576) (h : 0 ≤ n.toInt ∧ n.toInt < 4398046511104) : ifCond.holds .ne (lcmpW (((q * (4398046511104 : Int64)) + n) / (4398046511104 : Int64)) q) = false := by
  rw [own_lne]; refine decide_eq_false (not_not_intro ?_)
  have v := own_val q n hq h
  have a := (c_ldiv ((q * (4398046511104 : Int64)) + n) (4398046511104 : Int64) 4398046511104 own_eM (by decide)).1 (by omega)
  apply Int64.toInt_inj.mp
  rw [a, v]; omega
theorem own_c4 (q n : Int64) (hq : 0 ≤ q.toInt ∧ q.toInt < 1048576) (h : 0 ≤ n.toInt ∧ n.toInt < 4398046511104) : ifCond.holds .ne (lcmpW (((q * (4398046511104 : Int64)) + n) - (((q * (4398046511104 : Int64)) + n) / (4398046511104 : Int64)) * (4398046511104 : Int64)) n) = false := by
  rw [own_lne]; refine decide_eq_false (not_not_intro ?_)
  have v := own_val q n hq h
  have a := (c_lrem ((q * (4398046511104 : Int64)) + n) (4398046511104 : Int64) 4398046511104 own_eM).1 (by omega)
  apply Int64.toInt_inj.mp
  rw [a, v]; omega
theorem d1_0 : decode prog_32_method_2_code 0 = .ok (.lload_n 2, 1) := by decide +kernel
theorem d1_1 : decode prog_32_method_2_code 1 = .ok (.lconst 0, 1) := by decide +kernel
theorem d1_2 : decode prog_32_method_2_code 2 = .ok (.lcmp, 1) := by decide +kernel
theorem d1_3 : decode prog_32_method_2_code 3 = .ok (.ifCond .lt 11, 3) := by decide +kernel
theorem d1_6 : decode prog_32_method_2_code 6 = .ok (.lload_n 2, 1) := by decide +kernel
theorem d1_7 : decode prog_32_method_2_code 7 = .ok (.ldc2_w 9, 3) := by decide +kernel
theorem d1_10 : decode prog_32_method_2_code 10 = .ok (.lcmp, 1) := by decide +kernel
theorem d1_11 : decode prog_32_method_2_code 11 = .ok (.ifCond .lt 17, 3) := by decide +kernel
theorem d1_28 : decode prog_32_method_2_code 28 = .ok (.lload_n 0, 1) := by decide +kernel
theorem d1_29 : decode prog_32_method_2_code 29 = .ok (.ldc2_w 9, 3) := by decide +kernel
theorem d1_32 : decode prog_32_method_2_code 32 = .ok (.lmul, 1) := by decide +kernel
theorem d1_33 : decode prog_32_method_2_code 33 = .ok (.lload_n 2, 1) := by decide +kernel
theorem d1_34 : decode prog_32_method_2_code 34 = .ok (.ladd, 1) := by decide +kernel
theorem d1_35 : decode prog_32_method_2_code 35 = .ok (.lreturn, 1) := by decide +kernel
theorem ef_rm_id (m : MethodId) (x0 : Int64) (x1 : Int64) : entryFrame m #[(.long x0), (.long x1)] 4 = mkF m 0 #[.val (.long x0), .second, .val (.long x1), .second] [] := by first | (simp [entryFrame, mkF, argsToLocals, Value.category]; done) | rfl
def Q_rm_id (Z : State) (u1 : Int64) (u2 : Int64) (h0 : Heap) (n0 : Nat) (v : Option Value) (h : Heap) (L : List Loc) : Prop := v = some (.long ((u1 * (4398046511104 : Int64)) + u2)) ∧ Fr n0 L ∧ h = h0
theorem pn_579907 : plainName "com/example/eskerline/eskerline/db/Ids" = true := by first | (simp [plainName, overriddenIn]; done) | decide +kernel
set_option maxRecDepth 65536 in
set_option maxHeartbeats 40000000 in
theorem rm_id (l : Launch) (Z : State) (a0 : Array Value) (hw : ∀ d ∈ tables_1, d.before a0 Z = true) (ws : List Jvm.Cond) (u1 : Int64) (u2 : Int64) (h0 : Heap) (n0 : Nat) (Z0 : n0 ≤ h0.size) (hn : 0 ≤ u2.toInt ∧ u2.toInt < 4398046511104) :
    MetFree l (⟨"com/example/eskerline/eskerline/db/Ids", "id", "(JJ)J"⟩ : MethodName) (head1 (Jvm.Cond.code (⟨"com/example/eskerline/eskerline/db/Ids", "id", "(JJ)J"⟩ : MethodName) prog_32_method_2_code 4 (some .long) :: ws) ({ frames := 0, cells := 0, slots := 0, locals := 0 } : Room)) (fun a U => a = #[(.long u1), (.long u2)] ∧ Z.Warmed39 U.vm ∧ U.heap = h0) (fun _ _ _ _ _ => True) (fun _ U o U' => ∃ v L, o = .returned v ∧ Q_rm_id Z u1 u2 h0 n0 v U'.heap L ∧ FrameEnd U o U' L ({ frames := 0, cells := 0, slots := 0, locals := 0 } : Room).cells ({ frames := 0, cells := 0, slots := 0, locals := 0 } : Room).slots) := by
  refine MetFree.of_bodySF (plainFor_of_name pn_579907) hisR ?_
  intro p e s m args below meth c s₁ Bd hml0 hP hK
  obtain ⟨rfl, hZ, hh⟩ := hP
  have hx := Bd.exec
  have hby := Bd.bytes
  have hml : c.maxLocals = 4 := hml0
  have hown : s.vm.findClass "com/example/eskerline/eskerline/db/Ids" = some m.cls := findClass_of_methodNamed Bd.named
  have hnm := (name_of_methodNamed Bd.named Bd.method).1
  have X0 : Stand p l e ({ frames := 0, cells := 0, slots := 0, locals := 0 } : Room) s m #[(.long u1), (.long u2)] below meth c s₁ [] 0 0 := Stand.of_body Bd
  have e0 : s₁.heap = h0 := by rw [← hh, Bd.state]; rfl
  have N0 := Fr.nil n0
  have pre0 : ∀ t, Steps p.tables e below (s₁.setTop (mkF m 0 #[.val (.long u1), .second, .val (.long u2), .second] [])) t → Steps p.tables e below (s₁.setTop (entryFrame m #[(.long u1), (.long u2)] 4)) t := fun t k => castTop (ef_rm_id m u1 u2) k
  obtain ⟨fs, hr, hrun, hended, hW, hsame⟩ := X0.leave (v := some (.long ((u1 * (4398046511104 : Int64)) + u2))) (fun h => by rw [Bd.returns] at h; cases h)
  refine ⟨_, _, pre0 _ ?_, hrun, hended, _, _, rfl, ?_, ⟨_, rfl⟩, hW, hsame.mono (by decide) (by decide)⟩
  · show Steps p.tables e below (s₁.setTop (mkF m 0 #[.val (.long u1), .second, .val (.long u2), .second] [])) _
    refine XS.lloadN X0.here hx rfl (hb hby d1_0) rfl ?_
    show Steps p.tables e below (s₁.setTop (mkF m 1 #[.val (.long u1), .second, .val (.long u2), .second] [(.long u2)])) _
    refine XS.lconst X0.here hx rfl (hb hby d1_1) ?_
    show Steps p.tables e below (s₁.setTop (mkF m 2 #[.val (.long u1), .second, .val (.long u2), .second] [(.long (0 : Int64)), (.long u2)])) _
    refine XS.lcmp X0.here hx rfl (hb hby d1_2) rfl ?_
    show Steps p.tables e below (s₁.setTop (mkF m 3 #[.val (.long u1), .second, .val (.long u2), .second] [(.int (lcmpW u2 (0 : Int64)))])) _
    refine XS.ifNo X0.here hx rfl (hb hby d1_3) rfl (own_i1 _ hn) ?_
    show Steps p.tables e below (s₁.setTop (mkF m 6 #[.val (.long u1), .second, .val (.long u2), .second] [])) _
    refine XS.lloadN X0.here hx rfl (hb hby d1_6) rfl ?_
    show Steps p.tables e below (s₁.setTop (mkF m 7 #[.val (.long u1), .second, .val (.long u2), .second] [(.long u2)])) _
    refine X0.ldc2Long hx hown (mvT hZ (own_w hw 5 rfl)) (g := (mkF m 7 #[.val (.long u1), .second, .val (.long u2), .second] [(.long u2)])) rfl (hb hby d1_7) _ ?_
    show Steps p.tables e below (s₁.setTop (mkF m 10 #[.val (.long u1), .second, .val (.long u2), .second] [(.long (4398046511104 : Int64)), (.long u2)])) _
    refine XS.lcmp X0.here hx rfl (hb hby d1_10) rfl ?_
    show Steps p.tables e below (s₁.setTop (mkF m 11 #[.val (.long u1), .second, .val (.long u2), .second] [(.int (lcmpW u2 (4398046511104 : Int64)))])) _
    refine XS.ifYes X0.here hx rfl (pc0 := 11) (pc' := 28) rfl (hb hby d1_11) rfl (own_i2 _ hn) (by decide) (by decide) ?_
    show Steps p.tables e below (s₁.setTop (mkF m 28 #[.val (.long u1), .second, .val (.long u2), .second] [])) _
    refine XS.lloadN X0.here hx rfl (hb hby d1_28) rfl ?_
    show Steps p.tables e below (s₁.setTop (mkF m 29 #[.val (.long u1), .second, .val (.long u2), .second] [(.long u1)])) _
    refine X0.ldc2Long hx hown (mvT hZ (own_w hw 5 rfl)) (g := (mkF m 29 #[.val (.long u1), .second, .val (.long u2), .second] [(.long u1)])) rfl (hb hby d1_29) _ ?_
    show Steps p.tables e below (s₁.setTop (mkF m 32 #[.val (.long u1), .second, .val (.long u2), .second] [(.long (4398046511104 : Int64)), (.long u1)])) _
    refine XS.lmul X0.here hx rfl (hb hby d1_32) rfl ?_
    show Steps p.tables e below (s₁.setTop (mkF m 33 #[.val (.long u1), .second, .val (.long u2), .second] [(.long (u1 * (4398046511104 : Int64)))])) _
    refine XS.lloadN X0.here hx rfl (hb hby d1_33) rfl ?_
    show Steps p.tables e below (s₁.setTop (mkF m 34 #[.val (.long u1), .second, .val (.long u2), .second] [(.long u2), (.long (u1 * (4398046511104 : Int64)))])) _
    refine XS.ladd X0.here hx rfl (hb hby d1_34) rfl ?_
    show Steps p.tables e below (s₁.setTop (mkF m 35 #[.val (.long u1), .second, .val (.long u2), .second] [(.long ((u1 * (4398046511104 : Int64)) + u2))])) _
    jvm_step X0.here [X0.here.top, hx, (hb hby d1_35), X0.method', Bd.returns, narrow]
    first | (intro acts; rw [hr _ acts rfl rfl rfl]) | rw [hr _ _ rfl rfl rfl]
    exact Steps.refl _
  · show Q_rm_id Z _ _ h0 n0 _ s₁.heap _
    rw [e0]
    exact ⟨rfl, N0, rfl⟩
theorem d2_0 : decode prog_32_method_3_code 0 = .ok (.lload_n 0, 1) := by decide +kernel
theorem d2_1 : decode prog_32_method_3_code 1 = .ok (.ldc2_w 9, 3) := by decide +kernel
theorem d2_4 : decode prog_32_method_3_code 4 = .ok (.ldiv, 1) := by decide +kernel
theorem d2_5 : decode prog_32_method_3_code 5 = .ok (.lreturn, 1) := by decide +kernel
theorem ef_rm_part (m : MethodId) (x0 : Int64) : entryFrame m #[(.long x0)] 2 = mkF m 0 #[.val (.long x0), .second] [] := by first | (simp [entryFrame, mkF, argsToLocals, Value.category]; done) | rfl
def Q_rm_part (Z : State) (u1 : Int64) (h0 : Heap) (n0 : Nat) (v : Option Value) (h : Heap) (L : List Loc) : Prop := v = some (.long (u1 / (4398046511104 : Int64))) ∧ Fr n0 L ∧ h = h0
set_option maxRecDepth 65536 in
set_option maxHeartbeats 40000000 in
theorem rm_part (l : Launch) (Z : State) (a0 : Array Value) (hw : ∀ d ∈ tables_1, d.before a0 Z = true) (ws : List Jvm.Cond) (u1 : Int64) (h0 : Heap) (n0 : Nat) (Z0 : n0 ≤ h0.size) :
    MetFree l (⟨"com/example/eskerline/eskerline/db/Ids", "partition", "(J)J"⟩ : MethodName) (head1 (Jvm.Cond.code (⟨"com/example/eskerline/eskerline/db/Ids", "partition", "(J)J"⟩ : MethodName) prog_32_method_3_code 2 (some .long) :: ws) ({ frames := 0, cells := 0, slots := 0, locals := 0 } : Room)) (fun a U => a = #[(.long u1)] ∧ Z.Warmed39 U.vm ∧ U.heap = h0) (fun _ _ _ _ _ => True) (fun _ U o U' => ∃ v L, o = .returned v ∧ Q_rm_part Z u1 h0 n0 v U'.heap L ∧ FrameEnd U o U' L ({ frames := 0, cells := 0, slots := 0, locals := 0 } : Room).cells ({ frames := 0, cells := 0, slots := 0, locals := 0 } : Room).slots) := by
  refine MetFree.of_bodySF (plainFor_of_name pn_579907) hisR ?_
  intro p e s m args below meth c s₁ Bd hml0 hP hK
  obtain ⟨rfl, hZ, hh⟩ := hP
  have hx := Bd.exec
  have hby := Bd.bytes
  have hml : c.maxLocals = 2 := hml0
  have hown : s.vm.findClass "com/example/eskerline/eskerline/db/Ids" = some m.cls := findClass_of_methodNamed Bd.named
  have hnm := (name_of_methodNamed Bd.named Bd.method).1
  have X0 : Stand p l e ({ frames := 0, cells := 0, slots := 0, locals := 0 } : Room) s m #[(.long u1)] below meth c s₁ [] 0 0 := Stand.of_body Bd
  have e0 : s₁.heap = h0 := by rw [← hh, Bd.state]; rfl
  have N0 := Fr.nil n0
  have pre0 : ∀ t, Steps p.tables e below (s₁.setTop (mkF m 0 #[.val (.long u1), .second] [])) t → Steps p.tables e below (s₁.setTop (entryFrame m #[(.long u1)] 2)) t := fun t k => castTop (ef_rm_part m u1) k
  obtain ⟨fs, hr, hrun, hended, hW, hsame⟩ := X0.leave (v := some (.long (u1 / (4398046511104 : Int64)))) (fun h => by rw [Bd.returns] at h; cases h)
  refine ⟨_, _, pre0 _ ?_, hrun, hended, _, _, rfl, ?_, ⟨_, rfl⟩, hW, hsame.mono (by decide) (by decide)⟩
  · show Steps p.tables e below (s₁.setTop (mkF m 0 #[.val (.long u1), .second] [])) _
    refine XS.lloadN X0.here hx rfl (hb hby d2_0) rfl ?_
    show Steps p.tables e below (s₁.setTop (mkF m 1 #[.val (.long u1), .second] [(.long u1)])) _
    refine X0.ldc2Long hx hown (mvT hZ (own_w hw 5 rfl)) (g := (mkF m 1 #[.val (.long u1), .second] [(.long u1)])) rfl (hb hby d2_1) _ ?_
    show Steps p.tables e below (s₁.setTop (mkF m 4 #[.val (.long u1), .second] [(.long (4398046511104 : Int64)), (.long u1)])) _
    refine XS.ldiv X0.here hx rfl (hb hby d2_4) rfl (by decide) ?_
    show Steps p.tables e below (s₁.setTop (mkF m 5 #[.val (.long u1), .second] [(.long (u1 / (4398046511104 : Int64)))])) _
    jvm_step X0.here [X0.here.top, hx, (hb hby d2_5), X0.method', Bd.returns, narrow]
    first | (intro acts; rw [hr _ acts rfl rfl rfl]) | rw [hr _ _ rfl rfl rfl]
    exact Steps.refl _
  · show Q_rm_part Z _ h0 n0 _ s₁.heap _
    rw [e0]
    exact ⟨rfl, N0, rfl⟩
theorem d3_0 : decode prog_32_method_4_code 0 = .ok (.lload_n 0, 1) := by decide +kernel
theorem d3_1 : decode prog_32_method_4_code 1 = .ok (.ldc2_w 9, 3) := by decide +kernel
theorem d3_4 : decode prog_32_method_4_code 4 = .ok (.lrem, 1) := by decide +kernel
theorem d3_5 : decode prog_32_method_4_code 5 = .ok (.lreturn, 1) := by decide +kernel
theorem ef_rm_num (m : MethodId) (x0 : Int64) : entryFrame m #[(.long x0)] 2 = mkF m 0 #[.val (.long x0), .second] [] := by first | (simp [entryFrame, mkF, argsToLocals, Value.category]; done) | rfl
def Q_rm_num (Z : State) (u1 : Int64) (h0 : Heap) (n0 : Nat) (v : Option Value) (h : Heap) (L : List Loc) : Prop := v = some (.long (u1 - (u1 / (4398046511104 : Int64)) * (4398046511104 : Int64))) ∧ Fr n0 L ∧ h = h0
set_option maxRecDepth 65536 in
set_option maxHeartbeats 40000000 in
theorem rm_num (l : Launch) (Z : State) (a0 : Array Value) (hw : ∀ d ∈ tables_1, d.before a0 Z = true) (ws : List Jvm.Cond) (u1 : Int64) (h0 : Heap) (n0 : Nat) (Z0 : n0 ≤ h0.size) :
    MetFree l (⟨"com/example/eskerline/eskerline/db/Ids", "number", "(J)J"⟩ : MethodName) (head1 (Jvm.Cond.code (⟨"com/example/eskerline/eskerline/db/Ids", "number", "(J)J"⟩ : MethodName) prog_32_method_4_code 2 (some .long) :: ws) ({ frames := 0, cells := 0, slots := 0, locals := 0 } : Room)) (fun a U => a = #[(.long u1)] ∧ Z.Warmed39 U.vm ∧ U.heap = h0) (fun _ _ _ _ _ => True) (fun _ U o U' => ∃ v L, o = .returned v ∧ Q_rm_num Z u1 h0 n0 v U'.heap L ∧ FrameEnd U o U' L ({ frames := 0, cells := 0, slots := 0, locals := 0 } : Room).cells ({ frames := 0, cells := 0, slots := 0, locals := 0 } : Room).slots) := by
  refine MetFree.of_bodySF (plainFor_of_name pn_579907) hisR ?_
  intro p e s m args below meth c s₁ Bd hml0 hP hK
  obtain ⟨rfl, hZ, hh⟩ := hP
  have hx := Bd.exec
  have hby := Bd.bytes
  have hml : c.maxLocals = 2 := hml0
  have hown : s.vm.findClass "com/example/eskerline/eskerline/db/Ids" = some m.cls := findClass_of_methodNamed Bd.named
  have hnm := (name_of_methodNamed Bd.named Bd.method).1
  have X0 : Stand p l e ({ frames := 0, cells := 0, slots := 0, locals := 0 } : Room) s m #[(.long u1)] below meth c s₁ [] 0 0 := Stand.of_body Bd
  have e0 : s₁.heap = h0 := by rw [← hh, Bd.state]; rfl
  have N0 := Fr.nil n0
  have pre0 : ∀ t, Steps p.tables e below (s₁.setTop (mkF m 0 #[.val (.long u1), .second] [])) t → Steps p.tables e below (s₁.setTop (entryFrame m #[(.long u1)] 2)) t := fun t k => castTop (ef_rm_num m u1) k
  obtain ⟨fs, hr, hrun, hended, hW, hsame⟩ := X0.leave (v := some (.long (u1 - (u1 / (4398046511104 : Int64)) * (4398046511104 : Int64)))) (fun h => by rw [Bd.returns] at h; cases h)
  refine ⟨_, _, pre0 _ ?_, hrun, hended, _, _, rfl, ?_, ⟨_, rfl⟩, hW, hsame.mono (by decide) (by decide)⟩
  · show Steps p.tables e below (s₁.setTop (mkF m 0 #[.val (.long u1), .second] [])) _
    refine XS.lloadN X0.here hx rfl (hb hby d3_0) rfl ?_
    show Steps p.tables e below (s₁.setTop (mkF m 1 #[.val (.long u1), .second] [(.long u1)])) _
    refine X0.ldc2Long hx hown (mvT hZ (own_w hw 5 rfl)) (g := (mkF m 1 #[.val (.long u1), .second] [(.long u1)])) rfl (hb hby d3_1) _ ?_
    show Steps p.tables e below (s₁.setTop (mkF m 4 #[.val (.long u1), .second] [(.long (4398046511104 : Int64)), (.long u1)])) _
    refine XS.lrem X0.here hx rfl (hb hby d3_4) rfl (by decide) ?_
    show Steps p.tables e below (s₁.setTop (mkF m 5 #[.val (.long u1), .second] [(.long (u1 - (u1 / (4398046511104 : Int64)) * (4398046511104 : Int64)))])) _
    jvm_step X0.here [X0.here.top, hx, (hb hby d3_5), X0.method', Bd.returns, narrow]
    first | (intro acts; rw [hr _ acts rfl rfl rfl]) | rw [hr _ _ rfl rfl rfl]
    exact Steps.refl _
  · show Q_rm_num Z _ h0 n0 _ s₁.heap _
    rw [e0]
    exact ⟨rfl, N0, rfl⟩
theorem pd_595092 : parseMethodDescriptor "(JJ)J" = some ⟨[.long, .long], some .long⟩ := by decide +kernel
theorem pd_198726 : parseMethodDescriptor "(J)J" = some ⟨[.long], some .long⟩ := by decide +kernel
theorem ef_rm_law (m : MethodId) (x0 : Int64) (x1 : Int64) : entryFrame m #[(.long x0), (.long x1)] maxLocals = mkF m 0 #[.val (.long x0), .second, .val (.long x1), .second, .unset, .unset, .unset, .unset, .unset, .unset, .unset, .unset, .unset, .unset] [] := by first | (simp [entryFrame, mkF, argsToLocals, Value.category, maxLocals]; done) | rfl
def Q_rm_law (Z : State) (u1 : Int64) (u2 : Int64) (h0 : Heap) (n0 : Nat) (v : Option Value) (h : Heap) (L : List Loc) : Prop := v = some (.int (1 : Int32)) ∧ Fr n0 L
theorem pn_264516 : plainName "com/example/eskerline/eskerline/db/IdsIdPinLaw" = true := by first | (simp [plainName, overriddenIn]; done) | decide +kernel
set_option maxRecDepth 65536 in
set_option maxHeartbeats 40000000 in
theorem rm_law (l : Launch) (Z : State) (a0 : Array Value) (hw : ∀ d ∈ tables_1, d.before a0 Z = true) (ws : List Jvm.Cond) (u1 : Int64) (u2 : Int64) (h0 : Heap) (n0 : Nat) (Z0 : n0 ≤ h0.size) :
    MetFree l x (head1 (Jvm.Cond.code x code maxLocals ret :: ws) room_1) (fun a U => a = #[(.long u1), (.long u2)] ∧ Z.Warmed39 U.vm ∧ U.heap = h0) (fun _ _ _ _ _ => True) (fun _ U o U' => ∃ v L, o = .returned v ∧ Q_rm_law Z u1 u2 h0 n0 v U'.heap L ∧ FrameEnd U o U' L room_1.cells room_1.slots) := by
  refine MetFree.of_bodySF (plainFor_of_name pn_264516) hisR ?_
  intro p e s m args below meth c s₁ Bd hml0 hP hK
  obtain ⟨rfl, hZ, hh⟩ := hP
  have hx := Bd.exec
  have hby := Bd.bytes
  have hml : c.maxLocals = 14 := hml0
  have hown : s.vm.findClass "com/example/eskerline/eskerline/db/IdsIdPinLaw" = some m.cls := findClass_of_methodNamed Bd.named
  have hnm := (name_of_methodNamed Bd.named Bd.method).1
  have X0 : Stand p l e room_1 s m #[(.long u1), (.long u2)] below meth c s₁ [] 0 0 := Stand.of_body Bd
  have e0 : s₁.heap = h0 := by rw [← hh, Bd.state]; rfl
  have N0 := Fr.nil n0
  have pre0 : ∀ t, Steps p.tables e below (s₁.setTop (mkF m 0 #[.val (.long u1), .second, .val (.long u2), .second, .unset, .unset, .unset, .unset, .unset, .unset, .unset, .unset, .unset, .unset] [])) t → Steps p.tables e below (s₁.setTop (entryFrame m #[(.long u1), (.long u2)] maxLocals)) t := fun t k => castTop (ef_rm_law m u1 u2) k
  obtain ⟨_, _, ⟨T1, L1, k1, n1⟩, -, X1, ⟨Lc1, hQ1, l1, y1, z1⟩, st1⟩ := Jvm.LawKit.callS X0 hx (y := (⟨"com/example/eskerline/eskerline/db/Ids", "id", "(JJ)J"⟩ : MethodName)) hown (mvT hZ (own_w hw 1 rfl)) (mvT hZ (own_w hw 2 rfl)) (mvT hZ (own_w hw 3 rfl)) (mvT hZ (own_w hw 4 rfl)) (by decide) (backOf (W := 0) (rm_id l Z a0 hw [] u1 (u2 &&& (4398046511103 : Int64)) h0 n0 Z0 (own_n u2)) hZ (own_w hw 4 rfl) (own_w hw 3 rfl) (by decide) (by decide)) (g := (mkF m 10 #[.val (.long u1), .second, .val (.long u2), .second, .val (.long (u2 &&& (4398046511103 : Int64))), .second, .unset, .unset, .unset, .unset, .unset, .unset, .unset, .unset] [(.long (u2 &&& (4398046511103 : Int64))), (.long u1)])) rfl (by rw [hml]; rfl) (argsL := [(.long u1), (.long (u2 &&& (4398046511103 : Int64)))]) (rest := []) (lenOf pd_595092 rfl) rfl (by show 2 * 0 + _ ≤ _; exact Nat.le_of_eq rfl) (hb hby at_10) (fun _ _ => ⟨rfl, e0, (by decide : 0 + 0 ≤ _), (by decide : 0 + 0 ≤ _)⟩)
  dsimp only [Pt.U, Pt.locs, Pt.cells, Pt.slots] at X1 l1 y1 z1 st1 hQ1
  subst l1 y1 z1
  obtain ⟨rfl, Nq1, eq1⟩ := hQ1
  have N1 := Fr.app N0 Nq1
  obtain ⟨_, _, ⟨T2, L2, k2, n2⟩, -, X2, ⟨Lc2, hQ2, l2, y2, z2⟩, st2⟩ := Jvm.LawKit.callS X1 hx (y := (⟨"com/example/eskerline/eskerline/db/Ids", "id", "(JJ)J"⟩ : MethodName)) hown (mvT hZ (own_w hw 1 rfl)) (mvT hZ (own_w hw 2 rfl)) (mvT hZ (own_w hw 3 rfl)) (mvT hZ (own_w hw 4 rfl)) (by decide) (backOf (W := 0) (rm_id l Z a0 hw [] (u1 &&& (1048575 : Int64)) (u2 &&& (4398046511103 : Int64)) h0 n0 Z0 (own_n u2)) hZ (own_w hw 4 rfl) (own_w hw 3 rfl) (by decide) (by decide)) (g := (mkF m 45 #[.val (.long u1), .second, .val (.long u2), .second, .val (.long (u2 &&& (4398046511103 : Int64))), .second, .val (.long ((u1 * (4398046511104 : Int64)) + (u2 &&& (4398046511103 : Int64)))), .second, .val (.long ((u1 <<< ((42 : Int32) &&& 0x3f).toInt64) ||| (u2 &&& (4398046511103 : Int64)))), .second, .val (.long (u1 &&& (1048575 : Int64))), .second, .unset, .unset] [(.long (u2 &&& (4398046511103 : Int64))), (.long (u1 &&& (1048575 : Int64)))])) rfl (by rw [hml]; rfl) (argsL := [(.long (u1 &&& (1048575 : Int64))), (.long (u2 &&& (4398046511103 : Int64)))]) (rest := []) (lenOf pd_595092 rfl) rfl (by show 2 * 0 + _ ≤ _; exact Nat.le_of_eq rfl) (hb hby at_45) (fun _ _ => ⟨rfl, eq1, (by decide : 0 + 0 ≤ _), (by decide : 0 + 0 ≤ _)⟩)
  dsimp only [Pt.U, Pt.locs, Pt.cells, Pt.slots] at X2 l2 y2 z2 st2 hQ2
  subst l2 y2 z2
  obtain ⟨rfl, Nq2, eq2⟩ := hQ2
  have N2 := Fr.app N1 Nq2
  obtain ⟨_, _, ⟨T3, L3, k3, n3⟩, -, X3, ⟨Lc3, hQ3, l3, y3, z3⟩, st3⟩ := Jvm.LawKit.callS X2 hx (y := (⟨"com/example/eskerline/eskerline/db/Ids", "partition", "(J)J"⟩ : MethodName)) hown (mvT hZ (own_w hw 7 rfl)) (mvT hZ (own_w hw 8 rfl)) (mvT hZ (own_w hw 3 rfl)) (mvT hZ (own_w hw 9 rfl)) (by decide) (backOf (W := 0) (rm_part l Z a0 hw [] (((u1 &&& (1048575 : Int64)) * (4398046511104 : Int64)) + (u2 &&& (4398046511103 : Int64))) h0 n0 Z0 ) hZ (own_w hw 9 rfl) (own_w hw 3 rfl) (by decide) (by decide)) (g := (mkF m 61 #[.val (.long u1), .second, .val (.long u2), .second, .val (.long (u2 &&& (4398046511103 : Int64))), .second, .val (.long ((u1 * (4398046511104 : Int64)) + (u2 &&& (4398046511103 : Int64)))), .second, .val (.long ((u1 <<< ((42 : Int32) &&& 0x3f).toInt64) ||| (u2 &&& (4398046511103 : Int64)))), .second, .val (.long (u1 &&& (1048575 : Int64))), .second, .val (.long (((u1 &&& (1048575 : Int64)) * (4398046511104 : Int64)) + (u2 &&& (4398046511103 : Int64)))), .second] [(.long (((u1 &&& (1048575 : Int64)) * (4398046511104 : Int64)) + (u2 &&& (4398046511103 : Int64))))])) rfl (by rw [hml]; rfl) (argsL := [(.long (((u1 &&& (1048575 : Int64)) * (4398046511104 : Int64)) + (u2 &&& (4398046511103 : Int64))))]) (rest := []) (lenOf pd_198726 rfl) rfl (by show 2 * 0 + _ ≤ _; exact Nat.le_of_eq rfl) (hb hby at_61) (fun _ _ => ⟨rfl, eq2, (by decide : 0 + 0 ≤ _), (by decide : 0 + 0 ≤ _)⟩)
  dsimp only [Pt.U, Pt.locs, Pt.cells, Pt.slots] at X3 l3 y3 z3 st3 hQ3
  subst l3 y3 z3
  obtain ⟨rfl, Nq3, eq3⟩ := hQ3
  have N3 := Fr.app N2 Nq3
  obtain ⟨_, _, ⟨T4, L4, k4, n4⟩, -, X4, ⟨Lc4, hQ4, l4, y4, z4⟩, st4⟩ := Jvm.LawKit.callS X3 hx (y := (⟨"com/example/eskerline/eskerline/db/Ids", "number", "(J)J"⟩ : MethodName)) hown (mvT hZ (own_w hw 10 rfl)) (mvT hZ (own_w hw 11 rfl)) (mvT hZ (own_w hw 3 rfl)) (mvT hZ (own_w hw 12 rfl)) (by decide) (backOf (W := 0) (rm_num l Z a0 hw [] (((u1 &&& (1048575 : Int64)) * (4398046511104 : Int64)) + (u2 &&& (4398046511103 : Int64))) h0 n0 Z0 ) hZ (own_w hw 12 rfl) (own_w hw 3 rfl) (by decide) (by decide)) (g := (mkF m 72 #[.val (.long u1), .second, .val (.long u2), .second, .val (.long (u2 &&& (4398046511103 : Int64))), .second, .val (.long ((u1 * (4398046511104 : Int64)) + (u2 &&& (4398046511103 : Int64)))), .second, .val (.long ((u1 <<< ((42 : Int32) &&& 0x3f).toInt64) ||| (u2 &&& (4398046511103 : Int64)))), .second, .val (.long (u1 &&& (1048575 : Int64))), .second, .val (.long (((u1 &&& (1048575 : Int64)) * (4398046511104 : Int64)) + (u2 &&& (4398046511103 : Int64)))), .second] [(.long (((u1 &&& (1048575 : Int64)) * (4398046511104 : Int64)) + (u2 &&& (4398046511103 : Int64))))])) rfl (by rw [hml]; rfl) (argsL := [(.long (((u1 &&& (1048575 : Int64)) * (4398046511104 : Int64)) + (u2 &&& (4398046511103 : Int64))))]) (rest := []) (lenOf pd_198726 rfl) rfl (by show 2 * 0 + _ ≤ _; exact Nat.le_of_eq rfl) (hb hby at_72) (fun _ _ => ⟨rfl, eq3, (by decide : 0 + 0 ≤ _), (by decide : 0 + 0 ≤ _)⟩)
  dsimp only [Pt.U, Pt.locs, Pt.cells, Pt.slots] at X4 l4 y4 z4 st4 hQ4
  subst l4 y4 z4
  obtain ⟨rfl, Nq4, eq4⟩ := hQ4
  have N4 := Fr.app N3 Nq4
  obtain ⟨fs, hr, hrun, hended, hW, hsame⟩ := X4.leave (v := some (.int (1 : Int32))) (fun h => by rw [Bd.returns] at h; cases h)
  refine ⟨_, _, pre0 _ ?_, hrun, hended, _, _, rfl, ?_, ⟨_, rfl⟩, hW, hsame.mono (by decide) (by decide)⟩
  · show Steps p.tables e below (s₁.setTop (mkF m 0 #[.val (.long u1), .second, .val (.long u2), .second, .unset, .unset, .unset, .unset, .unset, .unset, .unset, .unset, .unset, .unset] [])) _
    refine XS.lloadN X0.here hx rfl (hb hby at_0) rfl ?_
    show Steps p.tables e below (s₁.setTop (mkF m 1 #[.val (.long u1), .second, .val (.long u2), .second, .unset, .unset, .unset, .unset, .unset, .unset, .unset, .unset, .unset, .unset] [(.long u2)])) _
    refine X0.ldc2Long hx hown (mvT hZ (own_w hw 0 rfl)) (g := (mkF m 1 #[.val (.long u1), .second, .val (.long u2), .second, .unset, .unset, .unset, .unset, .unset, .unset, .unset, .unset, .unset, .unset] [(.long u2)])) rfl (hb hby at_1) _ ?_
    show Steps p.tables e below (s₁.setTop (mkF m 4 #[.val (.long u1), .second, .val (.long u2), .second, .unset, .unset, .unset, .unset, .unset, .unset, .unset, .unset, .unset, .unset] [(.long (4398046511103 : Int64)), (.long u2)])) _
    refine XS.land X0.here hx rfl (hb hby at_4) rfl ?_
    show Steps p.tables e below (s₁.setTop (mkF m 5 #[.val (.long u1), .second, .val (.long u2), .second, .unset, .unset, .unset, .unset, .unset, .unset, .unset, .unset, .unset, .unset] [(.long (u2 &&& (4398046511103 : Int64)))])) _
    refine XS.lstore X0.here hx rfl (hb hby at_5) rfl (l' := #[.val (.long u1), .second, .val (.long u2), .second, .val (.long (u2 &&& (4398046511103 : Int64))), .second, .unset, .unset, .unset, .unset, .unset, .unset, .unset, .unset]) rfl ?_
    show Steps p.tables e below (s₁.setTop (mkF m 7 #[.val (.long u1), .second, .val (.long u2), .second, .val (.long (u2 &&& (4398046511103 : Int64))), .second, .unset, .unset, .unset, .unset, .unset, .unset, .unset, .unset] [])) _
    refine XS.lloadN X0.here hx rfl (hb hby at_7) rfl ?_
    show Steps p.tables e below (s₁.setTop (mkF m 8 #[.val (.long u1), .second, .val (.long u2), .second, .val (.long (u2 &&& (4398046511103 : Int64))), .second, .unset, .unset, .unset, .unset, .unset, .unset, .unset, .unset] [(.long u1)])) _
    refine XS.lload X0.here hx rfl (hb hby at_8) rfl ?_
    show Steps p.tables e below (s₁.setTop (mkF m 10 #[.val (.long u1), .second, .val (.long u2), .second, .val (.long (u2 &&& (4398046511103 : Int64))), .second, .unset, .unset, .unset, .unset, .unset, .unset, .unset, .unset] [(.long (u2 &&& (4398046511103 : Int64))), (.long u1)])) _
    refine st1 _ ?_
    show Steps p.tables e below (T1.setTop (mkF m 13 #[.val (.long u1), .second, .val (.long u2), .second, .val (.long (u2 &&& (4398046511103 : Int64))), .second, .unset, .unset, .unset, .unset, .unset, .unset, .unset, .unset] [(.long ((u1 * (4398046511104 : Int64)) + (u2 &&& (4398046511103 : Int64))))])) _
    refine XS.lstore X1.here hx rfl (hb hby at_13) rfl (l' := #[.val (.long u1), .second, .val (.long u2), .second, .val (.long (u2 &&& (4398046511103 : Int64))), .second, .val (.long ((u1 * (4398046511104 : Int64)) + (u2 &&& (4398046511103 : Int64)))), .second, .unset, .unset, .unset, .unset, .unset, .unset]) rfl ?_
    show Steps p.tables e below (T1.setTop (mkF m 15 #[.val (.long u1), .second, .val (.long u2), .second, .val (.long (u2 &&& (4398046511103 : Int64))), .second, .val (.long ((u1 * (4398046511104 : Int64)) + (u2 &&& (4398046511103 : Int64)))), .second, .unset, .unset, .unset, .unset, .unset, .unset] [])) _
    refine XS.lloadN X1.here hx rfl (hb hby at_15) rfl ?_
    show Steps p.tables e below (T1.setTop (mkF m 16 #[.val (.long u1), .second, .val (.long u2), .second, .val (.long (u2 &&& (4398046511103 : Int64))), .second, .val (.long ((u1 * (4398046511104 : Int64)) + (u2 &&& (4398046511103 : Int64)))), .second, .unset, .unset, .unset, .unset, .unset, .unset] [(.long u1)])) _
    refine XS.bipush X1.here hx rfl (hb hby at_16) ?_
    show Steps p.tables e below (T1.setTop (mkF m 18 #[.val (.long u1), .second, .val (.long u2), .second, .val (.long (u2 &&& (4398046511103 : Int64))), .second, .val (.long ((u1 * (4398046511104 : Int64)) + (u2 &&& (4398046511103 : Int64)))), .second, .unset, .unset, .unset, .unset, .unset, .unset] [(.int (42 : Int32)), (.long u1)])) _
    refine XS.lshl X1.here hx rfl (hb hby at_18) rfl ?_
    show Steps p.tables e below (T1.setTop (mkF m 19 #[.val (.long u1), .second, .val (.long u2), .second, .val (.long (u2 &&& (4398046511103 : Int64))), .second, .val (.long ((u1 * (4398046511104 : Int64)) + (u2 &&& (4398046511103 : Int64)))), .second, .unset, .unset, .unset, .unset, .unset, .unset] [(.long (u1 <<< ((42 : Int32) &&& 0x3f).toInt64))])) _
    refine XS.lload X1.here hx rfl (hb hby at_19) rfl ?_
    show Steps p.tables e below (T1.setTop (mkF m 21 #[.val (.long u1), .second, .val (.long u2), .second, .val (.long (u2 &&& (4398046511103 : Int64))), .second, .val (.long ((u1 * (4398046511104 : Int64)) + (u2 &&& (4398046511103 : Int64)))), .second, .unset, .unset, .unset, .unset, .unset, .unset] [(.long (u2 &&& (4398046511103 : Int64))), (.long (u1 <<< ((42 : Int32) &&& 0x3f).toInt64))])) _
    refine XS.lor X1.here hx rfl (hb hby at_21) rfl ?_
    show Steps p.tables e below (T1.setTop (mkF m 22 #[.val (.long u1), .second, .val (.long u2), .second, .val (.long (u2 &&& (4398046511103 : Int64))), .second, .val (.long ((u1 * (4398046511104 : Int64)) + (u2 &&& (4398046511103 : Int64)))), .second, .unset, .unset, .unset, .unset, .unset, .unset] [(.long ((u1 <<< ((42 : Int32) &&& 0x3f).toInt64) ||| (u2 &&& (4398046511103 : Int64))))])) _
    refine XS.lstore X1.here hx rfl (hb hby at_22) rfl (l' := #[.val (.long u1), .second, .val (.long u2), .second, .val (.long (u2 &&& (4398046511103 : Int64))), .second, .val (.long ((u1 * (4398046511104 : Int64)) + (u2 &&& (4398046511103 : Int64)))), .second, .val (.long ((u1 <<< ((42 : Int32) &&& 0x3f).toInt64) ||| (u2 &&& (4398046511103 : Int64)))), .second, .unset, .unset, .unset, .unset]) rfl ?_
    show Steps p.tables e below (T1.setTop (mkF m 24 #[.val (.long u1), .second, .val (.long u2), .second, .val (.long (u2 &&& (4398046511103 : Int64))), .second, .val (.long ((u1 * (4398046511104 : Int64)) + (u2 &&& (4398046511103 : Int64)))), .second, .val (.long ((u1 <<< ((42 : Int32) &&& 0x3f).toInt64) ||| (u2 &&& (4398046511103 : Int64)))), .second, .unset, .unset, .unset, .unset] [])) _
    refine XS.lload X1.here hx rfl (hb hby at_24) rfl ?_
    show Steps p.tables e below (T1.setTop (mkF m 26 #[.val (.long u1), .second, .val (.long u2), .second, .val (.long (u2 &&& (4398046511103 : Int64))), .second, .val (.long ((u1 * (4398046511104 : Int64)) + (u2 &&& (4398046511103 : Int64)))), .second, .val (.long ((u1 <<< ((42 : Int32) &&& 0x3f).toInt64) ||| (u2 &&& (4398046511103 : Int64)))), .second, .unset, .unset, .unset, .unset] [(.long ((u1 * (4398046511104 : Int64)) + (u2 &&& (4398046511103 : Int64))))])) _
    refine XS.lload X1.here hx rfl (hb hby at_26) rfl ?_
    show Steps p.tables e below (T1.setTop (mkF m 28 #[.val (.long u1), .second, .val (.long u2), .second, .val (.long (u2 &&& (4398046511103 : Int64))), .second, .val (.long ((u1 * (4398046511104 : Int64)) + (u2 &&& (4398046511103 : Int64)))), .second, .val (.long ((u1 <<< ((42 : Int32) &&& 0x3f).toInt64) ||| (u2 &&& (4398046511103 : Int64)))), .second, .unset, .unset, .unset, .unset] [(.long ((u1 <<< ((42 : Int32) &&& 0x3f).toInt64) ||| (u2 &&& (4398046511103 : Int64)))), (.long ((u1 * (4398046511104 : Int64)) + (u2 &&& (4398046511103 : Int64))))])) _
    refine XS.lcmp X1.here hx rfl (hb hby at_28) rfl ?_
    show Steps p.tables e below (T1.setTop (mkF m 29 #[.val (.long u1), .second, .val (.long u2), .second, .val (.long (u2 &&& (4398046511103 : Int64))), .second, .val (.long ((u1 * (4398046511104 : Int64)) + (u2 &&& (4398046511103 : Int64)))), .second, .val (.long ((u1 <<< ((42 : Int32) &&& 0x3f).toInt64) ||| (u2 &&& (4398046511103 : Int64)))), .second, .unset, .unset, .unset, .unset] [(.int (lcmpW ((u1 * (4398046511104 : Int64)) + (u2 &&& (4398046511103 : Int64))) ((u1 <<< ((42 : Int32) &&& 0x3f).toInt64) ||| (u2 &&& (4398046511103 : Int64)))))])) _
    refine XS.ifYes X1.here hx rfl (pc0 := 29) (pc' := 34) rfl (hb hby at_29) rfl (own_c1 _ _ (own_n u2)) (by decide) (by decide) ?_
    show Steps p.tables e below (T1.setTop (mkF m 34 #[.val (.long u1), .second, .val (.long u2), .second, .val (.long (u2 &&& (4398046511103 : Int64))), .second, .val (.long ((u1 * (4398046511104 : Int64)) + (u2 &&& (4398046511103 : Int64)))), .second, .val (.long ((u1 <<< ((42 : Int32) &&& 0x3f).toInt64) ||| (u2 &&& (4398046511103 : Int64)))), .second, .unset, .unset, .unset, .unset] [])) _
    refine XS.lloadN X1.here hx rfl (hb hby at_34) rfl ?_
    show Steps p.tables e below (T1.setTop (mkF m 35 #[.val (.long u1), .second, .val (.long u2), .second, .val (.long (u2 &&& (4398046511103 : Int64))), .second, .val (.long ((u1 * (4398046511104 : Int64)) + (u2 &&& (4398046511103 : Int64)))), .second, .val (.long ((u1 <<< ((42 : Int32) &&& 0x3f).toInt64) ||| (u2 &&& (4398046511103 : Int64)))), .second, .unset, .unset, .unset, .unset] [(.long u1)])) _
    refine X1.ldc2Long hx hown (mvT hZ (own_w hw 6 rfl)) (g := (mkF m 35 #[.val (.long u1), .second, .val (.long u2), .second, .val (.long (u2 &&& (4398046511103 : Int64))), .second, .val (.long ((u1 * (4398046511104 : Int64)) + (u2 &&& (4398046511103 : Int64)))), .second, .val (.long ((u1 <<< ((42 : Int32) &&& 0x3f).toInt64) ||| (u2 &&& (4398046511103 : Int64)))), .second, .unset, .unset, .unset, .unset] [(.long u1)])) rfl (hb hby at_35) _ ?_
    show Steps p.tables e below (T1.setTop (mkF m 38 #[.val (.long u1), .second, .val (.long u2), .second, .val (.long (u2 &&& (4398046511103 : Int64))), .second, .val (.long ((u1 * (4398046511104 : Int64)) + (u2 &&& (4398046511103 : Int64)))), .second, .val (.long ((u1 <<< ((42 : Int32) &&& 0x3f).toInt64) ||| (u2 &&& (4398046511103 : Int64)))), .second, .unset, .unset, .unset, .unset] [(.long (1048575 : Int64)), (.long u1)])) _
    refine XS.land X1.here hx rfl (hb hby at_38) rfl ?_
    show Steps p.tables e below (T1.setTop (mkF m 39 #[.val (.long u1), .second, .val (.long u2), .second, .val (.long (u2 &&& (4398046511103 : Int64))), .second, .val (.long ((u1 * (4398046511104 : Int64)) + (u2 &&& (4398046511103 : Int64)))), .second, .val (.long ((u1 <<< ((42 : Int32) &&& 0x3f).toInt64) ||| (u2 &&& (4398046511103 : Int64)))), .second, .unset, .unset, .unset, .unset] [(.long (u1 &&& (1048575 : Int64)))])) _
    refine XS.lstore X1.here hx rfl (hb hby at_39) rfl (l' := #[.val (.long u1), .second, .val (.long u2), .second, .val (.long (u2 &&& (4398046511103 : Int64))), .second, .val (.long ((u1 * (4398046511104 : Int64)) + (u2 &&& (4398046511103 : Int64)))), .second, .val (.long ((u1 <<< ((42 : Int32) &&& 0x3f).toInt64) ||| (u2 &&& (4398046511103 : Int64)))), .second, .val (.long (u1 &&& (1048575 : Int64))), .second, .unset, .unset]) rfl ?_
    show Steps p.tables e below (T1.setTop (mkF m 41 #[.val (.long u1), .second, .val (.long u2), .second, .val (.long (u2 &&& (4398046511103 : Int64))), .second, .val (.long ((u1 * (4398046511104 : Int64)) + (u2 &&& (4398046511103 : Int64)))), .second, .val (.long ((u1 <<< ((42 : Int32) &&& 0x3f).toInt64) ||| (u2 &&& (4398046511103 : Int64)))), .second, .val (.long (u1 &&& (1048575 : Int64))), .second, .unset, .unset] [])) _
    refine XS.lload X1.here hx rfl (hb hby at_41) rfl ?_
    show Steps p.tables e below (T1.setTop (mkF m 43 #[.val (.long u1), .second, .val (.long u2), .second, .val (.long (u2 &&& (4398046511103 : Int64))), .second, .val (.long ((u1 * (4398046511104 : Int64)) + (u2 &&& (4398046511103 : Int64)))), .second, .val (.long ((u1 <<< ((42 : Int32) &&& 0x3f).toInt64) ||| (u2 &&& (4398046511103 : Int64)))), .second, .val (.long (u1 &&& (1048575 : Int64))), .second, .unset, .unset] [(.long (u1 &&& (1048575 : Int64)))])) _
    refine XS.lload X1.here hx rfl (hb hby at_43) rfl ?_
    show Steps p.tables e below (T1.setTop (mkF m 45 #[.val (.long u1), .second, .val (.long u2), .second, .val (.long (u2 &&& (4398046511103 : Int64))), .second, .val (.long ((u1 * (4398046511104 : Int64)) + (u2 &&& (4398046511103 : Int64)))), .second, .val (.long ((u1 <<< ((42 : Int32) &&& 0x3f).toInt64) ||| (u2 &&& (4398046511103 : Int64)))), .second, .val (.long (u1 &&& (1048575 : Int64))), .second, .unset, .unset] [(.long (u2 &&& (4398046511103 : Int64))), (.long (u1 &&& (1048575 : Int64)))])) _
    refine st2 _ ?_
    show Steps p.tables e below (T2.setTop (mkF m 48 #[.val (.long u1), .second, .val (.long u2), .second, .val (.long (u2 &&& (4398046511103 : Int64))), .second, .val (.long ((u1 * (4398046511104 : Int64)) + (u2 &&& (4398046511103 : Int64)))), .second, .val (.long ((u1 <<< ((42 : Int32) &&& 0x3f).toInt64) ||| (u2 &&& (4398046511103 : Int64)))), .second, .val (.long (u1 &&& (1048575 : Int64))), .second, .unset, .unset] [(.long (((u1 &&& (1048575 : Int64)) * (4398046511104 : Int64)) + (u2 &&& (4398046511103 : Int64))))])) _
    refine XS.lstore X2.here hx rfl (hb hby at_48) rfl (l' := #[.val (.long u1), .second, .val (.long u2), .second, .val (.long (u2 &&& (4398046511103 : Int64))), .second, .val (.long ((u1 * (4398046511104 : Int64)) + (u2 &&& (4398046511103 : Int64)))), .second, .val (.long ((u1 <<< ((42 : Int32) &&& 0x3f).toInt64) ||| (u2 &&& (4398046511103 : Int64)))), .second, .val (.long (u1 &&& (1048575 : Int64))), .second, .val (.long (((u1 &&& (1048575 : Int64)) * (4398046511104 : Int64)) + (u2 &&& (4398046511103 : Int64)))), .second]) rfl ?_
    show Steps p.tables e below (T2.setTop (mkF m 50 #[.val (.long u1), .second, .val (.long u2), .second, .val (.long (u2 &&& (4398046511103 : Int64))), .second, .val (.long ((u1 * (4398046511104 : Int64)) + (u2 &&& (4398046511103 : Int64)))), .second, .val (.long ((u1 <<< ((42 : Int32) &&& 0x3f).toInt64) ||| (u2 &&& (4398046511103 : Int64)))), .second, .val (.long (u1 &&& (1048575 : Int64))), .second, .val (.long (((u1 &&& (1048575 : Int64)) * (4398046511104 : Int64)) + (u2 &&& (4398046511103 : Int64)))), .second] [])) _
    refine XS.lload X2.here hx rfl (hb hby at_50) rfl ?_
    show Steps p.tables e below (T2.setTop (mkF m 52 #[.val (.long u1), .second, .val (.long u2), .second, .val (.long (u2 &&& (4398046511103 : Int64))), .second, .val (.long ((u1 * (4398046511104 : Int64)) + (u2 &&& (4398046511103 : Int64)))), .second, .val (.long ((u1 <<< ((42 : Int32) &&& 0x3f).toInt64) ||| (u2 &&& (4398046511103 : Int64)))), .second, .val (.long (u1 &&& (1048575 : Int64))), .second, .val (.long (((u1 &&& (1048575 : Int64)) * (4398046511104 : Int64)) + (u2 &&& (4398046511103 : Int64)))), .second] [(.long (((u1 &&& (1048575 : Int64)) * (4398046511104 : Int64)) + (u2 &&& (4398046511103 : Int64))))])) _
    refine XS.lconst X2.here hx rfl (hb hby at_52) ?_
    show Steps p.tables e below (T2.setTop (mkF m 53 #[.val (.long u1), .second, .val (.long u2), .second, .val (.long (u2 &&& (4398046511103 : Int64))), .second, .val (.long ((u1 * (4398046511104 : Int64)) + (u2 &&& (4398046511103 : Int64)))), .second, .val (.long ((u1 <<< ((42 : Int32) &&& 0x3f).toInt64) ||| (u2 &&& (4398046511103 : Int64)))), .second, .val (.long (u1 &&& (1048575 : Int64))), .second, .val (.long (((u1 &&& (1048575 : Int64)) * (4398046511104 : Int64)) + (u2 &&& (4398046511103 : Int64)))), .second] [(.long (0 : Int64)), (.long (((u1 &&& (1048575 : Int64)) * (4398046511104 : Int64)) + (u2 &&& (4398046511103 : Int64))))])) _
    refine XS.lcmp X2.here hx rfl (hb hby at_53) rfl ?_
    show Steps p.tables e below (T2.setTop (mkF m 54 #[.val (.long u1), .second, .val (.long u2), .second, .val (.long (u2 &&& (4398046511103 : Int64))), .second, .val (.long ((u1 * (4398046511104 : Int64)) + (u2 &&& (4398046511103 : Int64)))), .second, .val (.long ((u1 <<< ((42 : Int32) &&& 0x3f).toInt64) ||| (u2 &&& (4398046511103 : Int64)))), .second, .val (.long (u1 &&& (1048575 : Int64))), .second, .val (.long (((u1 &&& (1048575 : Int64)) * (4398046511104 : Int64)) + (u2 &&& (4398046511103 : Int64)))), .second] [(.int (lcmpW (((u1 &&& (1048575 : Int64)) * (4398046511104 : Int64)) + (u2 &&& (4398046511103 : Int64))) (0 : Int64)))])) _
    refine XS.ifYes X2.here hx rfl (pc0 := 54) (pc' := 59) rfl (hb hby at_54) rfl (own_c2 _ _ (own_q u1) (own_n u2)) (by decide) (by decide) ?_
    show Steps p.tables e below (T2.setTop (mkF m 59 #[.val (.long u1), .second, .val (.long u2), .second, .val (.long (u2 &&& (4398046511103 : Int64))), .second, .val (.long ((u1 * (4398046511104 : Int64)) + (u2 &&& (4398046511103 : Int64)))), .second, .val (.long ((u1 <<< ((42 : Int32) &&& 0x3f).toInt64) ||| (u2 &&& (4398046511103 : Int64)))), .second, .val (.long (u1 &&& (1048575 : Int64))), .second, .val (.long (((u1 &&& (1048575 : Int64)) * (4398046511104 : Int64)) + (u2 &&& (4398046511103 : Int64)))), .second] [])) _
    refine XS.lload X2.here hx rfl (hb hby at_59) rfl ?_
    show Steps p.tables e below (T2.setTop (mkF m 61 #[.val (.long u1), .second, .val (.long u2), .second, .val (.long (u2 &&& (4398046511103 : Int64))), .second, .val (.long ((u1 * (4398046511104 : Int64)) + (u2 &&& (4398046511103 : Int64)))), .second, .val (.long ((u1 <<< ((42 : Int32) &&& 0x3f).toInt64) ||| (u2 &&& (4398046511103 : Int64)))), .second, .val (.long (u1 &&& (1048575 : Int64))), .second, .val (.long (((u1 &&& (1048575 : Int64)) * (4398046511104 : Int64)) + (u2 &&& (4398046511103 : Int64)))), .second] [(.long (((u1 &&& (1048575 : Int64)) * (4398046511104 : Int64)) + (u2 &&& (4398046511103 : Int64))))])) _
    refine st3 _ ?_
    show Steps p.tables e below (T3.setTop (mkF m 64 #[.val (.long u1), .second, .val (.long u2), .second, .val (.long (u2 &&& (4398046511103 : Int64))), .second, .val (.long ((u1 * (4398046511104 : Int64)) + (u2 &&& (4398046511103 : Int64)))), .second, .val (.long ((u1 <<< ((42 : Int32) &&& 0x3f).toInt64) ||| (u2 &&& (4398046511103 : Int64)))), .second, .val (.long (u1 &&& (1048575 : Int64))), .second, .val (.long (((u1 &&& (1048575 : Int64)) * (4398046511104 : Int64)) + (u2 &&& (4398046511103 : Int64)))), .second] [(.long ((((u1 &&& (1048575 : Int64)) * (4398046511104 : Int64)) + (u2 &&& (4398046511103 : Int64))) / (4398046511104 : Int64)))])) _
    refine XS.lload X3.here hx rfl (hb hby at_64) rfl ?_
    show Steps p.tables e below (T3.setTop (mkF m 66 #[.val (.long u1), .second, .val (.long u2), .second, .val (.long (u2 &&& (4398046511103 : Int64))), .second, .val (.long ((u1 * (4398046511104 : Int64)) + (u2 &&& (4398046511103 : Int64)))), .second, .val (.long ((u1 <<< ((42 : Int32) &&& 0x3f).toInt64) ||| (u2 &&& (4398046511103 : Int64)))), .second, .val (.long (u1 &&& (1048575 : Int64))), .second, .val (.long (((u1 &&& (1048575 : Int64)) * (4398046511104 : Int64)) + (u2 &&& (4398046511103 : Int64)))), .second] [(.long (u1 &&& (1048575 : Int64))), (.long ((((u1 &&& (1048575 : Int64)) * (4398046511104 : Int64)) + (u2 &&& (4398046511103 : Int64))) / (4398046511104 : Int64)))])) _
    refine XS.lcmp X3.here hx rfl (hb hby at_66) rfl ?_
    show Steps p.tables e below (T3.setTop (mkF m 67 #[.val (.long u1), .second, .val (.long u2), .second, .val (.long (u2 &&& (4398046511103 : Int64))), .second, .val (.long ((u1 * (4398046511104 : Int64)) + (u2 &&& (4398046511103 : Int64)))), .second, .val (.long ((u1 <<< ((42 : Int32) &&& 0x3f).toInt64) ||| (u2 &&& (4398046511103 : Int64)))), .second, .val (.long (u1 &&& (1048575 : Int64))), .second, .val (.long (((u1 &&& (1048575 : Int64)) * (4398046511104 : Int64)) + (u2 &&& (4398046511103 : Int64)))), .second] [(.int (lcmpW ((((u1 &&& (1048575 : Int64)) * (4398046511104 : Int64)) + (u2 &&& (4398046511103 : Int64))) / (4398046511104 : Int64)) (u1 &&& (1048575 : Int64))))])) _
    refine XS.ifNo X3.here hx rfl (hb hby at_67) rfl (own_c3 _ _ (own_q u1) (own_n u2)) ?_
    show Steps p.tables e below (T3.setTop (mkF m 70 #[.val (.long u1), .second, .val (.long u2), .second, .val (.long (u2 &&& (4398046511103 : Int64))), .second, .val (.long ((u1 * (4398046511104 : Int64)) + (u2 &&& (4398046511103 : Int64)))), .second, .val (.long ((u1 <<< ((42 : Int32) &&& 0x3f).toInt64) ||| (u2 &&& (4398046511103 : Int64)))), .second, .val (.long (u1 &&& (1048575 : Int64))), .second, .val (.long (((u1 &&& (1048575 : Int64)) * (4398046511104 : Int64)) + (u2 &&& (4398046511103 : Int64)))), .second] [])) _
    refine XS.lload X3.here hx rfl (hb hby at_70) rfl ?_
    show Steps p.tables e below (T3.setTop (mkF m 72 #[.val (.long u1), .second, .val (.long u2), .second, .val (.long (u2 &&& (4398046511103 : Int64))), .second, .val (.long ((u1 * (4398046511104 : Int64)) + (u2 &&& (4398046511103 : Int64)))), .second, .val (.long ((u1 <<< ((42 : Int32) &&& 0x3f).toInt64) ||| (u2 &&& (4398046511103 : Int64)))), .second, .val (.long (u1 &&& (1048575 : Int64))), .second, .val (.long (((u1 &&& (1048575 : Int64)) * (4398046511104 : Int64)) + (u2 &&& (4398046511103 : Int64)))), .second] [(.long (((u1 &&& (1048575 : Int64)) * (4398046511104 : Int64)) + (u2 &&& (4398046511103 : Int64))))])) _
    refine st4 _ ?_
    show Steps p.tables e below (T4.setTop (mkF m 75 #[.val (.long u1), .second, .val (.long u2), .second, .val (.long (u2 &&& (4398046511103 : Int64))), .second, .val (.long ((u1 * (4398046511104 : Int64)) + (u2 &&& (4398046511103 : Int64)))), .second, .val (.long ((u1 <<< ((42 : Int32) &&& 0x3f).toInt64) ||| (u2 &&& (4398046511103 : Int64)))), .second, .val (.long (u1 &&& (1048575 : Int64))), .second, .val (.long (((u1 &&& (1048575 : Int64)) * (4398046511104 : Int64)) + (u2 &&& (4398046511103 : Int64)))), .second] [(.long ((((u1 &&& (1048575 : Int64)) * (4398046511104 : Int64)) + (u2 &&& (4398046511103 : Int64))) - ((((u1 &&& (1048575 : Int64)) * (4398046511104 : Int64)) + (u2 &&& (4398046511103 : Int64))) / (4398046511104 : Int64)) * (4398046511104 : Int64)))])) _
    refine XS.lload X4.here hx rfl (hb hby at_75) rfl ?_
    show Steps p.tables e below (T4.setTop (mkF m 77 #[.val (.long u1), .second, .val (.long u2), .second, .val (.long (u2 &&& (4398046511103 : Int64))), .second, .val (.long ((u1 * (4398046511104 : Int64)) + (u2 &&& (4398046511103 : Int64)))), .second, .val (.long ((u1 <<< ((42 : Int32) &&& 0x3f).toInt64) ||| (u2 &&& (4398046511103 : Int64)))), .second, .val (.long (u1 &&& (1048575 : Int64))), .second, .val (.long (((u1 &&& (1048575 : Int64)) * (4398046511104 : Int64)) + (u2 &&& (4398046511103 : Int64)))), .second] [(.long (u2 &&& (4398046511103 : Int64))), (.long ((((u1 &&& (1048575 : Int64)) * (4398046511104 : Int64)) + (u2 &&& (4398046511103 : Int64))) - ((((u1 &&& (1048575 : Int64)) * (4398046511104 : Int64)) + (u2 &&& (4398046511103 : Int64))) / (4398046511104 : Int64)) * (4398046511104 : Int64)))])) _
    refine XS.lcmp X4.here hx rfl (hb hby at_77) rfl ?_
    show Steps p.tables e below (T4.setTop (mkF m 78 #[.val (.long u1), .second, .val (.long u2), .second, .val (.long (u2 &&& (4398046511103 : Int64))), .second, .val (.long ((u1 * (4398046511104 : Int64)) + (u2 &&& (4398046511103 : Int64)))), .second, .val (.long ((u1 <<< ((42 : Int32) &&& 0x3f).toInt64) ||| (u2 &&& (4398046511103 : Int64)))), .second, .val (.long (u1 &&& (1048575 : Int64))), .second, .val (.long (((u1 &&& (1048575 : Int64)) * (4398046511104 : Int64)) + (u2 &&& (4398046511103 : Int64)))), .second] [(.int (lcmpW ((((u1 &&& (1048575 : Int64)) * (4398046511104 : Int64)) + (u2 &&& (4398046511103 : Int64))) - ((((u1 &&& (1048575 : Int64)) * (4398046511104 : Int64)) + (u2 &&& (4398046511103 : Int64))) / (4398046511104 : Int64)) * (4398046511104 : Int64)) (u2 &&& (4398046511103 : Int64))))])) _
    refine XS.ifNo X4.here hx rfl (hb hby at_78) rfl (own_c4 _ _ (own_q u1) (own_n u2)) ?_
    show Steps p.tables e below (T4.setTop (mkF m 81 #[.val (.long u1), .second, .val (.long u2), .second, .val (.long (u2 &&& (4398046511103 : Int64))), .second, .val (.long ((u1 * (4398046511104 : Int64)) + (u2 &&& (4398046511103 : Int64)))), .second, .val (.long ((u1 <<< ((42 : Int32) &&& 0x3f).toInt64) ||| (u2 &&& (4398046511103 : Int64)))), .second, .val (.long (u1 &&& (1048575 : Int64))), .second, .val (.long (((u1 &&& (1048575 : Int64)) * (4398046511104 : Int64)) + (u2 &&& (4398046511103 : Int64)))), .second] [])) _
    refine XS.iconst X4.here hx rfl (hb hby at_81) ?_
    show Steps p.tables e below (T4.setTop (mkF m 82 #[.val (.long u1), .second, .val (.long u2), .second, .val (.long (u2 &&& (4398046511103 : Int64))), .second, .val (.long ((u1 * (4398046511104 : Int64)) + (u2 &&& (4398046511103 : Int64)))), .second, .val (.long ((u1 <<< ((42 : Int32) &&& 0x3f).toInt64) ||| (u2 &&& (4398046511103 : Int64)))), .second, .val (.long (u1 &&& (1048575 : Int64))), .second, .val (.long (((u1 &&& (1048575 : Int64)) * (4398046511104 : Int64)) + (u2 &&& (4398046511103 : Int64)))), .second] [(.int (1 : Int32))])) _
    refine XS.goto X4.here hx rfl (pc0 := 82) (pc' := 86) rfl (hb hby at_82) (by decide) (by decide) ?_
    show Steps p.tables e below (T4.setTop (mkF m 86 #[.val (.long u1), .second, .val (.long u2), .second, .val (.long (u2 &&& (4398046511103 : Int64))), .second, .val (.long ((u1 * (4398046511104 : Int64)) + (u2 &&& (4398046511103 : Int64)))), .second, .val (.long ((u1 <<< ((42 : Int32) &&& 0x3f).toInt64) ||| (u2 &&& (4398046511103 : Int64)))), .second, .val (.long (u1 &&& (1048575 : Int64))), .second, .val (.long (((u1 &&& (1048575 : Int64)) * (4398046511104 : Int64)) + (u2 &&& (4398046511103 : Int64)))), .second] [(.int (1 : Int32))])) _
    exact retN X4 hx (t := .boolean) Bd.returns (by simp) (hb hby at_86) hr
  · show Q_rm_law Z _ _ h0 n0 _ T4.heap _
    rw [eq4]
    exact ⟨rfl, N4⟩
set_option maxRecDepth 65536 in
set_option maxHeartbeats 40000000 in
theorem comes_1 {Post : Tables → Env → Array Value → State → Outcome → State → Prop} (hpost : ∀ tb e args s v u, (limb_1_1.after args s (.returned v) u = true ∧ limb_1_2.after args s (.returned v) u = true ∧ True) → FrameEnd s (.returned v) u (Jvm.fieldLocs frame_1_writes args s ++ Jvm.arrayLocs frame_1_arrays args s ++ Jvm.staticLocs frame_1_statics s) 0 0 → Post tb e args s (.returned v) u) :
    ArmFor flags0 classFile x code maxLocals ret World_1 tables_1 room_1 Calls_1 rest_1 Pre_1 Post := by
  intro l hfl _ _ p e ha hc hk s m args below hf hA hF happ hP
  obtain ⟨hcalls, hrest, hpre⟩ := hP
  obtain ⟨-, -, -, hnamed, -, -, -, hat⟩ := (Spec.applies_iff hf).mp happ
  obtain ⟨hg, hn⟩ := and_e (Cond.before_iff.mp (show (Jvm.Cond.and given_1 narrow_1).before args s = true from hpre))
  obtain ⟨ha0, hb0⟩ := and_e hg
  obtain ⟨ha1, hb1⟩ := and_e hb0
  obtain ⟨w0, w1, rfl⟩ : ∃ w0 w1 : Value, args = #[w0, w1] := by
    have hs : args.size = 2 := by simpa [Cond.value, given_1] using ha0
    obtain ⟨L⟩ := args
    match L, hs with
    | [w0, w1], _ => exact ⟨w0, w1, rfl⟩
  have hw := fun d (hd : d ∈ tables_1) => atoms_spec (ws := Jvm.Cond.code x code maxLocals ret :: tables_1) hat d (List.mem_cons_of_mem _ hd)
  have hfit : Fit s := fun {y c} hc i hi => by
    obtain ⟨ha, rfl⟩ := Array.getElem?_eq_some_iff.mp hc
    have q := List.all_eq_true.mp ((Array.all_eq_true_iff_forall_mem.mp hF) _ (Array.getElem_mem ha)) i (List.mem_range.mpr hi)
    simpa [Array.getElem?_eq_getElem hi] using q
  obtain ⟨i0, ei0⟩ := isL_v ha1
  obtain rfl : w0 = (.long i0) := Option.some.inj ei0
  obtain ⟨i1, ei1⟩ := isL_v hb1
  obtain rfl : w1 = (.long i1) := Option.some.inj ei1
  obtain ⟨n, o, h1, h2, h3, _, L, rfl, ⟨rfl, N⟩, hq⟩ := rm_law l s _ hw tables_1 i0 i1 s.heap s.heap.size (Nat.le_refl _)  p e ha hc hk s m _ below hf ((Spec.applies_iff_loose hf).mp happ).1 ⟨rfl, State.Warmed39.refl s, rfl⟩ trivial
  refine ⟨n, _, h1, h2, h3, hpost _ _ _ _ _ _ ⟨Cond.after_iff.mpr rfl, Cond.after_iff.mpr (eq_i res_at (Term.int_eval (1)) rfl), trivial⟩ ⟨hq.1, hq.2.1, (hq.2.2.sift fun y hy => Or.inr (N y hy)).mono (by decide) (by decide)⟩⟩
theorem main_1_1 : Claimed_1_1 := comes_1 fun _ _ _ _ _ _ h hF => ⟨h.1, hF⟩
theorem main_1_2 : Claimed_1_2 := comes_1 fun _ _ _ _ _ _ h hF => ⟨h.2.1, hF⟩
end Jvm.Pilot.@@N@@
namespace Jvm.Pilot.@@N@@
open Jvm Jvm.ClassFile Sem Op Lib Jvm.Free Jvm.Stand Jvm.Pilot.@@N@@.Jvm.D
/-! MADE BY PROGRAM (witnessworld.py) out of the Statement's table words and the real class files: 9 classes; the members and pool entries that the words name. The judged class is class 1, her method 1. -/
namespace start1
open Jvm.ClassFile
def u (s : String) : CpInfo := .utf8 (stringToUtf16 s)
/-- a pool by its gaps: so many unusable entries, then the entry; so many at the end -/
def gap : Nat → List CpInfo → List CpInfo
  | 0, r => r
  | n + 1, r => .unusable :: gap n r
def poolList (es : List (Nat × CpInfo)) (last : Nat) : List CpInfo := es.foldr (fun e r => gap e.1 (e.2 :: r)) (gap last [])
def pool (es : List (Nat × CpInfo)) (last : Nat) : Array CpInfo := ⟨poolList es last⟩
def fileOf (pool : Array CpInfo) (this : Nat) (attrs : Array Attribute := #[]) (ms : Array MethodInfo := #[]) (fl : Nat := 33) (sup : Nat := 0) (ifs : Array Nat := #[]) (fds : Array FieldInfo := #[]) : ClassFile where
  minorVersion := 0
  majorVersion := 65
  constantPool := pool
  accessFlags := fl
  thisClass := this
  superClass := sup
  interfaces := ifs
  fields := fds
  methods := ms
  attributes := attrs
def plain (name : String) (sup : Option ClassId) : Class where
  name := name
  kind := .ordinary
  loader := none
  accessFlags := 33
  super := sup
  interfaces := #[]
  cf := none
  fields := #[]
  methods := #[]
  instanceTypes := #[]
  staticTypes := #[]
  resolved := #[]
  callSites := []
  init := .initialized
  statics := none
  mirror := none

def pool0 : Array CpInfo := pool [(5, u "<init>"), (0, u "()V"), (1, .class_ 10), (1, u "java/lang/Object")] 113

def k0m0 : Method := { name := "<init>", desc := "()V", sig := { parameters := [], returnType := none }, accessFlags := 1, code := none }
/-- java/lang/Object -/
def k0 : Class := { plain "java/lang/Object" none with
  accessFlags := 33
  interfaces := #[]
  cf := some (fileOf pool0 8 #[] #[{ accessFlags := 1, nameIndex := 5, descriptorIndex := 6, attributes := #[] }] 33 0 #[] #[])
  fields := #[]
  methods := #[k0m0]
  instanceTypes := #[]
  staticTypes := #[]
  resolved := Array.replicate 124 none
  statics := none }

def pool1 : Array CpInfo := pool [(2, .class_ 4), (1, u "java/lang/Object"), (0, u "<init>"), (0, u "()V"), (0, .long 4398046511103), (1, .methodref 10 11), (0, .class_ 12), (0, .nameAndType 13 14), (0, u "com/example/eskerline/eskerline/db/Ids"), (0, u "id"), (0, u "(JJ)J"), (0, .long 1048575), (1, .methodref 10 18), (0, .nameAndType 19 20), (0, u "partition"), (0, u "(J)J"), (0, .methodref 10 22), (0, .nameAndType 23 20), (0, u "number"), (0, .class_ 25), (0, u "com/example/eskerline/eskerline/db/IdsIdPinLaw"), (2, u "law"), (0, u "(JJ)Z")] 3

def k1m0 : Method := { name := "<init>", desc := "()V", sig := { parameters := [], returnType := none }, accessFlags := 2, code := none }
def k1c1 : Code := { maxStack := 4, maxLocals := 14, code := code, exceptionTable := #[], attributes := #[] }
def k1m1 : Method := { name := "law", desc := "(JJ)Z", sig := { parameters := [.long, .long], returnType := some .boolean }, accessFlags := 9, code := some k1c1 }
/-- com/example/eskerline/eskerline/db/IdsIdPinLaw -/
def k1 : Class := { plain "com/example/eskerline/eskerline/db/IdsIdPinLaw" (some 0) with
  accessFlags := 49
  interfaces := #[]
  cf := some (fileOf pool1 24 #[] #[{ accessFlags := 2, nameIndex := 5, descriptorIndex := 6, attributes := #[] }, { accessFlags := 9, nameIndex := 28, descriptorIndex := 29, attributes := #[] }] 49 2 #[] #[])
  fields := #[]
  methods := #[k1m0, k1m1]
  instanceTypes := #[]
  staticTypes := #[]
  resolved := Array.replicate 33 none
  statics := none }

def pool2 : Array CpInfo := pool [(2, .class_ 4), (1, u "java/lang/Object"), (0, u "<init>"), (0, u "()V"), (0, .class_ 8), (0, u "com/example/eskerline/eskerline/db/Ids"), (0, .long 4398046511104), (14, u "id"), (0, u "(JJ)J"), (2, u "partition"), (0, u "(J)J"), (3, u "number"), (0, u "DB_PARTITION"), (0, u "J"), (3, u "TX_PARTITION"), (0, u "USER_PARTITION"), (2, u "PARTITION_SIZE"), (0, u "SCHEMA_SIZE")] 26

def k2m0 : Method := { name := "<init>", desc := "()V", sig := { parameters := [], returnType := none }, accessFlags := 2, code := none }
def k2c1 : Code := { maxStack := 4, maxLocals := 4, code := prog_32_method_2_code, exceptionTable := #[], attributes := #[] }
def k2m1 : Method := { name := "id", desc := "(JJ)J", sig := { parameters := [.long, .long], returnType := some .long }, accessFlags := 9, code := some k2c1 }
def k2c2 : Code := { maxStack := 4, maxLocals := 2, code := prog_32_method_3_code, exceptionTable := #[], attributes := #[] }
def k2m2 : Method := { name := "partition", desc := "(J)J", sig := { parameters := [.long], returnType := some .long }, accessFlags := 9, code := some k2c2 }
def k2c3 : Code := { maxStack := 4, maxLocals := 2, code := prog_32_method_4_code, exceptionTable := #[], attributes := #[] }
def k2m3 : Method := { name := "number", desc := "(J)J", sig := { parameters := [.long], returnType := some .long }, accessFlags := 9, code := some k2c3 }
/-- com/example/eskerline/eskerline/db/Ids -/
def k2 : Class := { plain "com/example/eskerline/eskerline/db/Ids" (some 0) with
  accessFlags := 49
  interfaces := #[]
  cf := some (fileOf pool2 7 #[] #[{ accessFlags := 2, nameIndex := 5, descriptorIndex := 6, attributes := #[] }, { accessFlags := 9, nameIndex := 24, descriptorIndex := 25, attributes := #[] }, { accessFlags := 9, nameIndex := 28, descriptorIndex := 29, attributes := #[] }, { accessFlags := 9, nameIndex := 33, descriptorIndex := 29, attributes := #[] }] 49 2 #[] #[{ accessFlags := 25, nameIndex := 34, descriptorIndex := 35, attributes := #[] }, { accessFlags := 25, nameIndex := 39, descriptorIndex := 35, attributes := #[] }, { accessFlags := 25, nameIndex := 40, descriptorIndex := 35, attributes := #[] }, { accessFlags := 25, nameIndex := 43, descriptorIndex := 35, attributes := #[] }, { accessFlags := 25, nameIndex := 44, descriptorIndex := 35, attributes := #[] }])
  fields := #[{ name := "DB_PARTITION", type := .long, accessFlags := 25, slot := 0, constantValue := 0 }, { name := "TX_PARTITION", type := .long, accessFlags := 25, slot := 1, constantValue := 0 }, { name := "USER_PARTITION", type := .long, accessFlags := 25, slot := 2, constantValue := 0 }, { name := "PARTITION_SIZE", type := .long, accessFlags := 25, slot := 3, constantValue := 0 }, { name := "SCHEMA_SIZE", type := .long, accessFlags := 25, slot := 4, constantValue := 0 }]
  methods := #[k2m0, k2m1, k2m2, k2m3]
  instanceTypes := #[]
  staticTypes := #[.long, .long, .long, .long, .long]
  resolved := Array.replicate 71 none
  statics := none }

def pool3 : Array CpInfo := pool [(1, u "java/lang/Cloneable"), (0, .class_ 1), (0, u "java/lang/Object"), (0, .class_ 3)] 3

/-- java/lang/Cloneable -/
def k3 : Class := { plain "java/lang/Cloneable" (some 0) with
  accessFlags := 1537
  interfaces := #[]
  cf := some (fileOf pool3 2 #[] #[] 1537 4 #[] #[])
  fields := #[]
  methods := #[]
  instanceTypes := #[]
  staticTypes := #[]
  resolved := Array.replicate 8 none
  statics := none }

def pool4 : Array CpInfo := pool [(1, u "java/io/Serializable"), (0, .class_ 1), (0, u "java/lang/Object"), (0, .class_ 3)] 3

/-- java/io/Serializable -/
def k4 : Class := { plain "java/io/Serializable" (some 0) with
  accessFlags := 1537
  interfaces := #[]
  cf := some (fileOf pool4 2 #[] #[] 1537 4 #[] #[])
  fields := #[]
  methods := #[]
  instanceTypes := #[]
  staticTypes := #[]
  resolved := Array.replicate 8 none
  statics := none }

/-- the primitive byte -/
def k5 : Class := { plain "byte" none with kind := .primitive 'B', accessFlags := 0x411 }
/-- [B -/
def k6 : Class := { plain "[B" (some 0) with kind := .array 5 .byte, interfaces := #[3, 4], accessFlags := 1041 }

/-- the primitive int -/
def k7 : Class := { plain "int" none with kind := .primitive 'I', accessFlags := 0x411 }
/-- [I -/
def k8 : Class := { plain "[I" (some 0) with kind := .array 7 .int, interfaces := #[3, 4], accessFlags := 1041 }

def heap : Heap := #[]
def classes : Array Class := #[k0, k1, k2, k3, k4, k5, k6, k7, k8]
def interned : List (Array UInt16 × Addr) := []
def slotsUsed : Nat := 0
def theMethod : MethodId := ⟨1, 1⟩
def args0 : Array Value := #[.long 5, .long 7]
def aboutOver (below : List Frame) : State where
  vm := { classes := classes, interned := interned.toArray }
  heap := heap
  slotsUsed := slotsUsed
  threads := #[{ frames := .invoking theMethod args0 :: below }]
def below0 : List Frame := [.native { method := ⟨0, 0⟩, args := #[] }]
def about1 : State := aboutOver below0
def p0 : Program := .bare "" "" ""
def e0 : Env := launch0.env 0 0 0
theorem w_frames : about1.frames = Frame.invoking theMethod args0 :: below0 := rfl
set_option maxRecDepth 65536 in
theorem w_args : argsFit about1.vm theMethod args0 = true := by decide +kernel
set_option maxRecDepth 65536 in
theorem w_heap : heapFits about1 = true := by decide +kernel
set_option maxRecDepth 65536 in
theorem w_runnable : about1.curStatus? = some .runnable := by decide +kernel
set_option maxRecDepth 65536 in
theorem w_alone : about1.alone = true := by decide +kernel
set_option maxRecDepth 65536 in
theorem w_named : about1.methodNamed? x = some theMethod := by decide +kernel
set_option maxRecDepth 65536 in
theorem w_hears : about1.hears theMethod below0 = true := by decide +kernel
set_option maxRecDepth 65536 in
theorem w_ripe : about1.ripe theMethod args0 below0 = true := by decide +kernel
theorem w_running : about1.status = .running := rfl
set_option maxRecDepth 65536 in
theorem w_room : about1.hasRoom e0.platform room_1 = true :=
  launch0.hasRoom_least _ room_1 (by decide +kernel) (by decide +kernel) (by decide +kernel) (by decide +kernel) (by decide +kernel) (by decide +kernel)
theorem allAtoms_all (ts : List Jvm.Cond) (a : Array Jvm.Value) (st : Jvm.State) : (allAtoms ts).before a st = ts.all (fun c => c.before a st) := by
  induction ts with
  | nil => rfl
  | cons c t ih =>
    show (Jvm.Cond.and c (allAtoms t)).before a st = _
    rw [Jvm.Cond.before_and, ih, List.all_cons]
def words1 : List Jvm.Cond := Jvm.Cond.code x code maxLocals ret :: tables_1
/-- a 'code' word, met by the world's own term for the bytes: nothing is compared byte by byte -/
theorem code_word {y : MethodName} {bytes : ByteArray} {mx : Nat} {rt : Option FieldType} {a : Array Value} {s : State} {m : MethodId} {meth : Method} {c : Code} (h1 : s.methodNamed? y = some m) (h2 : s.vm.method? m = some meth) (h3 : meth.code = some c) (h4 : c.code = bytes)
    (h5 : (c.maxLocals == mx && c.exceptionTable.isEmpty && decide (c.maxStack ≤ mostOperands) && decide (meth.sig.returnType = rt) && !meth.locks && decide (parseMethodDescriptor y.desc = some meth.sig)) = true) : (Jvm.Cond.code y bytes mx rt).before a s = true := by
  simp only [Bool.and_eq_true, beq_iff_eq, Bool.not_eq_true', decide_eq_true_eq] at h5
  obtain ⟨⟨⟨⟨⟨g1, g2⟩, g3⟩, g4⟩, g5⟩, g6⟩ := h5
  simp [Cond.before, Cond.holds, Cond.value, h1, h2, h3, h4, g1, g2, g3, g4, g5, g6]
def isCode : Jvm.Cond → Bool
  | .code _ _ _ _ => true
  | _ => false
theorem all_split {L : List Jvm.Cond} {P : Jvm.Cond → Bool} (h1 : L.all (fun c => isCode c || P c) = true) (h2 : ∀ c ∈ L.filter isCode, P c = true) : L.all P = true := by
  refine List.all_eq_true.mpr fun c hc => ?_
  have h := List.all_eq_true.mp h1 c hc
  rcases Bool.eq_false_or_eq_true (isCode c) with hi | hi
  · exact h2 c (List.mem_filter.mpr ⟨hc, hi⟩)
  · simpa [hi] using h
set_option maxRecDepth 65536 in
theorem w_c0 : (Jvm.Cond.code x code maxLocals ret).before args0 about1 = true := code_word (m := ⟨1, 1⟩) (meth := k1m1) (c := k1c1) (by decide +kernel) rfl rfl rfl (by decide +kernel)
set_option maxRecDepth 65536 in
theorem w_c1 : (Jvm.Cond.code ({ cls := "com/example/eskerline/eskerline/db/Ids", name := "id", desc := "(JJ)J" } : Jvm.MethodName) prog_32_method_2_code (4 : Nat) (Option.some Jvm.ClassFile.FieldType.long)).before args0 about1 = true := code_word (m := ⟨2, 1⟩) (meth := k2m1) (c := k2c1) (by decide +kernel) rfl rfl rfl (by decide +kernel)
set_option maxRecDepth 65536 in
theorem w_c2 : (Jvm.Cond.code ({ cls := "com/example/eskerline/eskerline/db/Ids", name := "partition", desc := "(J)J" } : Jvm.MethodName) prog_32_method_3_code (2 : Nat) (Option.some Jvm.ClassFile.FieldType.long)).before args0 about1 = true := code_word (m := ⟨2, 2⟩) (meth := k2m2) (c := k2c2) (by decide +kernel) rfl rfl rfl (by decide +kernel)
set_option maxRecDepth 65536 in
theorem w_c3 : (Jvm.Cond.code ({ cls := "com/example/eskerline/eskerline/db/Ids", name := "number", desc := "(J)J" } : Jvm.MethodName) prog_32_method_4_code (2 : Nat) (Option.some Jvm.ClassFile.FieldType.long)).before args0 about1 = true := code_word (m := ⟨2, 3⟩) (meth := k2m3) (c := k2c3) (by decide +kernel) rfl rfl rfl (by decide +kernel)
def codes1 : List Jvm.Cond := [Jvm.Cond.code x code maxLocals ret, Jvm.Cond.code ({ cls := "com/example/eskerline/eskerline/db/Ids", name := "id", desc := "(JJ)J" } : Jvm.MethodName) prog_32_method_2_code (4 : Nat) (Option.some Jvm.ClassFile.FieldType.long), Jvm.Cond.code ({ cls := "com/example/eskerline/eskerline/db/Ids", name := "partition", desc := "(J)J" } : Jvm.MethodName) prog_32_method_3_code (2 : Nat) (Option.some Jvm.ClassFile.FieldType.long), Jvm.Cond.code ({ cls := "com/example/eskerline/eskerline/db/Ids", name := "number", desc := "(J)J" } : Jvm.MethodName) prog_32_method_4_code (2 : Nat) (Option.some Jvm.ClassFile.FieldType.long)]
set_option maxRecDepth 65536 in
theorem codes_eq : words1.filter isCode = codes1 := rfl
theorem w_codes : ∀ c ∈ words1.filter isCode, c.before args0 about1 = true := by
  rw [codes_eq]
  intro c hc
  simp only [codes1, List.mem_cons, List.not_mem_nil, or_false] at hc
  rcases hc with rfl | rfl | rfl | rfl
  · exact w_c0
  · exact w_c1
  · exact w_c2
  · exact w_c3
set_option maxRecDepth 65536 in
theorem w_t1 : words1.all (fun c => isCode c || c.before args0 about1) = true := by decide +kernel
theorem w_tables : (allAtoms (Jvm.Cond.code x code maxLocals ret :: tables_1)).before args0 about1 = true := by
  rw [allAtoms_all]
  show words1.all (fun c => c.before args0 about1) = true
  refine all_split ?_ w_codes
  rw [w_t1]
set_option maxRecDepth 65536 in
theorem w_case : (Jvm.Cond.and given_1 narrow_1).before args0 about1 = true := by decide +kernel
theorem w_applies : (headSpec (Jvm.Cond.code x code maxLocals ret :: tables_1) room_1).applies x e0.platform about1 = true :=
  (Spec.applies_iff w_frames).mpr ⟨w_running, w_runnable, w_alone, w_named, w_hears, w_ripe, w_room, w_tables⟩
theorem atStart : AtStart classFile x code maxLocals ret World_1 tables_1 room_1 Calls_1 rest_1 Pre_1 launch0 p0 e0 about1 theMethod args0 below0 :=
  ⟨lists_1, trivial, launch0.admits_env _ _ _, launch0.least_env, fairChoices_fair.cas, fairChoices_fair.clock, w_frames, w_args, w_heap, w_applies, trivial, trivial, w_case⟩
end start1
theorem witness_1 : WitnessClaimed_1 := ⟨start1.p0, start1.e0, start1.about1, start1.theMethod, start1.args0, start1.below0, start1.atStart⟩
end Jvm.Pilot.@@N@@
