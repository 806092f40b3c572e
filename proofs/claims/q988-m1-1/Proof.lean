import JvmDerived
import JvmDerived.Pilot.@@N@@Statement
import JvmDerived.Pilot.@@N@@Code
set_option linter.unusedVariables false
set_option linter.unusedSimpArgs false
namespace Jvm.RoadKit
open Sem ClassFile Op Lib Jvm.Stand Jvm.Free Jvm.LawKit
section New
variable {p : Program} {l : Launch} {e : Env} {R : Room} {s : State} {m : MethodId} {args : Array Value} {below : List Frame} {meth : Method} {c : Code} {T : State} {locs : List Loc} {cells slots : Nat}
theorem retI (X : Stand p l e R s m args below meth c T locs cells slots) (hx : p.tables.exec = Jvm.exec) {pc : Nat} {Ls : Array Slot} {z : Int32} {rest : List Value} (hret : meth.sig.returnType = some .int) (hd : decode c.code pc = .ok (.ireturn, 1)) {fs : List Frame}
    (hl : ∀ (f : JFrame) (acts : List Action), f.method = m → f.locked = none → f.entered = [] → (doReturn e (T.setTop f) acts (some (.int z))).1 = T.setFrames fs) : Steps p.tables e below (T.setTop (mkF m pc Ls (.int z :: rest))) (T.setFrames fs) := by
  have hm' : T.vm.method? m = some meth := X.method'
  have hn : narrow .int (.int z) = .int z := rfl
  show Steps p.tables e below (T.setTop { method := m, pc := pc, locals := Ls, stack := _ :: rest, locked := none }) _
  jvm_step X.here [X.here.top, hx, hd, hm', hret, hn]
  first | (intro acts; rw [hl _ acts rfl rfl rfl]) | rw [hl _ _ rfl rfl rfl]
  exact Steps.refl _
end New
end Jvm.RoadKit
namespace Jvm.Pilot.@@N@@
open Jvm Jvm.ClassFile Sem Op Lib Jvm.Free Jvm.Stand Jvm.LawKit Jvm.RoadKit Bundle Jvm.Pilot.@@N@@.Jvm.D
/-! the comparisons, as plain decisions -/
theorem own_w {a0 : Array Value} {Z : State} (hw : ∀ d ∈ tables_1, d.before a0 Z = true) (i : Nat) {d : Jvm.Cond} (h : tables_1[i]? = some d) : d.before a0 Z = true := hw d (List.mem_of_getElem? h)
theorem own_ilt (x y : Int32) : if_icmp.holds .lt x y = decide (x < y) := rfl
theorem own_ile (x y : Int32) : if_icmp.holds .le x y = decide (x ≤ y) := rfl
theorem own_igt (x y : Int32) : if_icmp.holds .gt x y = decide (y < x) := rfl
theorem own_ige (x y : Int32) : if_icmp.holds .ge x y = decide (y ≤ x) := rfl
theorem own_ieq (x y : Int32) : if_icmp.holds .eq x y = decide (x = y) := rfl
theorem own_ine (x y : Int32) : if_icmp.holds .ne x y = decide (x ≠ y) := by
  by_cases h : x = y
  · rw [(teq h).2]; exact (decide_eq_false (not_not_intro h)).symm
  · rw [(feq h).2]; exact (decide_eq_true h).symm
theorem own_smono {s : State} {vm : Vm} {n n' : Nat} (h : s.Since vm n) (hn : n ≤ n') : s.Since vm n' := ⟨h.1, fun j p hj hp => ⟨(h.2 j p hj hp).1, Nat.lt_of_lt_of_le (h.2 j p hj hp).2 hn⟩⟩
theorem own_d0 : FP.dconst0 = FP.l2d (0 : Int64) := by rw [l2d_zero]; rfl
theorem own_lgt (x y : Int64) : ifCond.holds .gt (lcmpW x y) = decide (y < x) := by rw [if0, own_igt]; exact decide_eq_decide.mpr (lw_gt x y)
theorem own_llt (x y : Int64) : ifCond.holds .lt (lcmpW x y) = decide (x < y) := by rw [if0, own_ilt]; exact decide_eq_decide.mpr (lw_lt x y)
theorem own_leq (x y : Int64) : ifCond.holds .eq (lcmpW x y) = decide (x = y) := by rw [if0, own_ieq]; exact decide_eq_decide.mpr (lw_eq x y)
theorem own_lne (x y : Int64) : ifCond.holds .ne (lcmpW x y) = decide (x ≠ y) := by rw [if0, own_ine]; exact decide_eq_decide.mpr (not_congr (lw_eq x y))
theorem own_lle (x y : Int64) : ifCond.holds .le (lcmpW x y) = decide (x ≤ y) := by rw [if0, own_ile]; exact decide_eq_decide.mpr (by rw [← Int32.not_lt, lw_gt, Int64.not_lt])
theorem own_lge (x y : Int64) : ifCond.holds .ge (lcmpW x y) = decide (y ≤ x) := by rw [if0, own_ige]; exact decide_eq_decide.mpr (by rw [← Int32.not_lt, lw_lt, Int64.not_lt])
theorem own_core (n : Int32) (p s : Int64) (hp : 0 ≤ p.toInt ∧ p.toInt < 2 ^ 62) (hs : 0 ≤ s.toInt) :
    (bif if_icmp.holds .ne (nar .boolean (bif if_icmp.holds .lt n (4 : Int32) then (0 : Int32) else (bif ifCond.holds .gt (lcmpW n.toInt64 ((s - p) - (8 : Int64))) then (0 : Int32) else (1 : Int32)))) (bif if_icmp.holds .lt n (4 : Int32) then (0 : Int32) else (bif ifCond.holds .gt (lcmpW ((p + (8 : Int64)) + n.toInt64) s) then (0 : Int32) else (1 : Int32))) then (0 : Int32) else (1 : Int32)) = (1 : Int32) := by
  have a1 := c_ladd p 8
  have a2 := c_ladd (p + 8) n.toInt64
  have a3 := c_lsub s p
  have a4 := c_lsub (s - p) 8
  have a5 := c_i2l n
  have r1 := rng32 n
  have r2 := rng64 s
  have r3 := rng64 (p + 8)
  have r4 := rng64 ((p + 8) + n.toInt64)
  have r5 := rng64 (s - p)
  have r6 := rng64 ((s - p) - 8)
  have e8 : (8 : Int64).toInt = 8 := by decide
  have key : ((s - p) - (8 : Int64) < n.toInt64) ↔ (s < (p + (8 : Int64)) + n.toInt64) := by
    rw [Int64.lt_iff_toInt_lt, Int64.lt_iff_toInt_lt]; omega
  rw [own_lgt, own_lgt, decide_eq_decide.mpr key]
  generalize if_icmp.holds .lt n (4 : Int32) = b1
  generalize decide (s < (p + (8 : Int64)) + n.toInt64) = b2
  cases b1 <;> cases b2 <;> decide
theorem d1_0 : decode prog_73_method_5_code 0 = .ok (.iload_n 0, 1) := by decide +kernel
theorem d1_1 : decode prog_73_method_5_code 1 = .ok (.iconst 4, 1) := by decide +kernel
theorem d1_2 : decode prog_73_method_5_code 2 = .ok (.if_icmp .lt 20, 3) := by decide +kernel
theorem d1_22 : decode prog_73_method_5_code 22 = .ok (.iconst 0, 1) := by decide +kernel
theorem d1_5 : decode prog_73_method_5_code 5 = .ok (.iload_n 0, 1) := by decide +kernel
theorem d1_6 : decode prog_73_method_5_code 6 = .ok (.i2l, 1) := by decide +kernel
theorem d1_7 : decode prog_73_method_5_code 7 = .ok (.lload_n 3, 1) := by decide +kernel
theorem d1_8 : decode prog_73_method_5_code 8 = .ok (.lload_n 1, 1) := by decide +kernel
theorem d1_9 : decode prog_73_method_5_code 9 = .ok (.lsub, 1) := by decide +kernel
theorem d1_10 : decode prog_73_method_5_code 10 = .ok (.ldc2_w 65, 3) := by decide +kernel
theorem d1_13 : decode prog_73_method_5_code 13 = .ok (.lsub, 1) := by decide +kernel
theorem d1_14 : decode prog_73_method_5_code 14 = .ok (.lcmp, 1) := by decide +kernel
theorem d1_15 : decode prog_73_method_5_code 15 = .ok (.ifCond .gt 7, 3) := by decide +kernel
theorem d1_18 : decode prog_73_method_5_code 18 = .ok (.iconst 1, 1) := by decide +kernel
theorem d1_19 : decode prog_73_method_5_code 19 = .ok (.goto 4, 3) := by decide +kernel
theorem d1_23 : decode prog_73_method_5_code 23 = .ok (.ireturn, 1) := by decide +kernel
theorem ef_rm_fits (m : MethodId) (x0 : Int32) (x1 : Int64) (x2 : Int64) : entryFrame m #[(.int x0), (.long x1), (.long x2)] 5 = mkF m 0 #[.val (.int x0), .val (.long x1), .second, .val (.long x2), .second] [] := by first | (simp [entryFrame, mkF, argsToLocals, Value.category]; done) | rfl
def Q_rm_fits (Z : State) (u1 : Int32) (u2 : Int64) (u3 : Int64) (h0 : Heap) (n0 : Nat) (v : Option Value) (h : Heap) (L : List Loc) : Prop := v = some (.int (nar .boolean (bif (if_icmp.holds .lt u1 (4 : Int32)) then (0 : Int32) else (bif (ifCond.holds .gt (lcmpW (u1.toInt64) ((u3 - u2) - (8 : Int64)))) then (0 : Int32) else (1 : Int32))))) ∧ Fr n0 L ∧ h = h0
theorem pn_692973 : plainName "com/example/sonde/sonde/store/StoreFiles" = true := by first | (simp [plainName, overriddenIn]; done) | decide +kernel
set_option maxRecDepth 65536 in
set_option maxHeartbeats 40000000 in
theorem rm_fits (l : Launch) (Z : State) (a0 : Array Value) (hw : ∀ d ∈ tables_1, d.before a0 Z = true) (ws : List Jvm.Cond) (u1 : Int32) (u2 : Int64) (u3 : Int64) (h0 : Heap) (n0 : Nat) (Z0 : n0 ≤ h0.size) :
    MetFree l (⟨"com/example/sonde/sonde/store/StoreFiles", "fits", "(IJJ)Z"⟩ : MethodName) (head1 (Jvm.Cond.code (⟨"com/example/sonde/sonde/store/StoreFiles", "fits", "(IJJ)Z"⟩ : MethodName) prog_73_method_5_code 5 (some .boolean) :: ws) ({ frames := 0, cells := 0, slots := 0, locals := 0 } : Room)) (fun a U => a = #[(.int u1), (.long u2), (.long u3)] ∧ Z.Warmed39 U.vm ∧ U.heap = h0) (fun _ _ _ _ _ => True) (fun _ U o U' => ∃ v L, o = .returned v ∧ Q_rm_fits Z u1 u2 u3 h0 n0 v U'.heap L ∧ FrameEnd U o U' L ({ frames := 0, cells := 0, slots := 0, locals := 0 } : Room).cells ({ frames := 0, cells := 0, slots := 0, locals := 0 } : Room).slots) := by
  refine MetFree.of_bodySF (plainFor_of_name pn_692973) hisR ?_
  intro p e s m args below meth c s₁ Bd hml0 hP hK
  obtain ⟨rfl, hZ, hh⟩ := hP
  have hx := Bd.exec
  have hby := Bd.bytes
  have hml : c.maxLocals = 5 := hml0
  have hown : s.vm.findClass "com/example/sonde/sonde/store/StoreFiles" = some m.cls := findClass_of_methodNamed Bd.named
  have hnm := (name_of_methodNamed Bd.named Bd.method).1
  have X0 : Stand p l e ({ frames := 0, cells := 0, slots := 0, locals := 0 } : Room) s m #[(.int u1), (.long u2), (.long u3)] below meth c s₁ [] 0 0 := Stand.of_body Bd
  have e0 : s₁.heap = h0 := by rw [← hh, Bd.state]; rfl
  have N0 := Fr.nil n0
  have pre0 : ∀ t, Steps p.tables e below (s₁.setTop (mkF m 0 #[.val (.int u1), .val (.long u2), .second, .val (.long u3), .second] [])) t → Steps p.tables e below (s₁.setTop (entryFrame m #[(.int u1), (.long u2), (.long u3)] 5)) t := fun t k => castTop (ef_rm_fits m u1 u2 u3) k
  have pre1 : ∀ t, Steps p.tables e below (s₁.setTop (mkF m 2 #[.val (.int u1), .val (.long u2), .second, .val (.long u3), .second] [(.int (4 : Int32)), (.int u1)])) t → Steps p.tables e below (s₁.setTop (entryFrame m #[(.int u1), (.long u2), (.long u3)] 5)) t := by
    intro t k
    refine pre0 t ?_
    show Steps p.tables e below (s₁.setTop (mkF m 0 #[.val (.int u1), .val (.long u2), .second, .val (.long u3), .second] [])) _
    refine XS.iloadN X0.here hx rfl (hb hby d1_0) rfl ?_
    show Steps p.tables e below (s₁.setTop (mkF m 1 #[.val (.int u1), .val (.long u2), .second, .val (.long u3), .second] [(.int u1)])) _
    refine XS.iconst X0.here hx rfl (hb hby d1_1) ?_
    exact k
  have pre4 : ∀ t, Steps p.tables e below (s₁.setTop (mkF m 23 #[.val (.int u1), .val (.long u2), .second, .val (.long u3), .second] [(.int (bif (if_icmp.holds .lt u1 (4 : Int32)) then (0 : Int32) else (bif (ifCond.holds .gt (lcmpW (u1.toInt64) ((u3 - u2) - (8 : Int64)))) then (0 : Int32) else (1 : Int32))))])) t → Steps p.tables e below (s₁.setTop (entryFrame m #[(.int u1), (.long u2), (.long u3)] 5)) t := by
    intro t k
    refine pre1 t ?_
    show Steps p.tables e below (s₁.setTop (mkF m 2 #[.val (.int u1), .val (.long u2), .second, .val (.long u3), .second] [(.int (4 : Int32)), (.int u1)])) _
    rcases Bool.eq_false_or_eq_true (if_icmp.holds .lt u1 (4 : Int32)) with hb2_2 | hb2_2
    · refine XS.icmpYes X0.here hx rfl (pc0 := 2) (pc' := 22) rfl (hb hby d1_2) rfl hb2_2 (by decide) (by decide) ?_
      show Steps p.tables e below (s₁.setTop (mkF m 22 #[.val (.int u1), .val (.long u2), .second, .val (.long u3), .second] [])) _
      refine XS.iconst X0.here hx rfl (hb hby d1_22) ?_
      have k : Steps p.tables e below (s₁.setTop (mkF m 23 #[.val (.int u1), .val (.long u2), .second, .val (.long u3), .second] [(.int (0 : Int32))])) t := by simpa only [hb2_2, cond_true, cond_false] using k
      exact k
    · refine XS.icmpNo X0.here hx rfl (hb hby d1_2) rfl hb2_2 ?_
      show Steps p.tables e below (s₁.setTop (mkF m 5 #[.val (.int u1), .val (.long u2), .second, .val (.long u3), .second] [])) _
      refine XS.iloadN X0.here hx rfl (hb hby d1_5) rfl ?_
      show Steps p.tables e below (s₁.setTop (mkF m 6 #[.val (.int u1), .val (.long u2), .second, .val (.long u3), .second] [(.int u1)])) _
      refine XS.i2l X0.here hx rfl (hb hby d1_6) rfl ?_
      show Steps p.tables e below (s₁.setTop (mkF m 7 #[.val (.int u1), .val (.long u2), .second, .val (.long u3), .second] [(.long (u1.toInt64))])) _
      refine XS.lloadN X0.here hx rfl (hb hby d1_7) rfl ?_
      show Steps p.tables e below (s₁.setTop (mkF m 8 #[.val (.int u1), .val (.long u2), .second, .val (.long u3), .second] [(.long u3), (.long (u1.toInt64))])) _
      refine XS.lloadN X0.here hx rfl (hb hby d1_8) rfl ?_
      show Steps p.tables e below (s₁.setTop (mkF m 9 #[.val (.int u1), .val (.long u2), .second, .val (.long u3), .second] [(.long u2), (.long u3), (.long (u1.toInt64))])) _
      refine XS.lsub X0.here hx rfl (hb hby d1_9) rfl ?_
      show Steps p.tables e below (s₁.setTop (mkF m 10 #[.val (.int u1), .val (.long u2), .second, .val (.long u3), .second] [(.long (u3 - u2)), (.long (u1.toInt64))])) _
      refine X0.ldc2Long hx hown (mvT hZ (own_w hw 7 rfl)) (g := (mkF m 10 #[.val (.int u1), .val (.long u2), .second, .val (.long u3), .second] [(.long (u3 - u2)), (.long (u1.toInt64))])) rfl (hb hby d1_10) _ ?_
      show Steps p.tables e below (s₁.setTop (mkF m 13 #[.val (.int u1), .val (.long u2), .second, .val (.long u3), .second] [(.long (8 : Int64)), (.long (u3 - u2)), (.long (u1.toInt64))])) _
      refine XS.lsub X0.here hx rfl (hb hby d1_13) rfl ?_
      show Steps p.tables e below (s₁.setTop (mkF m 14 #[.val (.int u1), .val (.long u2), .second, .val (.long u3), .second] [(.long ((u3 - u2) - (8 : Int64))), (.long (u1.toInt64))])) _
      refine XS.lcmp X0.here hx rfl (hb hby d1_14) rfl ?_
      show Steps p.tables e below (s₁.setTop (mkF m 15 #[.val (.int u1), .val (.long u2), .second, .val (.long u3), .second] [(.int (lcmpW (u1.toInt64) ((u3 - u2) - (8 : Int64))))])) _
      rcases Bool.eq_false_or_eq_true (ifCond.holds .gt (lcmpW (u1.toInt64) ((u3 - u2) - (8 : Int64)))) with hb15_3 | hb15_3
      · refine XS.ifYes X0.here hx rfl (pc0 := 15) (pc' := 22) rfl (hb hby d1_15) rfl hb15_3 (by decide) (by decide) ?_
        show Steps p.tables e below (s₁.setTop (mkF m 22 #[.val (.int u1), .val (.long u2), .second, .val (.long u3), .second] [])) _
        refine XS.iconst X0.here hx rfl (hb hby d1_22) ?_
        have k : Steps p.tables e below (s₁.setTop (mkF m 23 #[.val (.int u1), .val (.long u2), .second, .val (.long u3), .second] [(.int (0 : Int32))])) t := by simpa only [hb2_2, hb15_3, cond_true, cond_false] using k
        exact k
      · refine XS.ifNo X0.here hx rfl (hb hby d1_15) rfl hb15_3 ?_
        show Steps p.tables e below (s₁.setTop (mkF m 18 #[.val (.int u1), .val (.long u2), .second, .val (.long u3), .second] [])) _
        refine XS.iconst X0.here hx rfl (hb hby d1_18) ?_
        show Steps p.tables e below (s₁.setTop (mkF m 19 #[.val (.int u1), .val (.long u2), .second, .val (.long u3), .second] [(.int (1 : Int32))])) _
        refine XS.goto X0.here hx rfl (pc0 := 19) (pc' := 23) rfl (hb hby d1_19) (by decide) (by decide) ?_
        have k : Steps p.tables e below (s₁.setTop (mkF m 23 #[.val (.int u1), .val (.long u2), .second, .val (.long u3), .second] [(.int (1 : Int32))])) t := by simpa only [hb2_2, hb15_3, cond_true, cond_false] using k
        exact k
  obtain ⟨fs, hr, hrun, hended, hW, hsame⟩ := X0.leave (v := some (.int (nar .boolean (bif (if_icmp.holds .lt u1 (4 : Int32)) then (0 : Int32) else (bif (ifCond.holds .gt (lcmpW (u1.toInt64) ((u3 - u2) - (8 : Int64)))) then (0 : Int32) else (1 : Int32)))))) (fun h => by rw [Bd.returns] at h; cases h)
  refine ⟨_, _, pre4 _ ?_, hrun, hended, _, _, rfl, ?_, ⟨_, rfl⟩, hW, hsame.mono (by decide) (by decide)⟩
  · show Steps p.tables e below (s₁.setTop (mkF m 23 #[.val (.int u1), .val (.long u2), .second, .val (.long u3), .second] [(.int (bif (if_icmp.holds .lt u1 (4 : Int32)) then (0 : Int32) else (bif (ifCond.holds .gt (lcmpW (u1.toInt64) ((u3 - u2) - (8 : Int64)))) then (0 : Int32) else (1 : Int32))))])) _
    exact retN X0 hx (t := .boolean) Bd.returns (by simp) (hb hby d1_23) hr
  · show Q_rm_fits Z _ _ _ h0 n0 _ s₁.heap _
    rw [e0]
    exact ⟨rfl, N0, rfl⟩
theorem pd_19859 : parseMethodDescriptor "(IJJ)Z" = some ⟨[.int, .long, .long], some .boolean⟩ := by decide +kernel
theorem own_law (u1 : Int32) (u2 u3 : Int64) (u4 u5 : Int32) : (bif (if_icmp.holds .ne (nar .boolean (bif (if_icmp.holds .lt u1 (4 : Int32)) then (0 : Int32) else (bif (ifCond.holds .gt (lcmpW (u1.toInt64) (((bif (ifCond.holds .eq (u4 &&& (1 : Int32))) then (u3 &&& (9223372036854775807 : Int64)) else (bif (ifCond.holds .ge (lcmpW ((((u2 &&& (4611686018427387903 : Int64)) + (8 : Int64)) + (u1.toInt64)) + (((u5 &&& (3 : Int32)) - (1 : Int32)).toInt64)) (0 : Int64))) then ((((u2 &&& (4611686018427387903 : Int64)) + (8 : Int64)) + (u1.toInt64)) + (((u5 &&& (3 : Int32)) - (1 : Int32)).toInt64)) else (0 : Int64))) - (u2 &&& (4611686018427387903 : Int64))) - (8 : Int64)))) then (0 : Int32) else (1 : Int32)))) (bif (if_icmp.holds .lt u1 (4 : Int32)) then (0 : Int32) else (bif (ifCond.holds .gt (lcmpW (((u2 &&& (4611686018427387903 : Int64)) + (8 : Int64)) + (u1.toInt64)) (bif (ifCond.holds .eq (u4 &&& (1 : Int32))) then (u3 &&& (9223372036854775807 : Int64)) else (bif (ifCond.holds .ge (lcmpW ((((u2 &&& (4611686018427387903 : Int64)) + (8 : Int64)) + (u1.toInt64)) + (((u5 &&& (3 : Int32)) - (1 : Int32)).toInt64)) (0 : Int64))) then ((((u2 &&& (4611686018427387903 : Int64)) + (8 : Int64)) + (u1.toInt64)) + (((u5 &&& (3 : Int32)) - (1 : Int32)).toInt64)) else (0 : Int64))))) then (0 : Int32) else (1 : Int32)))) then (0 : Int32) else (1 : Int32)) = (1 : Int32) := by
  have m1 := c_maskL u2 (4611686018427387903 : Int64) 62 (by decide) (by decide)
  have m2 := c_maskL u3 (9223372036854775807 : Int64) 63 (by decide) (by decide)
  refine own_core u1 _ _ ⟨by rw [m1]; omega, by rw [m1]; omega⟩ ?_
  rw [own_lge]
  cases ifCond.holds .eq (u4 &&& (1 : Int32))
  · rw [cond_false]
    by_cases h : (0 : Int64) ≤ ((((u2 &&& (4611686018427387903 : Int64)) + (8 : Int64)) + (u1.toInt64)) + (((u5 &&& (3 : Int32)) - (1 : Int32)).toInt64))
    · rw [decide_eq_true h, cond_true]
      rw [Int64.le_iff_toInt_le] at h
      exact h
    · rw [decide_eq_false h, cond_false]; decide
  · rw [cond_true, m2]; omega
theorem ef_rm_law (m : MethodId) (x0 : Int32) (x1 : Int64) (x2 : Int64) (x3 : Int32) (x4 : Int32) : entryFrame m #[(.int x0), (.long x1), (.long x2), (.int x3), (.int x4)] maxLocals = mkF m 0 #[.val (.int x0), .val (.long x1), .second, .val (.long x2), .second, .val (.int x3), .val (.int x4), .unset, .unset, .unset, .unset, .unset, .unset, .unset] [] := by first | (simp [entryFrame, mkF, argsToLocals, Value.category, maxLocals]; done) | rfl
def Q_rm_law (Z : State) (u1 : Int32) (u2 : Int64) (u3 : Int64) (u4 : Int32) (u5 : Int32) (h0 : Heap) (n0 : Nat) (v : Option Value) (h : Heap) (L : List Loc) : Prop := v = some (.int (1 : Int32)) ∧ Fr n0 L
theorem pn_250402 : plainName "com/example/sonde/sonde/store/StoreFilesFitsPinLaw" = true := by first | (simp [plainName, overriddenIn]; done) | decide +kernel
set_option maxRecDepth 65536 in
set_option maxHeartbeats 40000000 in
theorem rm_law (l : Launch) (Z : State) (a0 : Array Value) (hw : ∀ d ∈ tables_1, d.before a0 Z = true) (ws : List Jvm.Cond) (u1 : Int32) (u2 : Int64) (u3 : Int64) (u4 : Int32) (u5 : Int32) (h0 : Heap) (n0 : Nat) (Z0 : n0 ≤ h0.size) :
    MetFree l x (head1 (Jvm.Cond.code x code maxLocals ret :: ws) room_1) (fun a U => a = #[(.int u1), (.long u2), (.long u3), (.int u4), (.int u5)] ∧ Z.Warmed39 U.vm ∧ U.heap = h0) (fun _ _ _ _ _ => True) (fun _ U o U' => ∃ v L, o = .returned v ∧ Q_rm_law Z u1 u2 u3 u4 u5 h0 n0 v U'.heap L ∧ FrameEnd U o U' L room_1.cells room_1.slots) := by
  refine MetFree.of_bodySF (plainFor_of_name pn_250402) hisR ?_
  intro p e s m args below meth c s₁ Bd hml0 hP hK
  obtain ⟨rfl, hZ, hh⟩ := hP
  have hx := Bd.exec
  have hby := Bd.bytes
  have hml : c.maxLocals = 14 := hml0
  have hown : s.vm.findClass "com/example/sonde/sonde/store/StoreFilesFitsPinLaw" = some m.cls := findClass_of_methodNamed Bd.named
  have hnm := (name_of_methodNamed Bd.named Bd.method).1
  have X0 : Stand p l e room_1 s m #[(.int u1), (.long u2), (.long u3), (.int u4), (.int u5)] below meth c s₁ [] 0 0 := Stand.of_body Bd
  have e0 : s₁.heap = h0 := by rw [← hh, Bd.state]; rfl
  have N0 := Fr.nil n0
  have pre0 : ∀ t, Steps p.tables e below (s₁.setTop (mkF m 0 #[.val (.int u1), .val (.long u2), .second, .val (.long u3), .second, .val (.int u4), .val (.int u5), .unset, .unset, .unset, .unset, .unset, .unset, .unset] [])) t → Steps p.tables e below (s₁.setTop (entryFrame m #[(.int u1), (.long u2), (.long u3), (.int u4), (.int u5)] maxLocals)) t := fun t k => castTop (ef_rm_law m u1 u2 u3 u4 u5) k
  have pre1 : ∀ t, Steps p.tables e below (s₁.setTop (mkF m 11 #[.val (.int u1), .val (.long u2), .second, .val (.long u3), .second, .val (.int u4), .val (.int u5), .val (.long (u2 &&& (4611686018427387903 : Int64))), .second, .unset, .unset, .unset, .unset, .unset] [(.int (u4 &&& (1 : Int32)))])) t → Steps p.tables e below (s₁.setTop (entryFrame m #[(.int u1), (.long u2), (.long u3), (.int u4), (.int u5)] maxLocals)) t := by
    intro t k
    refine pre0 t ?_
    show Steps p.tables e below (s₁.setTop (mkF m 0 #[.val (.int u1), .val (.long u2), .second, .val (.long u3), .second, .val (.int u4), .val (.int u5), .unset, .unset, .unset, .unset, .unset, .unset, .unset] [])) _
    refine XS.lloadN X0.here hx rfl (hb hby at_0) rfl ?_
    show Steps p.tables e below (s₁.setTop (mkF m 1 #[.val (.int u1), .val (.long u2), .second, .val (.long u3), .second, .val (.int u4), .val (.int u5), .unset, .unset, .unset, .unset, .unset, .unset, .unset] [(.long u2)])) _
    refine X0.ldc2Long hx hown (mvT hZ (own_w hw 0 rfl)) (g := (mkF m 1 #[.val (.int u1), .val (.long u2), .second, .val (.long u3), .second, .val (.int u4), .val (.int u5), .unset, .unset, .unset, .unset, .unset, .unset, .unset] [(.long u2)])) rfl (hb hby at_1) _ ?_
    show Steps p.tables e below (s₁.setTop (mkF m 4 #[.val (.int u1), .val (.long u2), .second, .val (.long u3), .second, .val (.int u4), .val (.int u5), .unset, .unset, .unset, .unset, .unset, .unset, .unset] [(.long (4611686018427387903 : Int64)), (.long u2)])) _
    refine XS.land X0.here hx rfl (hb hby at_4) rfl ?_
    show Steps p.tables e below (s₁.setTop (mkF m 5 #[.val (.int u1), .val (.long u2), .second, .val (.long u3), .second, .val (.int u4), .val (.int u5), .unset, .unset, .unset, .unset, .unset, .unset, .unset] [(.long (u2 &&& (4611686018427387903 : Int64)))])) _
    refine XS.lstore X0.here hx rfl (hb hby at_5) rfl (l' := #[.val (.int u1), .val (.long u2), .second, .val (.long u3), .second, .val (.int u4), .val (.int u5), .val (.long (u2 &&& (4611686018427387903 : Int64))), .second, .unset, .unset, .unset, .unset, .unset]) rfl ?_
    show Steps p.tables e below (s₁.setTop (mkF m 7 #[.val (.int u1), .val (.long u2), .second, .val (.long u3), .second, .val (.int u4), .val (.int u5), .val (.long (u2 &&& (4611686018427387903 : Int64))), .second, .unset, .unset, .unset, .unset, .unset] [])) _
    refine XS.iload X0.here hx rfl (hb hby at_7) rfl ?_
    show Steps p.tables e below (s₁.setTop (mkF m 9 #[.val (.int u1), .val (.long u2), .second, .val (.long u3), .second, .val (.int u4), .val (.int u5), .val (.long (u2 &&& (4611686018427387903 : Int64))), .second, .unset, .unset, .unset, .unset, .unset] [(.int u4)])) _
    refine XS.iconst X0.here hx rfl (hb hby at_9) ?_
    show Steps p.tables e below (s₁.setTop (mkF m 10 #[.val (.int u1), .val (.long u2), .second, .val (.long u3), .second, .val (.int u4), .val (.int u5), .val (.long (u2 &&& (4611686018427387903 : Int64))), .second, .unset, .unset, .unset, .unset, .unset] [(.int (1 : Int32)), (.int u4)])) _
    refine XS.iand X0.here hx rfl (hb hby at_10) rfl ?_
    exact k
  have pre4 : ∀ t, Steps p.tables e below (s₁.setTop (mkF m 53 #[.val (.int u1), .val (.long u2), .second, .val (.long u3), .second, .val (.int u4), .val (.int u5), .val (.long (u2 &&& (4611686018427387903 : Int64))), .second, .val (.long (bif (ifCond.holds .eq (u4 &&& (1 : Int32))) then (u3 &&& (9223372036854775807 : Int64)) else (bif (ifCond.holds .ge (lcmpW ((((u2 &&& (4611686018427387903 : Int64)) + (8 : Int64)) + (u1.toInt64)) + (((u5 &&& (3 : Int32)) - (1 : Int32)).toInt64)) (0 : Int64))) then ((((u2 &&& (4611686018427387903 : Int64)) + (8 : Int64)) + (u1.toInt64)) + (((u5 &&& (3 : Int32)) - (1 : Int32)).toInt64)) else (0 : Int64)))), .second, .unset, .unset, .unset] [])) t → Steps p.tables e below (s₁.setTop (entryFrame m #[(.int u1), (.long u2), (.long u3), (.int u4), (.int u5)] maxLocals)) t := by
    intro t k
    refine pre1 t ?_
    show Steps p.tables e below (s₁.setTop (mkF m 11 #[.val (.int u1), .val (.long u2), .second, .val (.long u3), .second, .val (.int u4), .val (.int u5), .val (.long (u2 &&& (4611686018427387903 : Int64))), .second, .unset, .unset, .unset, .unset, .unset] [(.int (u4 &&& (1 : Int32)))])) _
    rcases Bool.eq_false_or_eq_true (ifCond.holds .eq (u4 &&& (1 : Int32))) with hb11_2 | hb11_2
    · refine XS.ifYes X0.here hx rfl (pc0 := 11) (pc' := 46) rfl (hb hby at_11) rfl hb11_2 (by decide) (by decide) ?_
      show Steps p.tables e below (s₁.setTop (mkF m 46 #[.val (.int u1), .val (.long u2), .second, .val (.long u3), .second, .val (.int u4), .val (.int u5), .val (.long (u2 &&& (4611686018427387903 : Int64))), .second, .unset, .unset, .unset, .unset, .unset] [])) _
      refine XS.lloadN X0.here hx rfl (hb hby at_46) rfl ?_
      show Steps p.tables e below (s₁.setTop (mkF m 47 #[.val (.int u1), .val (.long u2), .second, .val (.long u3), .second, .val (.int u4), .val (.int u5), .val (.long (u2 &&& (4611686018427387903 : Int64))), .second, .unset, .unset, .unset, .unset, .unset] [(.long u3)])) _
      refine X0.ldc2Long hx hown (mvT hZ (own_w hw 1 rfl)) (g := (mkF m 47 #[.val (.int u1), .val (.long u2), .second, .val (.long u3), .second, .val (.int u4), .val (.int u5), .val (.long (u2 &&& (4611686018427387903 : Int64))), .second, .unset, .unset, .unset, .unset, .unset] [(.long u3)])) rfl (hb hby at_47) _ ?_
      show Steps p.tables e below (s₁.setTop (mkF m 50 #[.val (.int u1), .val (.long u2), .second, .val (.long u3), .second, .val (.int u4), .val (.int u5), .val (.long (u2 &&& (4611686018427387903 : Int64))), .second, .unset, .unset, .unset, .unset, .unset] [(.long (9223372036854775807 : Int64)), (.long u3)])) _
      refine XS.land X0.here hx rfl (hb hby at_50) rfl ?_
      show Steps p.tables e below (s₁.setTop (mkF m 51 #[.val (.int u1), .val (.long u2), .second, .val (.long u3), .second, .val (.int u4), .val (.int u5), .val (.long (u2 &&& (4611686018427387903 : Int64))), .second, .unset, .unset, .unset, .unset, .unset] [(.long (u3 &&& (9223372036854775807 : Int64)))])) _
      refine XS.lstore X0.here hx rfl (hb hby at_51) rfl (l' := #[.val (.int u1), .val (.long u2), .second, .val (.long u3), .second, .val (.int u4), .val (.int u5), .val (.long (u2 &&& (4611686018427387903 : Int64))), .second, .val (.long (u3 &&& (9223372036854775807 : Int64))), .second, .unset, .unset, .unset]) rfl ?_
      have k : Steps p.tables e below (s₁.setTop (mkF m 53 #[.val (.int u1), .val (.long u2), .second, .val (.long u3), .second, .val (.int u4), .val (.int u5), .val (.long (u2 &&& (4611686018427387903 : Int64))), .second, .val (.long (u3 &&& (9223372036854775807 : Int64))), .second, .unset, .unset, .unset] [])) t := by simpa only [hb11_2, cond_true, cond_false] using k
      exact k
    · refine XS.ifNo X0.here hx rfl (hb hby at_11) rfl hb11_2 ?_
      show Steps p.tables e below (s₁.setTop (mkF m 14 #[.val (.int u1), .val (.long u2), .second, .val (.long u3), .second, .val (.int u4), .val (.int u5), .val (.long (u2 &&& (4611686018427387903 : Int64))), .second, .unset, .unset, .unset, .unset, .unset] [])) _
      refine XS.lload X0.here hx rfl (hb hby at_14) rfl ?_
      show Steps p.tables e below (s₁.setTop (mkF m 16 #[.val (.int u1), .val (.long u2), .second, .val (.long u3), .second, .val (.int u4), .val (.int u5), .val (.long (u2 &&& (4611686018427387903 : Int64))), .second, .unset, .unset, .unset, .unset, .unset] [(.long (u2 &&& (4611686018427387903 : Int64)))])) _
      refine X0.ldc2Long hx hown (mvT hZ (own_w hw 2 rfl)) (g := (mkF m 16 #[.val (.int u1), .val (.long u2), .second, .val (.long u3), .second, .val (.int u4), .val (.int u5), .val (.long (u2 &&& (4611686018427387903 : Int64))), .second, .unset, .unset, .unset, .unset, .unset] [(.long (u2 &&& (4611686018427387903 : Int64)))])) rfl (hb hby at_16) _ ?_
      show Steps p.tables e below (s₁.setTop (mkF m 19 #[.val (.int u1), .val (.long u2), .second, .val (.long u3), .second, .val (.int u4), .val (.int u5), .val (.long (u2 &&& (4611686018427387903 : Int64))), .second, .unset, .unset, .unset, .unset, .unset] [(.long (8 : Int64)), (.long (u2 &&& (4611686018427387903 : Int64)))])) _
      refine XS.ladd X0.here hx rfl (hb hby at_19) rfl ?_
      show Steps p.tables e below (s₁.setTop (mkF m 20 #[.val (.int u1), .val (.long u2), .second, .val (.long u3), .second, .val (.int u4), .val (.int u5), .val (.long (u2 &&& (4611686018427387903 : Int64))), .second, .unset, .unset, .unset, .unset, .unset] [(.long ((u2 &&& (4611686018427387903 : Int64)) + (8 : Int64)))])) _
      refine XS.iloadN X0.here hx rfl (hb hby at_20) rfl ?_
      show Steps p.tables e below (s₁.setTop (mkF m 21 #[.val (.int u1), .val (.long u2), .second, .val (.long u3), .second, .val (.int u4), .val (.int u5), .val (.long (u2 &&& (4611686018427387903 : Int64))), .second, .unset, .unset, .unset, .unset, .unset] [(.int u1), (.long ((u2 &&& (4611686018427387903 : Int64)) + (8 : Int64)))])) _
      refine XS.i2l X0.here hx rfl (hb hby at_21) rfl ?_
      show Steps p.tables e below (s₁.setTop (mkF m 22 #[.val (.int u1), .val (.long u2), .second, .val (.long u3), .second, .val (.int u4), .val (.int u5), .val (.long (u2 &&& (4611686018427387903 : Int64))), .second, .unset, .unset, .unset, .unset, .unset] [(.long (u1.toInt64)), (.long ((u2 &&& (4611686018427387903 : Int64)) + (8 : Int64)))])) _
      refine XS.ladd X0.here hx rfl (hb hby at_22) rfl ?_
      show Steps p.tables e below (s₁.setTop (mkF m 23 #[.val (.int u1), .val (.long u2), .second, .val (.long u3), .second, .val (.int u4), .val (.int u5), .val (.long (u2 &&& (4611686018427387903 : Int64))), .second, .unset, .unset, .unset, .unset, .unset] [(.long (((u2 &&& (4611686018427387903 : Int64)) + (8 : Int64)) + (u1.toInt64)))])) _
      refine XS.iload X0.here hx rfl (hb hby at_23) rfl ?_
      show Steps p.tables e below (s₁.setTop (mkF m 25 #[.val (.int u1), .val (.long u2), .second, .val (.long u3), .second, .val (.int u4), .val (.int u5), .val (.long (u2 &&& (4611686018427387903 : Int64))), .second, .unset, .unset, .unset, .unset, .unset] [(.int u5), (.long (((u2 &&& (4611686018427387903 : Int64)) + (8 : Int64)) + (u1.toInt64)))])) _
      refine XS.iconst X0.here hx rfl (hb hby at_25) ?_
      show Steps p.tables e below (s₁.setTop (mkF m 26 #[.val (.int u1), .val (.long u2), .second, .val (.long u3), .second, .val (.int u4), .val (.int u5), .val (.long (u2 &&& (4611686018427387903 : Int64))), .second, .unset, .unset, .unset, .unset, .unset] [(.int (3 : Int32)), (.int u5), (.long (((u2 &&& (4611686018427387903 : Int64)) + (8 : Int64)) + (u1.toInt64)))])) _
      refine XS.iand X0.here hx rfl (hb hby at_26) rfl ?_
      show Steps p.tables e below (s₁.setTop (mkF m 27 #[.val (.int u1), .val (.long u2), .second, .val (.long u3), .second, .val (.int u4), .val (.int u5), .val (.long (u2 &&& (4611686018427387903 : Int64))), .second, .unset, .unset, .unset, .unset, .unset] [(.int (u5 &&& (3 : Int32))), (.long (((u2 &&& (4611686018427387903 : Int64)) + (8 : Int64)) + (u1.toInt64)))])) _
      refine XS.iconst X0.here hx rfl (hb hby at_27) ?_
      show Steps p.tables e below (s₁.setTop (mkF m 28 #[.val (.int u1), .val (.long u2), .second, .val (.long u3), .second, .val (.int u4), .val (.int u5), .val (.long (u2 &&& (4611686018427387903 : Int64))), .second, .unset, .unset, .unset, .unset, .unset] [(.int (1 : Int32)), (.int (u5 &&& (3 : Int32))), (.long (((u2 &&& (4611686018427387903 : Int64)) + (8 : Int64)) + (u1.toInt64)))])) _
      refine XS.isub X0.here hx rfl (hb hby at_28) rfl ?_
      show Steps p.tables e below (s₁.setTop (mkF m 29 #[.val (.int u1), .val (.long u2), .second, .val (.long u3), .second, .val (.int u4), .val (.int u5), .val (.long (u2 &&& (4611686018427387903 : Int64))), .second, .unset, .unset, .unset, .unset, .unset] [(.int ((u5 &&& (3 : Int32)) - (1 : Int32))), (.long (((u2 &&& (4611686018427387903 : Int64)) + (8 : Int64)) + (u1.toInt64)))])) _
      refine XS.i2l X0.here hx rfl (hb hby at_29) rfl ?_
      show Steps p.tables e below (s₁.setTop (mkF m 30 #[.val (.int u1), .val (.long u2), .second, .val (.long u3), .second, .val (.int u4), .val (.int u5), .val (.long (u2 &&& (4611686018427387903 : Int64))), .second, .unset, .unset, .unset, .unset, .unset] [(.long (((u5 &&& (3 : Int32)) - (1 : Int32)).toInt64)), (.long (((u2 &&& (4611686018427387903 : Int64)) + (8 : Int64)) + (u1.toInt64)))])) _
      refine XS.ladd X0.here hx rfl (hb hby at_30) rfl ?_
      show Steps p.tables e below (s₁.setTop (mkF m 31 #[.val (.int u1), .val (.long u2), .second, .val (.long u3), .second, .val (.int u4), .val (.int u5), .val (.long (u2 &&& (4611686018427387903 : Int64))), .second, .unset, .unset, .unset, .unset, .unset] [(.long ((((u2 &&& (4611686018427387903 : Int64)) + (8 : Int64)) + (u1.toInt64)) + (((u5 &&& (3 : Int32)) - (1 : Int32)).toInt64)))])) _
      refine XS.lstore X0.here hx rfl (hb hby at_31) rfl (l' := #[.val (.int u1), .val (.long u2), .second, .val (.long u3), .second, .val (.int u4), .val (.int u5), .val (.long (u2 &&& (4611686018427387903 : Int64))), .second, .val (.long ((((u2 &&& (4611686018427387903 : Int64)) + (8 : Int64)) + (u1.toInt64)) + (((u5 &&& (3 : Int32)) - (1 : Int32)).toInt64))), .second, .unset, .unset, .unset]) rfl ?_
      show Steps p.tables e below (s₁.setTop (mkF m 33 #[.val (.int u1), .val (.long u2), .second, .val (.long u3), .second, .val (.int u4), .val (.int u5), .val (.long (u2 &&& (4611686018427387903 : Int64))), .second, .val (.long ((((u2 &&& (4611686018427387903 : Int64)) + (8 : Int64)) + (u1.toInt64)) + (((u5 &&& (3 : Int32)) - (1 : Int32)).toInt64))), .second, .unset, .unset, .unset] [])) _
      refine XS.lload X0.here hx rfl (hb hby at_33) rfl ?_
      show Steps p.tables e below (s₁.setTop (mkF m 35 #[.val (.int u1), .val (.long u2), .second, .val (.long u3), .second, .val (.int u4), .val (.int u5), .val (.long (u2 &&& (4611686018427387903 : Int64))), .second, .val (.long ((((u2 &&& (4611686018427387903 : Int64)) + (8 : Int64)) + (u1.toInt64)) + (((u5 &&& (3 : Int32)) - (1 : Int32)).toInt64))), .second, .unset, .unset, .unset] [(.long ((((u2 &&& (4611686018427387903 : Int64)) + (8 : Int64)) + (u1.toInt64)) + (((u5 &&& (3 : Int32)) - (1 : Int32)).toInt64)))])) _
      refine XS.lconst X0.here hx rfl (hb hby at_35) ?_
      show Steps p.tables e below (s₁.setTop (mkF m 36 #[.val (.int u1), .val (.long u2), .second, .val (.long u3), .second, .val (.int u4), .val (.int u5), .val (.long (u2 &&& (4611686018427387903 : Int64))), .second, .val (.long ((((u2 &&& (4611686018427387903 : Int64)) + (8 : Int64)) + (u1.toInt64)) + (((u5 &&& (3 : Int32)) - (1 : Int32)).toInt64))), .second, .unset, .unset, .unset] [(.long (0 : Int64)), (.long ((((u2 &&& (4611686018427387903 : Int64)) + (8 : Int64)) + (u1.toInt64)) + (((u5 &&& (3 : Int32)) - (1 : Int32)).toInt64)))])) _
      refine XS.lcmp X0.here hx rfl (hb hby at_36) rfl ?_
      show Steps p.tables e below (s₁.setTop (mkF m 37 #[.val (.int u1), .val (.long u2), .second, .val (.long u3), .second, .val (.int u4), .val (.int u5), .val (.long (u2 &&& (4611686018427387903 : Int64))), .second, .val (.long ((((u2 &&& (4611686018427387903 : Int64)) + (8 : Int64)) + (u1.toInt64)) + (((u5 &&& (3 : Int32)) - (1 : Int32)).toInt64))), .second, .unset, .unset, .unset] [(.int (lcmpW ((((u2 &&& (4611686018427387903 : Int64)) + (8 : Int64)) + (u1.toInt64)) + (((u5 &&& (3 : Int32)) - (1 : Int32)).toInt64)) (0 : Int64)))])) _
      rcases Bool.eq_false_or_eq_true (ifCond.holds .ge (lcmpW ((((u2 &&& (4611686018427387903 : Int64)) + (8 : Int64)) + (u1.toInt64)) + (((u5 &&& (3 : Int32)) - (1 : Int32)).toInt64)) (0 : Int64))) with hb37_3 | hb37_3
      · refine XS.ifYes X0.here hx rfl (pc0 := 37) (pc' := 53) rfl (hb hby at_37) rfl hb37_3 (by decide) (by decide) ?_
        have k : Steps p.tables e below (s₁.setTop (mkF m 53 #[.val (.int u1), .val (.long u2), .second, .val (.long u3), .second, .val (.int u4), .val (.int u5), .val (.long (u2 &&& (4611686018427387903 : Int64))), .second, .val (.long ((((u2 &&& (4611686018427387903 : Int64)) + (8 : Int64)) + (u1.toInt64)) + (((u5 &&& (3 : Int32)) - (1 : Int32)).toInt64))), .second, .unset, .unset, .unset] [])) t := by simpa only [hb11_2, hb37_3, cond_true, cond_false] using k
        exact k
      · refine XS.ifNo X0.here hx rfl (hb hby at_37) rfl hb37_3 ?_
        show Steps p.tables e below (s₁.setTop (mkF m 40 #[.val (.int u1), .val (.long u2), .second, .val (.long u3), .second, .val (.int u4), .val (.int u5), .val (.long (u2 &&& (4611686018427387903 : Int64))), .second, .val (.long ((((u2 &&& (4611686018427387903 : Int64)) + (8 : Int64)) + (u1.toInt64)) + (((u5 &&& (3 : Int32)) - (1 : Int32)).toInt64))), .second, .unset, .unset, .unset] [])) _
        refine XS.lconst X0.here hx rfl (hb hby at_40) ?_
        show Steps p.tables e below (s₁.setTop (mkF m 41 #[.val (.int u1), .val (.long u2), .second, .val (.long u3), .second, .val (.int u4), .val (.int u5), .val (.long (u2 &&& (4611686018427387903 : Int64))), .second, .val (.long ((((u2 &&& (4611686018427387903 : Int64)) + (8 : Int64)) + (u1.toInt64)) + (((u5 &&& (3 : Int32)) - (1 : Int32)).toInt64))), .second, .unset, .unset, .unset] [(.long (0 : Int64))])) _
        refine XS.lstore X0.here hx rfl (hb hby at_41) rfl (l' := #[.val (.int u1), .val (.long u2), .second, .val (.long u3), .second, .val (.int u4), .val (.int u5), .val (.long (u2 &&& (4611686018427387903 : Int64))), .second, .val (.long (0 : Int64)), .second, .unset, .unset, .unset]) rfl ?_
        show Steps p.tables e below (s₁.setTop (mkF m 43 #[.val (.int u1), .val (.long u2), .second, .val (.long u3), .second, .val (.int u4), .val (.int u5), .val (.long (u2 &&& (4611686018427387903 : Int64))), .second, .val (.long (0 : Int64)), .second, .unset, .unset, .unset] [])) _
        refine XS.goto X0.here hx rfl (pc0 := 43) (pc' := 53) rfl (hb hby at_43) (by decide) (by decide) ?_
        have k : Steps p.tables e below (s₁.setTop (mkF m 53 #[.val (.int u1), .val (.long u2), .second, .val (.long u3), .second, .val (.int u4), .val (.int u5), .val (.long (u2 &&& (4611686018427387903 : Int64))), .second, .val (.long (0 : Int64)), .second, .unset, .unset, .unset] [])) t := by simpa only [hb11_2, hb37_3, cond_true, cond_false] using k
        exact k
  have pre5 : ∀ t, Steps p.tables e below (s₁.setTop (mkF m 66 #[.val (.int u1), .val (.long u2), .second, .val (.long u3), .second, .val (.int u4), .val (.int u5), .val (.long (u2 &&& (4611686018427387903 : Int64))), .second, .val (.long (bif (ifCond.holds .eq (u4 &&& (1 : Int32))) then (u3 &&& (9223372036854775807 : Int64)) else (bif (ifCond.holds .ge (lcmpW ((((u2 &&& (4611686018427387903 : Int64)) + (8 : Int64)) + (u1.toInt64)) + (((u5 &&& (3 : Int32)) - (1 : Int32)).toInt64)) (0 : Int64))) then ((((u2 &&& (4611686018427387903 : Int64)) + (8 : Int64)) + (u1.toInt64)) + (((u5 &&& (3 : Int32)) - (1 : Int32)).toInt64)) else (0 : Int64)))), .second, .val (.long (((u2 &&& (4611686018427387903 : Int64)) + (8 : Int64)) + (u1.toInt64))), .second, .unset] [(.int (4 : Int32)), (.int u1)])) t → Steps p.tables e below (s₁.setTop (entryFrame m #[(.int u1), (.long u2), (.long u3), (.int u4), (.int u5)] maxLocals)) t := by
    intro t k
    refine pre4 t ?_
    show Steps p.tables e below (s₁.setTop (mkF m 53 #[.val (.int u1), .val (.long u2), .second, .val (.long u3), .second, .val (.int u4), .val (.int u5), .val (.long (u2 &&& (4611686018427387903 : Int64))), .second, .val (.long (bif (ifCond.holds .eq (u4 &&& (1 : Int32))) then (u3 &&& (9223372036854775807 : Int64)) else (bif (ifCond.holds .ge (lcmpW ((((u2 &&& (4611686018427387903 : Int64)) + (8 : Int64)) + (u1.toInt64)) + (((u5 &&& (3 : Int32)) - (1 : Int32)).toInt64)) (0 : Int64))) then ((((u2 &&& (4611686018427387903 : Int64)) + (8 : Int64)) + (u1.toInt64)) + (((u5 &&& (3 : Int32)) - (1 : Int32)).toInt64)) else (0 : Int64)))), .second, .unset, .unset, .unset] [])) _
    refine XS.lload X0.here hx rfl (hb hby at_53) rfl ?_
    show Steps p.tables e below (s₁.setTop (mkF m 55 #[.val (.int u1), .val (.long u2), .second, .val (.long u3), .second, .val (.int u4), .val (.int u5), .val (.long (u2 &&& (4611686018427387903 : Int64))), .second, .val (.long (bif (ifCond.holds .eq (u4 &&& (1 : Int32))) then (u3 &&& (9223372036854775807 : Int64)) else (bif (ifCond.holds .ge (lcmpW ((((u2 &&& (4611686018427387903 : Int64)) + (8 : Int64)) + (u1.toInt64)) + (((u5 &&& (3 : Int32)) - (1 : Int32)).toInt64)) (0 : Int64))) then ((((u2 &&& (4611686018427387903 : Int64)) + (8 : Int64)) + (u1.toInt64)) + (((u5 &&& (3 : Int32)) - (1 : Int32)).toInt64)) else (0 : Int64)))), .second, .unset, .unset, .unset] [(.long (u2 &&& (4611686018427387903 : Int64)))])) _
    refine X0.ldc2Long hx hown (mvT hZ (own_w hw 2 rfl)) (g := (mkF m 55 #[.val (.int u1), .val (.long u2), .second, .val (.long u3), .second, .val (.int u4), .val (.int u5), .val (.long (u2 &&& (4611686018427387903 : Int64))), .second, .val (.long (bif (ifCond.holds .eq (u4 &&& (1 : Int32))) then (u3 &&& (9223372036854775807 : Int64)) else (bif (ifCond.holds .ge (lcmpW ((((u2 &&& (4611686018427387903 : Int64)) + (8 : Int64)) + (u1.toInt64)) + (((u5 &&& (3 : Int32)) - (1 : Int32)).toInt64)) (0 : Int64))) then ((((u2 &&& (4611686018427387903 : Int64)) + (8 : Int64)) + (u1.toInt64)) + (((u5 &&& (3 : Int32)) - (1 : Int32)).toInt64)) else (0 : Int64)))), .second, .unset, .unset, .unset] [(.long (u2 &&& (4611686018427387903 : Int64)))])) rfl (hb hby at_55) _ ?_
    show Steps p.tables e below (s₁.setTop (mkF m 58 #[.val (.int u1), .val (.long u2), .second, .val (.long u3), .second, .val (.int u4), .val (.int u5), .val (.long (u2 &&& (4611686018427387903 : Int64))), .second, .val (.long (bif (ifCond.holds .eq (u4 &&& (1 : Int32))) then (u3 &&& (9223372036854775807 : Int64)) else (bif (ifCond.holds .ge (lcmpW ((((u2 &&& (4611686018427387903 : Int64)) + (8 : Int64)) + (u1.toInt64)) + (((u5 &&& (3 : Int32)) - (1 : Int32)).toInt64)) (0 : Int64))) then ((((u2 &&& (4611686018427387903 : Int64)) + (8 : Int64)) + (u1.toInt64)) + (((u5 &&& (3 : Int32)) - (1 : Int32)).toInt64)) else (0 : Int64)))), .second, .unset, .unset, .unset] [(.long (8 : Int64)), (.long (u2 &&& (4611686018427387903 : Int64)))])) _
    refine XS.ladd X0.here hx rfl (hb hby at_58) rfl ?_
    show Steps p.tables e below (s₁.setTop (mkF m 59 #[.val (.int u1), .val (.long u2), .second, .val (.long u3), .second, .val (.int u4), .val (.int u5), .val (.long (u2 &&& (4611686018427387903 : Int64))), .second, .val (.long (bif (ifCond.holds .eq (u4 &&& (1 : Int32))) then (u3 &&& (9223372036854775807 : Int64)) else (bif (ifCond.holds .ge (lcmpW ((((u2 &&& (4611686018427387903 : Int64)) + (8 : Int64)) + (u1.toInt64)) + (((u5 &&& (3 : Int32)) - (1 : Int32)).toInt64)) (0 : Int64))) then ((((u2 &&& (4611686018427387903 : Int64)) + (8 : Int64)) + (u1.toInt64)) + (((u5 &&& (3 : Int32)) - (1 : Int32)).toInt64)) else (0 : Int64)))), .second, .unset, .unset, .unset] [(.long ((u2 &&& (4611686018427387903 : Int64)) + (8 : Int64)))])) _
    refine XS.iloadN X0.here hx rfl (hb hby at_59) rfl ?_
    show Steps p.tables e below (s₁.setTop (mkF m 60 #[.val (.int u1), .val (.long u2), .second, .val (.long u3), .second, .val (.int u4), .val (.int u5), .val (.long (u2 &&& (4611686018427387903 : Int64))), .second, .val (.long (bif (ifCond.holds .eq (u4 &&& (1 : Int32))) then (u3 &&& (9223372036854775807 : Int64)) else (bif (ifCond.holds .ge (lcmpW ((((u2 &&& (4611686018427387903 : Int64)) + (8 : Int64)) + (u1.toInt64)) + (((u5 &&& (3 : Int32)) - (1 : Int32)).toInt64)) (0 : Int64))) then ((((u2 &&& (4611686018427387903 : Int64)) + (8 : Int64)) + (u1.toInt64)) + (((u5 &&& (3 : Int32)) - (1 : Int32)).toInt64)) else (0 : Int64)))), .second, .unset, .unset, .unset] [(.int u1), (.long ((u2 &&& (4611686018427387903 : Int64)) + (8 : Int64)))])) _
    refine XS.i2l X0.here hx rfl (hb hby at_60) rfl ?_
    show Steps p.tables e below (s₁.setTop (mkF m 61 #[.val (.int u1), .val (.long u2), .second, .val (.long u3), .second, .val (.int u4), .val (.int u5), .val (.long (u2 &&& (4611686018427387903 : Int64))), .second, .val (.long (bif (ifCond.holds .eq (u4 &&& (1 : Int32))) then (u3 &&& (9223372036854775807 : Int64)) else (bif (ifCond.holds .ge (lcmpW ((((u2 &&& (4611686018427387903 : Int64)) + (8 : Int64)) + (u1.toInt64)) + (((u5 &&& (3 : Int32)) - (1 : Int32)).toInt64)) (0 : Int64))) then ((((u2 &&& (4611686018427387903 : Int64)) + (8 : Int64)) + (u1.toInt64)) + (((u5 &&& (3 : Int32)) - (1 : Int32)).toInt64)) else (0 : Int64)))), .second, .unset, .unset, .unset] [(.long (u1.toInt64)), (.long ((u2 &&& (4611686018427387903 : Int64)) + (8 : Int64)))])) _
    refine XS.ladd X0.here hx rfl (hb hby at_61) rfl ?_
    show Steps p.tables e below (s₁.setTop (mkF m 62 #[.val (.int u1), .val (.long u2), .second, .val (.long u3), .second, .val (.int u4), .val (.int u5), .val (.long (u2 &&& (4611686018427387903 : Int64))), .second, .val (.long (bif (ifCond.holds .eq (u4 &&& (1 : Int32))) then (u3 &&& (9223372036854775807 : Int64)) else (bif (ifCond.holds .ge (lcmpW ((((u2 &&& (4611686018427387903 : Int64)) + (8 : Int64)) + (u1.toInt64)) + (((u5 &&& (3 : Int32)) - (1 : Int32)).toInt64)) (0 : Int64))) then ((((u2 &&& (4611686018427387903 : Int64)) + (8 : Int64)) + (u1.toInt64)) + (((u5 &&& (3 : Int32)) - (1 : Int32)).toInt64)) else (0 : Int64)))), .second, .unset, .unset, .unset] [(.long (((u2 &&& (4611686018427387903 : Int64)) + (8 : Int64)) + (u1.toInt64)))])) _
    refine XS.lstore X0.here hx rfl (hb hby at_62) rfl (l' := #[.val (.int u1), .val (.long u2), .second, .val (.long u3), .second, .val (.int u4), .val (.int u5), .val (.long (u2 &&& (4611686018427387903 : Int64))), .second, .val (.long (bif (ifCond.holds .eq (u4 &&& (1 : Int32))) then (u3 &&& (9223372036854775807 : Int64)) else (bif (ifCond.holds .ge (lcmpW ((((u2 &&& (4611686018427387903 : Int64)) + (8 : Int64)) + (u1.toInt64)) + (((u5 &&& (3 : Int32)) - (1 : Int32)).toInt64)) (0 : Int64))) then ((((u2 &&& (4611686018427387903 : Int64)) + (8 : Int64)) + (u1.toInt64)) + (((u5 &&& (3 : Int32)) - (1 : Int32)).toInt64)) else (0 : Int64)))), .second, .val (.long (((u2 &&& (4611686018427387903 : Int64)) + (8 : Int64)) + (u1.toInt64))), .second, .unset]) rfl ?_
    show Steps p.tables e below (s₁.setTop (mkF m 64 #[.val (.int u1), .val (.long u2), .second, .val (.long u3), .second, .val (.int u4), .val (.int u5), .val (.long (u2 &&& (4611686018427387903 : Int64))), .second, .val (.long (bif (ifCond.holds .eq (u4 &&& (1 : Int32))) then (u3 &&& (9223372036854775807 : Int64)) else (bif (ifCond.holds .ge (lcmpW ((((u2 &&& (4611686018427387903 : Int64)) + (8 : Int64)) + (u1.toInt64)) + (((u5 &&& (3 : Int32)) - (1 : Int32)).toInt64)) (0 : Int64))) then ((((u2 &&& (4611686018427387903 : Int64)) + (8 : Int64)) + (u1.toInt64)) + (((u5 &&& (3 : Int32)) - (1 : Int32)).toInt64)) else (0 : Int64)))), .second, .val (.long (((u2 &&& (4611686018427387903 : Int64)) + (8 : Int64)) + (u1.toInt64))), .second, .unset] [])) _
    refine XS.iloadN X0.here hx rfl (hb hby at_64) rfl ?_
    show Steps p.tables e below (s₁.setTop (mkF m 65 #[.val (.int u1), .val (.long u2), .second, .val (.long u3), .second, .val (.int u4), .val (.int u5), .val (.long (u2 &&& (4611686018427387903 : Int64))), .second, .val (.long (bif (ifCond.holds .eq (u4 &&& (1 : Int32))) then (u3 &&& (9223372036854775807 : Int64)) else (bif (ifCond.holds .ge (lcmpW ((((u2 &&& (4611686018427387903 : Int64)) + (8 : Int64)) + (u1.toInt64)) + (((u5 &&& (3 : Int32)) - (1 : Int32)).toInt64)) (0 : Int64))) then ((((u2 &&& (4611686018427387903 : Int64)) + (8 : Int64)) + (u1.toInt64)) + (((u5 &&& (3 : Int32)) - (1 : Int32)).toInt64)) else (0 : Int64)))), .second, .val (.long (((u2 &&& (4611686018427387903 : Int64)) + (8 : Int64)) + (u1.toInt64))), .second, .unset] [(.int u1)])) _
    refine XS.iconst X0.here hx rfl (hb hby at_65) ?_
    exact k
  have pre8 : ∀ t, Steps p.tables e below (s₁.setTop (mkF m 82 #[.val (.int u1), .val (.long u2), .second, .val (.long u3), .second, .val (.int u4), .val (.int u5), .val (.long (u2 &&& (4611686018427387903 : Int64))), .second, .val (.long (bif (ifCond.holds .eq (u4 &&& (1 : Int32))) then (u3 &&& (9223372036854775807 : Int64)) else (bif (ifCond.holds .ge (lcmpW ((((u2 &&& (4611686018427387903 : Int64)) + (8 : Int64)) + (u1.toInt64)) + (((u5 &&& (3 : Int32)) - (1 : Int32)).toInt64)) (0 : Int64))) then ((((u2 &&& (4611686018427387903 : Int64)) + (8 : Int64)) + (u1.toInt64)) + (((u5 &&& (3 : Int32)) - (1 : Int32)).toInt64)) else (0 : Int64)))), .second, .val (.long (((u2 &&& (4611686018427387903 : Int64)) + (8 : Int64)) + (u1.toInt64))), .second, .unset] [(.int (bif (if_icmp.holds .lt u1 (4 : Int32)) then (0 : Int32) else (bif (ifCond.holds .gt (lcmpW (((u2 &&& (4611686018427387903 : Int64)) + (8 : Int64)) + (u1.toInt64)) (bif (ifCond.holds .eq (u4 &&& (1 : Int32))) then (u3 &&& (9223372036854775807 : Int64)) else (bif (ifCond.holds .ge (lcmpW ((((u2 &&& (4611686018427387903 : Int64)) + (8 : Int64)) + (u1.toInt64)) + (((u5 &&& (3 : Int32)) - (1 : Int32)).toInt64)) (0 : Int64))) then ((((u2 &&& (4611686018427387903 : Int64)) + (8 : Int64)) + (u1.toInt64)) + (((u5 &&& (3 : Int32)) - (1 : Int32)).toInt64)) else (0 : Int64))))) then (0 : Int32) else (1 : Int32))))])) t → Steps p.tables e below (s₁.setTop (entryFrame m #[(.int u1), (.long u2), (.long u3), (.int u4), (.int u5)] maxLocals)) t := by
    intro t k
    refine pre5 t ?_
    show Steps p.tables e below (s₁.setTop (mkF m 66 #[.val (.int u1), .val (.long u2), .second, .val (.long u3), .second, .val (.int u4), .val (.int u5), .val (.long (u2 &&& (4611686018427387903 : Int64))), .second, .val (.long (bif (ifCond.holds .eq (u4 &&& (1 : Int32))) then (u3 &&& (9223372036854775807 : Int64)) else (bif (ifCond.holds .ge (lcmpW ((((u2 &&& (4611686018427387903 : Int64)) + (8 : Int64)) + (u1.toInt64)) + (((u5 &&& (3 : Int32)) - (1 : Int32)).toInt64)) (0 : Int64))) then ((((u2 &&& (4611686018427387903 : Int64)) + (8 : Int64)) + (u1.toInt64)) + (((u5 &&& (3 : Int32)) - (1 : Int32)).toInt64)) else (0 : Int64)))), .second, .val (.long (((u2 &&& (4611686018427387903 : Int64)) + (8 : Int64)) + (u1.toInt64))), .second, .unset] [(.int (4 : Int32)), (.int u1)])) _
    rcases Bool.eq_false_or_eq_true (if_icmp.holds .lt u1 (4 : Int32)) with hb66_6 | hb66_6
    · refine XS.icmpYes X0.here hx rfl (pc0 := 66) (pc' := 81) rfl (hb hby at_66) rfl hb66_6 (by decide) (by decide) ?_
      show Steps p.tables e below (s₁.setTop (mkF m 81 #[.val (.int u1), .val (.long u2), .second, .val (.long u3), .second, .val (.int u4), .val (.int u5), .val (.long (u2 &&& (4611686018427387903 : Int64))), .second, .val (.long (bif (ifCond.holds .eq (u4 &&& (1 : Int32))) then (u3 &&& (9223372036854775807 : Int64)) else (bif (ifCond.holds .ge (lcmpW ((((u2 &&& (4611686018427387903 : Int64)) + (8 : Int64)) + (u1.toInt64)) + (((u5 &&& (3 : Int32)) - (1 : Int32)).toInt64)) (0 : Int64))) then ((((u2 &&& (4611686018427387903 : Int64)) + (8 : Int64)) + (u1.toInt64)) + (((u5 &&& (3 : Int32)) - (1 : Int32)).toInt64)) else (0 : Int64)))), .second, .val (.long (((u2 &&& (4611686018427387903 : Int64)) + (8 : Int64)) + (u1.toInt64))), .second, .unset] [])) _
      refine XS.iconst X0.here hx rfl (hb hby at_81) ?_
      have k : Steps p.tables e below (s₁.setTop (mkF m 82 #[.val (.int u1), .val (.long u2), .second, .val (.long u3), .second, .val (.int u4), .val (.int u5), .val (.long (u2 &&& (4611686018427387903 : Int64))), .second, .val (.long (bif (ifCond.holds .eq (u4 &&& (1 : Int32))) then (u3 &&& (9223372036854775807 : Int64)) else (bif (ifCond.holds .ge (lcmpW ((((u2 &&& (4611686018427387903 : Int64)) + (8 : Int64)) + (u1.toInt64)) + (((u5 &&& (3 : Int32)) - (1 : Int32)).toInt64)) (0 : Int64))) then ((((u2 &&& (4611686018427387903 : Int64)) + (8 : Int64)) + (u1.toInt64)) + (((u5 &&& (3 : Int32)) - (1 : Int32)).toInt64)) else (0 : Int64)))), .second, .val (.long (((u2 &&& (4611686018427387903 : Int64)) + (8 : Int64)) + (u1.toInt64))), .second, .unset] [(.int (0 : Int32))])) t := by simpa only [hb66_6, cond_true, cond_false] using k
      exact k
    · refine XS.icmpNo X0.here hx rfl (hb hby at_66) rfl hb66_6 ?_
      show Steps p.tables e below (s₁.setTop (mkF m 69 #[.val (.int u1), .val (.long u2), .second, .val (.long u3), .second, .val (.int u4), .val (.int u5), .val (.long (u2 &&& (4611686018427387903 : Int64))), .second, .val (.long (bif (ifCond.holds .eq (u4 &&& (1 : Int32))) then (u3 &&& (9223372036854775807 : Int64)) else (bif (ifCond.holds .ge (lcmpW ((((u2 &&& (4611686018427387903 : Int64)) + (8 : Int64)) + (u1.toInt64)) + (((u5 &&& (3 : Int32)) - (1 : Int32)).toInt64)) (0 : Int64))) then ((((u2 &&& (4611686018427387903 : Int64)) + (8 : Int64)) + (u1.toInt64)) + (((u5 &&& (3 : Int32)) - (1 : Int32)).toInt64)) else (0 : Int64)))), .second, .val (.long (((u2 &&& (4611686018427387903 : Int64)) + (8 : Int64)) + (u1.toInt64))), .second, .unset] [])) _
      refine XS.lload X0.here hx rfl (hb hby at_69) rfl ?_
      show Steps p.tables e below (s₁.setTop (mkF m 71 #[.val (.int u1), .val (.long u2), .second, .val (.long u3), .second, .val (.int u4), .val (.int u5), .val (.long (u2 &&& (4611686018427387903 : Int64))), .second, .val (.long (bif (ifCond.holds .eq (u4 &&& (1 : Int32))) then (u3 &&& (9223372036854775807 : Int64)) else (bif (ifCond.holds .ge (lcmpW ((((u2 &&& (4611686018427387903 : Int64)) + (8 : Int64)) + (u1.toInt64)) + (((u5 &&& (3 : Int32)) - (1 : Int32)).toInt64)) (0 : Int64))) then ((((u2 &&& (4611686018427387903 : Int64)) + (8 : Int64)) + (u1.toInt64)) + (((u5 &&& (3 : Int32)) - (1 : Int32)).toInt64)) else (0 : Int64)))), .second, .val (.long (((u2 &&& (4611686018427387903 : Int64)) + (8 : Int64)) + (u1.toInt64))), .second, .unset] [(.long (((u2 &&& (4611686018427387903 : Int64)) + (8 : Int64)) + (u1.toInt64)))])) _
      refine XS.lload X0.here hx rfl (hb hby at_71) rfl ?_
      show Steps p.tables e below (s₁.setTop (mkF m 73 #[.val (.int u1), .val (.long u2), .second, .val (.long u3), .second, .val (.int u4), .val (.int u5), .val (.long (u2 &&& (4611686018427387903 : Int64))), .second, .val (.long (bif (ifCond.holds .eq (u4 &&& (1 : Int32))) then (u3 &&& (9223372036854775807 : Int64)) else (bif (ifCond.holds .ge (lcmpW ((((u2 &&& (4611686018427387903 : Int64)) + (8 : Int64)) + (u1.toInt64)) + (((u5 &&& (3 : Int32)) - (1 : Int32)).toInt64)) (0 : Int64))) then ((((u2 &&& (4611686018427387903 : Int64)) + (8 : Int64)) + (u1.toInt64)) + (((u5 &&& (3 : Int32)) - (1 : Int32)).toInt64)) else (0 : Int64)))), .second, .val (.long (((u2 &&& (4611686018427387903 : Int64)) + (8 : Int64)) + (u1.toInt64))), .second, .unset] [(.long (bif (ifCond.holds .eq (u4 &&& (1 : Int32))) then (u3 &&& (9223372036854775807 : Int64)) else (bif (ifCond.holds .ge (lcmpW ((((u2 &&& (4611686018427387903 : Int64)) + (8 : Int64)) + (u1.toInt64)) + (((u5 &&& (3 : Int32)) - (1 : Int32)).toInt64)) (0 : Int64))) then ((((u2 &&& (4611686018427387903 : Int64)) + (8 : Int64)) + (u1.toInt64)) + (((u5 &&& (3 : Int32)) - (1 : Int32)).toInt64)) else (0 : Int64)))), (.long (((u2 &&& (4611686018427387903 : Int64)) + (8 : Int64)) + (u1.toInt64)))])) _
      refine XS.lcmp X0.here hx rfl (hb hby at_73) rfl ?_
      show Steps p.tables e below (s₁.setTop (mkF m 74 #[.val (.int u1), .val (.long u2), .second, .val (.long u3), .second, .val (.int u4), .val (.int u5), .val (.long (u2 &&& (4611686018427387903 : Int64))), .second, .val (.long (bif (ifCond.holds .eq (u4 &&& (1 : Int32))) then (u3 &&& (9223372036854775807 : Int64)) else (bif (ifCond.holds .ge (lcmpW ((((u2 &&& (4611686018427387903 : Int64)) + (8 : Int64)) + (u1.toInt64)) + (((u5 &&& (3 : Int32)) - (1 : Int32)).toInt64)) (0 : Int64))) then ((((u2 &&& (4611686018427387903 : Int64)) + (8 : Int64)) + (u1.toInt64)) + (((u5 &&& (3 : Int32)) - (1 : Int32)).toInt64)) else (0 : Int64)))), .second, .val (.long (((u2 &&& (4611686018427387903 : Int64)) + (8 : Int64)) + (u1.toInt64))), .second, .unset] [(.int (lcmpW (((u2 &&& (4611686018427387903 : Int64)) + (8 : Int64)) + (u1.toInt64)) (bif (ifCond.holds .eq (u4 &&& (1 : Int32))) then (u3 &&& (9223372036854775807 : Int64)) else (bif (ifCond.holds .ge (lcmpW ((((u2 &&& (4611686018427387903 : Int64)) + (8 : Int64)) + (u1.toInt64)) + (((u5 &&& (3 : Int32)) - (1 : Int32)).toInt64)) (0 : Int64))) then ((((u2 &&& (4611686018427387903 : Int64)) + (8 : Int64)) + (u1.toInt64)) + (((u5 &&& (3 : Int32)) - (1 : Int32)).toInt64)) else (0 : Int64)))))])) _
      rcases Bool.eq_false_or_eq_true (ifCond.holds .gt (lcmpW (((u2 &&& (4611686018427387903 : Int64)) + (8 : Int64)) + (u1.toInt64)) (bif (ifCond.holds .eq (u4 &&& (1 : Int32))) then (u3 &&& (9223372036854775807 : Int64)) else (bif (ifCond.holds .ge (lcmpW ((((u2 &&& (4611686018427387903 : Int64)) + (8 : Int64)) + (u1.toInt64)) + (((u5 &&& (3 : Int32)) - (1 : Int32)).toInt64)) (0 : Int64))) then ((((u2 &&& (4611686018427387903 : Int64)) + (8 : Int64)) + (u1.toInt64)) + (((u5 &&& (3 : Int32)) - (1 : Int32)).toInt64)) else (0 : Int64))))) with hb74_7 | hb74_7
      · refine XS.ifYes X0.here hx rfl (pc0 := 74) (pc' := 81) rfl (hb hby at_74) rfl hb74_7 (by decide) (by decide) ?_
        show Steps p.tables e below (s₁.setTop (mkF m 81 #[.val (.int u1), .val (.long u2), .second, .val (.long u3), .second, .val (.int u4), .val (.int u5), .val (.long (u2 &&& (4611686018427387903 : Int64))), .second, .val (.long (bif (ifCond.holds .eq (u4 &&& (1 : Int32))) then (u3 &&& (9223372036854775807 : Int64)) else (bif (ifCond.holds .ge (lcmpW ((((u2 &&& (4611686018427387903 : Int64)) + (8 : Int64)) + (u1.toInt64)) + (((u5 &&& (3 : Int32)) - (1 : Int32)).toInt64)) (0 : Int64))) then ((((u2 &&& (4611686018427387903 : Int64)) + (8 : Int64)) + (u1.toInt64)) + (((u5 &&& (3 : Int32)) - (1 : Int32)).toInt64)) else (0 : Int64)))), .second, .val (.long (((u2 &&& (4611686018427387903 : Int64)) + (8 : Int64)) + (u1.toInt64))), .second, .unset] [])) _
        refine XS.iconst X0.here hx rfl (hb hby at_81) ?_
        have k : Steps p.tables e below (s₁.setTop (mkF m 82 #[.val (.int u1), .val (.long u2), .second, .val (.long u3), .second, .val (.int u4), .val (.int u5), .val (.long (u2 &&& (4611686018427387903 : Int64))), .second, .val (.long (bif (ifCond.holds .eq (u4 &&& (1 : Int32))) then (u3 &&& (9223372036854775807 : Int64)) else (bif (ifCond.holds .ge (lcmpW ((((u2 &&& (4611686018427387903 : Int64)) + (8 : Int64)) + (u1.toInt64)) + (((u5 &&& (3 : Int32)) - (1 : Int32)).toInt64)) (0 : Int64))) then ((((u2 &&& (4611686018427387903 : Int64)) + (8 : Int64)) + (u1.toInt64)) + (((u5 &&& (3 : Int32)) - (1 : Int32)).toInt64)) else (0 : Int64)))), .second, .val (.long (((u2 &&& (4611686018427387903 : Int64)) + (8 : Int64)) + (u1.toInt64))), .second, .unset] [(.int (0 : Int32))])) t := by simpa only [hb66_6, hb74_7, cond_true, cond_false] using k
        exact k
      · refine XS.ifNo X0.here hx rfl (hb hby at_74) rfl hb74_7 ?_
        show Steps p.tables e below (s₁.setTop (mkF m 77 #[.val (.int u1), .val (.long u2), .second, .val (.long u3), .second, .val (.int u4), .val (.int u5), .val (.long (u2 &&& (4611686018427387903 : Int64))), .second, .val (.long (bif (ifCond.holds .eq (u4 &&& (1 : Int32))) then (u3 &&& (9223372036854775807 : Int64)) else (bif (ifCond.holds .ge (lcmpW ((((u2 &&& (4611686018427387903 : Int64)) + (8 : Int64)) + (u1.toInt64)) + (((u5 &&& (3 : Int32)) - (1 : Int32)).toInt64)) (0 : Int64))) then ((((u2 &&& (4611686018427387903 : Int64)) + (8 : Int64)) + (u1.toInt64)) + (((u5 &&& (3 : Int32)) - (1 : Int32)).toInt64)) else (0 : Int64)))), .second, .val (.long (((u2 &&& (4611686018427387903 : Int64)) + (8 : Int64)) + (u1.toInt64))), .second, .unset] [])) _
        refine XS.iconst X0.here hx rfl (hb hby at_77) ?_
        show Steps p.tables e below (s₁.setTop (mkF m 78 #[.val (.int u1), .val (.long u2), .second, .val (.long u3), .second, .val (.int u4), .val (.int u5), .val (.long (u2 &&& (4611686018427387903 : Int64))), .second, .val (.long (bif (ifCond.holds .eq (u4 &&& (1 : Int32))) then (u3 &&& (9223372036854775807 : Int64)) else (bif (ifCond.holds .ge (lcmpW ((((u2 &&& (4611686018427387903 : Int64)) + (8 : Int64)) + (u1.toInt64)) + (((u5 &&& (3 : Int32)) - (1 : Int32)).toInt64)) (0 : Int64))) then ((((u2 &&& (4611686018427387903 : Int64)) + (8 : Int64)) + (u1.toInt64)) + (((u5 &&& (3 : Int32)) - (1 : Int32)).toInt64)) else (0 : Int64)))), .second, .val (.long (((u2 &&& (4611686018427387903 : Int64)) + (8 : Int64)) + (u1.toInt64))), .second, .unset] [(.int (1 : Int32))])) _
        refine XS.goto X0.here hx rfl (pc0 := 78) (pc' := 82) rfl (hb hby at_78) (by decide) (by decide) ?_
        have k : Steps p.tables e below (s₁.setTop (mkF m 82 #[.val (.int u1), .val (.long u2), .second, .val (.long u3), .second, .val (.int u4), .val (.int u5), .val (.long (u2 &&& (4611686018427387903 : Int64))), .second, .val (.long (bif (ifCond.holds .eq (u4 &&& (1 : Int32))) then (u3 &&& (9223372036854775807 : Int64)) else (bif (ifCond.holds .ge (lcmpW ((((u2 &&& (4611686018427387903 : Int64)) + (8 : Int64)) + (u1.toInt64)) + (((u5 &&& (3 : Int32)) - (1 : Int32)).toInt64)) (0 : Int64))) then ((((u2 &&& (4611686018427387903 : Int64)) + (8 : Int64)) + (u1.toInt64)) + (((u5 &&& (3 : Int32)) - (1 : Int32)).toInt64)) else (0 : Int64)))), .second, .val (.long (((u2 &&& (4611686018427387903 : Int64)) + (8 : Int64)) + (u1.toInt64))), .second, .unset] [(.int (1 : Int32))])) t := by simpa only [hb66_6, hb74_7, cond_true, cond_false] using k
        exact k
  obtain ⟨_, _, ⟨T9, L9, k9, n9⟩, -, X9, ⟨Lc9, hQ9, l9, y9, z9⟩, st9⟩ := Jvm.LawKit.callS X0 hx (y := (⟨"com/example/sonde/sonde/store/StoreFiles", "fits", "(IJJ)Z"⟩ : MethodName)) hown (mvT hZ (own_w hw 3 rfl)) (mvT hZ (own_w hw 4 rfl)) (mvT hZ (own_w hw 5 rfl)) (mvT hZ (own_w hw 6 rfl)) (by decide) (backOf (W := 0) (rm_fits l Z a0 hw [] u1 (u2 &&& (4611686018427387903 : Int64)) (bif (ifCond.holds .eq (u4 &&& (1 : Int32))) then (u3 &&& (9223372036854775807 : Int64)) else (bif (ifCond.holds .ge (lcmpW ((((u2 &&& (4611686018427387903 : Int64)) + (8 : Int64)) + (u1.toInt64)) + (((u5 &&& (3 : Int32)) - (1 : Int32)).toInt64)) (0 : Int64))) then ((((u2 &&& (4611686018427387903 : Int64)) + (8 : Int64)) + (u1.toInt64)) + (((u5 &&& (3 : Int32)) - (1 : Int32)).toInt64)) else (0 : Int64))) h0 n0 Z0 ) hZ (own_w hw 6 rfl) (own_w hw 5 rfl) (by decide) (by decide)) (g := (mkF m 89 #[.val (.int u1), .val (.long u2), .second, .val (.long u3), .second, .val (.int u4), .val (.int u5), .val (.long (u2 &&& (4611686018427387903 : Int64))), .second, .val (.long (bif (ifCond.holds .eq (u4 &&& (1 : Int32))) then (u3 &&& (9223372036854775807 : Int64)) else (bif (ifCond.holds .ge (lcmpW ((((u2 &&& (4611686018427387903 : Int64)) + (8 : Int64)) + (u1.toInt64)) + (((u5 &&& (3 : Int32)) - (1 : Int32)).toInt64)) (0 : Int64))) then ((((u2 &&& (4611686018427387903 : Int64)) + (8 : Int64)) + (u1.toInt64)) + (((u5 &&& (3 : Int32)) - (1 : Int32)).toInt64)) else (0 : Int64)))), .second, .val (.long (((u2 &&& (4611686018427387903 : Int64)) + (8 : Int64)) + (u1.toInt64))), .second, .val (.int (bif (if_icmp.holds .lt u1 (4 : Int32)) then (0 : Int32) else (bif (ifCond.holds .gt (lcmpW (((u2 &&& (4611686018427387903 : Int64)) + (8 : Int64)) + (u1.toInt64)) (bif (ifCond.holds .eq (u4 &&& (1 : Int32))) then (u3 &&& (9223372036854775807 : Int64)) else (bif (ifCond.holds .ge (lcmpW ((((u2 &&& (4611686018427387903 : Int64)) + (8 : Int64)) + (u1.toInt64)) + (((u5 &&& (3 : Int32)) - (1 : Int32)).toInt64)) (0 : Int64))) then ((((u2 &&& (4611686018427387903 : Int64)) + (8 : Int64)) + (u1.toInt64)) + (((u5 &&& (3 : Int32)) - (1 : Int32)).toInt64)) else (0 : Int64))))) then (0 : Int32) else (1 : Int32))))] [(.long (bif (ifCond.holds .eq (u4 &&& (1 : Int32))) then (u3 &&& (9223372036854775807 : Int64)) else (bif (ifCond.holds .ge (lcmpW ((((u2 &&& (4611686018427387903 : Int64)) + (8 : Int64)) + (u1.toInt64)) + (((u5 &&& (3 : Int32)) - (1 : Int32)).toInt64)) (0 : Int64))) then ((((u2 &&& (4611686018427387903 : Int64)) + (8 : Int64)) + (u1.toInt64)) + (((u5 &&& (3 : Int32)) - (1 : Int32)).toInt64)) else (0 : Int64)))), (.long (u2 &&& (4611686018427387903 : Int64))), (.int u1)])) rfl (by rw [hml]; rfl) (argsL := [(.int u1), (.long (u2 &&& (4611686018427387903 : Int64))), (.long (bif (ifCond.holds .eq (u4 &&& (1 : Int32))) then (u3 &&& (9223372036854775807 : Int64)) else (bif (ifCond.holds .ge (lcmpW ((((u2 &&& (4611686018427387903 : Int64)) + (8 : Int64)) + (u1.toInt64)) + (((u5 &&& (3 : Int32)) - (1 : Int32)).toInt64)) (0 : Int64))) then ((((u2 &&& (4611686018427387903 : Int64)) + (8 : Int64)) + (u1.toInt64)) + (((u5 &&& (3 : Int32)) - (1 : Int32)).toInt64)) else (0 : Int64))))]) (rest := []) (lenOf pd_19859 rfl) rfl (by show 2 * 0 + _ ≤ _; exact Nat.le_of_eq rfl) (hb hby at_89) (fun _ _ => ⟨rfl, e0, (by decide : 0 + 0 ≤ _), (by decide : 0 + 0 ≤ _)⟩)
  dsimp only [Pt.U, Pt.locs, Pt.cells, Pt.slots] at X9 l9 y9 z9 st9 hQ9
  subst l9 y9 z9
  obtain ⟨rfl, Nq9, eq9⟩ := hQ9
  have N9 := Fr.app N0 Nq9
  have pre10 : ∀ t, Steps p.tables e below (T9.setTop (mkF m 94 #[.val (.int u1), .val (.long u2), .second, .val (.long u3), .second, .val (.int u4), .val (.int u5), .val (.long (u2 &&& (4611686018427387903 : Int64))), .second, .val (.long (bif (ifCond.holds .eq (u4 &&& (1 : Int32))) then (u3 &&& (9223372036854775807 : Int64)) else (bif (ifCond.holds .ge (lcmpW ((((u2 &&& (4611686018427387903 : Int64)) + (8 : Int64)) + (u1.toInt64)) + (((u5 &&& (3 : Int32)) - (1 : Int32)).toInt64)) (0 : Int64))) then ((((u2 &&& (4611686018427387903 : Int64)) + (8 : Int64)) + (u1.toInt64)) + (((u5 &&& (3 : Int32)) - (1 : Int32)).toInt64)) else (0 : Int64)))), .second, .val (.long (((u2 &&& (4611686018427387903 : Int64)) + (8 : Int64)) + (u1.toInt64))), .second, .val (.int (bif (if_icmp.holds .lt u1 (4 : Int32)) then (0 : Int32) else (bif (ifCond.holds .gt (lcmpW (((u2 &&& (4611686018427387903 : Int64)) + (8 : Int64)) + (u1.toInt64)) (bif (ifCond.holds .eq (u4 &&& (1 : Int32))) then (u3 &&& (9223372036854775807 : Int64)) else (bif (ifCond.holds .ge (lcmpW ((((u2 &&& (4611686018427387903 : Int64)) + (8 : Int64)) + (u1.toInt64)) + (((u5 &&& (3 : Int32)) - (1 : Int32)).toInt64)) (0 : Int64))) then ((((u2 &&& (4611686018427387903 : Int64)) + (8 : Int64)) + (u1.toInt64)) + (((u5 &&& (3 : Int32)) - (1 : Int32)).toInt64)) else (0 : Int64))))) then (0 : Int32) else (1 : Int32))))] [(.int (bif (if_icmp.holds .lt u1 (4 : Int32)) then (0 : Int32) else (bif (ifCond.holds .gt (lcmpW (((u2 &&& (4611686018427387903 : Int64)) + (8 : Int64)) + (u1.toInt64)) (bif (ifCond.holds .eq (u4 &&& (1 : Int32))) then (u3 &&& (9223372036854775807 : Int64)) else (bif (ifCond.holds .ge (lcmpW ((((u2 &&& (4611686018427387903 : Int64)) + (8 : Int64)) + (u1.toInt64)) + (((u5 &&& (3 : Int32)) - (1 : Int32)).toInt64)) (0 : Int64))) then ((((u2 &&& (4611686018427387903 : Int64)) + (8 : Int64)) + (u1.toInt64)) + (((u5 &&& (3 : Int32)) - (1 : Int32)).toInt64)) else (0 : Int64))))) then (0 : Int32) else (1 : Int32)))), (.int (nar .boolean (bif (if_icmp.holds .lt u1 (4 : Int32)) then (0 : Int32) else (bif (ifCond.holds .gt (lcmpW (u1.toInt64) (((bif (ifCond.holds .eq (u4 &&& (1 : Int32))) then (u3 &&& (9223372036854775807 : Int64)) else (bif (ifCond.holds .ge (lcmpW ((((u2 &&& (4611686018427387903 : Int64)) + (8 : Int64)) + (u1.toInt64)) + (((u5 &&& (3 : Int32)) - (1 : Int32)).toInt64)) (0 : Int64))) then ((((u2 &&& (4611686018427387903 : Int64)) + (8 : Int64)) + (u1.toInt64)) + (((u5 &&& (3 : Int32)) - (1 : Int32)).toInt64)) else (0 : Int64))) - (u2 &&& (4611686018427387903 : Int64))) - (8 : Int64)))) then (0 : Int32) else (1 : Int32)))))])) t → Steps p.tables e below (s₁.setTop (entryFrame m #[(.int u1), (.long u2), (.long u3), (.int u4), (.int u5)] maxLocals)) t := by
    intro t k
    refine pre8 t ?_
    show Steps p.tables e below (s₁.setTop (mkF m 82 #[.val (.int u1), .val (.long u2), .second, .val (.long u3), .second, .val (.int u4), .val (.int u5), .val (.long (u2 &&& (4611686018427387903 : Int64))), .second, .val (.long (bif (ifCond.holds .eq (u4 &&& (1 : Int32))) then (u3 &&& (9223372036854775807 : Int64)) else (bif (ifCond.holds .ge (lcmpW ((((u2 &&& (4611686018427387903 : Int64)) + (8 : Int64)) + (u1.toInt64)) + (((u5 &&& (3 : Int32)) - (1 : Int32)).toInt64)) (0 : Int64))) then ((((u2 &&& (4611686018427387903 : Int64)) + (8 : Int64)) + (u1.toInt64)) + (((u5 &&& (3 : Int32)) - (1 : Int32)).toInt64)) else (0 : Int64)))), .second, .val (.long (((u2 &&& (4611686018427387903 : Int64)) + (8 : Int64)) + (u1.toInt64))), .second, .unset] [(.int (bif (if_icmp.holds .lt u1 (4 : Int32)) then (0 : Int32) else (bif (ifCond.holds .gt (lcmpW (((u2 &&& (4611686018427387903 : Int64)) + (8 : Int64)) + (u1.toInt64)) (bif (ifCond.holds .eq (u4 &&& (1 : Int32))) then (u3 &&& (9223372036854775807 : Int64)) else (bif (ifCond.holds .ge (lcmpW ((((u2 &&& (4611686018427387903 : Int64)) + (8 : Int64)) + (u1.toInt64)) + (((u5 &&& (3 : Int32)) - (1 : Int32)).toInt64)) (0 : Int64))) then ((((u2 &&& (4611686018427387903 : Int64)) + (8 : Int64)) + (u1.toInt64)) + (((u5 &&& (3 : Int32)) - (1 : Int32)).toInt64)) else (0 : Int64))))) then (0 : Int32) else (1 : Int32))))])) _
    refine XS.istore X0.here hx rfl (hb hby at_82) rfl (l' := #[.val (.int u1), .val (.long u2), .second, .val (.long u3), .second, .val (.int u4), .val (.int u5), .val (.long (u2 &&& (4611686018427387903 : Int64))), .second, .val (.long (bif (ifCond.holds .eq (u4 &&& (1 : Int32))) then (u3 &&& (9223372036854775807 : Int64)) else (bif (ifCond.holds .ge (lcmpW ((((u2 &&& (4611686018427387903 : Int64)) + (8 : Int64)) + (u1.toInt64)) + (((u5 &&& (3 : Int32)) - (1 : Int32)).toInt64)) (0 : Int64))) then ((((u2 &&& (4611686018427387903 : Int64)) + (8 : Int64)) + (u1.toInt64)) + (((u5 &&& (3 : Int32)) - (1 : Int32)).toInt64)) else (0 : Int64)))), .second, .val (.long (((u2 &&& (4611686018427387903 : Int64)) + (8 : Int64)) + (u1.toInt64))), .second, .val (.int (bif (if_icmp.holds .lt u1 (4 : Int32)) then (0 : Int32) else (bif (ifCond.holds .gt (lcmpW (((u2 &&& (4611686018427387903 : Int64)) + (8 : Int64)) + (u1.toInt64)) (bif (ifCond.holds .eq (u4 &&& (1 : Int32))) then (u3 &&& (9223372036854775807 : Int64)) else (bif (ifCond.holds .ge (lcmpW ((((u2 &&& (4611686018427387903 : Int64)) + (8 : Int64)) + (u1.toInt64)) + (((u5 &&& (3 : Int32)) - (1 : Int32)).toInt64)) (0 : Int64))) then ((((u2 &&& (4611686018427387903 : Int64)) + (8 : Int64)) + (u1.toInt64)) + (((u5 &&& (3 : Int32)) - (1 : Int32)).toInt64)) else (0 : Int64))))) then (0 : Int32) else (1 : Int32))))]) rfl ?_
    show Steps p.tables e below (s₁.setTop (mkF m 84 #[.val (.int u1), .val (.long u2), .second, .val (.long u3), .second, .val (.int u4), .val (.int u5), .val (.long (u2 &&& (4611686018427387903 : Int64))), .second, .val (.long (bif (ifCond.holds .eq (u4 &&& (1 : Int32))) then (u3 &&& (9223372036854775807 : Int64)) else (bif (ifCond.holds .ge (lcmpW ((((u2 &&& (4611686018427387903 : Int64)) + (8 : Int64)) + (u1.toInt64)) + (((u5 &&& (3 : Int32)) - (1 : Int32)).toInt64)) (0 : Int64))) then ((((u2 &&& (4611686018427387903 : Int64)) + (8 : Int64)) + (u1.toInt64)) + (((u5 &&& (3 : Int32)) - (1 : Int32)).toInt64)) else (0 : Int64)))), .second, .val (.long (((u2 &&& (4611686018427387903 : Int64)) + (8 : Int64)) + (u1.toInt64))), .second, .val (.int (bif (if_icmp.holds .lt u1 (4 : Int32)) then (0 : Int32) else (bif (ifCond.holds .gt (lcmpW (((u2 &&& (4611686018427387903 : Int64)) + (8 : Int64)) + (u1.toInt64)) (bif (ifCond.holds .eq (u4 &&& (1 : Int32))) then (u3 &&& (9223372036854775807 : Int64)) else (bif (ifCond.holds .ge (lcmpW ((((u2 &&& (4611686018427387903 : Int64)) + (8 : Int64)) + (u1.toInt64)) + (((u5 &&& (3 : Int32)) - (1 : Int32)).toInt64)) (0 : Int64))) then ((((u2 &&& (4611686018427387903 : Int64)) + (8 : Int64)) + (u1.toInt64)) + (((u5 &&& (3 : Int32)) - (1 : Int32)).toInt64)) else (0 : Int64))))) then (0 : Int32) else (1 : Int32))))] [])) _
    refine XS.iloadN X0.here hx rfl (hb hby at_84) rfl ?_
    show Steps p.tables e below (s₁.setTop (mkF m 85 #[.val (.int u1), .val (.long u2), .second, .val (.long u3), .second, .val (.int u4), .val (.int u5), .val (.long (u2 &&& (4611686018427387903 : Int64))), .second, .val (.long (bif (ifCond.holds .eq (u4 &&& (1 : Int32))) then (u3 &&& (9223372036854775807 : Int64)) else (bif (ifCond.holds .ge (lcmpW ((((u2 &&& (4611686018427387903 : Int64)) + (8 : Int64)) + (u1.toInt64)) + (((u5 &&& (3 : Int32)) - (1 : Int32)).toInt64)) (0 : Int64))) then ((((u2 &&& (4611686018427387903 : Int64)) + (8 : Int64)) + (u1.toInt64)) + (((u5 &&& (3 : Int32)) - (1 : Int32)).toInt64)) else (0 : Int64)))), .second, .val (.long (((u2 &&& (4611686018427387903 : Int64)) + (8 : Int64)) + (u1.toInt64))), .second, .val (.int (bif (if_icmp.holds .lt u1 (4 : Int32)) then (0 : Int32) else (bif (ifCond.holds .gt (lcmpW (((u2 &&& (4611686018427387903 : Int64)) + (8 : Int64)) + (u1.toInt64)) (bif (ifCond.holds .eq (u4 &&& (1 : Int32))) then (u3 &&& (9223372036854775807 : Int64)) else (bif (ifCond.holds .ge (lcmpW ((((u2 &&& (4611686018427387903 : Int64)) + (8 : Int64)) + (u1.toInt64)) + (((u5 &&& (3 : Int32)) - (1 : Int32)).toInt64)) (0 : Int64))) then ((((u2 &&& (4611686018427387903 : Int64)) + (8 : Int64)) + (u1.toInt64)) + (((u5 &&& (3 : Int32)) - (1 : Int32)).toInt64)) else (0 : Int64))))) then (0 : Int32) else (1 : Int32))))] [(.int u1)])) _
    refine XS.lload X0.here hx rfl (hb hby at_85) rfl ?_
    show Steps p.tables e below (s₁.setTop (mkF m 87 #[.val (.int u1), .val (.long u2), .second, .val (.long u3), .second, .val (.int u4), .val (.int u5), .val (.long (u2 &&& (4611686018427387903 : Int64))), .second, .val (.long (bif (ifCond.holds .eq (u4 &&& (1 : Int32))) then (u3 &&& (9223372036854775807 : Int64)) else (bif (ifCond.holds .ge (lcmpW ((((u2 &&& (4611686018427387903 : Int64)) + (8 : Int64)) + (u1.toInt64)) + (((u5 &&& (3 : Int32)) - (1 : Int32)).toInt64)) (0 : Int64))) then ((((u2 &&& (4611686018427387903 : Int64)) + (8 : Int64)) + (u1.toInt64)) + (((u5 &&& (3 : Int32)) - (1 : Int32)).toInt64)) else (0 : Int64)))), .second, .val (.long (((u2 &&& (4611686018427387903 : Int64)) + (8 : Int64)) + (u1.toInt64))), .second, .val (.int (bif (if_icmp.holds .lt u1 (4 : Int32)) then (0 : Int32) else (bif (ifCond.holds .gt (lcmpW (((u2 &&& (4611686018427387903 : Int64)) + (8 : Int64)) + (u1.toInt64)) (bif (ifCond.holds .eq (u4 &&& (1 : Int32))) then (u3 &&& (9223372036854775807 : Int64)) else (bif (ifCond.holds .ge (lcmpW ((((u2 &&& (4611686018427387903 : Int64)) + (8 : Int64)) + (u1.toInt64)) + (((u5 &&& (3 : Int32)) - (1 : Int32)).toInt64)) (0 : Int64))) then ((((u2 &&& (4611686018427387903 : Int64)) + (8 : Int64)) + (u1.toInt64)) + (((u5 &&& (3 : Int32)) - (1 : Int32)).toInt64)) else (0 : Int64))))) then (0 : Int32) else (1 : Int32))))] [(.long (u2 &&& (4611686018427387903 : Int64))), (.int u1)])) _
    refine XS.lload X0.here hx rfl (hb hby at_87) rfl ?_
    show Steps p.tables e below (s₁.setTop (mkF m 89 #[.val (.int u1), .val (.long u2), .second, .val (.long u3), .second, .val (.int u4), .val (.int u5), .val (.long (u2 &&& (4611686018427387903 : Int64))), .second, .val (.long (bif (ifCond.holds .eq (u4 &&& (1 : Int32))) then (u3 &&& (9223372036854775807 : Int64)) else (bif (ifCond.holds .ge (lcmpW ((((u2 &&& (4611686018427387903 : Int64)) + (8 : Int64)) + (u1.toInt64)) + (((u5 &&& (3 : Int32)) - (1 : Int32)).toInt64)) (0 : Int64))) then ((((u2 &&& (4611686018427387903 : Int64)) + (8 : Int64)) + (u1.toInt64)) + (((u5 &&& (3 : Int32)) - (1 : Int32)).toInt64)) else (0 : Int64)))), .second, .val (.long (((u2 &&& (4611686018427387903 : Int64)) + (8 : Int64)) + (u1.toInt64))), .second, .val (.int (bif (if_icmp.holds .lt u1 (4 : Int32)) then (0 : Int32) else (bif (ifCond.holds .gt (lcmpW (((u2 &&& (4611686018427387903 : Int64)) + (8 : Int64)) + (u1.toInt64)) (bif (ifCond.holds .eq (u4 &&& (1 : Int32))) then (u3 &&& (9223372036854775807 : Int64)) else (bif (ifCond.holds .ge (lcmpW ((((u2 &&& (4611686018427387903 : Int64)) + (8 : Int64)) + (u1.toInt64)) + (((u5 &&& (3 : Int32)) - (1 : Int32)).toInt64)) (0 : Int64))) then ((((u2 &&& (4611686018427387903 : Int64)) + (8 : Int64)) + (u1.toInt64)) + (((u5 &&& (3 : Int32)) - (1 : Int32)).toInt64)) else (0 : Int64))))) then (0 : Int32) else (1 : Int32))))] [(.long (bif (ifCond.holds .eq (u4 &&& (1 : Int32))) then (u3 &&& (9223372036854775807 : Int64)) else (bif (ifCond.holds .ge (lcmpW ((((u2 &&& (4611686018427387903 : Int64)) + (8 : Int64)) + (u1.toInt64)) + (((u5 &&& (3 : Int32)) - (1 : Int32)).toInt64)) (0 : Int64))) then ((((u2 &&& (4611686018427387903 : Int64)) + (8 : Int64)) + (u1.toInt64)) + (((u5 &&& (3 : Int32)) - (1 : Int32)).toInt64)) else (0 : Int64)))), (.long (u2 &&& (4611686018427387903 : Int64))), (.int u1)])) _
    refine st9 _ ?_
    show Steps p.tables e below (T9.setTop (mkF m 92 #[.val (.int u1), .val (.long u2), .second, .val (.long u3), .second, .val (.int u4), .val (.int u5), .val (.long (u2 &&& (4611686018427387903 : Int64))), .second, .val (.long (bif (ifCond.holds .eq (u4 &&& (1 : Int32))) then (u3 &&& (9223372036854775807 : Int64)) else (bif (ifCond.holds .ge (lcmpW ((((u2 &&& (4611686018427387903 : Int64)) + (8 : Int64)) + (u1.toInt64)) + (((u5 &&& (3 : Int32)) - (1 : Int32)).toInt64)) (0 : Int64))) then ((((u2 &&& (4611686018427387903 : Int64)) + (8 : Int64)) + (u1.toInt64)) + (((u5 &&& (3 : Int32)) - (1 : Int32)).toInt64)) else (0 : Int64)))), .second, .val (.long (((u2 &&& (4611686018427387903 : Int64)) + (8 : Int64)) + (u1.toInt64))), .second, .val (.int (bif (if_icmp.holds .lt u1 (4 : Int32)) then (0 : Int32) else (bif (ifCond.holds .gt (lcmpW (((u2 &&& (4611686018427387903 : Int64)) + (8 : Int64)) + (u1.toInt64)) (bif (ifCond.holds .eq (u4 &&& (1 : Int32))) then (u3 &&& (9223372036854775807 : Int64)) else (bif (ifCond.holds .ge (lcmpW ((((u2 &&& (4611686018427387903 : Int64)) + (8 : Int64)) + (u1.toInt64)) + (((u5 &&& (3 : Int32)) - (1 : Int32)).toInt64)) (0 : Int64))) then ((((u2 &&& (4611686018427387903 : Int64)) + (8 : Int64)) + (u1.toInt64)) + (((u5 &&& (3 : Int32)) - (1 : Int32)).toInt64)) else (0 : Int64))))) then (0 : Int32) else (1 : Int32))))] [(.int (nar .boolean (bif (if_icmp.holds .lt u1 (4 : Int32)) then (0 : Int32) else (bif (ifCond.holds .gt (lcmpW (u1.toInt64) (((bif (ifCond.holds .eq (u4 &&& (1 : Int32))) then (u3 &&& (9223372036854775807 : Int64)) else (bif (ifCond.holds .ge (lcmpW ((((u2 &&& (4611686018427387903 : Int64)) + (8 : Int64)) + (u1.toInt64)) + (((u5 &&& (3 : Int32)) - (1 : Int32)).toInt64)) (0 : Int64))) then ((((u2 &&& (4611686018427387903 : Int64)) + (8 : Int64)) + (u1.toInt64)) + (((u5 &&& (3 : Int32)) - (1 : Int32)).toInt64)) else (0 : Int64))) - (u2 &&& (4611686018427387903 : Int64))) - (8 : Int64)))) then (0 : Int32) else (1 : Int32)))))])) _
    refine XS.iload X9.here hx rfl (hb hby at_92) rfl ?_
    exact k
  have pre12 : ∀ t, Steps p.tables e below (T9.setTop (mkF m 102 #[.val (.int u1), .val (.long u2), .second, .val (.long u3), .second, .val (.int u4), .val (.int u5), .val (.long (u2 &&& (4611686018427387903 : Int64))), .second, .val (.long (bif (ifCond.holds .eq (u4 &&& (1 : Int32))) then (u3 &&& (9223372036854775807 : Int64)) else (bif (ifCond.holds .ge (lcmpW ((((u2 &&& (4611686018427387903 : Int64)) + (8 : Int64)) + (u1.toInt64)) + (((u5 &&& (3 : Int32)) - (1 : Int32)).toInt64)) (0 : Int64))) then ((((u2 &&& (4611686018427387903 : Int64)) + (8 : Int64)) + (u1.toInt64)) + (((u5 &&& (3 : Int32)) - (1 : Int32)).toInt64)) else (0 : Int64)))), .second, .val (.long (((u2 &&& (4611686018427387903 : Int64)) + (8 : Int64)) + (u1.toInt64))), .second, .val (.int (bif (if_icmp.holds .lt u1 (4 : Int32)) then (0 : Int32) else (bif (ifCond.holds .gt (lcmpW (((u2 &&& (4611686018427387903 : Int64)) + (8 : Int64)) + (u1.toInt64)) (bif (ifCond.holds .eq (u4 &&& (1 : Int32))) then (u3 &&& (9223372036854775807 : Int64)) else (bif (ifCond.holds .ge (lcmpW ((((u2 &&& (4611686018427387903 : Int64)) + (8 : Int64)) + (u1.toInt64)) + (((u5 &&& (3 : Int32)) - (1 : Int32)).toInt64)) (0 : Int64))) then ((((u2 &&& (4611686018427387903 : Int64)) + (8 : Int64)) + (u1.toInt64)) + (((u5 &&& (3 : Int32)) - (1 : Int32)).toInt64)) else (0 : Int64))))) then (0 : Int32) else (1 : Int32))))] [(.int (bif (if_icmp.holds .ne (nar .boolean (bif (if_icmp.holds .lt u1 (4 : Int32)) then (0 : Int32) else (bif (ifCond.holds .gt (lcmpW (u1.toInt64) (((bif (ifCond.holds .eq (u4 &&& (1 : Int32))) then (u3 &&& (9223372036854775807 : Int64)) else (bif (ifCond.holds .ge (lcmpW ((((u2 &&& (4611686018427387903 : Int64)) + (8 : Int64)) + (u1.toInt64)) + (((u5 &&& (3 : Int32)) - (1 : Int32)).toInt64)) (0 : Int64))) then ((((u2 &&& (4611686018427387903 : Int64)) + (8 : Int64)) + (u1.toInt64)) + (((u5 &&& (3 : Int32)) - (1 : Int32)).toInt64)) else (0 : Int64))) - (u2 &&& (4611686018427387903 : Int64))) - (8 : Int64)))) then (0 : Int32) else (1 : Int32)))) (bif (if_icmp.holds .lt u1 (4 : Int32)) then (0 : Int32) else (bif (ifCond.holds .gt (lcmpW (((u2 &&& (4611686018427387903 : Int64)) + (8 : Int64)) + (u1.toInt64)) (bif (ifCond.holds .eq (u4 &&& (1 : Int32))) then (u3 &&& (9223372036854775807 : Int64)) else (bif (ifCond.holds .ge (lcmpW ((((u2 &&& (4611686018427387903 : Int64)) + (8 : Int64)) + (u1.toInt64)) + (((u5 &&& (3 : Int32)) - (1 : Int32)).toInt64)) (0 : Int64))) then ((((u2 &&& (4611686018427387903 : Int64)) + (8 : Int64)) + (u1.toInt64)) + (((u5 &&& (3 : Int32)) - (1 : Int32)).toInt64)) else (0 : Int64))))) then (0 : Int32) else (1 : Int32)))) then (0 : Int32) else (1 : Int32)))])) t → Steps p.tables e below (s₁.setTop (entryFrame m #[(.int u1), (.long u2), (.long u3), (.int u4), (.int u5)] maxLocals)) t := by
    intro t k
    refine pre10 t ?_
    show Steps p.tables e below (T9.setTop (mkF m 94 #[.val (.int u1), .val (.long u2), .second, .val (.long u3), .second, .val (.int u4), .val (.int u5), .val (.long (u2 &&& (4611686018427387903 : Int64))), .second, .val (.long (bif (ifCond.holds .eq (u4 &&& (1 : Int32))) then (u3 &&& (9223372036854775807 : Int64)) else (bif (ifCond.holds .ge (lcmpW ((((u2 &&& (4611686018427387903 : Int64)) + (8 : Int64)) + (u1.toInt64)) + (((u5 &&& (3 : Int32)) - (1 : Int32)).toInt64)) (0 : Int64))) then ((((u2 &&& (4611686018427387903 : Int64)) + (8 : Int64)) + (u1.toInt64)) + (((u5 &&& (3 : Int32)) - (1 : Int32)).toInt64)) else (0 : Int64)))), .second, .val (.long (((u2 &&& (4611686018427387903 : Int64)) + (8 : Int64)) + (u1.toInt64))), .second, .val (.int (bif (if_icmp.holds .lt u1 (4 : Int32)) then (0 : Int32) else (bif (ifCond.holds .gt (lcmpW (((u2 &&& (4611686018427387903 : Int64)) + (8 : Int64)) + (u1.toInt64)) (bif (ifCond.holds .eq (u4 &&& (1 : Int32))) then (u3 &&& (9223372036854775807 : Int64)) else (bif (ifCond.holds .ge (lcmpW ((((u2 &&& (4611686018427387903 : Int64)) + (8 : Int64)) + (u1.toInt64)) + (((u5 &&& (3 : Int32)) - (1 : Int32)).toInt64)) (0 : Int64))) then ((((u2 &&& (4611686018427387903 : Int64)) + (8 : Int64)) + (u1.toInt64)) + (((u5 &&& (3 : Int32)) - (1 : Int32)).toInt64)) else (0 : Int64))))) then (0 : Int32) else (1 : Int32))))] [(.int (bif (if_icmp.holds .lt u1 (4 : Int32)) then (0 : Int32) else (bif (ifCond.holds .gt (lcmpW (((u2 &&& (4611686018427387903 : Int64)) + (8 : Int64)) + (u1.toInt64)) (bif (ifCond.holds .eq (u4 &&& (1 : Int32))) then (u3 &&& (9223372036854775807 : Int64)) else (bif (ifCond.holds .ge (lcmpW ((((u2 &&& (4611686018427387903 : Int64)) + (8 : Int64)) + (u1.toInt64)) + (((u5 &&& (3 : Int32)) - (1 : Int32)).toInt64)) (0 : Int64))) then ((((u2 &&& (4611686018427387903 : Int64)) + (8 : Int64)) + (u1.toInt64)) + (((u5 &&& (3 : Int32)) - (1 : Int32)).toInt64)) else (0 : Int64))))) then (0 : Int32) else (1 : Int32)))), (.int (nar .boolean (bif (if_icmp.holds .lt u1 (4 : Int32)) then (0 : Int32) else (bif (ifCond.holds .gt (lcmpW (u1.toInt64) (((bif (ifCond.holds .eq (u4 &&& (1 : Int32))) then (u3 &&& (9223372036854775807 : Int64)) else (bif (ifCond.holds .ge (lcmpW ((((u2 &&& (4611686018427387903 : Int64)) + (8 : Int64)) + (u1.toInt64)) + (((u5 &&& (3 : Int32)) - (1 : Int32)).toInt64)) (0 : Int64))) then ((((u2 &&& (4611686018427387903 : Int64)) + (8 : Int64)) + (u1.toInt64)) + (((u5 &&& (3 : Int32)) - (1 : Int32)).toInt64)) else (0 : Int64))) - (u2 &&& (4611686018427387903 : Int64))) - (8 : Int64)))) then (0 : Int32) else (1 : Int32)))))])) _
    rcases Bool.eq_false_or_eq_true (if_icmp.holds .ne (nar .boolean (bif (if_icmp.holds .lt u1 (4 : Int32)) then (0 : Int32) else (bif (ifCond.holds .gt (lcmpW (u1.toInt64) (((bif (ifCond.holds .eq (u4 &&& (1 : Int32))) then (u3 &&& (9223372036854775807 : Int64)) else (bif (ifCond.holds .ge (lcmpW ((((u2 &&& (4611686018427387903 : Int64)) + (8 : Int64)) + (u1.toInt64)) + (((u5 &&& (3 : Int32)) - (1 : Int32)).toInt64)) (0 : Int64))) then ((((u2 &&& (4611686018427387903 : Int64)) + (8 : Int64)) + (u1.toInt64)) + (((u5 &&& (3 : Int32)) - (1 : Int32)).toInt64)) else (0 : Int64))) - (u2 &&& (4611686018427387903 : Int64))) - (8 : Int64)))) then (0 : Int32) else (1 : Int32)))) (bif (if_icmp.holds .lt u1 (4 : Int32)) then (0 : Int32) else (bif (ifCond.holds .gt (lcmpW (((u2 &&& (4611686018427387903 : Int64)) + (8 : Int64)) + (u1.toInt64)) (bif (ifCond.holds .eq (u4 &&& (1 : Int32))) then (u3 &&& (9223372036854775807 : Int64)) else (bif (ifCond.holds .ge (lcmpW ((((u2 &&& (4611686018427387903 : Int64)) + (8 : Int64)) + (u1.toInt64)) + (((u5 &&& (3 : Int32)) - (1 : Int32)).toInt64)) (0 : Int64))) then ((((u2 &&& (4611686018427387903 : Int64)) + (8 : Int64)) + (u1.toInt64)) + (((u5 &&& (3 : Int32)) - (1 : Int32)).toInt64)) else (0 : Int64))))) then (0 : Int32) else (1 : Int32)))) with hb94_11 | hb94_11
    · refine XS.icmpYes X9.here hx rfl (pc0 := 94) (pc' := 101) rfl (hb hby at_94) rfl hb94_11 (by decide) (by decide) ?_
      show Steps p.tables e below (T9.setTop (mkF m 101 #[.val (.int u1), .val (.long u2), .second, .val (.long u3), .second, .val (.int u4), .val (.int u5), .val (.long (u2 &&& (4611686018427387903 : Int64))), .second, .val (.long (bif (ifCond.holds .eq (u4 &&& (1 : Int32))) then (u3 &&& (9223372036854775807 : Int64)) else (bif (ifCond.holds .ge (lcmpW ((((u2 &&& (4611686018427387903 : Int64)) + (8 : Int64)) + (u1.toInt64)) + (((u5 &&& (3 : Int32)) - (1 : Int32)).toInt64)) (0 : Int64))) then ((((u2 &&& (4611686018427387903 : Int64)) + (8 : Int64)) + (u1.toInt64)) + (((u5 &&& (3 : Int32)) - (1 : Int32)).toInt64)) else (0 : Int64)))), .second, .val (.long (((u2 &&& (4611686018427387903 : Int64)) + (8 : Int64)) + (u1.toInt64))), .second, .val (.int (bif (if_icmp.holds .lt u1 (4 : Int32)) then (0 : Int32) else (bif (ifCond.holds .gt (lcmpW (((u2 &&& (4611686018427387903 : Int64)) + (8 : Int64)) + (u1.toInt64)) (bif (ifCond.holds .eq (u4 &&& (1 : Int32))) then (u3 &&& (9223372036854775807 : Int64)) else (bif (ifCond.holds .ge (lcmpW ((((u2 &&& (4611686018427387903 : Int64)) + (8 : Int64)) + (u1.toInt64)) + (((u5 &&& (3 : Int32)) - (1 : Int32)).toInt64)) (0 : Int64))) then ((((u2 &&& (4611686018427387903 : Int64)) + (8 : Int64)) + (u1.toInt64)) + (((u5 &&& (3 : Int32)) - (1 : Int32)).toInt64)) else (0 : Int64))))) then (0 : Int32) else (1 : Int32))))] [])) _
      refine XS.iconst X9.here hx rfl (hb hby at_101) ?_
      have k : Steps p.tables e below (T9.setTop (mkF m 102 #[.val (.int u1), .val (.long u2), .second, .val (.long u3), .second, .val (.int u4), .val (.int u5), .val (.long (u2 &&& (4611686018427387903 : Int64))), .second, .val (.long (bif (ifCond.holds .eq (u4 &&& (1 : Int32))) then (u3 &&& (9223372036854775807 : Int64)) else (bif (ifCond.holds .ge (lcmpW ((((u2 &&& (4611686018427387903 : Int64)) + (8 : Int64)) + (u1.toInt64)) + (((u5 &&& (3 : Int32)) - (1 : Int32)).toInt64)) (0 : Int64))) then ((((u2 &&& (4611686018427387903 : Int64)) + (8 : Int64)) + (u1.toInt64)) + (((u5 &&& (3 : Int32)) - (1 : Int32)).toInt64)) else (0 : Int64)))), .second, .val (.long (((u2 &&& (4611686018427387903 : Int64)) + (8 : Int64)) + (u1.toInt64))), .second, .val (.int (bif (if_icmp.holds .lt u1 (4 : Int32)) then (0 : Int32) else (bif (ifCond.holds .gt (lcmpW (((u2 &&& (4611686018427387903 : Int64)) + (8 : Int64)) + (u1.toInt64)) (bif (ifCond.holds .eq (u4 &&& (1 : Int32))) then (u3 &&& (9223372036854775807 : Int64)) else (bif (ifCond.holds .ge (lcmpW ((((u2 &&& (4611686018427387903 : Int64)) + (8 : Int64)) + (u1.toInt64)) + (((u5 &&& (3 : Int32)) - (1 : Int32)).toInt64)) (0 : Int64))) then ((((u2 &&& (4611686018427387903 : Int64)) + (8 : Int64)) + (u1.toInt64)) + (((u5 &&& (3 : Int32)) - (1 : Int32)).toInt64)) else (0 : Int64))))) then (0 : Int32) else (1 : Int32))))] [(.int (0 : Int32))])) t := by simpa only [hb94_11, cond_true, cond_false] using k
      exact k
    · refine XS.icmpNo X9.here hx rfl (hb hby at_94) rfl hb94_11 ?_
      show Steps p.tables e below (T9.setTop (mkF m 97 #[.val (.int u1), .val (.long u2), .second, .val (.long u3), .second, .val (.int u4), .val (.int u5), .val (.long (u2 &&& (4611686018427387903 : Int64))), .second, .val (.long (bif (ifCond.holds .eq (u4 &&& (1 : Int32))) then (u3 &&& (9223372036854775807 : Int64)) else (bif (ifCond.holds .ge (lcmpW ((((u2 &&& (4611686018427387903 : Int64)) + (8 : Int64)) + (u1.toInt64)) + (((u5 &&& (3 : Int32)) - (1 : Int32)).toInt64)) (0 : Int64))) then ((((u2 &&& (4611686018427387903 : Int64)) + (8 : Int64)) + (u1.toInt64)) + (((u5 &&& (3 : Int32)) - (1 : Int32)).toInt64)) else (0 : Int64)))), .second, .val (.long (((u2 &&& (4611686018427387903 : Int64)) + (8 : Int64)) + (u1.toInt64))), .second, .val (.int (bif (if_icmp.holds .lt u1 (4 : Int32)) then (0 : Int32) else (bif (ifCond.holds .gt (lcmpW (((u2 &&& (4611686018427387903 : Int64)) + (8 : Int64)) + (u1.toInt64)) (bif (ifCond.holds .eq (u4 &&& (1 : Int32))) then (u3 &&& (9223372036854775807 : Int64)) else (bif (ifCond.holds .ge (lcmpW ((((u2 &&& (4611686018427387903 : Int64)) + (8 : Int64)) + (u1.toInt64)) + (((u5 &&& (3 : Int32)) - (1 : Int32)).toInt64)) (0 : Int64))) then ((((u2 &&& (4611686018427387903 : Int64)) + (8 : Int64)) + (u1.toInt64)) + (((u5 &&& (3 : Int32)) - (1 : Int32)).toInt64)) else (0 : Int64))))) then (0 : Int32) else (1 : Int32))))] [])) _
      refine XS.iconst X9.here hx rfl (hb hby at_97) ?_
      show Steps p.tables e below (T9.setTop (mkF m 98 #[.val (.int u1), .val (.long u2), .second, .val (.long u3), .second, .val (.int u4), .val (.int u5), .val (.long (u2 &&& (4611686018427387903 : Int64))), .second, .val (.long (bif (ifCond.holds .eq (u4 &&& (1 : Int32))) then (u3 &&& (9223372036854775807 : Int64)) else (bif (ifCond.holds .ge (lcmpW ((((u2 &&& (4611686018427387903 : Int64)) + (8 : Int64)) + (u1.toInt64)) + (((u5 &&& (3 : Int32)) - (1 : Int32)).toInt64)) (0 : Int64))) then ((((u2 &&& (4611686018427387903 : Int64)) + (8 : Int64)) + (u1.toInt64)) + (((u5 &&& (3 : Int32)) - (1 : Int32)).toInt64)) else (0 : Int64)))), .second, .val (.long (((u2 &&& (4611686018427387903 : Int64)) + (8 : Int64)) + (u1.toInt64))), .second, .val (.int (bif (if_icmp.holds .lt u1 (4 : Int32)) then (0 : Int32) else (bif (ifCond.holds .gt (lcmpW (((u2 &&& (4611686018427387903 : Int64)) + (8 : Int64)) + (u1.toInt64)) (bif (ifCond.holds .eq (u4 &&& (1 : Int32))) then (u3 &&& (9223372036854775807 : Int64)) else (bif (ifCond.holds .ge (lcmpW ((((u2 &&& (4611686018427387903 : Int64)) + (8 : Int64)) + (u1.toInt64)) + (((u5 &&& (3 : Int32)) - (1 : Int32)).toInt64)) (0 : Int64))) then ((((u2 &&& (4611686018427387903 : Int64)) + (8 : Int64)) + (u1.toInt64)) + (((u5 &&& (3 : Int32)) - (1 : Int32)).toInt64)) else (0 : Int64))))) then (0 : Int32) else (1 : Int32))))] [(.int (1 : Int32))])) _
      refine XS.goto X9.here hx rfl (pc0 := 98) (pc' := 102) rfl (hb hby at_98) (by decide) (by decide) ?_
      have k : Steps p.tables e below (T9.setTop (mkF m 102 #[.val (.int u1), .val (.long u2), .second, .val (.long u3), .second, .val (.int u4), .val (.int u5), .val (.long (u2 &&& (4611686018427387903 : Int64))), .second, .val (.long (bif (ifCond.holds .eq (u4 &&& (1 : Int32))) then (u3 &&& (9223372036854775807 : Int64)) else (bif (ifCond.holds .ge (lcmpW ((((u2 &&& (4611686018427387903 : Int64)) + (8 : Int64)) + (u1.toInt64)) + (((u5 &&& (3 : Int32)) - (1 : Int32)).toInt64)) (0 : Int64))) then ((((u2 &&& (4611686018427387903 : Int64)) + (8 : Int64)) + (u1.toInt64)) + (((u5 &&& (3 : Int32)) - (1 : Int32)).toInt64)) else (0 : Int64)))), .second, .val (.long (((u2 &&& (4611686018427387903 : Int64)) + (8 : Int64)) + (u1.toInt64))), .second, .val (.int (bif (if_icmp.holds .lt u1 (4 : Int32)) then (0 : Int32) else (bif (ifCond.holds .gt (lcmpW (((u2 &&& (4611686018427387903 : Int64)) + (8 : Int64)) + (u1.toInt64)) (bif (ifCond.holds .eq (u4 &&& (1 : Int32))) then (u3 &&& (9223372036854775807 : Int64)) else (bif (ifCond.holds .ge (lcmpW ((((u2 &&& (4611686018427387903 : Int64)) + (8 : Int64)) + (u1.toInt64)) + (((u5 &&& (3 : Int32)) - (1 : Int32)).toInt64)) (0 : Int64))) then ((((u2 &&& (4611686018427387903 : Int64)) + (8 : Int64)) + (u1.toInt64)) + (((u5 &&& (3 : Int32)) - (1 : Int32)).toInt64)) else (0 : Int64))))) then (0 : Int32) else (1 : Int32))))] [(.int (1 : Int32))])) t := by simpa only [hb94_11, cond_true, cond_false] using k
      exact k
  obtain ⟨fs, hr, hrun, hended, hW, hsame⟩ := X9.leave (v := some (.int (1 : Int32))) (fun h => by rw [Bd.returns] at h; cases h)
  refine ⟨_, _, pre12 _ ?_, hrun, hended, _, _, rfl, ?_, ⟨_, rfl⟩, hW, hsame.mono (by decide) (by decide)⟩
  · show Steps p.tables e below (T9.setTop (mkF m 102 #[.val (.int u1), .val (.long u2), .second, .val (.long u3), .second, .val (.int u4), .val (.int u5), .val (.long (u2 &&& (4611686018427387903 : Int64))), .second, .val (.long (bif (ifCond.holds .eq (u4 &&& (1 : Int32))) then (u3 &&& (9223372036854775807 : Int64)) else (bif (ifCond.holds .ge (lcmpW ((((u2 &&& (4611686018427387903 : Int64)) + (8 : Int64)) + (u1.toInt64)) + (((u5 &&& (3 : Int32)) - (1 : Int32)).toInt64)) (0 : Int64))) then ((((u2 &&& (4611686018427387903 : Int64)) + (8 : Int64)) + (u1.toInt64)) + (((u5 &&& (3 : Int32)) - (1 : Int32)).toInt64)) else (0 : Int64)))), .second, .val (.long (((u2 &&& (4611686018427387903 : Int64)) + (8 : Int64)) + (u1.toInt64))), .second, .val (.int (bif (if_icmp.holds .lt u1 (4 : Int32)) then (0 : Int32) else (bif (ifCond.holds .gt (lcmpW (((u2 &&& (4611686018427387903 : Int64)) + (8 : Int64)) + (u1.toInt64)) (bif (ifCond.holds .eq (u4 &&& (1 : Int32))) then (u3 &&& (9223372036854775807 : Int64)) else (bif (ifCond.holds .ge (lcmpW ((((u2 &&& (4611686018427387903 : Int64)) + (8 : Int64)) + (u1.toInt64)) + (((u5 &&& (3 : Int32)) - (1 : Int32)).toInt64)) (0 : Int64))) then ((((u2 &&& (4611686018427387903 : Int64)) + (8 : Int64)) + (u1.toInt64)) + (((u5 &&& (3 : Int32)) - (1 : Int32)).toInt64)) else (0 : Int64))))) then (0 : Int32) else (1 : Int32))))] [(.int (bif (if_icmp.holds .ne (nar .boolean (bif (if_icmp.holds .lt u1 (4 : Int32)) then (0 : Int32) else (bif (ifCond.holds .gt (lcmpW (u1.toInt64) (((bif (ifCond.holds .eq (u4 &&& (1 : Int32))) then (u3 &&& (9223372036854775807 : Int64)) else (bif (ifCond.holds .ge (lcmpW ((((u2 &&& (4611686018427387903 : Int64)) + (8 : Int64)) + (u1.toInt64)) + (((u5 &&& (3 : Int32)) - (1 : Int32)).toInt64)) (0 : Int64))) then ((((u2 &&& (4611686018427387903 : Int64)) + (8 : Int64)) + (u1.toInt64)) + (((u5 &&& (3 : Int32)) - (1 : Int32)).toInt64)) else (0 : Int64))) - (u2 &&& (4611686018427387903 : Int64))) - (8 : Int64)))) then (0 : Int32) else (1 : Int32)))) (bif (if_icmp.holds .lt u1 (4 : Int32)) then (0 : Int32) else (bif (ifCond.holds .gt (lcmpW (((u2 &&& (4611686018427387903 : Int64)) + (8 : Int64)) + (u1.toInt64)) (bif (ifCond.holds .eq (u4 &&& (1 : Int32))) then (u3 &&& (9223372036854775807 : Int64)) else (bif (ifCond.holds .ge (lcmpW ((((u2 &&& (4611686018427387903 : Int64)) + (8 : Int64)) + (u1.toInt64)) + (((u5 &&& (3 : Int32)) - (1 : Int32)).toInt64)) (0 : Int64))) then ((((u2 &&& (4611686018427387903 : Int64)) + (8 : Int64)) + (u1.toInt64)) + (((u5 &&& (3 : Int32)) - (1 : Int32)).toInt64)) else (0 : Int64))))) then (0 : Int32) else (1 : Int32)))) then (0 : Int32) else (1 : Int32)))])) _
    rw [own_law]
    exact retN X9 hx (t := .boolean) Bd.returns (by simp) (hb hby at_102) hr
  · show Q_rm_law Z _ _ _ _ _ h0 n0 _ T9.heap _
    rw [eq9]
    exact ⟨rfl, N9⟩
set_option maxRecDepth 65536 in
set_option maxHeartbeats 40000000 in
theorem comes_1 {Post : Tables → Env → Array Value → State → Outcome → State → Prop} (hpost : ∀ tb e args s v u, (limb_1_1.after args s (.returned v) u = true ∧ limb_1_2.after args s (.returned v) u = true ∧ True) → FrameEnd s (.returned v) u (Jvm.fieldLocs frame_1_writes args s ++ Jvm.arrayLocs frame_1_arrays args s ++ Jvm.staticLocs frame_1_statics s) 0 0 → Post tb e args s (.returned v) u) :
    ArmFor flags0 classFile x code maxLocals ret World_1 tables_1 room_1 Calls_1 rest_1 Pre_1 Post := by
  intro l hfl _ _ p e ha hc hk s m args below hf hA hF happ hP
  obtain ⟨hcalls, hrest, hpre⟩ := hP
  obtain ⟨-, -, -, hnamed, -, -, -, hat⟩ := (Spec.applies_iff hf).mp happ
  obtain ⟨hg, hn⟩ := and_e (Cond.before_iff.mp (show (Jvm.Cond.and given_1 narrow_1).before args s = true from hpre))
  obtain ⟨ha0, hb0⟩ := and_e hg
  obtain ⟨ha1, hb1⟩ := and_e hb0
  obtain ⟨ha2, hb2⟩ := and_e hb1
  obtain ⟨ha3, hb3⟩ := and_e hb2
  obtain ⟨ha4, hb4⟩ := and_e hb3
  obtain ⟨w0, w1, w2, w3, w4, rfl⟩ : ∃ w0 w1 w2 w3 w4 : Value, args = #[w0, w1, w2, w3, w4] := by
    have hs : args.size = 5 := by simpa [Cond.value, given_1] using ha0
    obtain ⟨L⟩ := args
    match L, hs with
    | [w0, w1, w2, w3, w4], _ => exact ⟨w0, w1, w2, w3, w4, rfl⟩
  have hw := fun d (hd : d ∈ tables_1) => atoms_spec (ws := Jvm.Cond.code x code maxLocals ret :: tables_1) hat d (List.mem_cons_of_mem _ hd)
  have hfit : Fit s := fun {y c} hc i hi => by
    obtain ⟨ha, rfl⟩ := Array.getElem?_eq_some_iff.mp hc
    have q := List.all_eq_true.mp ((Array.all_eq_true_iff_forall_mem.mp hF) _ (Array.getElem_mem ha)) i (List.mem_range.mpr hi)
    simpa [Array.getElem?_eq_getElem hi] using q
  obtain ⟨i0, ei0⟩ := is_v ha1
  obtain rfl : w0 = (.int i0) := Option.some.inj ei0
  obtain ⟨i1, ei1⟩ := isL_v ha2
  obtain rfl : w1 = (.long i1) := Option.some.inj ei1
  obtain ⟨i2, ei2⟩ := isL_v ha3
  obtain rfl : w2 = (.long i2) := Option.some.inj ei2
  obtain ⟨i3, ei3⟩ := is_v ha4
  obtain rfl : w3 = (.int i3) := Option.some.inj ei3
  obtain ⟨i4, ei4⟩ := is_v hb4
  obtain rfl : w4 = (.int i4) := Option.some.inj ei4
  obtain ⟨n, o, h1, h2, h3, _, L, rfl, ⟨rfl, N⟩, hq⟩ := rm_law l s _ hw tables_1 i0 i1 i2 i3 i4 s.heap s.heap.size (Nat.le_refl _)  p e ha hc hk s m _ below hf ((Spec.applies_iff_loose hf).mp happ).1 ⟨rfl, State.Warmed39.refl s, rfl⟩ trivial
  refine ⟨n, _, h1, h2, h3, hpost _ _ _ _ _ _ ⟨Cond.after_iff.mpr rfl, Cond.after_iff.mpr (eq_i res_at (Term.int_eval (1)) rfl), trivial⟩ ⟨hq.1, hq.2.1, (hq.2.2.sift fun y hy => Or.inr (N y hy)).mono (by decide) (by decide)⟩⟩
theorem main_1_1 : Claimed_1_1 := comes_1 fun _ _ _ _ _ _ h hF => ⟨h.1, hF⟩
theorem main_1_2 : Claimed_1_2 := comes_1 fun _ _ _ _ _ _ h hF => ⟨h.2.1, hF⟩
end Jvm.Pilot.@@N@@
namespace Jvm.Pilot.@@N@@
open Jvm Jvm.ClassFile Sem Op Lib Jvm.Free Jvm.Stand Jvm.Pilot.@@N@@.Jvm.D
/-! MADE BY PROGRAM (witnessworld.py) out of the Statement's table words and the real class files: 9 classes; the members and pool entries that the words name. The judged class is class 1, her method 1. -/
namespace start1
open Jvm.ClassFile
def u (s : String) : CpInfo := .utf8 (stringToUtf16 s)
/-- a pool by its gaps: so many unusable entries, then the entry; so many at the end -/
def gap : Nat → List CpInfo → List CpInfo
  | 0, r => r
  | n + 1, r => .unusable :: gap n r
def poolList (es : List (Nat × CpInfo)) (last : Nat) : List CpInfo := es.foldr (fun e r => gap e.1 (e.2 :: r)) (gap last [])
def pool (es : List (Nat × CpInfo)) (last : Nat) : Array CpInfo := ⟨poolList es last⟩
def fileOf (pool : Array CpInfo) (this : Nat) (attrs : Array Attribute := #[]) (ms : Array MethodInfo := #[]) (fl : Nat := 33) (sup : Nat := 0) (ifs : Array Nat := #[]) (fds : Array FieldInfo := #[]) : ClassFile where
  minorVersion := 0
  majorVersion := 65
  constantPool := pool
  accessFlags := fl
  thisClass := this
  superClass := sup
  interfaces := ifs
  fields := fds
  methods := ms
  attributes := attrs
def plain (name : String) (sup : Option ClassId) : Class where
  name := name
  kind := .ordinary
  loader := none
  accessFlags := 33
  super := sup
  interfaces := #[]
  cf := none
  fields := #[]
  methods := #[]
  instanceTypes := #[]
  staticTypes := #[]
  resolved := #[]
  callSites := []
  init := .initialized
  statics := none
  mirror := none

def pool0 : Array CpInfo := pool [(5, u "<init>"), (0, u "()V"), (1, .class_ 10), (1, u "java/lang/Object")] 113

def k0m0 : Method := { name := "<init>", desc := "()V", sig := { parameters := [], returnType := none }, accessFlags := 1, code := none }
/-- java/lang/Object -/
def k0 : Class := { plain "java/lang/Object" none with
  accessFlags := 33
  interfaces := #[]
  cf := some (fileOf pool0 8 #[] #[{ accessFlags := 1, nameIndex := 5, descriptorIndex := 6, attributes := #[] }] 33 0 #[] #[])
  fields := #[]
  methods := #[k0m0]
  instanceTypes := #[]
  staticTypes := #[]
  resolved := Array.replicate 124 none
  statics := none }

def pool1 : Array CpInfo := pool [(2, .class_ 4), (1, u "java/lang/Object"), (0, u "<init>"), (0, u "()V"), (0, .long 4611686018427387903), (1, .long 8), (3, .long 9223372036854775807), (1, .methodref 16 17), (0, .class_ 18), (0, .nameAndType 19 20), (0, u "com/example/sonde/sonde/store/StoreFiles"), (0, u "fits"), (0, u "(IJJ)Z"), (0, .class_ 22), (0, u "com/example/sonde/sonde/store/StoreFilesFitsPinLaw"), (2, u "law"), (0, u "(IJJII)Z")] 3

def k1m0 : Method := { name := "<init>", desc := "()V", sig := { parameters := [], returnType := none }, accessFlags := 1, code := none }
def k1c1 : Code := { maxStack := 5, maxLocals := 14, code := code, exceptionTable := #[], attributes := #[] }
def k1m1 : Method := { name := "law", desc := "(IJJII)Z", sig := { parameters := [.int, .long, .long, .int, .int], returnType := some .boolean }, accessFlags := 9, code := some k1c1 }
/-- com/example/sonde/sonde/store/StoreFilesFitsPinLaw -/
def k1 : Class := { plain "com/example/sonde/sonde/store/StoreFilesFitsPinLaw" (some 0) with
  accessFlags := 49
  interfaces := #[]
  cf := some (fileOf pool1 21 #[] #[{ accessFlags := 1, nameIndex := 5, descriptorIndex := 6, attributes := #[] }, { accessFlags := 9, nameIndex := 25, descriptorIndex := 26, attributes := #[] }] 49 2 #[] #[])
  fields := #[]
  methods := #[k1m0, k1m1]
  instanceTypes := #[]
  staticTypes := #[]
  resolved := Array.replicate 30 none
  statics := none }

def pool2 : Array CpInfo := pool [(4, .class_ 6), (1, u "java/lang/Object"), (0, u "<init>"), (0, u "()V"), (13, .class_ 24), (1, u "com/example/sonde/sonde/store/StoreFiles"), (40, .long 8), (14, u "fits"), (0, u "(IJJ)Z"), (73, u "RECORD_HEADER_LENGTH"), (0, u "I")] 18

def k2m0 : Method := { name := "<init>", desc := "()V", sig := { parameters := [], returnType := none }, accessFlags := 2, code := none }
def k2c1 : Code := { maxStack := 6, maxLocals := 5, code := prog_73_method_5_code, exceptionTable := #[], attributes := #[] }
def k2m1 : Method := { name := "fits", desc := "(IJJ)Z", sig := { parameters := [.int, .long, .long], returnType := some .boolean }, accessFlags := 8, code := some k2c1 }
/-- com/example/sonde/sonde/store/StoreFiles -/
def k2 : Class := { plain "com/example/sonde/sonde/store/StoreFiles" (some 0) with
  accessFlags := 48
  interfaces := #[]
  cf := some (fileOf pool2 22 #[] #[{ accessFlags := 2, nameIndex := 7, descriptorIndex := 8, attributes := #[] }, { accessFlags := 8, nameIndex := 80, descriptorIndex := 81, attributes := #[] }] 48 4 #[] #[{ accessFlags := 24, nameIndex := 155, descriptorIndex := 156, attributes := #[] }])
  fields := #[{ name := "RECORD_HEADER_LENGTH", type := .int, accessFlags := 24, slot := 0, constantValue := 0 }]
  methods := #[k2m0, k2m1]
  instanceTypes := #[]
  staticTypes := #[.int]
  resolved := Array.replicate 175 none
  statics := none }

def pool3 : Array CpInfo := pool [(1, u "java/lang/Cloneable"), (0, .class_ 1), (0, u "java/lang/Object"), (0, .class_ 3)] 3

/-- java/lang/Cloneable -/
def k3 : Class := { plain "java/lang/Cloneable" (some 0) with
  accessFlags := 1537
  interfaces := #[]
  cf := some (fileOf pool3 2 #[] #[] 1537 4 #[] #[])
  fields := #[]
  methods := #[]
  instanceTypes := #[]
  staticTypes := #[]
  resolved := Array.replicate 8 none
  statics := none }

def pool4 : Array CpInfo := pool [(1, u "java/io/Serializable"), (0, .class_ 1), (0, u "java/lang/Object"), (0, .class_ 3)] 3

/-- java/io/Serializable -/
def k4 : Class := { plain "java/io/Serializable" (some 0) with
  accessFlags := 1537
  interfaces := #[]
  cf := some (fileOf pool4 2 #[] #[] 1537 4 #[] #[])
  fields := #[]
  methods := #[]
  instanceTypes := #[]
  staticTypes := #[]
  resolved := Array.replicate 8 none
  statics := none }

/-- the primitive byte -/
def k5 : Class := { plain "byte" none with kind := .primitive 'B', accessFlags := 0x411 }
/-- [B -/
def k6 : Class := { plain "[B" (some 0) with kind := .array 5 .byte, interfaces := #[3, 4], accessFlags := 1041 }

/-- the primitive int -/
def k7 : Class := { plain "int" none with kind := .primitive 'I', accessFlags := 0x411 }
/-- [I -/
def k8 : Class := { plain "[I" (some 0) with kind := .array 7 .int, interfaces := #[3, 4], accessFlags := 1041 }

def heap : Heap := #[]
def classes : Array Class := #[k0, k1, k2, k3, k4, k5, k6, k7, k8]
def interned : List (Array UInt16 × Addr) := []
def slotsUsed : Nat := 0
def theMethod : MethodId := ⟨1, 1⟩
def args0 : Array Value := #[.int 5, .long 10, .long 100, .int 1, .int 2]
def aboutOver (below : List Frame) : State where
  vm := { classes := classes, interned := interned.toArray }
  heap := heap
  slotsUsed := slotsUsed
  threads := #[{ frames := .invoking theMethod args0 :: below }]
def below0 : List Frame := [.native { method := ⟨0, 0⟩, args := #[] }]
def about1 : State := aboutOver below0
def p0 : Program := .bare "" "" ""
def e0 : Env := launch0.env 0 0 0
theorem w_frames : about1.frames = Frame.invoking theMethod args0 :: below0 := rfl
set_option maxRecDepth 65536 in
theorem w_args : argsFit about1.vm theMethod args0 = true := by decide +kernel
set_option maxRecDepth 65536 in
theorem w_heap : heapFits about1 = true := by decide +kernel
set_option maxRecDepth 65536 in
theorem w_runnable : about1.curStatus? = some .runnable := by decide +kernel
set_option maxRecDepth 65536 in
theorem w_alone : about1.alone = true := by decide +kernel
set_option maxRecDepth 65536 in
theorem w_named : about1.methodNamed? x = some theMethod := by decide +kernel
set_option maxRecDepth 65536 in
theorem w_hears : about1.hears theMethod below0 = true := by decide +kernel
set_option maxRecDepth 65536 in
theorem w_ripe : about1.ripe theMethod args0 below0 = true := by decide +kernel
theorem w_running : about1.status = .running := rfl
set_option maxRecDepth 65536 in
theorem w_room : about1.hasRoom e0.platform room_1 = true :=
  launch0.hasRoom_least _ room_1 (by decide +kernel) (by decide +kernel) (by decide +kernel) (by decide +kernel) (by decide +kernel) (by decide +kernel)
theorem allAtoms_all (ts : List Jvm.Cond) (a : Array Jvm.Value) (st : Jvm.State) : (allAtoms ts).before a st = ts.all (fun c => c.before a st) := by
  induction ts with
  | nil => rfl
  | cons c t ih =>
    show (Jvm.Cond.and c (allAtoms t)).before a st = _
    rw [Jvm.Cond.before_and, ih, List.all_cons]
def words1 : List Jvm.Cond := Jvm.Cond.code x code maxLocals ret :: tables_1
/-- a 'code' word, met by the world's own term for the bytes: nothing is compared byte by byte -/
theorem code_word {y : MethodName} {bytes : ByteArray} {mx : Nat} {rt : Option FieldType} {a : Array Value} {s : State} {m : MethodId} {meth : Method} {c : Code} (h1 : s.methodNamed? y = some m) (h2 : s.vm.method? m = some meth) (h3 : meth.code = some c) (h4 : c.code = bytes)
    (h5 : (c.maxLocals == mx && c.exceptionTable.isEmpty && decide (c.maxStack ≤ mostOperands) && decide (meth.sig.returnType = rt) && !meth.locks && decide (parseMethodDescriptor y.desc = some meth.sig)) = true) : (Jvm.Cond.code y bytes mx rt).before a s = true := by
  simp only [Bool.and_eq_true, beq_iff_eq, Bool.not_eq_true', decide_eq_true_eq] at h5
  obtain ⟨⟨⟨⟨⟨g1, g2⟩, g3⟩, g4⟩, g5⟩, g6⟩ := h5
  simp [Cond.before, Cond.holds, Cond.value, h1, h2, h3, h4, g1, g2, g3, g4, g5, g6]
def isCode : Jvm.Cond → Bool
  | .code _ _ _ _ => true
  | _ => false
theorem all_split {L : List Jvm.Cond} {P : Jvm.Cond → Bool} (h1 : L.all (fun c => isCode c || P c) = true) (h2 : ∀ c ∈ L.filter isCode, P c = true) : L.all P = true := by
  refine List.all_eq_true.mpr fun c hc => ?_
  have h := List.all_eq_true.mp h1 c hc
  rcases Bool.eq_false_or_eq_true (isCode c) with hi | hi
  · exact h2 c (List.mem_filter.mpr ⟨hc, hi⟩)
  · simpa [hi] using h
set_option maxRecDepth 65536 in
theorem w_c0 : (Jvm.Cond.code x code maxLocals ret).before args0 about1 = true := code_word (m := ⟨1, 1⟩) (meth := k1m1) (c := k1c1) (by decide +kernel) rfl rfl rfl (by decide +kernel)
set_option maxRecDepth 65536 in
theorem w_c1 : (Jvm.Cond.code ({ cls := "com/example/sonde/sonde/store/StoreFiles", name := "fits", desc := "(IJJ)Z" } : Jvm.MethodName) prog_73_method_5_code (5 : Nat) (Option.some Jvm.ClassFile.FieldType.boolean)).before args0 about1 = true := code_word (m := ⟨2, 1⟩) (meth := k2m1) (c := k2c1) (by decide +kernel) rfl rfl rfl (by decide +kernel)
def codes1 : List Jvm.Cond := [Jvm.Cond.code x code maxLocals ret, Jvm.Cond.code ({ cls := "com/example/sonde/sonde/store/StoreFiles", name := "fits", desc := "(IJJ)Z" } : Jvm.MethodName) prog_73_method_5_code (5 : Nat) (Option.some Jvm.ClassFile.FieldType.boolean)]
set_option maxRecDepth 65536 in
theorem codes_eq : words1.filter isCode = codes1 := rfl
theorem w_codes : ∀ c ∈ words1.filter isCode, c.before args0 about1 = true := by
  rw [codes_eq]
  intro c hc
  simp only [codes1, List.mem_cons, List.not_mem_nil, or_false] at hc
  rcases hc with rfl | rfl
  · exact w_c0
  · exact w_c1
set_option maxRecDepth 65536 in
theorem w_t1 : words1.all (fun c => isCode c || c.before args0 about1) = true := by decide +kernel
theorem w_tables : (allAtoms (Jvm.Cond.code x code maxLocals ret :: tables_1)).before args0 about1 = true := by
  rw [allAtoms_all]
  show words1.all (fun c => c.before args0 about1) = true
  refine all_split ?_ w_codes
  rw [w_t1]
set_option maxRecDepth 65536 in
theorem w_case : (Jvm.Cond.and given_1 narrow_1).before args0 about1 = true := by decide +kernel
theorem w_applies : (headSpec (Jvm.Cond.code x code maxLocals ret :: tables_1) room_1).applies x e0.platform about1 = true :=
  (Spec.applies_iff w_frames).mpr ⟨w_running, w_runnable, w_alone, w_named, w_hears, w_ripe, w_room, w_tables⟩
theorem atStart : AtStart classFile x code maxLocals ret World_1 tables_1 room_1 Calls_1 rest_1 Pre_1 launch0 p0 e0 about1 theMethod args0 below0 :=
  ⟨lists_1, trivial, launch0.admits_env _ _ _, launch0.least_env, fairChoices_fair.cas, fairChoices_fair.clock, w_frames, w_args, w_heap, w_applies, trivial, trivial, w_case⟩
end start1
theorem witness_1 : WitnessClaimed_1 := ⟨start1.p0, start1.e0, start1.about1, start1.theMethod, start1.args0, start1.below0, start1.atStart⟩
end Jvm.Pilot.@@N@@
