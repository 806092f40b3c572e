import JvmDerived
import JvmDerived.Pilot.@@N@@Statement
import JvmDerived.Pilot.@@N@@Code
set_option linter.unusedVariables false
set_option linter.unusedSimpArgs false
namespace Jvm.RoadKit
open Sem ClassFile Op Lib Jvm.Stand Jvm.Free Jvm.LawKit
section New
variable {p : Program} {l : Launch} {e : Env} {R : Room} {s : State} {m : MethodId} {args : Array Value} {below : List Frame} {meth : Method} {c : Code} {T : State} {locs : List Loc} {cells slots : Nat}
theorem retI (X : Stand p l e R s m args below meth c T locs cells slots) (hx : p.tables.exec = Jvm.exec) {pc : Nat} {Ls : Array Slot} {z : Int32} {rest : List Value} (hret : meth.sig.returnType = some .int) (hd : decode c.code pc = .ok (.ireturn, 1)) {fs : List Frame}
    (hl : ∀ (f : JFrame) (acts : List Action), f.method = m → f.locked = none → f.entered = [] → (doReturn e (T.setTop f) acts (some (.int z))).1 = T.setFrames fs) : Steps p.tables e below (T.setTop (mkF m pc Ls (.int z :: rest))) (T.setFrames fs) := by
  have hm' : T.vm.method? m = some meth := X.method'
  have hn : narrow .int (.int z) = .int z := rfl
  show Steps p.tables e below (T.setTop { method := m, pc := pc, locals := Ls, stack := _ :: rest, locked := none }) _
  jvm_step X.here [X.here.top, hx, hd, hm', hret, hn]
  first | (intro acts; rw [hl _ acts rfl rfl rfl]) | rw [hl _ _ rfl rfl rfl]
  exact Steps.refl _
end New
end Jvm.RoadKit
namespace Jvm.Pilot.@@N@@
open Jvm Jvm.ClassFile Sem Op Lib Jvm.Free Jvm.Stand Jvm.LawKit Jvm.RoadKit Bundle Jvm.Pilot.@@N@@.Jvm.D
/-! the comparisons, as plain decisions -/
theorem own_w {a0 : Array Value} {Z : State} (hw : ∀ d ∈ tables_1, d.before a0 Z = true) (i : Nat) {d : Jvm.Cond} (h : tables_1[i]? = some d) : d.before a0 Z = true := hw d (List.mem_of_getElem? h)
theorem own_ilt (x y : Int32) : if_icmp.holds .lt x y = decide (x < y) := rfl
theorem own_ile (x y : Int32) : if_icmp.holds .le x y = decide (x ≤ y) := rfl
theorem own_igt (x y : Int32) : if_icmp.holds .gt x y = decide (y < x) := rfl
theorem own_ige (x y : Int32) : if_icmp.holds .ge x y = decide (y ≤ x) := rfl
theorem own_ieq (x y : Int32) : if_icmp.holds .eq x y = decide (x = y) := rfl
theorem own_ine (x y : Int32) : if_icmp.holds .ne x y = decide (x ≠ y) := by
  by_cases h : x = y
  · rw [(teq h).2]; exact (decide_eq_false (not_not_intro h)).symm
  · rw [(feq h).2]; exact (decide_eq_true h).symm
theorem own_smono {s : State} {vm : Vm} {n n' : Nat} (h : s.Since vm n) (hn : n ≤ n') : s.Since vm n' := ⟨h.1, fun j p hj hp => ⟨(h.2 j p hj hp).1, Nat.lt_of_lt_of_le (h.2 j p hj hp).2 hn⟩⟩
theorem own_d0 : FP.dconst0 = FP.l2d (0 : Int64) := by rw [l2d_zero]; rfl
theorem own_lgt (x y : Int64) : ifCond.holds .gt (lcmpW x y) = decide (y < x) := by rw [if0, own_igt]; exact decide_eq_decide.mpr (lw_gt x y)
theorem own_llt (x y : Int64) : ifCond.holds .lt (lcmpW x y) = decide (x < y) := by rw [if0, own_ilt]; exact decide_eq_decide.mpr (lw_lt x y)
theorem own_leq (x y : Int64) : ifCond.holds .eq (lcmpW x y) = decide (x = y) := by rw [if0, own_ieq]; exact decide_eq_decide.mpr (lw_eq x y)
theorem own_lne (x y : Int64) : ifCond.holds .ne (lcmpW x y) = decide (x ≠ y) := by rw [if0, own_ine]; exact decide_eq_decide.mpr (not_congr (lw_eq x y))
theorem own_lle (x y : Int64) : ifCond.holds .le (lcmpW x y) = decide (x ≤ y) := by rw [if0, own_ile]; exact decide_eq_decide.mpr (by rw [← Int32.not_lt, lw_gt, Int64.not_lt])
theorem own_lge (x y : Int64) : ifCond.holds .ge (lcmpW x y) = decide (y ≤ x) := by rw [if0, own_ige]; exact decide_eq_decide.mpr (by rw [← Int32.not_lt, lw_lt, Int64.not_lt])
theorem d1_0 : decode method_2_code 0 = .ok (.iload_n 2, 1) := by decide +kernel
theorem d1_1 : decode method_2_code 1 = .ok (.bipush 7, 2) := by decide +kernel
theorem d1_3 : decode method_2_code 3 = .ok (.iand, 1) := by decide +kernel
theorem d1_4 : decode method_2_code 4 = .ok (.istore_n 3, 1) := by decide +kernel
theorem d1_5 : decode method_2_code 5 = .ok (.iload_n 3, 1) := by decide +kernel
theorem d1_6 : decode method_2_code 6 = .ok (.iconst 1, 1) := by decide +kernel
theorem d1_7 : decode method_2_code 7 = .ok (.if_icmp .ne 7, 3) := by decide +kernel
theorem d1_14 : decode method_2_code 14 = .ok (.iload_n 3, 1) := by decide +kernel
theorem d1_15 : decode method_2_code 15 = .ok (.iconst 2, 1) := by decide +kernel
theorem d1_16 : decode method_2_code 16 = .ok (.if_icmp .ne 7, 3) := by decide +kernel
theorem d1_23 : decode method_2_code 23 = .ok (.iload_n 3, 1) := by decide +kernel
theorem d1_24 : decode method_2_code 24 = .ok (.iconst 3, 1) := by decide +kernel
theorem d1_25 : decode method_2_code 25 = .ok (.if_icmp .ne 7, 3) := by decide +kernel
theorem d1_32 : decode method_2_code 32 = .ok (.iload_n 3, 1) := by decide +kernel
theorem d1_33 : decode method_2_code 33 = .ok (.iconst 4, 1) := by decide +kernel
theorem d1_34 : decode method_2_code 34 = .ok (.if_icmp .ne 7, 3) := by decide +kernel
theorem d1_41 : decode method_2_code 41 = .ok (.iload_n 3, 1) := by decide +kernel
theorem d1_42 : decode method_2_code 42 = .ok (.iconst 5, 1) := by decide +kernel
theorem d1_43 : decode method_2_code 43 = .ok (.if_icmp .ne 5, 3) := by decide +kernel
theorem d1_48 : decode method_2_code 48 = .ok (.iload_n 3, 1) := by decide +kernel
theorem d1_49 : decode method_2_code 49 = .ok (.bipush 6, 2) := by decide +kernel
theorem d1_51 : decode method_2_code 51 = .ok (.if_icmp .ne 7, 3) := by decide +kernel
theorem d1_58 : decode method_2_code 58 = .ok (.iload_n 0, 1) := by decide +kernel
theorem d1_59 : decode method_2_code 59 = .ok (.ireturn, 1) := by decide +kernel
theorem d1_54 : decode method_2_code 54 = .ok (.iload_n 1, 1) := by decide +kernel
theorem d1_55 : decode method_2_code 55 = .ok (.iconst 1, 1) := by decide +kernel
theorem d1_56 : decode method_2_code 56 = .ok (.iadd, 1) := by decide +kernel
theorem d1_57 : decode method_2_code 57 = .ok (.ireturn, 1) := by decide +kernel
theorem d1_46 : decode method_2_code 46 = .ok (.iload_n 1, 1) := by decide +kernel
theorem d1_47 : decode method_2_code 47 = .ok (.ireturn, 1) := by decide +kernel
theorem d1_37 : decode method_2_code 37 = .ok (.iload_n 1, 1) := by decide +kernel
theorem d1_38 : decode method_2_code 38 = .ok (.iconst 1, 1) := by decide +kernel
theorem d1_39 : decode method_2_code 39 = .ok (.isub, 1) := by decide +kernel
theorem d1_40 : decode method_2_code 40 = .ok (.ireturn, 1) := by decide +kernel
theorem d1_28 : decode method_2_code 28 = .ok (.sipush 1001, 3) := by decide +kernel
theorem d1_31 : decode method_2_code 31 = .ok (.ireturn, 1) := by decide +kernel
theorem d1_19 : decode method_2_code 19 = .ok (.sipush 1000, 3) := by decide +kernel
theorem d1_22 : decode method_2_code 22 = .ok (.ireturn, 1) := by decide +kernel
theorem d1_10 : decode method_2_code 10 = .ok (.sipush 999, 3) := by decide +kernel
theorem d1_13 : decode method_2_code 13 = .ok (.ireturn, 1) := by decide +kernel
theorem ef_rm_pick (m : MethodId) (x0 : Int32) (x1 : Int32) (x2 : Int32) : entryFrame m #[(.int x0), (.int x1), (.int x2)] 4 = mkF m 0 #[.val (.int x0), .val (.int x1), .val (.int x2), .unset] [] := by first | (simp [entryFrame, mkF, argsToLocals, Value.category]; done) | rfl
def Q_rm_pick (Z : State) (u1 : Int32) (u2 : Int32) (u3 : Int32) (h0 : Heap) (n0 : Nat) (v : Option Value) (h : Heap) (L : List Loc) : Prop := v = some (.int (bif (if_icmp.holds .ne (u3 &&& (7 : Int32)) (1 : Int32)) then (bif (if_icmp.holds .ne (u3 &&& (7 : Int32)) (2 : Int32)) then (bif (if_icmp.holds .ne (u3 &&& (7 : Int32)) (3 : Int32)) then (bif (if_icmp.holds .ne (u3 &&& (7 : Int32)) (4 : Int32)) then (bif (if_icmp.holds .ne (u3 &&& (7 : Int32)) (5 : Int32)) then (bif (if_icmp.holds .ne (u3 &&& (7 : Int32)) (6 : Int32)) then u1 else (u2 + (1 : Int32))) else u2) else (u2 - (1 : Int32))) else (1001 : Int32)) else (1000 : Int32)) else (999 : Int32))) ∧ Fr n0 L ∧ h = h0
theorem pn_299089 : plainName "com/example/orderly_cellar/orderlycellar/service/OrderRulesIsVintagePinLaw" = true := by first | (simp [plainName, overriddenIn]; done) | decide +kernel
set_option maxRecDepth 65536 in
set_option maxHeartbeats 40000000 in
theorem rm_pick (l : Launch) (Z : State) (a0 : Array Value) (hw : ∀ d ∈ tables_1, d.before a0 Z = true) (ws : List Jvm.Cond) (u1 : Int32) (u2 : Int32) (u3 : Int32) (h0 : Heap) (n0 : Nat) (Z0 : n0 ≤ h0.size) :
    MetFree l (⟨"com/example/orderly_cellar/orderlycellar/service/OrderRulesIsVintagePinLaw", "pick", "(III)I"⟩ : MethodName) (head1 (Jvm.Cond.code (⟨"com/example/orderly_cellar/orderlycellar/service/OrderRulesIsVintagePinLaw", "pick", "(III)I"⟩ : MethodName) method_2_code 4 (some .int) :: ws) ({ frames := 0, cells := 0, slots := 0, locals := 0 } : Room)) (fun a U => a = #[(.int u1), (.int u2), (.int u3)] ∧ Z.Warmed39 U.vm ∧ U.heap = h0) (fun _ _ _ _ _ => True) (fun _ U o U' => ∃ v L, o = .returned v ∧ Q_rm_pick Z u1 u2 u3 h0 n0 v U'.heap L ∧ FrameEnd U o U' L ({ frames := 0, cells := 0, slots := 0, locals := 0 } : Room).cells ({ frames := 0, cells := 0, slots := 0, locals := 0 } : Room).slots) := by
  refine MetFree.of_bodySF (plainFor_of_name pn_299089) hisR ?_
  intro p e s m args below meth c s₁ Bd hml0 hP hK
  obtain ⟨rfl, hZ, hh⟩ := hP
  have hx := Bd.exec
  have hby := Bd.bytes
  have hml : c.maxLocals = 4 := hml0
  have hown : s.vm.findClass "com/example/orderly_cellar/orderlycellar/service/OrderRulesIsVintagePinLaw" = some m.cls := findClass_of_methodNamed Bd.named
  have hnm := (name_of_methodNamed Bd.named Bd.method).1
  have X0 : Stand p l e ({ frames := 0, cells := 0, slots := 0, locals := 0 } : Room) s m #[(.int u1), (.int u2), (.int u3)] below meth c s₁ [] 0 0 := Stand.of_body Bd
  have e0 : s₁.heap = h0 := by rw [← hh, Bd.state]; rfl
  have N0 := Fr.nil n0
  have pre0 : ∀ t, Steps p.tables e below (s₁.setTop (mkF m 0 #[.val (.int u1), .val (.int u2), .val (.int u3), .unset] [])) t → Steps p.tables e below (s₁.setTop (entryFrame m #[(.int u1), (.int u2), (.int u3)] 4)) t := fun t k => castTop (ef_rm_pick m u1 u2 u3) k
  have pre1 : ∀ t, Steps p.tables e below (s₁.setTop (mkF m 7 #[.val (.int u1), .val (.int u2), .val (.int u3), .val (.int (u3 &&& (7 : Int32)))] [(.int (1 : Int32)), (.int (u3 &&& (7 : Int32)))])) t → Steps p.tables e below (s₁.setTop (entryFrame m #[(.int u1), (.int u2), (.int u3)] 4)) t := by
    intro t k
    refine pre0 t ?_
    show Steps p.tables e below (s₁.setTop (mkF m 0 #[.val (.int u1), .val (.int u2), .val (.int u3), .unset] [])) _
    refine XS.iloadN X0.here hx rfl (hb hby d1_0) rfl ?_
    show Steps p.tables e below (s₁.setTop (mkF m 1 #[.val (.int u1), .val (.int u2), .val (.int u3), .unset] [(.int u3)])) _
    refine XS.bipush X0.here hx rfl (hb hby d1_1) ?_
    show Steps p.tables e below (s₁.setTop (mkF m 3 #[.val (.int u1), .val (.int u2), .val (.int u3), .unset] [(.int (7 : Int32)), (.int u3)])) _
    refine XS.iand X0.here hx rfl (hb hby d1_3) rfl ?_
    show Steps p.tables e below (s₁.setTop (mkF m 4 #[.val (.int u1), .val (.int u2), .val (.int u3), .unset] [(.int (u3 &&& (7 : Int32)))])) _
    refine XS.istoreN X0.here hx rfl (hb hby d1_4) rfl (l' := #[.val (.int u1), .val (.int u2), .val (.int u3), .val (.int (u3 &&& (7 : Int32)))]) rfl ?_
    show Steps p.tables e below (s₁.setTop (mkF m 5 #[.val (.int u1), .val (.int u2), .val (.int u3), .val (.int (u3 &&& (7 : Int32)))] [])) _
    refine XS.iloadN X0.here hx rfl (hb hby d1_5) rfl ?_
    show Steps p.tables e below (s₁.setTop (mkF m 6 #[.val (.int u1), .val (.int u2), .val (.int u3), .val (.int (u3 &&& (7 : Int32)))] [(.int (u3 &&& (7 : Int32)))])) _
    refine XS.iconst X0.here hx rfl (hb hby d1_6) ?_
    exact k
  rcases Bool.eq_false_or_eq_true (if_icmp.holds .ne (u3 &&& (7 : Int32)) (1 : Int32)) with hb7 | hb7
  · have pre2 : ∀ t, Steps p.tables e below (s₁.setTop (mkF m 16 #[.val (.int u1), .val (.int u2), .val (.int u3), .val (.int (u3 &&& (7 : Int32)))] [(.int (2 : Int32)), (.int (u3 &&& (7 : Int32)))])) t → Steps p.tables e below (s₁.setTop (entryFrame m #[(.int u1), (.int u2), (.int u3)] 4)) t := by
      intro t k
      refine pre1 t ?_
      show Steps p.tables e below (s₁.setTop (mkF m 7 #[.val (.int u1), .val (.int u2), .val (.int u3), .val (.int (u3 &&& (7 : Int32)))] [(.int (1 : Int32)), (.int (u3 &&& (7 : Int32)))])) _
      refine XS.icmpYes X0.here hx rfl (pc0 := 7) (pc' := 14) rfl (hb hby d1_7) rfl hb7 (by decide) (by decide) ?_
      show Steps p.tables e below (s₁.setTop (mkF m 14 #[.val (.int u1), .val (.int u2), .val (.int u3), .val (.int (u3 &&& (7 : Int32)))] [])) _
      refine XS.iloadN X0.here hx rfl (hb hby d1_14) rfl ?_
      show Steps p.tables e below (s₁.setTop (mkF m 15 #[.val (.int u1), .val (.int u2), .val (.int u3), .val (.int (u3 &&& (7 : Int32)))] [(.int (u3 &&& (7 : Int32)))])) _
      refine XS.iconst X0.here hx rfl (hb hby d1_15) ?_
      exact k
    rcases Bool.eq_false_or_eq_true (if_icmp.holds .ne (u3 &&& (7 : Int32)) (2 : Int32)) with hb16 | hb16
    · have pre3 : ∀ t, Steps p.tables e below (s₁.setTop (mkF m 25 #[.val (.int u1), .val (.int u2), .val (.int u3), .val (.int (u3 &&& (7 : Int32)))] [(.int (3 : Int32)), (.int (u3 &&& (7 : Int32)))])) t → Steps p.tables e below (s₁.setTop (entryFrame m #[(.int u1), (.int u2), (.int u3)] 4)) t := by
        intro t k
        refine pre2 t ?_
        show Steps p.tables e below (s₁.setTop (mkF m 16 #[.val (.int u1), .val (.int u2), .val (.int u3), .val (.int (u3 &&& (7 : Int32)))] [(.int (2 : Int32)), (.int (u3 &&& (7 : Int32)))])) _
        refine XS.icmpYes X0.here hx rfl (pc0 := 16) (pc' := 23) rfl (hb hby d1_16) rfl hb16 (by decide) (by decide) ?_
        show Steps p.tables e below (s₁.setTop (mkF m 23 #[.val (.int u1), .val (.int u2), .val (.int u3), .val (.int (u3 &&& (7 : Int32)))] [])) _
        refine XS.iloadN X0.here hx rfl (hb hby d1_23) rfl ?_
        show Steps p.tables e below (s₁.setTop (mkF m 24 #[.val (.int u1), .val (.int u2), .val (.int u3), .val (.int (u3 &&& (7 : Int32)))] [(.int (u3 &&& (7 : Int32)))])) _
        refine XS.iconst X0.here hx rfl (hb hby d1_24) ?_
        exact k
      rcases Bool.eq_false_or_eq_true (if_icmp.holds .ne (u3 &&& (7 : Int32)) (3 : Int32)) with hb25 | hb25
      · have pre4 : ∀ t, Steps p.tables e below (s₁.setTop (mkF m 34 #[.val (.int u1), .val (.int u2), .val (.int u3), .val (.int (u3 &&& (7 : Int32)))] [(.int (4 : Int32)), (.int (u3 &&& (7 : Int32)))])) t → Steps p.tables e below (s₁.setTop (entryFrame m #[(.int u1), (.int u2), (.int u3)] 4)) t := by
          intro t k
          refine pre3 t ?_
          show Steps p.tables e below (s₁.setTop (mkF m 25 #[.val (.int u1), .val (.int u2), .val (.int u3), .val (.int (u3 &&& (7 : Int32)))] [(.int (3 : Int32)), (.int (u3 &&& (7 : Int32)))])) _
          refine XS.icmpYes X0.here hx rfl (pc0 := 25) (pc' := 32) rfl (hb hby d1_25) rfl hb25 (by decide) (by decide) ?_
          show Steps p.tables e below (s₁.setTop (mkF m 32 #[.val (.int u1), .val (.int u2), .val (.int u3), .val (.int (u3 &&& (7 : Int32)))] [])) _
          refine XS.iloadN X0.here hx rfl (hb hby d1_32) rfl ?_
          show Steps p.tables e below (s₁.setTop (mkF m 33 #[.val (.int u1), .val (.int u2), .val (.int u3), .val (.int (u3 &&& (7 : Int32)))] [(.int (u3 &&& (7 : Int32)))])) _
          refine XS.iconst X0.here hx rfl (hb hby d1_33) ?_
          exact k
        rcases Bool.eq_false_or_eq_true (if_icmp.holds .ne (u3 &&& (7 : Int32)) (4 : Int32)) with hb34 | hb34
        · have pre5 : ∀ t, Steps p.tables e below (s₁.setTop (mkF m 43 #[.val (.int u1), .val (.int u2), .val (.int u3), .val (.int (u3 &&& (7 : Int32)))] [(.int (5 : Int32)), (.int (u3 &&& (7 : Int32)))])) t → Steps p.tables e below (s₁.setTop (entryFrame m #[(.int u1), (.int u2), (.int u3)] 4)) t := by
            intro t k
            refine pre4 t ?_
            show Steps p.tables e below (s₁.setTop (mkF m 34 #[.val (.int u1), .val (.int u2), .val (.int u3), .val (.int (u3 &&& (7 : Int32)))] [(.int (4 : Int32)), (.int (u3 &&& (7 : Int32)))])) _
            refine XS.icmpYes X0.here hx rfl (pc0 := 34) (pc' := 41) rfl (hb hby d1_34) rfl hb34 (by decide) (by decide) ?_
            show Steps p.tables e below (s₁.setTop (mkF m 41 #[.val (.int u1), .val (.int u2), .val (.int u3), .val (.int (u3 &&& (7 : Int32)))] [])) _
            refine XS.iloadN X0.here hx rfl (hb hby d1_41) rfl ?_
            show Steps p.tables e below (s₁.setTop (mkF m 42 #[.val (.int u1), .val (.int u2), .val (.int u3), .val (.int (u3 &&& (7 : Int32)))] [(.int (u3 &&& (7 : Int32)))])) _
            refine XS.iconst X0.here hx rfl (hb hby d1_42) ?_
            exact k
          rcases Bool.eq_false_or_eq_true (if_icmp.holds .ne (u3 &&& (7 : Int32)) (5 : Int32)) with hb43 | hb43
          · have pre6 : ∀ t, Steps p.tables e below (s₁.setTop (mkF m 51 #[.val (.int u1), .val (.int u2), .val (.int u3), .val (.int (u3 &&& (7 : Int32)))] [(.int (6 : Int32)), (.int (u3 &&& (7 : Int32)))])) t → Steps p.tables e below (s₁.setTop (entryFrame m #[(.int u1), (.int u2), (.int u3)] 4)) t := by
              intro t k
              refine pre5 t ?_
              show Steps p.tables e below (s₁.setTop (mkF m 43 #[.val (.int u1), .val (.int u2), .val (.int u3), .val (.int (u3 &&& (7 : Int32)))] [(.int (5 : Int32)), (.int (u3 &&& (7 : Int32)))])) _
              refine XS.icmpYes X0.here hx rfl (pc0 := 43) (pc' := 48) rfl (hb hby d1_43) rfl hb43 (by decide) (by decide) ?_
              show Steps p.tables e below (s₁.setTop (mkF m 48 #[.val (.int u1), .val (.int u2), .val (.int u3), .val (.int (u3 &&& (7 : Int32)))] [])) _
              refine XS.iloadN X0.here hx rfl (hb hby d1_48) rfl ?_
              show Steps p.tables e below (s₁.setTop (mkF m 49 #[.val (.int u1), .val (.int u2), .val (.int u3), .val (.int (u3 &&& (7 : Int32)))] [(.int (u3 &&& (7 : Int32)))])) _
              refine XS.bipush X0.here hx rfl (hb hby d1_49) ?_
              exact k
            rcases Bool.eq_false_or_eq_true (if_icmp.holds .ne (u3 &&& (7 : Int32)) (6 : Int32)) with hb51 | hb51
            · obtain ⟨fs, hr, hrun, hended, hW, hsame⟩ := X0.leave (v := some (.int u1)) (fun h => by rw [Bd.returns] at h; cases h)
              refine ⟨_, _, pre6 _ ?_, hrun, hended, _, _, rfl, ?_, ⟨_, rfl⟩, hW, hsame.mono (by decide) (by decide)⟩
              · show Steps p.tables e below (s₁.setTop (mkF m 51 #[.val (.int u1), .val (.int u2), .val (.int u3), .val (.int (u3 &&& (7 : Int32)))] [(.int (6 : Int32)), (.int (u3 &&& (7 : Int32)))])) _
                refine XS.icmpYes X0.here hx rfl (pc0 := 51) (pc' := 58) rfl (hb hby d1_51) rfl hb51 (by decide) (by decide) ?_
                show Steps p.tables e below (s₁.setTop (mkF m 58 #[.val (.int u1), .val (.int u2), .val (.int u3), .val (.int (u3 &&& (7 : Int32)))] [])) _
                refine XS.iloadN X0.here hx rfl (hb hby d1_58) rfl ?_
                show Steps p.tables e below (s₁.setTop (mkF m 59 #[.val (.int u1), .val (.int u2), .val (.int u3), .val (.int (u3 &&& (7 : Int32)))] [(.int u1)])) _
                exact retI X0 hx Bd.returns (hb hby d1_59) hr
              · show Q_rm_pick Z _ _ _ h0 n0 _ s₁.heap _
                rw [e0]
                exact ⟨(by simp only [hb7, hb16, hb25, hb34, hb43, hb51, cond_true, cond_false]), N0, rfl⟩
            · obtain ⟨fs, hr, hrun, hended, hW, hsame⟩ := X0.leave (v := some (.int (u2 + (1 : Int32)))) (fun h => by rw [Bd.returns] at h; cases h)
              refine ⟨_, _, pre6 _ ?_, hrun, hended, _, _, rfl, ?_, ⟨_, rfl⟩, hW, hsame.mono (by decide) (by decide)⟩
              · show Steps p.tables e below (s₁.setTop (mkF m 51 #[.val (.int u1), .val (.int u2), .val (.int u3), .val (.int (u3 &&& (7 : Int32)))] [(.int (6 : Int32)), (.int (u3 &&& (7 : Int32)))])) _
                refine XS.icmpNo X0.here hx rfl (hb hby d1_51) rfl hb51 ?_
                show Steps p.tables e below (s₁.setTop (mkF m 54 #[.val (.int u1), .val (.int u2), .val (.int u3), .val (.int (u3 &&& (7 : Int32)))] [])) _
                refine XS.iloadN X0.here hx rfl (hb hby d1_54) rfl ?_
                show Steps p.tables e below (s₁.setTop (mkF m 55 #[.val (.int u1), .val (.int u2), .val (.int u3), .val (.int (u3 &&& (7 : Int32)))] [(.int u2)])) _
                refine XS.iconst X0.here hx rfl (hb hby d1_55) ?_
                show Steps p.tables e below (s₁.setTop (mkF m 56 #[.val (.int u1), .val (.int u2), .val (.int u3), .val (.int (u3 &&& (7 : Int32)))] [(.int (1 : Int32)), (.int u2)])) _
                refine XS.iadd X0.here hx rfl (hb hby d1_56) rfl ?_
                show Steps p.tables e below (s₁.setTop (mkF m 57 #[.val (.int u1), .val (.int u2), .val (.int u3), .val (.int (u3 &&& (7 : Int32)))] [(.int (u2 + (1 : Int32)))])) _
                exact retI X0 hx Bd.returns (hb hby d1_57) hr
              · show Q_rm_pick Z _ _ _ h0 n0 _ s₁.heap _
                rw [e0]
                exact ⟨(by simp only [hb7, hb16, hb25, hb34, hb43, hb51, cond_true, cond_false]), N0, rfl⟩
          · obtain ⟨fs, hr, hrun, hended, hW, hsame⟩ := X0.leave (v := some (.int u2)) (fun h => by rw [Bd.returns] at h; cases h)
            refine ⟨_, _, pre5 _ ?_, hrun, hended, _, _, rfl, ?_, ⟨_, rfl⟩, hW, hsame.mono (by decide) (by decide)⟩
            · show Steps p.tables e below (s₁.setTop (mkF m 43 #[.val (.int u1), .val (.int u2), .val (.int u3), .val (.int (u3 &&& (7 : Int32)))] [(.int (5 : Int32)), (.int (u3 &&& (7 : Int32)))])) _
              refine XS.icmpNo X0.here hx rfl (hb hby d1_43) rfl hb43 ?_
              show Steps p.tables e below (s₁.setTop (mkF m 46 #[.val (.int u1), .val (.int u2), .val (.int u3), .val (.int (u3 &&& (7 : Int32)))] [])) _
              refine XS.iloadN X0.here hx rfl (hb hby d1_46) rfl ?_
              show Steps p.tables e below (s₁.setTop (mkF m 47 #[.val (.int u1), .val (.int u2), .val (.int u3), .val (.int (u3 &&& (7 : Int32)))] [(.int u2)])) _
              exact retI X0 hx Bd.returns (hb hby d1_47) hr
            · show Q_rm_pick Z _ _ _ h0 n0 _ s₁.heap _
              rw [e0]
              exact ⟨(by simp only [hb7, hb16, hb25, hb34, hb43, cond_true, cond_false]), N0, rfl⟩
        · obtain ⟨fs, hr, hrun, hended, hW, hsame⟩ := X0.leave (v := some (.int (u2 - (1 : Int32)))) (fun h => by rw [Bd.returns] at h; cases h)
          refine ⟨_, _, pre4 _ ?_, hrun, hended, _, _, rfl, ?_, ⟨_, rfl⟩, hW, hsame.mono (by decide) (by decide)⟩
          · show Steps p.tables e below (s₁.setTop (mkF m 34 #[.val (.int u1), .val (.int u2), .val (.int u3), .val (.int (u3 &&& (7 : Int32)))] [(.int (4 : Int32)), (.int (u3 &&& (7 : Int32)))])) _
            refine XS.icmpNo X0.here hx rfl (hb hby d1_34) rfl hb34 ?_
            show Steps p.tables e below (s₁.setTop (mkF m 37 #[.val (.int u1), .val (.int u2), .val (.int u3), .val (.int (u3 &&& (7 : Int32)))] [])) _
            refine XS.iloadN X0.here hx rfl (hb hby d1_37) rfl ?_
            show Steps p.tables e below (s₁.setTop (mkF m 38 #[.val (.int u1), .val (.int u2), .val (.int u3), .val (.int (u3 &&& (7 : Int32)))] [(.int u2)])) _
            refine XS.iconst X0.here hx rfl (hb hby d1_38) ?_
            show Steps p.tables e below (s₁.setTop (mkF m 39 #[.val (.int u1), .val (.int u2), .val (.int u3), .val (.int (u3 &&& (7 : Int32)))] [(.int (1 : Int32)), (.int u2)])) _
            refine XS.isub X0.here hx rfl (hb hby d1_39) rfl ?_
            show Steps p.tables e below (s₁.setTop (mkF m 40 #[.val (.int u1), .val (.int u2), .val (.int u3), .val (.int (u3 &&& (7 : Int32)))] [(.int (u2 - (1 : Int32)))])) _
            exact retI X0 hx Bd.returns (hb hby d1_40) hr
          · show Q_rm_pick Z _ _ _ h0 n0 _ s₁.heap _
            rw [e0]
            exact ⟨(by simp only [hb7, hb16, hb25, hb34, cond_true, cond_false]), N0, rfl⟩
      · obtain ⟨fs, hr, hrun, hended, hW, hsame⟩ := X0.leave (v := some (.int (1001 : Int32))) (fun h => by rw [Bd.returns] at h; cases h)
        refine ⟨_, _, pre3 _ ?_, hrun, hended, _, _, rfl, ?_, ⟨_, rfl⟩, hW, hsame.mono (by decide) (by decide)⟩
        · show Steps p.tables e below (s₁.setTop (mkF m 25 #[.val (.int u1), .val (.int u2), .val (.int u3), .val (.int (u3 &&& (7 : Int32)))] [(.int (3 : Int32)), (.int (u3 &&& (7 : Int32)))])) _
          refine XS.icmpNo X0.here hx rfl (hb hby d1_25) rfl hb25 ?_
          show Steps p.tables e below (s₁.setTop (mkF m 28 #[.val (.int u1), .val (.int u2), .val (.int u3), .val (.int (u3 &&& (7 : Int32)))] [])) _
          refine XS.sipush X0.here hx rfl (hb hby d1_28) ?_
          show Steps p.tables e below (s₁.setTop (mkF m 31 #[.val (.int u1), .val (.int u2), .val (.int u3), .val (.int (u3 &&& (7 : Int32)))] [(.int (1001 : Int32))])) _
          exact retI X0 hx Bd.returns (hb hby d1_31) hr
        · show Q_rm_pick Z _ _ _ h0 n0 _ s₁.heap _
          rw [e0]
          exact ⟨(by simp only [hb7, hb16, hb25, cond_true, cond_false]), N0, rfl⟩
    · obtain ⟨fs, hr, hrun, hended, hW, hsame⟩ := X0.leave (v := some (.int (1000 : Int32))) (fun h => by rw [Bd.returns] at h; cases h)
      refine ⟨_, _, pre2 _ ?_, hrun, hended, _, _, rfl, ?_, ⟨_, rfl⟩, hW, hsame.mono (by decide) (by decide)⟩
      · show Steps p.tables e below (s₁.setTop (mkF m 16 #[.val (.int u1), .val (.int u2), .val (.int u3), .val (.int (u3 &&& (7 : Int32)))] [(.int (2 : Int32)), (.int (u3 &&& (7 : Int32)))])) _
        refine XS.icmpNo X0.here hx rfl (hb hby d1_16) rfl hb16 ?_
        show Steps p.tables e below (s₁.setTop (mkF m 19 #[.val (.int u1), .val (.int u2), .val (.int u3), .val (.int (u3 &&& (7 : Int32)))] [])) _
        refine XS.sipush X0.here hx rfl (hb hby d1_19) ?_
        show Steps p.tables e below (s₁.setTop (mkF m 22 #[.val (.int u1), .val (.int u2), .val (.int u3), .val (.int (u3 &&& (7 : Int32)))] [(.int (1000 : Int32))])) _
        exact retI X0 hx Bd.returns (hb hby d1_22) hr
      · show Q_rm_pick Z _ _ _ h0 n0 _ s₁.heap _
        rw [e0]
        exact ⟨(by simp only [hb7, hb16, cond_true, cond_false]), N0, rfl⟩
  · obtain ⟨fs, hr, hrun, hended, hW, hsame⟩ := X0.leave (v := some (.int (999 : Int32))) (fun h => by rw [Bd.returns] at h; cases h)
    refine ⟨_, _, pre1 _ ?_, hrun, hended, _, _, rfl, ?_, ⟨_, rfl⟩, hW, hsame.mono (by decide) (by decide)⟩
    · show Steps p.tables e below (s₁.setTop (mkF m 7 #[.val (.int u1), .val (.int u2), .val (.int u3), .val (.int (u3 &&& (7 : Int32)))] [(.int (1 : Int32)), (.int (u3 &&& (7 : Int32)))])) _
      refine XS.icmpNo X0.here hx rfl (hb hby d1_7) rfl hb7 ?_
      show Steps p.tables e below (s₁.setTop (mkF m 10 #[.val (.int u1), .val (.int u2), .val (.int u3), .val (.int (u3 &&& (7 : Int32)))] [])) _
      refine XS.sipush X0.here hx rfl (hb hby d1_10) ?_
      show Steps p.tables e below (s₁.setTop (mkF m 13 #[.val (.int u1), .val (.int u2), .val (.int u3), .val (.int (u3 &&& (7 : Int32)))] [(.int (999 : Int32))])) _
      exact retI X0 hx Bd.returns (hb hby d1_13) hr
    · show Q_rm_pick Z _ _ _ h0 n0 _ s₁.heap _
      rw [e0]
      exact ⟨(by simp only [hb7, cond_true, cond_false]), N0, rfl⟩
theorem d2_0 : decode prog_98_method_4_code 0 = .ok (.iload_n 0, 1) := by decide +kernel
theorem d2_1 : decode prog_98_method_4_code 1 = .ok (.sipush 1000, 3) := by decide +kernel
theorem d2_4 : decode prog_98_method_4_code 4 = .ok (.if_icmp .lt 12, 3) := by decide +kernel
theorem d2_16 : decode prog_98_method_4_code 16 = .ok (.iconst 0, 1) := by decide +kernel
theorem d2_7 : decode prog_98_method_4_code 7 = .ok (.iload_n 0, 1) := by decide +kernel
theorem d2_8 : decode prog_98_method_4_code 8 = .ok (.iload_n 1, 1) := by decide +kernel
theorem d2_9 : decode prog_98_method_4_code 9 = .ok (.if_icmp .ge 7, 3) := by decide +kernel
theorem d2_12 : decode prog_98_method_4_code 12 = .ok (.iconst 1, 1) := by decide +kernel
theorem d2_13 : decode prog_98_method_4_code 13 = .ok (.goto 4, 3) := by decide +kernel
theorem d2_17 : decode prog_98_method_4_code 17 = .ok (.ireturn, 1) := by decide +kernel
theorem ef_rm_vin (m : MethodId) (x0 : Int32) (x1 : Int32) : entryFrame m #[(.int x0), (.int x1)] 2 = mkF m 0 #[.val (.int x0), .val (.int x1)] [] := by first | (simp [entryFrame, mkF, argsToLocals, Value.category]; done) | rfl
def Q_rm_vin (Z : State) (u1 : Int32) (u2 : Int32) (h0 : Heap) (n0 : Nat) (v : Option Value) (h : Heap) (L : List Loc) : Prop := v = some (.int (nar .boolean (bif (if_icmp.holds .lt u1 (1000 : Int32)) then (0 : Int32) else (bif (if_icmp.holds .ge u1 u2) then (0 : Int32) else (1 : Int32))))) ∧ Fr n0 L ∧ h = h0
theorem pn_752441 : plainName "com/example/orderly_cellar/orderlycellar/service/OrderRules" = true := by first | (simp [plainName, overriddenIn]; done) | decide +kernel
set_option maxRecDepth 65536 in
set_option maxHeartbeats 40000000 in
theorem rm_vin (l : Launch) (Z : State) (a0 : Array Value) (hw : ∀ d ∈ tables_1, d.before a0 Z = true) (ws : List Jvm.Cond) (u1 : Int32) (u2 : Int32) (h0 : Heap) (n0 : Nat) (Z0 : n0 ≤ h0.size) :
    MetFree l (⟨"com/example/orderly_cellar/orderlycellar/service/OrderRules", "isVintage", "(II)Z"⟩ : MethodName) (head1 (Jvm.Cond.code (⟨"com/example/orderly_cellar/orderlycellar/service/OrderRules", "isVintage", "(II)Z"⟩ : MethodName) prog_98_method_4_code 2 (some .boolean) :: ws) ({ frames := 0, cells := 0, slots := 0, locals := 0 } : Room)) (fun a U => a = #[(.int u1), (.int u2)] ∧ Z.Warmed39 U.vm ∧ U.heap = h0) (fun _ _ _ _ _ => True) (fun _ U o U' => ∃ v L, o = .returned v ∧ Q_rm_vin Z u1 u2 h0 n0 v U'.heap L ∧ FrameEnd U o U' L ({ frames := 0, cells := 0, slots := 0, locals := 0 } : Room).cells ({ frames := 0, cells := 0, slots := 0, locals := 0 } : Room).slots) := by
  refine MetFree.of_bodySF (plainFor_of_name pn_752441) hisR ?_
  intro p e s m args below meth c s₁ Bd hml0 hP hK
  obtain ⟨rfl, hZ, hh⟩ := hP
  have hx := Bd.exec
  have hby := Bd.bytes
  have hml : c.maxLocals = 2 := hml0
  have hown : s.vm.findClass "com/example/orderly_cellar/orderlycellar/service/OrderRules" = some m.cls := findClass_of_methodNamed Bd.named
  have hnm := (name_of_methodNamed Bd.named Bd.method).1
  have X0 : Stand p l e ({ frames := 0, cells := 0, slots := 0, locals := 0 } : Room) s m #[(.int u1), (.int u2)] below meth c s₁ [] 0 0 := Stand.of_body Bd
  have e0 : s₁.heap = h0 := by rw [← hh, Bd.state]; rfl
  have N0 := Fr.nil n0
  have pre0 : ∀ t, Steps p.tables e below (s₁.setTop (mkF m 0 #[.val (.int u1), .val (.int u2)] [])) t → Steps p.tables e below (s₁.setTop (entryFrame m #[(.int u1), (.int u2)] 2)) t := fun t k => castTop (ef_rm_vin m u1 u2) k
  have pre1 : ∀ t, Steps p.tables e below (s₁.setTop (mkF m 4 #[.val (.int u1), .val (.int u2)] [(.int (1000 : Int32)), (.int u1)])) t → Steps p.tables e below (s₁.setTop (entryFrame m #[(.int u1), (.int u2)] 2)) t := by
    intro t k
    refine pre0 t ?_
    show Steps p.tables e below (s₁.setTop (mkF m 0 #[.val (.int u1), .val (.int u2)] [])) _
    refine XS.iloadN X0.here hx rfl (hb hby d2_0) rfl ?_
    show Steps p.tables e below (s₁.setTop (mkF m 1 #[.val (.int u1), .val (.int u2)] [(.int u1)])) _
    refine XS.sipush X0.here hx rfl (hb hby d2_1) ?_
    exact k
  have pre4 : ∀ t, Steps p.tables e below (s₁.setTop (mkF m 17 #[.val (.int u1), .val (.int u2)] [(.int (bif (if_icmp.holds .lt u1 (1000 : Int32)) then (0 : Int32) else (bif (if_icmp.holds .ge u1 u2) then (0 : Int32) else (1 : Int32))))])) t → Steps p.tables e below (s₁.setTop (entryFrame m #[(.int u1), (.int u2)] 2)) t := by
    intro t k
    refine pre1 t ?_
    show Steps p.tables e below (s₁.setTop (mkF m 4 #[.val (.int u1), .val (.int u2)] [(.int (1000 : Int32)), (.int u1)])) _
    rcases Bool.eq_false_or_eq_true (if_icmp.holds .lt u1 (1000 : Int32)) with hb4_2 | hb4_2
    · refine XS.icmpYes X0.here hx rfl (pc0 := 4) (pc' := 16) rfl (hb hby d2_4) rfl hb4_2 (by decide) (by decide) ?_
      show Steps p.tables e below (s₁.setTop (mkF m 16 #[.val (.int u1), .val (.int u2)] [])) _
      refine XS.iconst X0.here hx rfl (hb hby d2_16) ?_
      have k : Steps p.tables e below (s₁.setTop (mkF m 17 #[.val (.int u1), .val (.int u2)] [(.int (0 : Int32))])) t := by simpa only [hb4_2, cond_true, cond_false] using k
      exact k
    · refine XS.icmpNo X0.here hx rfl (hb hby d2_4) rfl hb4_2 ?_
      show Steps p.tables e below (s₁.setTop (mkF m 7 #[.val (.int u1), .val (.int u2)] [])) _
      refine XS.iloadN X0.here hx rfl (hb hby d2_7) rfl ?_
      show Steps p.tables e below (s₁.setTop (mkF m 8 #[.val (.int u1), .val (.int u2)] [(.int u1)])) _
      refine XS.iloadN X0.here hx rfl (hb hby d2_8) rfl ?_
      show Steps p.tables e below (s₁.setTop (mkF m 9 #[.val (.int u1), .val (.int u2)] [(.int u2), (.int u1)])) _
      rcases Bool.eq_false_or_eq_true (if_icmp.holds .ge u1 u2) with hb9_3 | hb9_3
      · refine XS.icmpYes X0.here hx rfl (pc0 := 9) (pc' := 16) rfl (hb hby d2_9) rfl hb9_3 (by decide) (by decide) ?_
        show Steps p.tables e below (s₁.setTop (mkF m 16 #[.val (.int u1), .val (.int u2)] [])) _
        refine XS.iconst X0.here hx rfl (hb hby d2_16) ?_
        have k : Steps p.tables e below (s₁.setTop (mkF m 17 #[.val (.int u1), .val (.int u2)] [(.int (0 : Int32))])) t := by simpa only [hb4_2, hb9_3, cond_true, cond_false] using k
        exact k
      · refine XS.icmpNo X0.here hx rfl (hb hby d2_9) rfl hb9_3 ?_
        show Steps p.tables e below (s₁.setTop (mkF m 12 #[.val (.int u1), .val (.int u2)] [])) _
        refine XS.iconst X0.here hx rfl (hb hby d2_12) ?_
        show Steps p.tables e below (s₁.setTop (mkF m 13 #[.val (.int u1), .val (.int u2)] [(.int (1 : Int32))])) _
        refine XS.goto X0.here hx rfl (pc0 := 13) (pc' := 17) rfl (hb hby d2_13) (by decide) (by decide) ?_
        have k : Steps p.tables e below (s₁.setTop (mkF m 17 #[.val (.int u1), .val (.int u2)] [(.int (1 : Int32))])) t := by simpa only [hb4_2, hb9_3, cond_true, cond_false] using k
        exact k
  obtain ⟨fs, hr, hrun, hended, hW, hsame⟩ := X0.leave (v := some (.int (nar .boolean (bif (if_icmp.holds .lt u1 (1000 : Int32)) then (0 : Int32) else (bif (if_icmp.holds .ge u1 u2) then (0 : Int32) else (1 : Int32)))))) (fun h => by rw [Bd.returns] at h; cases h)
  refine ⟨_, _, pre4 _ ?_, hrun, hended, _, _, rfl, ?_, ⟨_, rfl⟩, hW, hsame.mono (by decide) (by decide)⟩
  · show Steps p.tables e below (s₁.setTop (mkF m 17 #[.val (.int u1), .val (.int u2)] [(.int (bif (if_icmp.holds .lt u1 (1000 : Int32)) then (0 : Int32) else (bif (if_icmp.holds .ge u1 u2) then (0 : Int32) else (1 : Int32))))])) _
    exact retN X0 hx (t := .boolean) Bd.returns (by simp) (hb hby d2_17) hr
  · show Q_rm_vin Z _ _ h0 n0 _ s₁.heap _
    rw [e0]
    exact ⟨rfl, N0, rfl⟩
theorem own_b (v y : Int32) (h1 : if_icmp.holds .ne v (1000 : Int32) = false) (h2 : if_icmp.holds .gt y (1000 : Int32) = true) : (nar .boolean (bif (if_icmp.holds .lt v (1000 : Int32)) then (0 : Int32) else (bif (if_icmp.holds .ge v y) then (0 : Int32) else (1 : Int32)))) = (1 : Int32) := by
  rw [own_ine] at h1
  rw [own_igt] at h2
  have e : v = 1000 := by simpa using h1
  subst e
  have e2 : if_icmp.holds .lt (1000 : Int32) (1000 : Int32) = false := by decide
  have e3 : if_icmp.holds .ge (1000 : Int32) y = false := by
    rw [own_ige]; refine decide_eq_false ?_
    rw [Int32.not_le]; exact of_decide_eq_true h2
  rw [e2, e3]; decide
theorem pd_754599 : parseMethodDescriptor "(III)I" = some ⟨[.int, .int, .int], some .int⟩ := by decide +kernel
theorem pd_329862 : parseMethodDescriptor "(II)Z" = some ⟨[.int, .int], some .boolean⟩ := by decide +kernel
theorem own_c (v y : Int32) (h1 : if_icmp.holds .ne v (1000 : Int32) = true) : (bif (if_icmp.holds .ne (nar .boolean (bif (if_icmp.holds .lt v (1000 : Int32)) then (0 : Int32) else (bif (if_icmp.holds .ge v y) then (0 : Int32) else (1 : Int32)))) (bif (ifCond.holds .eq (bif (if_icmp.holds .le v (1000 : Int32)) then (0 : Int32) else (1 : Int32))) then (0 : Int32) else (bif (ifCond.holds .eq (bif (if_icmp.holds .le y v) then (0 : Int32) else (1 : Int32))) then (0 : Int32) else (1 : Int32)))) then (0 : Int32) else (1 : Int32)) = (1 : Int32) := by
  rw [own_ine] at h1
  have h1 : v ≠ 1000 := of_decide_eq_true h1
  simp only [if0, own_ilt, own_ige, own_ile]
  by_cases p1 : v < (1000 : Int32)
  · have p2 : v ≤ (1000 : Int32) := Int32.le_of_lt p1
    simp only [decide_eq_true p1, decide_eq_true p2, cond_true]
    cases decide (y ≤ v) <;> decide
  · have p2 : ¬ v ≤ (1000 : Int32) := fun q => by
      rw [Int32.not_lt] at p1
      exact h1 (Int32.le_antisymm q p1)
    simp only [decide_eq_false p1, decide_eq_false p2, cond_false]
    by_cases p3 : y ≤ v
    · simp only [decide_eq_true p3, cond_true]; decide
    · simp only [decide_eq_false p3, cond_false]; decide
theorem ef_rm_law (m : MethodId) (x0 : Int32) (x1 : Int32) (x2 : Int32) : entryFrame m #[(.int x0), (.int x1), (.int x2)] maxLocals = mkF m 0 #[.val (.int x0), .val (.int x1), .val (.int x2), .unset, .unset, .unset, .unset, .unset, .unset] [] := by first | (simp [entryFrame, mkF, argsToLocals, Value.category, maxLocals]; done) | rfl
def Q_rm_law (Z : State) (u1 : Int32) (u2 : Int32) (u3 : Int32) (h0 : Heap) (n0 : Nat) (v : Option Value) (h : Heap) (L : List Loc) : Prop := v = some (.int (1 : Int32)) ∧ Fr n0 L
set_option maxRecDepth 65536 in
set_option maxHeartbeats 40000000 in
theorem rm_law (l : Launch) (Z : State) (a0 : Array Value) (hw : ∀ d ∈ tables_1, d.before a0 Z = true) (ws : List Jvm.Cond) (u1 : Int32) (u2 : Int32) (u3 : Int32) (h0 : Heap) (n0 : Nat) (Z0 : n0 ≤ h0.size) :
    MetFree l x (head1 (Jvm.Cond.code x code maxLocals ret :: ws) room_1) (fun a U => a = #[(.int u1), (.int u2), (.int u3)] ∧ Z.Warmed39 U.vm ∧ U.heap = h0) (fun _ _ _ _ _ => True) (fun _ U o U' => ∃ v L, o = .returned v ∧ Q_rm_law Z u1 u2 u3 h0 n0 v U'.heap L ∧ FrameEnd U o U' L room_1.cells room_1.slots) := by
  refine MetFree.of_bodySF (plainFor_of_name pn_299089) hisR ?_
  intro p e s m args below meth c s₁ Bd hml0 hP hK
  obtain ⟨rfl, hZ, hh⟩ := hP
  have hx := Bd.exec
  have hby := Bd.bytes
  have hml : c.maxLocals = 9 := hml0
  have hown : s.vm.findClass "com/example/orderly_cellar/orderlycellar/service/OrderRulesIsVintagePinLaw" = some m.cls := findClass_of_methodNamed Bd.named
  have hnm := (name_of_methodNamed Bd.named Bd.method).1
  have X0 : Stand p l e room_1 s m #[(.int u1), (.int u2), (.int u3)] below meth c s₁ [] 0 0 := Stand.of_body Bd
  have e0 : s₁.heap = h0 := by rw [← hh, Bd.state]; rfl
  have N0 := Fr.nil n0
  have pre0 : ∀ t, Steps p.tables e below (s₁.setTop (mkF m 0 #[.val (.int u1), .val (.int u2), .val (.int u3), .unset, .unset, .unset, .unset, .unset, .unset] [])) t → Steps p.tables e below (s₁.setTop (entryFrame m #[(.int u1), (.int u2), (.int u3)] maxLocals)) t := fun t k => castTop (ef_rm_law m u1 u2 u3) k
  obtain ⟨_, _, ⟨T1, L1, k1, n1⟩, -, X1, ⟨Lc1, hQ1, l1, y1, z1⟩, st1⟩ := Jvm.LawKit.callS X0 hx (y := (⟨"com/example/orderly_cellar/orderlycellar/service/OrderRulesIsVintagePinLaw", "pick", "(III)I"⟩ : MethodName)) hown (mvT hZ (own_w hw 0 rfl)) (mvT hZ (own_w hw 1 rfl)) (mvT hZ (own_w hw 2 rfl)) (mvT hZ (own_w hw 3 rfl)) (by decide) (backOf (W := 0) (rm_pick l Z a0 hw [] u1 u2 u3 h0 n0 Z0 ) hZ (own_w hw 3 rfl) (own_w hw 2 rfl) (by decide) (by decide)) (g := (mkF m 5 #[.val (.int u1), .val (.int u2), .val (.int u3), .val (.int u2), .unset, .unset, .unset, .unset, .unset] [(.int u3), (.int u2), (.int u1)])) rfl (by rw [hml]; rfl) (argsL := [(.int u1), (.int u2), (.int u3)]) (rest := []) (lenOf pd_754599 rfl) rfl (by show 2 * 0 + _ ≤ _; exact Nat.le_of_eq rfl) (hb hby at_5) (fun _ _ => ⟨rfl, e0, (by decide : 0 + 0 ≤ _), (by decide : 0 + 0 ≤ _)⟩)
  dsimp only [Pt.U, Pt.locs, Pt.cells, Pt.slots] at X1 l1 y1 z1 st1 hQ1
  subst l1 y1 z1
  obtain ⟨rfl, Nq1, eq1⟩ := hQ1
  have N1 := Fr.app N0 Nq1
  obtain ⟨vp, hvp⟩ : ∃ z : Int32, z = (bif (if_icmp.holds .ne (u3 &&& (7 : Int32)) (1 : Int32)) then (bif (if_icmp.holds .ne (u3 &&& (7 : Int32)) (2 : Int32)) then (bif (if_icmp.holds .ne (u3 &&& (7 : Int32)) (3 : Int32)) then (bif (if_icmp.holds .ne (u3 &&& (7 : Int32)) (4 : Int32)) then (bif (if_icmp.holds .ne (u3 &&& (7 : Int32)) (5 : Int32)) then (bif (if_icmp.holds .ne (u3 &&& (7 : Int32)) (6 : Int32)) then u1 else (u2 + (1 : Int32))) else u2) else (u2 - (1 : Int32))) else (1001 : Int32)) else (1000 : Int32)) else (999 : Int32)) := ⟨_, rfl⟩
  rw [← hvp] at st1
  obtain ⟨_, _, ⟨T2, L2, k2, n2⟩, -, X2, ⟨Lc2, hQ2, l2, y2, z2⟩, st2⟩ := Jvm.LawKit.callS X1 hx (y := (⟨"com/example/orderly_cellar/orderlycellar/service/OrderRules", "isVintage", "(II)Z"⟩ : MethodName)) hown (mvT hZ (own_w hw 4 rfl)) (mvT hZ (own_w hw 5 rfl)) (mvT hZ (own_w hw 6 rfl)) (mvT hZ (own_w hw 7 rfl)) (by decide) (backOf (W := 0) (rm_vin l Z a0 hw [] vp u2 h0 n0 Z0 ) hZ (own_w hw 7 rfl) (own_w hw 6 rfl) (by decide) (by decide)) (g := (mkF m 13 #[.val (.int u1), .val (.int u2), .val (.int u3), .val (.int u2), .val (.int vp), .unset, .unset, .unset, .unset] [(.int u2), (.int vp)])) rfl (by rw [hml]; rfl) (argsL := [(.int vp), (.int u2)]) (rest := []) (lenOf pd_329862 rfl) rfl (by show 2 * 0 + _ ≤ _; exact Nat.le_of_eq rfl) (hb hby at_13) (fun _ _ => ⟨rfl, eq1, (by decide : 0 + 0 ≤ _), (by decide : 0 + 0 ≤ _)⟩)
  dsimp only [Pt.U, Pt.locs, Pt.cells, Pt.slots] at X2 l2 y2 z2 st2 hQ2
  subst l2 y2 z2
  obtain ⟨rfl, Nq2, eq2⟩ := hQ2
  have N2 := Fr.app N1 Nq2
  have pre3 : ∀ t, Steps p.tables e below (T2.setTop (mkF m 23 #[.val (.int u1), .val (.int u2), .val (.int u3), .val (.int u2), .val (.int vp), .val (.int (nar .boolean (bif (if_icmp.holds .lt vp (1000 : Int32)) then (0 : Int32) else (bif (if_icmp.holds .ge vp u2) then (0 : Int32) else (1 : Int32))))), .unset, .unset, .unset] [(.int (1000 : Int32)), (.int vp)])) t → Steps p.tables e below (s₁.setTop (entryFrame m #[(.int u1), (.int u2), (.int u3)] maxLocals)) t := by
    intro t k
    refine pre0 t ?_
    show Steps p.tables e below (s₁.setTop (mkF m 0 #[.val (.int u1), .val (.int u2), .val (.int u3), .unset, .unset, .unset, .unset, .unset, .unset] [])) _
    refine XS.iloadN X0.here hx rfl (hb hby at_0) rfl ?_
    show Steps p.tables e below (s₁.setTop (mkF m 1 #[.val (.int u1), .val (.int u2), .val (.int u3), .unset, .unset, .unset, .unset, .unset, .unset] [(.int u2)])) _
    refine XS.istoreN X0.here hx rfl (hb hby at_1) rfl (l' := #[.val (.int u1), .val (.int u2), .val (.int u3), .val (.int u2), .unset, .unset, .unset, .unset, .unset]) rfl ?_
    show Steps p.tables e below (s₁.setTop (mkF m 2 #[.val (.int u1), .val (.int u2), .val (.int u3), .val (.int u2), .unset, .unset, .unset, .unset, .unset] [])) _
    refine XS.iloadN X0.here hx rfl (hb hby at_2) rfl ?_
    show Steps p.tables e below (s₁.setTop (mkF m 3 #[.val (.int u1), .val (.int u2), .val (.int u3), .val (.int u2), .unset, .unset, .unset, .unset, .unset] [(.int u1)])) _
    refine XS.iloadN X0.here hx rfl (hb hby at_3) rfl ?_
    show Steps p.tables e below (s₁.setTop (mkF m 4 #[.val (.int u1), .val (.int u2), .val (.int u3), .val (.int u2), .unset, .unset, .unset, .unset, .unset] [(.int u2), (.int u1)])) _
    refine XS.iloadN X0.here hx rfl (hb hby at_4) rfl ?_
    show Steps p.tables e below (s₁.setTop (mkF m 5 #[.val (.int u1), .val (.int u2), .val (.int u3), .val (.int u2), .unset, .unset, .unset, .unset, .unset] [(.int u3), (.int u2), (.int u1)])) _
    refine st1 _ ?_
    show Steps p.tables e below (T1.setTop (mkF m 8 #[.val (.int u1), .val (.int u2), .val (.int u3), .val (.int u2), .unset, .unset, .unset, .unset, .unset] [(.int vp)])) _
    refine XS.istore X1.here hx rfl (hb hby at_8) rfl (l' := #[.val (.int u1), .val (.int u2), .val (.int u3), .val (.int u2), .val (.int vp), .unset, .unset, .unset, .unset]) rfl ?_
    show Steps p.tables e below (T1.setTop (mkF m 10 #[.val (.int u1), .val (.int u2), .val (.int u3), .val (.int u2), .val (.int vp), .unset, .unset, .unset, .unset] [])) _
    refine XS.iload X1.here hx rfl (hb hby at_10) rfl ?_
    show Steps p.tables e below (T1.setTop (mkF m 12 #[.val (.int u1), .val (.int u2), .val (.int u3), .val (.int u2), .val (.int vp), .unset, .unset, .unset, .unset] [(.int vp)])) _
    refine XS.iloadN X1.here hx rfl (hb hby at_12) rfl ?_
    show Steps p.tables e below (T1.setTop (mkF m 13 #[.val (.int u1), .val (.int u2), .val (.int u3), .val (.int u2), .val (.int vp), .unset, .unset, .unset, .unset] [(.int u2), (.int vp)])) _
    refine st2 _ ?_
    show Steps p.tables e below (T2.setTop (mkF m 16 #[.val (.int u1), .val (.int u2), .val (.int u3), .val (.int u2), .val (.int vp), .unset, .unset, .unset, .unset] [(.int (nar .boolean (bif (if_icmp.holds .lt vp (1000 : Int32)) then (0 : Int32) else (bif (if_icmp.holds .ge vp u2) then (0 : Int32) else (1 : Int32)))))])) _
    refine XS.istore X2.here hx rfl (hb hby at_16) rfl (l' := #[.val (.int u1), .val (.int u2), .val (.int u3), .val (.int u2), .val (.int vp), .val (.int (nar .boolean (bif (if_icmp.holds .lt vp (1000 : Int32)) then (0 : Int32) else (bif (if_icmp.holds .ge vp u2) then (0 : Int32) else (1 : Int32))))), .unset, .unset, .unset]) rfl ?_
    show Steps p.tables e below (T2.setTop (mkF m 18 #[.val (.int u1), .val (.int u2), .val (.int u3), .val (.int u2), .val (.int vp), .val (.int (nar .boolean (bif (if_icmp.holds .lt vp (1000 : Int32)) then (0 : Int32) else (bif (if_icmp.holds .ge vp u2) then (0 : Int32) else (1 : Int32))))), .unset, .unset, .unset] [])) _
    refine XS.iload X2.here hx rfl (hb hby at_18) rfl ?_
    show Steps p.tables e below (T2.setTop (mkF m 20 #[.val (.int u1), .val (.int u2), .val (.int u3), .val (.int u2), .val (.int vp), .val (.int (nar .boolean (bif (if_icmp.holds .lt vp (1000 : Int32)) then (0 : Int32) else (bif (if_icmp.holds .ge vp u2) then (0 : Int32) else (1 : Int32))))), .unset, .unset, .unset] [(.int vp)])) _
    refine XS.sipush X2.here hx rfl (hb hby at_20) ?_
    exact k
  rcases Bool.eq_false_or_eq_true (if_icmp.holds .ne vp (1000 : Int32)) with hb23 | hb23
  · have pre4 : ∀ t, Steps p.tables e below (T2.setTop (mkF m 43 #[.val (.int u1), .val (.int u2), .val (.int u3), .val (.int u2), .val (.int vp), .val (.int (nar .boolean (bif (if_icmp.holds .lt vp (1000 : Int32)) then (0 : Int32) else (bif (if_icmp.holds .ge vp u2) then (0 : Int32) else (1 : Int32))))), .unset, .unset, .unset] [(.int (1000 : Int32)), (.int vp)])) t → Steps p.tables e below (s₁.setTop (entryFrame m #[(.int u1), (.int u2), (.int u3)] maxLocals)) t := by
      intro t k
      refine pre3 t ?_
      show Steps p.tables e below (T2.setTop (mkF m 23 #[.val (.int u1), .val (.int u2), .val (.int u3), .val (.int u2), .val (.int vp), .val (.int (nar .boolean (bif (if_icmp.holds .lt vp (1000 : Int32)) then (0 : Int32) else (bif (if_icmp.holds .ge vp u2) then (0 : Int32) else (1 : Int32))))), .unset, .unset, .unset] [(.int (1000 : Int32)), (.int vp)])) _
      refine XS.icmpYes X2.here hx rfl (pc0 := 23) (pc' := 38) rfl (hb hby at_23) rfl hb23 (by decide) (by decide) ?_
      show Steps p.tables e below (T2.setTop (mkF m 38 #[.val (.int u1), .val (.int u2), .val (.int u3), .val (.int u2), .val (.int vp), .val (.int (nar .boolean (bif (if_icmp.holds .lt vp (1000 : Int32)) then (0 : Int32) else (bif (if_icmp.holds .ge vp u2) then (0 : Int32) else (1 : Int32))))), .unset, .unset, .unset] [])) _
      refine XS.iload X2.here hx rfl (hb hby at_38) rfl ?_
      show Steps p.tables e below (T2.setTop (mkF m 40 #[.val (.int u1), .val (.int u2), .val (.int u3), .val (.int u2), .val (.int vp), .val (.int (nar .boolean (bif (if_icmp.holds .lt vp (1000 : Int32)) then (0 : Int32) else (bif (if_icmp.holds .ge vp u2) then (0 : Int32) else (1 : Int32))))), .unset, .unset, .unset] [(.int vp)])) _
      refine XS.sipush X2.here hx rfl (hb hby at_40) ?_
      exact k
    have pre6 : ∀ t, Steps p.tables e below (T2.setTop (mkF m 51 #[.val (.int u1), .val (.int u2), .val (.int u3), .val (.int u2), .val (.int vp), .val (.int (nar .boolean (bif (if_icmp.holds .lt vp (1000 : Int32)) then (0 : Int32) else (bif (if_icmp.holds .ge vp u2) then (0 : Int32) else (1 : Int32))))), .unset, .unset, .unset] [(.int (bif (if_icmp.holds .le vp (1000 : Int32)) then (0 : Int32) else (1 : Int32)))])) t → Steps p.tables e below (s₁.setTop (entryFrame m #[(.int u1), (.int u2), (.int u3)] maxLocals)) t := by
      intro t k
      refine pre4 t ?_
      show Steps p.tables e below (T2.setTop (mkF m 43 #[.val (.int u1), .val (.int u2), .val (.int u3), .val (.int u2), .val (.int vp), .val (.int (nar .boolean (bif (if_icmp.holds .lt vp (1000 : Int32)) then (0 : Int32) else (bif (if_icmp.holds .ge vp u2) then (0 : Int32) else (1 : Int32))))), .unset, .unset, .unset] [(.int (1000 : Int32)), (.int vp)])) _
      rcases Bool.eq_false_or_eq_true (if_icmp.holds .le vp (1000 : Int32)) with hb43_5 | hb43_5
      · refine XS.icmpYes X2.here hx rfl (pc0 := 43) (pc' := 50) rfl (hb hby at_43) rfl hb43_5 (by decide) (by decide) ?_
        show Steps p.tables e below (T2.setTop (mkF m 50 #[.val (.int u1), .val (.int u2), .val (.int u3), .val (.int u2), .val (.int vp), .val (.int (nar .boolean (bif (if_icmp.holds .lt vp (1000 : Int32)) then (0 : Int32) else (bif (if_icmp.holds .ge vp u2) then (0 : Int32) else (1 : Int32))))), .unset, .unset, .unset] [])) _
        refine XS.iconst X2.here hx rfl (hb hby at_50) ?_
        have k : Steps p.tables e below (T2.setTop (mkF m 51 #[.val (.int u1), .val (.int u2), .val (.int u3), .val (.int u2), .val (.int vp), .val (.int (nar .boolean (bif (if_icmp.holds .lt vp (1000 : Int32)) then (0 : Int32) else (bif (if_icmp.holds .ge vp u2) then (0 : Int32) else (1 : Int32))))), .unset, .unset, .unset] [(.int (0 : Int32))])) t := by simpa only [hb43_5, cond_true, cond_false] using k
        exact k
      · refine XS.icmpNo X2.here hx rfl (hb hby at_43) rfl hb43_5 ?_
        show Steps p.tables e below (T2.setTop (mkF m 46 #[.val (.int u1), .val (.int u2), .val (.int u3), .val (.int u2), .val (.int vp), .val (.int (nar .boolean (bif (if_icmp.holds .lt vp (1000 : Int32)) then (0 : Int32) else (bif (if_icmp.holds .ge vp u2) then (0 : Int32) else (1 : Int32))))), .unset, .unset, .unset] [])) _
        refine XS.iconst X2.here hx rfl (hb hby at_46) ?_
        show Steps p.tables e below (T2.setTop (mkF m 47 #[.val (.int u1), .val (.int u2), .val (.int u3), .val (.int u2), .val (.int vp), .val (.int (nar .boolean (bif (if_icmp.holds .lt vp (1000 : Int32)) then (0 : Int32) else (bif (if_icmp.holds .ge vp u2) then (0 : Int32) else (1 : Int32))))), .unset, .unset, .unset] [(.int (1 : Int32))])) _
        refine XS.goto X2.here hx rfl (pc0 := 47) (pc' := 51) rfl (hb hby at_47) (by decide) (by decide) ?_
        have k : Steps p.tables e below (T2.setTop (mkF m 51 #[.val (.int u1), .val (.int u2), .val (.int u3), .val (.int u2), .val (.int vp), .val (.int (nar .boolean (bif (if_icmp.holds .lt vp (1000 : Int32)) then (0 : Int32) else (bif (if_icmp.holds .ge vp u2) then (0 : Int32) else (1 : Int32))))), .unset, .unset, .unset] [(.int (1 : Int32))])) t := by simpa only [hb43_5, cond_true, cond_false] using k
        exact k
    have pre7 : ∀ t, Steps p.tables e below (T2.setTop (mkF m 56 #[.val (.int u1), .val (.int u2), .val (.int u3), .val (.int u2), .val (.int vp), .val (.int (nar .boolean (bif (if_icmp.holds .lt vp (1000 : Int32)) then (0 : Int32) else (bif (if_icmp.holds .ge vp u2) then (0 : Int32) else (1 : Int32))))), .val (.int (bif (if_icmp.holds .le vp (1000 : Int32)) then (0 : Int32) else (1 : Int32))), .unset, .unset] [(.int vp), (.int u2)])) t → Steps p.tables e below (s₁.setTop (entryFrame m #[(.int u1), (.int u2), (.int u3)] maxLocals)) t := by
      intro t k
      refine pre6 t ?_
      show Steps p.tables e below (T2.setTop (mkF m 51 #[.val (.int u1), .val (.int u2), .val (.int u3), .val (.int u2), .val (.int vp), .val (.int (nar .boolean (bif (if_icmp.holds .lt vp (1000 : Int32)) then (0 : Int32) else (bif (if_icmp.holds .ge vp u2) then (0 : Int32) else (1 : Int32))))), .unset, .unset, .unset] [(.int (bif (if_icmp.holds .le vp (1000 : Int32)) then (0 : Int32) else (1 : Int32)))])) _
      refine XS.istore X2.here hx rfl (hb hby at_51) rfl (l' := #[.val (.int u1), .val (.int u2), .val (.int u3), .val (.int u2), .val (.int vp), .val (.int (nar .boolean (bif (if_icmp.holds .lt vp (1000 : Int32)) then (0 : Int32) else (bif (if_icmp.holds .ge vp u2) then (0 : Int32) else (1 : Int32))))), .val (.int (bif (if_icmp.holds .le vp (1000 : Int32)) then (0 : Int32) else (1 : Int32))), .unset, .unset]) rfl ?_
      show Steps p.tables e below (T2.setTop (mkF m 53 #[.val (.int u1), .val (.int u2), .val (.int u3), .val (.int u2), .val (.int vp), .val (.int (nar .boolean (bif (if_icmp.holds .lt vp (1000 : Int32)) then (0 : Int32) else (bif (if_icmp.holds .ge vp u2) then (0 : Int32) else (1 : Int32))))), .val (.int (bif (if_icmp.holds .le vp (1000 : Int32)) then (0 : Int32) else (1 : Int32))), .unset, .unset] [])) _
      refine XS.iloadN X2.here hx rfl (hb hby at_53) rfl ?_
      show Steps p.tables e below (T2.setTop (mkF m 54 #[.val (.int u1), .val (.int u2), .val (.int u3), .val (.int u2), .val (.int vp), .val (.int (nar .boolean (bif (if_icmp.holds .lt vp (1000 : Int32)) then (0 : Int32) else (bif (if_icmp.holds .ge vp u2) then (0 : Int32) else (1 : Int32))))), .val (.int (bif (if_icmp.holds .le vp (1000 : Int32)) then (0 : Int32) else (1 : Int32))), .unset, .unset] [(.int u2)])) _
      refine XS.iload X2.here hx rfl (hb hby at_54) rfl ?_
      exact k
    have pre9 : ∀ t, Steps p.tables e below (T2.setTop (mkF m 64 #[.val (.int u1), .val (.int u2), .val (.int u3), .val (.int u2), .val (.int vp), .val (.int (nar .boolean (bif (if_icmp.holds .lt vp (1000 : Int32)) then (0 : Int32) else (bif (if_icmp.holds .ge vp u2) then (0 : Int32) else (1 : Int32))))), .val (.int (bif (if_icmp.holds .le vp (1000 : Int32)) then (0 : Int32) else (1 : Int32))), .unset, .unset] [(.int (bif (if_icmp.holds .le u2 vp) then (0 : Int32) else (1 : Int32)))])) t → Steps p.tables e below (s₁.setTop (entryFrame m #[(.int u1), (.int u2), (.int u3)] maxLocals)) t := by
      intro t k
      refine pre7 t ?_
      show Steps p.tables e below (T2.setTop (mkF m 56 #[.val (.int u1), .val (.int u2), .val (.int u3), .val (.int u2), .val (.int vp), .val (.int (nar .boolean (bif (if_icmp.holds .lt vp (1000 : Int32)) then (0 : Int32) else (bif (if_icmp.holds .ge vp u2) then (0 : Int32) else (1 : Int32))))), .val (.int (bif (if_icmp.holds .le vp (1000 : Int32)) then (0 : Int32) else (1 : Int32))), .unset, .unset] [(.int vp), (.int u2)])) _
      rcases Bool.eq_false_or_eq_true (if_icmp.holds .le u2 vp) with hb56_8 | hb56_8
      · refine XS.icmpYes X2.here hx rfl (pc0 := 56) (pc' := 63) rfl (hb hby at_56) rfl hb56_8 (by decide) (by decide) ?_
        show Steps p.tables e below (T2.setTop (mkF m 63 #[.val (.int u1), .val (.int u2), .val (.int u3), .val (.int u2), .val (.int vp), .val (.int (nar .boolean (bif (if_icmp.holds .lt vp (1000 : Int32)) then (0 : Int32) else (bif (if_icmp.holds .ge vp u2) then (0 : Int32) else (1 : Int32))))), .val (.int (bif (if_icmp.holds .le vp (1000 : Int32)) then (0 : Int32) else (1 : Int32))), .unset, .unset] [])) _
        refine XS.iconst X2.here hx rfl (hb hby at_63) ?_
        have k : Steps p.tables e below (T2.setTop (mkF m 64 #[.val (.int u1), .val (.int u2), .val (.int u3), .val (.int u2), .val (.int vp), .val (.int (nar .boolean (bif (if_icmp.holds .lt vp (1000 : Int32)) then (0 : Int32) else (bif (if_icmp.holds .ge vp u2) then (0 : Int32) else (1 : Int32))))), .val (.int (bif (if_icmp.holds .le vp (1000 : Int32)) then (0 : Int32) else (1 : Int32))), .unset, .unset] [(.int (0 : Int32))])) t := by simpa only [hb56_8, cond_true, cond_false] using k
        exact k
      · refine XS.icmpNo X2.here hx rfl (hb hby at_56) rfl hb56_8 ?_
        show Steps p.tables e below (T2.setTop (mkF m 59 #[.val (.int u1), .val (.int u2), .val (.int u3), .val (.int u2), .val (.int vp), .val (.int (nar .boolean (bif (if_icmp.holds .lt vp (1000 : Int32)) then (0 : Int32) else (bif (if_icmp.holds .ge vp u2) then (0 : Int32) else (1 : Int32))))), .val (.int (bif (if_icmp.holds .le vp (1000 : Int32)) then (0 : Int32) else (1 : Int32))), .unset, .unset] [])) _
        refine XS.iconst X2.here hx rfl (hb hby at_59) ?_
        show Steps p.tables e below (T2.setTop (mkF m 60 #[.val (.int u1), .val (.int u2), .val (.int u3), .val (.int u2), .val (.int vp), .val (.int (nar .boolean (bif (if_icmp.holds .lt vp (1000 : Int32)) then (0 : Int32) else (bif (if_icmp.holds .ge vp u2) then (0 : Int32) else (1 : Int32))))), .val (.int (bif (if_icmp.holds .le vp (1000 : Int32)) then (0 : Int32) else (1 : Int32))), .unset, .unset] [(.int (1 : Int32))])) _
        refine XS.goto X2.here hx rfl (pc0 := 60) (pc' := 64) rfl (hb hby at_60) (by decide) (by decide) ?_
        have k : Steps p.tables e below (T2.setTop (mkF m 64 #[.val (.int u1), .val (.int u2), .val (.int u3), .val (.int u2), .val (.int vp), .val (.int (nar .boolean (bif (if_icmp.holds .lt vp (1000 : Int32)) then (0 : Int32) else (bif (if_icmp.holds .ge vp u2) then (0 : Int32) else (1 : Int32))))), .val (.int (bif (if_icmp.holds .le vp (1000 : Int32)) then (0 : Int32) else (1 : Int32))), .unset, .unset] [(.int (1 : Int32))])) t := by simpa only [hb56_8, cond_true, cond_false] using k
        exact k
    have pre10 : ∀ t, Steps p.tables e below (T2.setTop (mkF m 71 #[.val (.int u1), .val (.int u2), .val (.int u3), .val (.int u2), .val (.int vp), .val (.int (nar .boolean (bif (if_icmp.holds .lt vp (1000 : Int32)) then (0 : Int32) else (bif (if_icmp.holds .ge vp u2) then (0 : Int32) else (1 : Int32))))), .val (.int (bif (if_icmp.holds .le vp (1000 : Int32)) then (0 : Int32) else (1 : Int32))), .val (.int (bif (if_icmp.holds .le u2 vp) then (0 : Int32) else (1 : Int32))), .val (.int (0 : Int32))] [(.int (bif (if_icmp.holds .le vp (1000 : Int32)) then (0 : Int32) else (1 : Int32)))])) t → Steps p.tables e below (s₁.setTop (entryFrame m #[(.int u1), (.int u2), (.int u3)] maxLocals)) t := by
      intro t k
      refine pre9 t ?_
      show Steps p.tables e below (T2.setTop (mkF m 64 #[.val (.int u1), .val (.int u2), .val (.int u3), .val (.int u2), .val (.int vp), .val (.int (nar .boolean (bif (if_icmp.holds .lt vp (1000 : Int32)) then (0 : Int32) else (bif (if_icmp.holds .ge vp u2) then (0 : Int32) else (1 : Int32))))), .val (.int (bif (if_icmp.holds .le vp (1000 : Int32)) then (0 : Int32) else (1 : Int32))), .unset, .unset] [(.int (bif (if_icmp.holds .le u2 vp) then (0 : Int32) else (1 : Int32)))])) _
      refine XS.istore X2.here hx rfl (hb hby at_64) rfl (l' := #[.val (.int u1), .val (.int u2), .val (.int u3), .val (.int u2), .val (.int vp), .val (.int (nar .boolean (bif (if_icmp.holds .lt vp (1000 : Int32)) then (0 : Int32) else (bif (if_icmp.holds .ge vp u2) then (0 : Int32) else (1 : Int32))))), .val (.int (bif (if_icmp.holds .le vp (1000 : Int32)) then (0 : Int32) else (1 : Int32))), .val (.int (bif (if_icmp.holds .le u2 vp) then (0 : Int32) else (1 : Int32))), .unset]) rfl ?_
      show Steps p.tables e below (T2.setTop (mkF m 66 #[.val (.int u1), .val (.int u2), .val (.int u3), .val (.int u2), .val (.int vp), .val (.int (nar .boolean (bif (if_icmp.holds .lt vp (1000 : Int32)) then (0 : Int32) else (bif (if_icmp.holds .ge vp u2) then (0 : Int32) else (1 : Int32))))), .val (.int (bif (if_icmp.holds .le vp (1000 : Int32)) then (0 : Int32) else (1 : Int32))), .val (.int (bif (if_icmp.holds .le u2 vp) then (0 : Int32) else (1 : Int32))), .unset] [])) _
      refine XS.iconst X2.here hx rfl (hb hby at_66) ?_
      show Steps p.tables e below (T2.setTop (mkF m 67 #[.val (.int u1), .val (.int u2), .val (.int u3), .val (.int u2), .val (.int vp), .val (.int (nar .boolean (bif (if_icmp.holds .lt vp (1000 : Int32)) then (0 : Int32) else (bif (if_icmp.holds .ge vp u2) then (0 : Int32) else (1 : Int32))))), .val (.int (bif (if_icmp.holds .le vp (1000 : Int32)) then (0 : Int32) else (1 : Int32))), .val (.int (bif (if_icmp.holds .le u2 vp) then (0 : Int32) else (1 : Int32))), .unset] [(.int (0 : Int32))])) _
      refine XS.istore X2.here hx rfl (hb hby at_67) rfl (l' := #[.val (.int u1), .val (.int u2), .val (.int u3), .val (.int u2), .val (.int vp), .val (.int (nar .boolean (bif (if_icmp.holds .lt vp (1000 : Int32)) then (0 : Int32) else (bif (if_icmp.holds .ge vp u2) then (0 : Int32) else (1 : Int32))))), .val (.int (bif (if_icmp.holds .le vp (1000 : Int32)) then (0 : Int32) else (1 : Int32))), .val (.int (bif (if_icmp.holds .le u2 vp) then (0 : Int32) else (1 : Int32))), .val (.int (0 : Int32))]) rfl ?_
      show Steps p.tables e below (T2.setTop (mkF m 69 #[.val (.int u1), .val (.int u2), .val (.int u3), .val (.int u2), .val (.int vp), .val (.int (nar .boolean (bif (if_icmp.holds .lt vp (1000 : Int32)) then (0 : Int32) else (bif (if_icmp.holds .ge vp u2) then (0 : Int32) else (1 : Int32))))), .val (.int (bif (if_icmp.holds .le vp (1000 : Int32)) then (0 : Int32) else (1 : Int32))), .val (.int (bif (if_icmp.holds .le u2 vp) then (0 : Int32) else (1 : Int32))), .val (.int (0 : Int32))] [])) _
      refine XS.iload X2.here hx rfl (hb hby at_69) rfl ?_
      exact k
    have pre13 : ∀ t, Steps p.tables e below (T2.setTop (mkF m 82 #[.val (.int u1), .val (.int u2), .val (.int u3), .val (.int u2), .val (.int vp), .val (.int (nar .boolean (bif (if_icmp.holds .lt vp (1000 : Int32)) then (0 : Int32) else (bif (if_icmp.holds .ge vp u2) then (0 : Int32) else (1 : Int32))))), .val (.int (bif (if_icmp.holds .le vp (1000 : Int32)) then (0 : Int32) else (1 : Int32))), .val (.int (bif (if_icmp.holds .le u2 vp) then (0 : Int32) else (1 : Int32))), .val (.int (bif (ifCond.holds .eq (bif (if_icmp.holds .le vp (1000 : Int32)) then (0 : Int32) else (1 : Int32))) then (0 : Int32) else (bif (ifCond.holds .eq (bif (if_icmp.holds .le u2 vp) then (0 : Int32) else (1 : Int32))) then (0 : Int32) else (1 : Int32))))] [])) t → Steps p.tables e below (s₁.setTop (entryFrame m #[(.int u1), (.int u2), (.int u3)] maxLocals)) t := by
      intro t k
      refine pre10 t ?_
      show Steps p.tables e below (T2.setTop (mkF m 71 #[.val (.int u1), .val (.int u2), .val (.int u3), .val (.int u2), .val (.int vp), .val (.int (nar .boolean (bif (if_icmp.holds .lt vp (1000 : Int32)) then (0 : Int32) else (bif (if_icmp.holds .ge vp u2) then (0 : Int32) else (1 : Int32))))), .val (.int (bif (if_icmp.holds .le vp (1000 : Int32)) then (0 : Int32) else (1 : Int32))), .val (.int (bif (if_icmp.holds .le u2 vp) then (0 : Int32) else (1 : Int32))), .val (.int (0 : Int32))] [(.int (bif (if_icmp.holds .le vp (1000 : Int32)) then (0 : Int32) else (1 : Int32)))])) _
      rcases Bool.eq_false_or_eq_true (ifCond.holds .eq (bif (if_icmp.holds .le vp (1000 : Int32)) then (0 : Int32) else (1 : Int32))) with hb71_11 | hb71_11
      · refine XS.ifYes X2.here hx rfl (pc0 := 71) (pc' := 82) rfl (hb hby at_71) rfl hb71_11 (by decide) (by decide) ?_
        have k : Steps p.tables e below (T2.setTop (mkF m 82 #[.val (.int u1), .val (.int u2), .val (.int u3), .val (.int u2), .val (.int vp), .val (.int (nar .boolean (bif (if_icmp.holds .lt vp (1000 : Int32)) then (0 : Int32) else (bif (if_icmp.holds .ge vp u2) then (0 : Int32) else (1 : Int32))))), .val (.int (bif (if_icmp.holds .le vp (1000 : Int32)) then (0 : Int32) else (1 : Int32))), .val (.int (bif (if_icmp.holds .le u2 vp) then (0 : Int32) else (1 : Int32))), .val (.int (0 : Int32))] [])) t := by simpa only [hb71_11, cond_true, cond_false] using k
        exact k
      · refine XS.ifNo X2.here hx rfl (hb hby at_71) rfl hb71_11 ?_
        show Steps p.tables e below (T2.setTop (mkF m 74 #[.val (.int u1), .val (.int u2), .val (.int u3), .val (.int u2), .val (.int vp), .val (.int (nar .boolean (bif (if_icmp.holds .lt vp (1000 : Int32)) then (0 : Int32) else (bif (if_icmp.holds .ge vp u2) then (0 : Int32) else (1 : Int32))))), .val (.int (bif (if_icmp.holds .le vp (1000 : Int32)) then (0 : Int32) else (1 : Int32))), .val (.int (bif (if_icmp.holds .le u2 vp) then (0 : Int32) else (1 : Int32))), .val (.int (0 : Int32))] [])) _
        refine XS.iload X2.here hx rfl (hb hby at_74) rfl ?_
        show Steps p.tables e below (T2.setTop (mkF m 76 #[.val (.int u1), .val (.int u2), .val (.int u3), .val (.int u2), .val (.int vp), .val (.int (nar .boolean (bif (if_icmp.holds .lt vp (1000 : Int32)) then (0 : Int32) else (bif (if_icmp.holds .ge vp u2) then (0 : Int32) else (1 : Int32))))), .val (.int (bif (if_icmp.holds .le vp (1000 : Int32)) then (0 : Int32) else (1 : Int32))), .val (.int (bif (if_icmp.holds .le u2 vp) then (0 : Int32) else (1 : Int32))), .val (.int (0 : Int32))] [(.int (bif (if_icmp.holds .le u2 vp) then (0 : Int32) else (1 : Int32)))])) _
        rcases Bool.eq_false_or_eq_true (ifCond.holds .eq (bif (if_icmp.holds .le u2 vp) then (0 : Int32) else (1 : Int32))) with hb76_12 | hb76_12
        · refine XS.ifYes X2.here hx rfl (pc0 := 76) (pc' := 82) rfl (hb hby at_76) rfl hb76_12 (by decide) (by decide) ?_
          have k : Steps p.tables e below (T2.setTop (mkF m 82 #[.val (.int u1), .val (.int u2), .val (.int u3), .val (.int u2), .val (.int vp), .val (.int (nar .boolean (bif (if_icmp.holds .lt vp (1000 : Int32)) then (0 : Int32) else (bif (if_icmp.holds .ge vp u2) then (0 : Int32) else (1 : Int32))))), .val (.int (bif (if_icmp.holds .le vp (1000 : Int32)) then (0 : Int32) else (1 : Int32))), .val (.int (bif (if_icmp.holds .le u2 vp) then (0 : Int32) else (1 : Int32))), .val (.int (0 : Int32))] [])) t := by simpa only [hb71_11, hb76_12, cond_true, cond_false] using k
          exact k
        · refine XS.ifNo X2.here hx rfl (hb hby at_76) rfl hb76_12 ?_
          show Steps p.tables e below (T2.setTop (mkF m 79 #[.val (.int u1), .val (.int u2), .val (.int u3), .val (.int u2), .val (.int vp), .val (.int (nar .boolean (bif (if_icmp.holds .lt vp (1000 : Int32)) then (0 : Int32) else (bif (if_icmp.holds .ge vp u2) then (0 : Int32) else (1 : Int32))))), .val (.int (bif (if_icmp.holds .le vp (1000 : Int32)) then (0 : Int32) else (1 : Int32))), .val (.int (bif (if_icmp.holds .le u2 vp) then (0 : Int32) else (1 : Int32))), .val (.int (0 : Int32))] [])) _
          refine XS.iconst X2.here hx rfl (hb hby at_79) ?_
          show Steps p.tables e below (T2.setTop (mkF m 80 #[.val (.int u1), .val (.int u2), .val (.int u3), .val (.int u2), .val (.int vp), .val (.int (nar .boolean (bif (if_icmp.holds .lt vp (1000 : Int32)) then (0 : Int32) else (bif (if_icmp.holds .ge vp u2) then (0 : Int32) else (1 : Int32))))), .val (.int (bif (if_icmp.holds .le vp (1000 : Int32)) then (0 : Int32) else (1 : Int32))), .val (.int (bif (if_icmp.holds .le u2 vp) then (0 : Int32) else (1 : Int32))), .val (.int (0 : Int32))] [(.int (1 : Int32))])) _
          refine XS.istore X2.here hx rfl (hb hby at_80) rfl (l' := #[.val (.int u1), .val (.int u2), .val (.int u3), .val (.int u2), .val (.int vp), .val (.int (nar .boolean (bif (if_icmp.holds .lt vp (1000 : Int32)) then (0 : Int32) else (bif (if_icmp.holds .ge vp u2) then (0 : Int32) else (1 : Int32))))), .val (.int (bif (if_icmp.holds .le vp (1000 : Int32)) then (0 : Int32) else (1 : Int32))), .val (.int (bif (if_icmp.holds .le u2 vp) then (0 : Int32) else (1 : Int32))), .val (.int (1 : Int32))]) rfl ?_
          have k : Steps p.tables e below (T2.setTop (mkF m 82 #[.val (.int u1), .val (.int u2), .val (.int u3), .val (.int u2), .val (.int vp), .val (.int (nar .boolean (bif (if_icmp.holds .lt vp (1000 : Int32)) then (0 : Int32) else (bif (if_icmp.holds .ge vp u2) then (0 : Int32) else (1 : Int32))))), .val (.int (bif (if_icmp.holds .le vp (1000 : Int32)) then (0 : Int32) else (1 : Int32))), .val (.int (bif (if_icmp.holds .le u2 vp) then (0 : Int32) else (1 : Int32))), .val (.int (1 : Int32))] [])) t := by simpa only [hb71_11, hb76_12, cond_true, cond_false] using k
          exact k
    have pre14 : ∀ t, Steps p.tables e below (T2.setTop (mkF m 86 #[.val (.int u1), .val (.int u2), .val (.int u3), .val (.int u2), .val (.int vp), .val (.int (nar .boolean (bif (if_icmp.holds .lt vp (1000 : Int32)) then (0 : Int32) else (bif (if_icmp.holds .ge vp u2) then (0 : Int32) else (1 : Int32))))), .val (.int (bif (if_icmp.holds .le vp (1000 : Int32)) then (0 : Int32) else (1 : Int32))), .val (.int (bif (if_icmp.holds .le u2 vp) then (0 : Int32) else (1 : Int32))), .val (.int (bif (ifCond.holds .eq (bif (if_icmp.holds .le vp (1000 : Int32)) then (0 : Int32) else (1 : Int32))) then (0 : Int32) else (bif (ifCond.holds .eq (bif (if_icmp.holds .le u2 vp) then (0 : Int32) else (1 : Int32))) then (0 : Int32) else (1 : Int32))))] [(.int (bif (ifCond.holds .eq (bif (if_icmp.holds .le vp (1000 : Int32)) then (0 : Int32) else (1 : Int32))) then (0 : Int32) else (bif (ifCond.holds .eq (bif (if_icmp.holds .le u2 vp) then (0 : Int32) else (1 : Int32))) then (0 : Int32) else (1 : Int32)))), (.int (nar .boolean (bif (if_icmp.holds .lt vp (1000 : Int32)) then (0 : Int32) else (bif (if_icmp.holds .ge vp u2) then (0 : Int32) else (1 : Int32)))))])) t → Steps p.tables e below (s₁.setTop (entryFrame m #[(.int u1), (.int u2), (.int u3)] maxLocals)) t := by
      intro t k
      refine pre13 t ?_
      show Steps p.tables e below (T2.setTop (mkF m 82 #[.val (.int u1), .val (.int u2), .val (.int u3), .val (.int u2), .val (.int vp), .val (.int (nar .boolean (bif (if_icmp.holds .lt vp (1000 : Int32)) then (0 : Int32) else (bif (if_icmp.holds .ge vp u2) then (0 : Int32) else (1 : Int32))))), .val (.int (bif (if_icmp.holds .le vp (1000 : Int32)) then (0 : Int32) else (1 : Int32))), .val (.int (bif (if_icmp.holds .le u2 vp) then (0 : Int32) else (1 : Int32))), .val (.int (bif (ifCond.holds .eq (bif (if_icmp.holds .le vp (1000 : Int32)) then (0 : Int32) else (1 : Int32))) then (0 : Int32) else (bif (ifCond.holds .eq (bif (if_icmp.holds .le u2 vp) then (0 : Int32) else (1 : Int32))) then (0 : Int32) else (1 : Int32))))] [])) _
      refine XS.iload X2.here hx rfl (hb hby at_82) rfl ?_
      show Steps p.tables e below (T2.setTop (mkF m 84 #[.val (.int u1), .val (.int u2), .val (.int u3), .val (.int u2), .val (.int vp), .val (.int (nar .boolean (bif (if_icmp.holds .lt vp (1000 : Int32)) then (0 : Int32) else (bif (if_icmp.holds .ge vp u2) then (0 : Int32) else (1 : Int32))))), .val (.int (bif (if_icmp.holds .le vp (1000 : Int32)) then (0 : Int32) else (1 : Int32))), .val (.int (bif (if_icmp.holds .le u2 vp) then (0 : Int32) else (1 : Int32))), .val (.int (bif (ifCond.holds .eq (bif (if_icmp.holds .le vp (1000 : Int32)) then (0 : Int32) else (1 : Int32))) then (0 : Int32) else (bif (ifCond.holds .eq (bif (if_icmp.holds .le u2 vp) then (0 : Int32) else (1 : Int32))) then (0 : Int32) else (1 : Int32))))] [(.int (nar .boolean (bif (if_icmp.holds .lt vp (1000 : Int32)) then (0 : Int32) else (bif (if_icmp.holds .ge vp u2) then (0 : Int32) else (1 : Int32)))))])) _
      refine XS.iload X2.here hx rfl (hb hby at_84) rfl ?_
      exact k
    have pre16 : ∀ t, Steps p.tables e below (T2.setTop (mkF m 94 #[.val (.int u1), .val (.int u2), .val (.int u3), .val (.int u2), .val (.int vp), .val (.int (nar .boolean (bif (if_icmp.holds .lt vp (1000 : Int32)) then (0 : Int32) else (bif (if_icmp.holds .ge vp u2) then (0 : Int32) else (1 : Int32))))), .val (.int (bif (if_icmp.holds .le vp (1000 : Int32)) then (0 : Int32) else (1 : Int32))), .val (.int (bif (if_icmp.holds .le u2 vp) then (0 : Int32) else (1 : Int32))), .val (.int (bif (ifCond.holds .eq (bif (if_icmp.holds .le vp (1000 : Int32)) then (0 : Int32) else (1 : Int32))) then (0 : Int32) else (bif (ifCond.holds .eq (bif (if_icmp.holds .le u2 vp) then (0 : Int32) else (1 : Int32))) then (0 : Int32) else (1 : Int32))))] [(.int (bif (if_icmp.holds .ne (nar .boolean (bif (if_icmp.holds .lt vp (1000 : Int32)) then (0 : Int32) else (bif (if_icmp.holds .ge vp u2) then (0 : Int32) else (1 : Int32)))) (bif (ifCond.holds .eq (bif (if_icmp.holds .le vp (1000 : Int32)) then (0 : Int32) else (1 : Int32))) then (0 : Int32) else (bif (ifCond.holds .eq (bif (if_icmp.holds .le u2 vp) then (0 : Int32) else (1 : Int32))) then (0 : Int32) else (1 : Int32)))) then (0 : Int32) else (1 : Int32)))])) t → Steps p.tables e below (s₁.setTop (entryFrame m #[(.int u1), (.int u2), (.int u3)] maxLocals)) t := by
      intro t k
      refine pre14 t ?_
      show Steps p.tables e below (T2.setTop (mkF m 86 #[.val (.int u1), .val (.int u2), .val (.int u3), .val (.int u2), .val (.int vp), .val (.int (nar .boolean (bif (if_icmp.holds .lt vp (1000 : Int32)) then (0 : Int32) else (bif (if_icmp.holds .ge vp u2) then (0 : Int32) else (1 : Int32))))), .val (.int (bif (if_icmp.holds .le vp (1000 : Int32)) then (0 : Int32) else (1 : Int32))), .val (.int (bif (if_icmp.holds .le u2 vp) then (0 : Int32) else (1 : Int32))), .val (.int (bif (ifCond.holds .eq (bif (if_icmp.holds .le vp (1000 : Int32)) then (0 : Int32) else (1 : Int32))) then (0 : Int32) else (bif (ifCond.holds .eq (bif (if_icmp.holds .le u2 vp) then (0 : Int32) else (1 : Int32))) then (0 : Int32) else (1 : Int32))))] [(.int (bif (ifCond.holds .eq (bif (if_icmp.holds .le vp (1000 : Int32)) then (0 : Int32) else (1 : Int32))) then (0 : Int32) else (bif (ifCond.holds .eq (bif (if_icmp.holds .le u2 vp) then (0 : Int32) else (1 : Int32))) then (0 : Int32) else (1 : Int32)))), (.int (nar .boolean (bif (if_icmp.holds .lt vp (1000 : Int32)) then (0 : Int32) else (bif (if_icmp.holds .ge vp u2) then (0 : Int32) else (1 : Int32)))))])) _
      rcases Bool.eq_false_or_eq_true (if_icmp.holds .ne (nar .boolean (bif (if_icmp.holds .lt vp (1000 : Int32)) then (0 : Int32) else (bif (if_icmp.holds .ge vp u2) then (0 : Int32) else (1 : Int32)))) (bif (ifCond.holds .eq (bif (if_icmp.holds .le vp (1000 : Int32)) then (0 : Int32) else (1 : Int32))) then (0 : Int32) else (bif (ifCond.holds .eq (bif (if_icmp.holds .le u2 vp) then (0 : Int32) else (1 : Int32))) then (0 : Int32) else (1 : Int32)))) with hb86_15 | hb86_15
      · refine XS.icmpYes X2.here hx rfl (pc0 := 86) (pc' := 93) rfl (hb hby at_86) rfl hb86_15 (by decide) (by decide) ?_
        show Steps p.tables e below (T2.setTop (mkF m 93 #[.val (.int u1), .val (.int u2), .val (.int u3), .val (.int u2), .val (.int vp), .val (.int (nar .boolean (bif (if_icmp.holds .lt vp (1000 : Int32)) then (0 : Int32) else (bif (if_icmp.holds .ge vp u2) then (0 : Int32) else (1 : Int32))))), .val (.int (bif (if_icmp.holds .le vp (1000 : Int32)) then (0 : Int32) else (1 : Int32))), .val (.int (bif (if_icmp.holds .le u2 vp) then (0 : Int32) else (1 : Int32))), .val (.int (bif (ifCond.holds .eq (bif (if_icmp.holds .le vp (1000 : Int32)) then (0 : Int32) else (1 : Int32))) then (0 : Int32) else (bif (ifCond.holds .eq (bif (if_icmp.holds .le u2 vp) then (0 : Int32) else (1 : Int32))) then (0 : Int32) else (1 : Int32))))] [])) _
        refine XS.iconst X2.here hx rfl (hb hby at_93) ?_
        have k : Steps p.tables e below (T2.setTop (mkF m 94 #[.val (.int u1), .val (.int u2), .val (.int u3), .val (.int u2), .val (.int vp), .val (.int (nar .boolean (bif (if_icmp.holds .lt vp (1000 : Int32)) then (0 : Int32) else (bif (if_icmp.holds .ge vp u2) then (0 : Int32) else (1 : Int32))))), .val (.int (bif (if_icmp.holds .le vp (1000 : Int32)) then (0 : Int32) else (1 : Int32))), .val (.int (bif (if_icmp.holds .le u2 vp) then (0 : Int32) else (1 : Int32))), .val (.int (bif (ifCond.holds .eq (bif (if_icmp.holds .le vp (1000 : Int32)) then (0 : Int32) else (1 : Int32))) then (0 : Int32) else (bif (ifCond.holds .eq (bif (if_icmp.holds .le u2 vp) then (0 : Int32) else (1 : Int32))) then (0 : Int32) else (1 : Int32))))] [(.int (0 : Int32))])) t := by simpa only [hb86_15, cond_true, cond_false] using k
        exact k
      · refine XS.icmpNo X2.here hx rfl (hb hby at_86) rfl hb86_15 ?_
        show Steps p.tables e below (T2.setTop (mkF m 89 #[.val (.int u1), .val (.int u2), .val (.int u3), .val (.int u2), .val (.int vp), .val (.int (nar .boolean (bif (if_icmp.holds .lt vp (1000 : Int32)) then (0 : Int32) else (bif (if_icmp.holds .ge vp u2) then (0 : Int32) else (1 : Int32))))), .val (.int (bif (if_icmp.holds .le vp (1000 : Int32)) then (0 : Int32) else (1 : Int32))), .val (.int (bif (if_icmp.holds .le u2 vp) then (0 : Int32) else (1 : Int32))), .val (.int (bif (ifCond.holds .eq (bif (if_icmp.holds .le vp (1000 : Int32)) then (0 : Int32) else (1 : Int32))) then (0 : Int32) else (bif (ifCond.holds .eq (bif (if_icmp.holds .le u2 vp) then (0 : Int32) else (1 : Int32))) then (0 : Int32) else (1 : Int32))))] [])) _
        refine XS.iconst X2.here hx rfl (hb hby at_89) ?_
        show Steps p.tables e below (T2.setTop (mkF m 90 #[.val (.int u1), .val (.int u2), .val (.int u3), .val (.int u2), .val (.int vp), .val (.int (nar .boolean (bif (if_icmp.holds .lt vp (1000 : Int32)) then (0 : Int32) else (bif (if_icmp.holds .ge vp u2) then (0 : Int32) else (1 : Int32))))), .val (.int (bif (if_icmp.holds .le vp (1000 : Int32)) then (0 : Int32) else (1 : Int32))), .val (.int (bif (if_icmp.holds .le u2 vp) then (0 : Int32) else (1 : Int32))), .val (.int (bif (ifCond.holds .eq (bif (if_icmp.holds .le vp (1000 : Int32)) then (0 : Int32) else (1 : Int32))) then (0 : Int32) else (bif (ifCond.holds .eq (bif (if_icmp.holds .le u2 vp) then (0 : Int32) else (1 : Int32))) then (0 : Int32) else (1 : Int32))))] [(.int (1 : Int32))])) _
        refine XS.goto X2.here hx rfl (pc0 := 90) (pc' := 94) rfl (hb hby at_90) (by decide) (by decide) ?_
        have k : Steps p.tables e below (T2.setTop (mkF m 94 #[.val (.int u1), .val (.int u2), .val (.int u3), .val (.int u2), .val (.int vp), .val (.int (nar .boolean (bif (if_icmp.holds .lt vp (1000 : Int32)) then (0 : Int32) else (bif (if_icmp.holds .ge vp u2) then (0 : Int32) else (1 : Int32))))), .val (.int (bif (if_icmp.holds .le vp (1000 : Int32)) then (0 : Int32) else (1 : Int32))), .val (.int (bif (if_icmp.holds .le u2 vp) then (0 : Int32) else (1 : Int32))), .val (.int (bif (ifCond.holds .eq (bif (if_icmp.holds .le vp (1000 : Int32)) then (0 : Int32) else (1 : Int32))) then (0 : Int32) else (bif (ifCond.holds .eq (bif (if_icmp.holds .le u2 vp) then (0 : Int32) else (1 : Int32))) then (0 : Int32) else (1 : Int32))))] [(.int (1 : Int32))])) t := by simpa only [hb86_15, cond_true, cond_false] using k
        exact k
    obtain ⟨fs, hr, hrun, hended, hW, hsame⟩ := X2.leave (v := some (.int (1 : Int32))) (fun h => by rw [Bd.returns] at h; cases h)
    refine ⟨_, _, pre16 _ ?_, hrun, hended, _, _, rfl, ?_, ⟨_, rfl⟩, hW, hsame.mono (by decide) (by decide)⟩
    · show Steps p.tables e below (T2.setTop (mkF m 94 #[.val (.int u1), .val (.int u2), .val (.int u3), .val (.int u2), .val (.int vp), .val (.int (nar .boolean (bif (if_icmp.holds .lt vp (1000 : Int32)) then (0 : Int32) else (bif (if_icmp.holds .ge vp u2) then (0 : Int32) else (1 : Int32))))), .val (.int (bif (if_icmp.holds .le vp (1000 : Int32)) then (0 : Int32) else (1 : Int32))), .val (.int (bif (if_icmp.holds .le u2 vp) then (0 : Int32) else (1 : Int32))), .val (.int (bif (ifCond.holds .eq (bif (if_icmp.holds .le vp (1000 : Int32)) then (0 : Int32) else (1 : Int32))) then (0 : Int32) else (bif (ifCond.holds .eq (bif (if_icmp.holds .le u2 vp) then (0 : Int32) else (1 : Int32))) then (0 : Int32) else (1 : Int32))))] [(.int (bif (if_icmp.holds .ne (nar .boolean (bif (if_icmp.holds .lt vp (1000 : Int32)) then (0 : Int32) else (bif (if_icmp.holds .ge vp u2) then (0 : Int32) else (1 : Int32)))) (bif (ifCond.holds .eq (bif (if_icmp.holds .le vp (1000 : Int32)) then (0 : Int32) else (1 : Int32))) then (0 : Int32) else (bif (ifCond.holds .eq (bif (if_icmp.holds .le u2 vp) then (0 : Int32) else (1 : Int32))) then (0 : Int32) else (1 : Int32)))) then (0 : Int32) else (1 : Int32)))])) _
      rw [own_c _ _ hb23]
      exact retN X2 hx (t := .boolean) Bd.returns (by simp) (hb hby at_94) hr
    · show Q_rm_law Z _ _ _ h0 n0 _ T2.heap _
      rw [eq2]
      exact ⟨rfl, N2⟩
  · have pre17 : ∀ t, Steps p.tables e below (T2.setTop (mkF m 30 #[.val (.int u1), .val (.int u2), .val (.int u3), .val (.int u2), .val (.int vp), .val (.int (nar .boolean (bif (if_icmp.holds .lt vp (1000 : Int32)) then (0 : Int32) else (bif (if_icmp.holds .ge vp u2) then (0 : Int32) else (1 : Int32))))), .unset, .unset, .unset] [(.int (1000 : Int32)), (.int u2)])) t → Steps p.tables e below (s₁.setTop (entryFrame m #[(.int u1), (.int u2), (.int u3)] maxLocals)) t := by
      intro t k
      refine pre3 t ?_
      show Steps p.tables e below (T2.setTop (mkF m 23 #[.val (.int u1), .val (.int u2), .val (.int u3), .val (.int u2), .val (.int vp), .val (.int (nar .boolean (bif (if_icmp.holds .lt vp (1000 : Int32)) then (0 : Int32) else (bif (if_icmp.holds .ge vp u2) then (0 : Int32) else (1 : Int32))))), .unset, .unset, .unset] [(.int (1000 : Int32)), (.int vp)])) _
      refine XS.icmpNo X2.here hx rfl (hb hby at_23) rfl hb23 ?_
      show Steps p.tables e below (T2.setTop (mkF m 26 #[.val (.int u1), .val (.int u2), .val (.int u3), .val (.int u2), .val (.int vp), .val (.int (nar .boolean (bif (if_icmp.holds .lt vp (1000 : Int32)) then (0 : Int32) else (bif (if_icmp.holds .ge vp u2) then (0 : Int32) else (1 : Int32))))), .unset, .unset, .unset] [])) _
      refine XS.iloadN X2.here hx rfl (hb hby at_26) rfl ?_
      show Steps p.tables e below (T2.setTop (mkF m 27 #[.val (.int u1), .val (.int u2), .val (.int u3), .val (.int u2), .val (.int vp), .val (.int (nar .boolean (bif (if_icmp.holds .lt vp (1000 : Int32)) then (0 : Int32) else (bif (if_icmp.holds .ge vp u2) then (0 : Int32) else (1 : Int32))))), .unset, .unset, .unset] [(.int u2)])) _
      refine XS.sipush X2.here hx rfl (hb hby at_27) ?_
      exact k
    rcases Bool.eq_false_or_eq_true (if_icmp.holds .gt u2 (1000 : Int32)) with hb30 | hb30
    · obtain ⟨fs, hr, hrun, hended, hW, hsame⟩ := X2.leave (v := some (.int (1 : Int32))) (fun h => by rw [Bd.returns] at h; cases h)
      refine ⟨_, _, pre17 _ ?_, hrun, hended, _, _, rfl, ?_, ⟨_, rfl⟩, hW, hsame.mono (by decide) (by decide)⟩
      · show Steps p.tables e below (T2.setTop (mkF m 30 #[.val (.int u1), .val (.int u2), .val (.int u3), .val (.int u2), .val (.int vp), .val (.int (nar .boolean (bif (if_icmp.holds .lt vp (1000 : Int32)) then (0 : Int32) else (bif (if_icmp.holds .ge vp u2) then (0 : Int32) else (1 : Int32))))), .unset, .unset, .unset] [(.int (1000 : Int32)), (.int u2)])) _
        refine XS.icmpYes X2.here hx rfl (pc0 := 30) (pc' := 35) rfl (hb hby at_30) rfl hb30 (by decide) (by decide) ?_
        show Steps p.tables e below (T2.setTop (mkF m 35 #[.val (.int u1), .val (.int u2), .val (.int u3), .val (.int u2), .val (.int vp), .val (.int (nar .boolean (bif (if_icmp.holds .lt vp (1000 : Int32)) then (0 : Int32) else (bif (if_icmp.holds .ge vp u2) then (0 : Int32) else (1 : Int32))))), .unset, .unset, .unset] [])) _
        refine XS.iload X2.here hx rfl (hb hby at_35) rfl ?_
        show Steps p.tables e below (T2.setTop (mkF m 37 #[.val (.int u1), .val (.int u2), .val (.int u3), .val (.int u2), .val (.int vp), .val (.int (nar .boolean (bif (if_icmp.holds .lt vp (1000 : Int32)) then (0 : Int32) else (bif (if_icmp.holds .ge vp u2) then (0 : Int32) else (1 : Int32))))), .unset, .unset, .unset] [(.int (nar .boolean (bif (if_icmp.holds .lt vp (1000 : Int32)) then (0 : Int32) else (bif (if_icmp.holds .ge vp u2) then (0 : Int32) else (1 : Int32)))))])) _
        rw [own_b _ _ hb23 hb30]
        exact retN X2 hx (t := .boolean) Bd.returns (by simp) (hb hby at_37) hr
      · show Q_rm_law Z _ _ _ h0 n0 _ T2.heap _
        rw [eq2]
        exact ⟨rfl, N2⟩
    · obtain ⟨fs, hr, hrun, hended, hW, hsame⟩ := X2.leave (v := some (.int (1 : Int32))) (fun h => by rw [Bd.returns] at h; cases h)
      refine ⟨_, _, pre17 _ ?_, hrun, hended, _, _, rfl, ?_, ⟨_, rfl⟩, hW, hsame.mono (by decide) (by decide)⟩
      · show Steps p.tables e below (T2.setTop (mkF m 30 #[.val (.int u1), .val (.int u2), .val (.int u3), .val (.int u2), .val (.int vp), .val (.int (nar .boolean (bif (if_icmp.holds .lt vp (1000 : Int32)) then (0 : Int32) else (bif (if_icmp.holds .ge vp u2) then (0 : Int32) else (1 : Int32))))), .unset, .unset, .unset] [(.int (1000 : Int32)), (.int u2)])) _
        refine XS.icmpNo X2.here hx rfl (hb hby at_30) rfl hb30 ?_
        show Steps p.tables e below (T2.setTop (mkF m 33 #[.val (.int u1), .val (.int u2), .val (.int u3), .val (.int u2), .val (.int vp), .val (.int (nar .boolean (bif (if_icmp.holds .lt vp (1000 : Int32)) then (0 : Int32) else (bif (if_icmp.holds .ge vp u2) then (0 : Int32) else (1 : Int32))))), .unset, .unset, .unset] [])) _
        refine XS.iconst X2.here hx rfl (hb hby at_33) ?_
        show Steps p.tables e below (T2.setTop (mkF m 34 #[.val (.int u1), .val (.int u2), .val (.int u3), .val (.int u2), .val (.int vp), .val (.int (nar .boolean (bif (if_icmp.holds .lt vp (1000 : Int32)) then (0 : Int32) else (bif (if_icmp.holds .ge vp u2) then (0 : Int32) else (1 : Int32))))), .unset, .unset, .unset] [(.int (1 : Int32))])) _
        exact retN X2 hx (t := .boolean) Bd.returns (by simp) (hb hby at_34) hr
      · show Q_rm_law Z _ _ _ h0 n0 _ T2.heap _
        rw [eq2]
        exact ⟨rfl, N2⟩
set_option maxRecDepth 65536 in
set_option maxHeartbeats 40000000 in
theorem comes_1 {Post : Tables → Env → Array Value → State → Outcome → State → Prop} (hpost : ∀ tb e args s v u, (limb_1_1.after args s (.returned v) u = true ∧ limb_1_2.after args s (.returned v) u = true ∧ True) → FrameEnd s (.returned v) u (Jvm.fieldLocs frame_1_writes args s ++ Jvm.arrayLocs frame_1_arrays args s ++ Jvm.staticLocs frame_1_statics s) 0 0 → Post tb e args s (.returned v) u) :
    ArmFor flags0 classFile x code maxLocals ret World_1 tables_1 room_1 Calls_1 rest_1 Pre_1 Post := by
  intro l hfl _ _ p e ha hc hk s m args below hf hA hF happ hP
  obtain ⟨hcalls, hrest, hpre⟩ := hP
  obtain ⟨-, -, -, hnamed, -, -, -, hat⟩ := (Spec.applies_iff hf).mp happ
  obtain ⟨hg, hn⟩ := and_e (Cond.before_iff.mp (show (Jvm.Cond.and given_1 narrow_1).before args s = true from hpre))
  obtain ⟨ha0, hb0⟩ := and_e hg
  obtain ⟨ha1, hb1⟩ := and_e hb0
  obtain ⟨ha2, hb2⟩ := and_e hb1
  obtain ⟨w0, w1, w2, rfl⟩ : ∃ w0 w1 w2 : Value, args = #[w0, w1, w2] := by
    have hs : args.size = 3 := by simpa [Cond.value, given_1] using ha0
    obtain ⟨L⟩ := args
    match L, hs with
    | [w0, w1, w2], _ => exact ⟨w0, w1, w2, rfl⟩
  have hw := fun d (hd : d ∈ tables_1) => atoms_spec (ws := Jvm.Cond.code x code maxLocals ret :: tables_1) hat d (List.mem_cons_of_mem _ hd)
  have hfit : Fit s := fun {y c} hc i hi => by
    obtain ⟨ha, rfl⟩ := Array.getElem?_eq_some_iff.mp hc
    have q := List.all_eq_true.mp ((Array.all_eq_true_iff_forall_mem.mp hF) _ (Array.getElem_mem ha)) i (List.mem_range.mpr hi)
    simpa [Array.getElem?_eq_getElem hi] using q
  obtain ⟨i0, ei0⟩ := is_v ha1
  obtain rfl : w0 = (.int i0) := Option.some.inj ei0
  obtain ⟨i1, ei1⟩ := is_v ha2
  obtain rfl : w1 = (.int i1) := Option.some.inj ei1
  obtain ⟨i2, ei2⟩ := is_v hb2
  obtain rfl : w2 = (.int i2) := Option.some.inj ei2
  obtain ⟨n, o, h1, h2, h3, _, L, rfl, ⟨rfl, N⟩, hq⟩ := rm_law l s _ hw tables_1 i0 i1 i2 s.heap s.heap.size (Nat.le_refl _)  p e ha hc hk s m _ below hf ((Spec.applies_iff_loose hf).mp happ).1 ⟨rfl, State.Warmed39.refl s, rfl⟩ trivial
  refine ⟨n, _, h1, h2, h3, hpost _ _ _ _ _ _ ⟨Cond.after_iff.mpr rfl, Cond.after_iff.mpr (eq_i res_at (Term.int_eval (1)) rfl), trivial⟩ ⟨hq.1, hq.2.1, (hq.2.2.sift fun y hy => Or.inr (N y hy)).mono (by decide) (by decide)⟩⟩
theorem main_1_1 : Claimed_1_1 := comes_1 fun _ _ _ _ _ _ h hF => ⟨h.1, hF⟩
theorem main_1_2 : Claimed_1_2 := comes_1 fun _ _ _ _ _ _ h hF => ⟨h.2.1, hF⟩
end Jvm.Pilot.@@N@@
namespace Jvm.Pilot.@@N@@
open Jvm Jvm.ClassFile Sem Op Lib Jvm.Free Jvm.Stand Jvm.Pilot.@@N@@.Jvm.D
/-! MADE BY PROGRAM (witnessworld.py) out of the Statement's table words and the real class files: 9 classes; the members and pool entries that the words name. The judged class is class 1, her method 2. -/
namespace start1
open Jvm.ClassFile
def u (s : String) : CpInfo := .utf8 (stringToUtf16 s)
/-- a pool by its gaps: so many unusable entries, then the entry; so many at the end -/
def gap : Nat → List CpInfo → List CpInfo
  | 0, r => r
  | n + 1, r => .unusable :: gap n r
def poolList (es : List (Nat × CpInfo)) (last : Nat) : List CpInfo := es.foldr (fun e r => gap e.1 (e.2 :: r)) (gap last [])
def pool (es : List (Nat × CpInfo)) (last : Nat) : Array CpInfo := ⟨poolList es last⟩
def fileOf (pool : Array CpInfo) (this : Nat) (attrs : Array Attribute := #[]) (ms : Array MethodInfo := #[]) (fl : Nat := 33) (sup : Nat := 0) (ifs : Array Nat := #[]) (fds : Array FieldInfo := #[]) : ClassFile where
  minorVersion := 0
  majorVersion := 65
  constantPool := pool
  accessFlags := fl
  thisClass := this
  superClass := sup
  interfaces := ifs
  fields := fds
  methods := ms
  attributes := attrs
def plain (name : String) (sup : Option ClassId) : Class where
  name := name
  kind := .ordinary
  loader := none
  accessFlags := 33
  super := sup
  interfaces := #[]
  cf := none
  fields := #[]
  methods := #[]
  instanceTypes := #[]
  staticTypes := #[]
  resolved := #[]
  callSites := []
  init := .initialized
  statics := none
  mirror := none

def pool0 : Array CpInfo := pool [(5, u "<init>"), (0, u "()V"), (1, .class_ 10), (1, u "java/lang/Object")] 113

def k0m0 : Method := { name := "<init>", desc := "()V", sig := { parameters := [], returnType := none }, accessFlags := 1, code := none }
/-- java/lang/Object -/
def k0 : Class := { plain "java/lang/Object" none with
  accessFlags := 33
  interfaces := #[]
  cf := some (fileOf pool0 8 #[] #[{ accessFlags := 1, nameIndex := 5, descriptorIndex := 6, attributes := #[] }] 33 0 #[] #[])
  fields := #[]
  methods := #[k0m0]
  instanceTypes := #[]
  staticTypes := #[]
  resolved := Array.replicate 124 none
  statics := none }

def pool1 : Array CpInfo := pool [(2, .class_ 4), (1, u "java/lang/Object"), (0, u "<init>"), (0, u "()V"), (2, .methodref 10 11), (0, .class_ 12), (0, .nameAndType 13 14), (0, u "com/example/orderly_cellar/orderlycellar/service/OrderRulesIsVintagePinLaw"), (0, u "pick"), (0, u "(III)I"), (0, .methodref 16 17), (0, .class_ 18), (0, .nameAndType 19 20), (0, u "com/example/orderly_cellar/orderlycellar/service/OrderRules"), (0, u "isVintage"), (0, u "(II)Z"), (3, u "law"), (0, u "(III)Z")] 2

def k1m0 : Method := { name := "<init>", desc := "()V", sig := { parameters := [], returnType := none }, accessFlags := 2, code := none }
def k1c1 : Code := { maxStack := 2, maxLocals := 4, code := method_2_code, exceptionTable := #[], attributes := #[] }
def k1m1 : Method := { name := "pick", desc := "(III)I", sig := { parameters := [.int, .int, .int], returnType := some .int }, accessFlags := 10, code := some k1c1 }
def k1c2 : Code := { maxStack := 3, maxLocals := 9, code := code, exceptionTable := #[], attributes := #[] }
def k1m2 : Method := { name := "law", desc := "(III)Z", sig := { parameters := [.int, .int, .int], returnType := some .boolean }, accessFlags := 9, code := some k1c2 }
/-- com/example/orderly_cellar/orderlycellar/service/OrderRulesIsVintagePinLaw -/
def k1 : Class := { plain "com/example/orderly_cellar/orderlycellar/service/OrderRulesIsVintagePinLaw" (some 0) with
  accessFlags := 49
  interfaces := #[]
  cf := some (fileOf pool1 10 #[] #[{ accessFlags := 2, nameIndex := 5, descriptorIndex := 6, attributes := #[] }, { accessFlags := 10, nameIndex := 13, descriptorIndex := 14, attributes := #[] }, { accessFlags := 9, nameIndex := 24, descriptorIndex := 25, attributes := #[] }] 49 2 #[] #[])
  fields := #[]
  methods := #[k1m0, k1m1, k1m2]
  instanceTypes := #[]
  staticTypes := #[]
  resolved := Array.replicate 28 none
  statics := none }

def pool2 : Array CpInfo := pool [(2, .class_ 4), (1, u "java/lang/Object"), (0, u "<init>"), (0, u "()V"), (74, .class_ 83), (1, u "com/example/orderly_cellar/orderlycellar/service/OrderRules"), (0, u "isVintage"), (0, u "(II)Z")] 60

def k2m0 : Method := { name := "<init>", desc := "()V", sig := { parameters := [], returnType := none }, accessFlags := 2, code := none }
def k2c1 : Code := { maxStack := 2, maxLocals := 2, code := prog_98_method_4_code, exceptionTable := #[], attributes := #[] }
def k2m1 : Method := { name := "isVintage", desc := "(II)Z", sig := { parameters := [.int, .int], returnType := some .boolean }, accessFlags := 9, code := some k2c1 }
/-- com/example/orderly_cellar/orderlycellar/service/OrderRules -/
def k2 : Class := { plain "com/example/orderly_cellar/orderlycellar/service/OrderRules" (some 0) with
  accessFlags := 49
  interfaces := #[]
  cf := some (fileOf pool2 81 #[] #[{ accessFlags := 2, nameIndex := 5, descriptorIndex := 6, attributes := #[] }, { accessFlags := 9, nameIndex := 84, descriptorIndex := 85, attributes := #[] }] 49 2 #[] #[])
  fields := #[]
  methods := #[k2m0, k2m1]
  instanceTypes := #[]
  staticTypes := #[]
  resolved := Array.replicate 146 none
  statics := none }

def pool3 : Array CpInfo := pool [(1, u "java/lang/Cloneable"), (0, .class_ 1), (0, u "java/lang/Object"), (0, .class_ 3)] 3

/-- java/lang/Cloneable -/
def k3 : Class := { plain "java/lang/Cloneable" (some 0) with
  accessFlags := 1537
  interfaces := #[]
  cf := some (fileOf pool3 2 #[] #[] 1537 4 #[] #[])
  fields := #[]
  methods := #[]
  instanceTypes := #[]
  staticTypes := #[]
  resolved := Array.replicate 8 none
  statics := none }

def pool4 : Array CpInfo := pool [(1, u "java/io/Serializable"), (0, .class_ 1), (0, u "java/lang/Object"), (0, .class_ 3)] 3

/-- java/io/Serializable -/
def k4 : Class := { plain "java/io/Serializable" (some 0) with
  accessFlags := 1537
  interfaces := #[]
  cf := some (fileOf pool4 2 #[] #[] 1537 4 #[] #[])
  fields := #[]
  methods := #[]
  instanceTypes := #[]
  staticTypes := #[]
  resolved := Array.replicate 8 none
  statics := none }

/-- the primitive byte -/
def k5 : Class := { plain "byte" none with kind := .primitive 'B', accessFlags := 0x411 }
/-- [B -/
def k6 : Class := { plain "[B" (some 0) with kind := .array 5 .byte, interfaces := #[3, 4], accessFlags := 1041 }

/-- the primitive int -/
def k7 : Class := { plain "int" none with kind := .primitive 'I', accessFlags := 0x411 }
/-- [I -/
def k8 : Class := { plain "[I" (some 0) with kind := .array 7 .int, interfaces := #[3, 4], accessFlags := 1041 }

def heap : Heap := #[]
def classes : Array Class := #[k0, k1, k2, k3, k4, k5, k6, k7, k8]
def interned : List (Array UInt16 × Addr) := []
def slotsUsed : Nat := 0
def theMethod : MethodId := ⟨1, 2⟩
def args0 : Array Value := #[.int 5, .int 2000, .int 1]
def aboutOver (below : List Frame) : State where
  vm := { classes := classes, interned := interned.toArray }
  heap := heap
  slotsUsed := slotsUsed
  threads := #[{ frames := .invoking theMethod args0 :: below }]
def below0 : List Frame := [.native { method := ⟨0, 0⟩, args := #[] }]
def about1 : State := aboutOver below0
def p0 : Program := .bare "" "" ""
def e0 : Env := launch0.env 0 0 0
theorem w_frames : about1.frames = Frame.invoking theMethod args0 :: below0 := rfl
set_option maxRecDepth 65536 in
theorem w_args : argsFit about1.vm theMethod args0 = true := by decide +kernel
set_option maxRecDepth 65536 in
theorem w_heap : heapFits about1 = true := by decide +kernel
set_option maxRecDepth 65536 in
theorem w_runnable : about1.curStatus? = some .runnable := by decide +kernel
set_option maxRecDepth 65536 in
theorem w_alone : about1.alone = true := by decide +kernel
set_option maxRecDepth 65536 in
theorem w_named : about1.methodNamed? x = some theMethod := by decide +kernel
set_option maxRecDepth 65536 in
theorem w_hears : about1.hears theMethod below0 = true := by decide +kernel
set_option maxRecDepth 65536 in
theorem w_ripe : about1.ripe theMethod args0 below0 = true := by decide +kernel
theorem w_running : about1.status = .running := rfl
set_option maxRecDepth 65536 in
theorem w_room : about1.hasRoom e0.platform room_1 = true :=
  launch0.hasRoom_least _ room_1 (by decide +kernel) (by decide +kernel) (by decide +kernel) (by decide +kernel) (by decide +kernel) (by decide +kernel)
theorem allAtoms_all (ts : List Jvm.Cond) (a : Array Jvm.Value) (st : Jvm.State) : (allAtoms ts).before a st = ts.all (fun c => c.before a st) := by
  induction ts with
  | nil => rfl
  | cons c t ih =>
    show (Jvm.Cond.and c (allAtoms t)).before a st = _
    rw [Jvm.Cond.before_and, ih, List.all_cons]
def words1 : List Jvm.Cond := Jvm.Cond.code x code maxLocals ret :: tables_1
/-- a 'code' word, met by the world's own term for the bytes: nothing is compared byte by byte -/
theorem code_word {y : MethodName} {bytes : ByteArray} {mx : Nat} {rt : Option FieldType} {a : Array Value} {s : State} {m : MethodId} {meth : Method} {c : Code} (h1 : s.methodNamed? y = some m) (h2 : s.vm.method? m = some meth) (h3 : meth.code = some c) (h4 : c.code = bytes)
    (h5 : (c.maxLocals == mx && c.exceptionTable.isEmpty && decide (c.maxStack ≤ mostOperands) && decide (meth.sig.returnType = rt) && !meth.locks && decide (parseMethodDescriptor y.desc = some meth.sig)) = true) : (Jvm.Cond.code y bytes mx rt).before a s = true := by
  simp only [Bool.and_eq_true, beq_iff_eq, Bool.not_eq_true', decide_eq_true_eq] at h5
  obtain ⟨⟨⟨⟨⟨g1, g2⟩, g3⟩, g4⟩, g5⟩, g6⟩ := h5
  simp [Cond.before, Cond.holds, Cond.value, h1, h2, h3, h4, g1, g2, g3, g4, g5, g6]
def isCode : Jvm.Cond → Bool
  | .code _ _ _ _ => true
  | _ => false
theorem all_split {L : List Jvm.Cond} {P : Jvm.Cond → Bool} (h1 : L.all (fun c => isCode c || P c) = true) (h2 : ∀ c ∈ L.filter isCode, P c = true) : L.all P = true := by
  refine List.all_eq_true.mpr fun c hc => ?_
  have h := List.all_eq_true.mp h1 c hc
  rcases Bool.eq_false_or_eq_true (isCode c) with hi | hi
  · exact h2 c (List.mem_filter.mpr ⟨hc, hi⟩)
  · simpa [hi] using h
set_option maxRecDepth 65536 in
theorem w_c0 : (Jvm.Cond.code x code maxLocals ret).before args0 about1 = true := code_word (m := ⟨1, 2⟩) (meth := k1m2) (c := k1c2) (by decide +kernel) rfl rfl rfl (by decide +kernel)
set_option maxRecDepth 65536 in
theorem w_c1 : (Jvm.Cond.code ({ cls := "com/example/orderly_cellar/orderlycellar/service/OrderRulesIsVintagePinLaw", name := "pick", desc := "(III)I" } : Jvm.MethodName) method_2_code (4 : Nat) (Option.some Jvm.ClassFile.FieldType.int)).before args0 about1 = true := code_word (m := ⟨1, 1⟩) (meth := k1m1) (c := k1c1) (by decide +kernel) rfl rfl rfl (by decide +kernel)
set_option maxRecDepth 65536 in
theorem w_c2 : (Jvm.Cond.code ({ cls := "com/example/orderly_cellar/orderlycellar/service/OrderRules", name := "isVintage", desc := "(II)Z" } : Jvm.MethodName) prog_98_method_4_code (2 : Nat) (Option.some Jvm.ClassFile.FieldType.boolean)).before args0 about1 = true := code_word (m := ⟨2, 1⟩) (meth := k2m1) (c := k2c1) (by decide +kernel) rfl rfl rfl (by decide +kernel)
def codes1 : List Jvm.Cond := [Jvm.Cond.code x code maxLocals ret, Jvm.Cond.code ({ cls := "com/example/orderly_cellar/orderlycellar/service/OrderRulesIsVintagePinLaw", name := "pick", desc := "(III)I" } : Jvm.MethodName) method_2_code (4 : Nat) (Option.some Jvm.ClassFile.FieldType.int), Jvm.Cond.code ({ cls := "com/example/orderly_cellar/orderlycellar/service/OrderRules", name := "isVintage", desc := "(II)Z" } : Jvm.MethodName) prog_98_method_4_code (2 : Nat) (Option.some Jvm.ClassFile.FieldType.boolean)]
set_option maxRecDepth 65536 in
theorem codes_eq : words1.filter isCode = codes1 := rfl
theorem w_codes : ∀ c ∈ words1.filter isCode, c.before args0 about1 = true := by
  rw [codes_eq]
  intro c hc
  simp only [codes1, List.mem_cons, List.not_mem_nil, or_false] at hc
  rcases hc with rfl | rfl | rfl
  · exact w_c0
  · exact w_c1
  · exact w_c2
set_option maxRecDepth 65536 in
theorem w_t1 : words1.all (fun c => isCode c || c.before args0 about1) = true := by decide +kernel
theorem w_tables : (allAtoms (Jvm.Cond.code x code maxLocals ret :: tables_1)).before args0 about1 = true := by
  rw [allAtoms_all]
  show words1.all (fun c => c.before args0 about1) = true
  refine all_split ?_ w_codes
  rw [w_t1]
set_option maxRecDepth 65536 in
theorem w_case : (Jvm.Cond.and given_1 narrow_1).before args0 about1 = true := by decide +kernel
theorem w_applies : (headSpec (Jvm.Cond.code x code maxLocals ret :: tables_1) room_1).applies x e0.platform about1 = true :=
  (Spec.applies_iff w_frames).mpr ⟨w_running, w_runnable, w_alone, w_named, w_hears, w_ripe, w_room, w_tables⟩
theorem atStart : AtStart classFile x code maxLocals ret World_1 tables_1 room_1 Calls_1 rest_1 Pre_1 launch0 p0 e0 about1 theMethod args0 below0 :=
  ⟨lists_1, trivial, launch0.admits_env _ _ _, launch0.least_env, fairChoices_fair.cas, fairChoices_fair.clock, w_frames, w_args, w_heap, w_applies, trivial, trivial, w_case⟩
end start1
theorem witness_1 : WitnessClaimed_1 := ⟨start1.p0, start1.e0, start1.about1, start1.theMethod, start1.args0, start1.below0, start1.atStart⟩
end Jvm.Pilot.@@N@@
