import JvmDerived
import JvmDerived.Pilot.@@N@@Statement
import JvmDerived.Pilot.@@N@@Code
set_option linter.unusedVariables false
set_option linter.unusedSimpArgs false
namespace Jvm.Pilot.@@N@@
open Jvm Jvm.ClassFile Sem Op Lib Jvm.Free Jvm.Stand Jvm.LawKit Jvm.RoadKit Bundle Jvm.Pilot.@@N@@.Jvm.D
theorem own_eq {args : Array Value} {first s : State} {o : Option Outcome} {idx : List Nat} {a b : Term} (h : (Jvm.Cond.eq a b).value args first o s idx = some true) : a.eval args first o idx s = b.eval args first o idx s := by
  obtain ⟨x, y, h1, h2, k1, k2⟩ := cmp_v (Or.inl h)
  rw [h1, h2]
  simp only [Jvm.Cond.value, h1, h2] at h
  cases x <;> cases y <;> simp_all
theorem own_fld {args : Array Value} {s : State} {t u : Term} {a : Addr} {C n d : String} {v : Value} (ev : t.eval args s none [] s = some (.ref a)) (eu : u.eval args s none [] s = some v) (h : (Jvm.Cond.eq (.field t C n d) u).value args s none s [] = some true) : Fld s s.heap a C n d v :=
  Fld.start ((fld_at ev).symm.trans ((own_eq h).trans eu))

theorem own_rem6 (x : Int32) : 0 ≤ ((x &&& (2147483647 : Int32)) % (6 : Int32)).toInt ∧ ((x &&& (2147483647 : Int32)) % (6 : Int32)).toInt < 6 := by
  have h1 := c_mask x (2147483647 : Int32) 31 (by decide) (by decide)
  have h2 := (c_irem (x &&& (2147483647 : Int32)) (6 : Int32) 6 (by decide)).1 (by omega)
  omega
theorem own_cases6 {z : Int32} (h0 : 0 ≤ z.toInt) (h1 : z.toInt < 6) : z = (0 : Int32) ∨ z = (1 : Int32) ∨ z = (2 : Int32) ∨ z = (3 : Int32) ∨ z = (4 : Int32) ∨ z = (5 : Int32) := by
  have h : z.toInt = 0 ∨ z.toInt = 1 ∨ z.toInt = 2 ∨ z.toInt = 3 ∨ z.toInt = 4 ∨ z.toInt = 5 := by omega
  rcases h with h | h | h | h | h | h
  · exact Or.inl (Int32.toInt_inj.mp (h.trans (by decide)))
  · exact Or.inr (Or.inl (Int32.toInt_inj.mp (h.trans (by decide))))
  · exact Or.inr (Or.inr (Or.inl (Int32.toInt_inj.mp (h.trans (by decide)))))
  · exact Or.inr (Or.inr (Or.inr (Or.inl (Int32.toInt_inj.mp (h.trans (by decide))))))
  · exact Or.inr (Or.inr (Or.inr (Or.inr (Or.inl (Int32.toInt_inj.mp (h.trans (by decide)))))))
  · exact Or.inr (Or.inr (Or.inr (Or.inr (Or.inr ((Int32.toInt_inj.mp (h.trans (by decide))))))))

theorem pn_com_example_osprey_osprey_store_SslModeRequiresTlsPinLaw : plainName "com/example/osprey/osprey/store/SslModeRequiresTlsPinLaw" = true := by first | (simp [plainName, overriddenIn]; done) | decide +kernel
theorem ef_rm_k (m : MethodId) (p0 : Int32) : entryFrame m #[(.int p0)] 1 = mkF m 0 #[.val (.int p0)] [] := by first | (simp [entryFrame, mkF, argsToLocals, Value.category]; done) | rfl
def Q_rm_k (Z : State) (p0 : Int32) (w_DISABLE w_ALLOW w_PREFER w_REQUIRE w_VERIFY_CA w_VERIFY_FULL : Addr) (rr : Addr) (h0 : Heap) (n0 : Nat) (v : Option Value) (h : Heap) (L : List Loc) : Prop := v = some (.ref rr) ∧ Fr n0 L ∧ h = h0
theorem d_method_2_code_0 : decode method_2_code 0 = .ok (.iload_n 0, 1) := by decide +kernel
theorem d_method_2_code_1 : decode method_2_code 1 = .ok (.ifCond .ne 7, 3) := by decide +kernel
theorem d_method_2_code_4 : decode method_2_code 4 = .ok (.getstatic 7, 3) := by decide +kernel
theorem d_method_2_code_7 : decode method_2_code 7 = .ok (.areturn, 1) := by decide +kernel
theorem d_method_2_code_8 : decode method_2_code 8 = .ok (.iload_n 0, 1) := by decide +kernel
theorem d_method_2_code_9 : decode method_2_code 9 = .ok (.iconst 1, 1) := by decide +kernel
theorem d_method_2_code_10 : decode method_2_code 10 = .ok (.if_icmp .ne 7, 3) := by decide +kernel
theorem d_method_2_code_13 : decode method_2_code 13 = .ok (.getstatic 13, 3) := by decide +kernel
theorem d_method_2_code_16 : decode method_2_code 16 = .ok (.areturn, 1) := by decide +kernel
theorem d_method_2_code_17 : decode method_2_code 17 = .ok (.iload_n 0, 1) := by decide +kernel
theorem d_method_2_code_18 : decode method_2_code 18 = .ok (.iconst 2, 1) := by decide +kernel
theorem d_method_2_code_19 : decode method_2_code 19 = .ok (.if_icmp .ne 7, 3) := by decide +kernel
theorem d_method_2_code_22 : decode method_2_code 22 = .ok (.getstatic 16, 3) := by decide +kernel
theorem d_method_2_code_25 : decode method_2_code 25 = .ok (.areturn, 1) := by decide +kernel
theorem d_method_2_code_26 : decode method_2_code 26 = .ok (.iload_n 0, 1) := by decide +kernel
theorem d_method_2_code_27 : decode method_2_code 27 = .ok (.iconst 3, 1) := by decide +kernel
theorem d_method_2_code_28 : decode method_2_code 28 = .ok (.if_icmp .ne 7, 3) := by decide +kernel
theorem d_method_2_code_31 : decode method_2_code 31 = .ok (.getstatic 19, 3) := by decide +kernel
theorem d_method_2_code_34 : decode method_2_code 34 = .ok (.areturn, 1) := by decide +kernel
theorem d_method_2_code_35 : decode method_2_code 35 = .ok (.iload_n 0, 1) := by decide +kernel
theorem d_method_2_code_36 : decode method_2_code 36 = .ok (.iconst 4, 1) := by decide +kernel
theorem d_method_2_code_37 : decode method_2_code 37 = .ok (.if_icmp .ne 7, 3) := by decide +kernel
theorem d_method_2_code_40 : decode method_2_code 40 = .ok (.getstatic 22, 3) := by decide +kernel
theorem d_method_2_code_43 : decode method_2_code 43 = .ok (.areturn, 1) := by decide +kernel
theorem d_method_2_code_44 : decode method_2_code 44 = .ok (.getstatic 25, 3) := by decide +kernel
theorem d_method_2_code_47 : decode method_2_code 47 = .ok (.areturn, 1) := by decide +kernel
set_option maxRecDepth 65536 in
set_option maxHeartbeats 40000000 in
theorem rm_k (l : Launch) (Z : State) (a0 : Array Value) (hw : ∀ d ∈ tables_1, d.before a0 Z = true) (ws : List Jvm.Cond) (p0 : Int32) (w_DISABLE w_ALLOW w_PREFER w_REQUIRE w_VERIFY_CA w_VERIFY_FULL : Addr) (rr : Addr) (h0 : Heap) (n0 : Nat) (Z0 : n0 ≤ h0.size) (S_DISABLE : Sta Z h0 "com/example/osprey/osprey/store/SslMode" "DISABLE" "Lcom/example/osprey/osprey/store/SslMode;" (.ref w_DISABLE)) (S_ALLOW : Sta Z h0 "com/example/osprey/osprey/store/SslMode" "ALLOW" "Lcom/example/osprey/osprey/store/SslMode;" (.ref w_ALLOW)) (S_PREFER : Sta Z h0 "com/example/osprey/osprey/store/SslMode" "PREFER" "Lcom/example/osprey/osprey/store/SslMode;" (.ref w_PREFER)) (S_REQUIRE : Sta Z h0 "com/example/osprey/osprey/store/SslMode" "REQUIRE" "Lcom/example/osprey/osprey/store/SslMode;" (.ref w_REQUIRE)) (S_VERIFY_CA : Sta Z h0 "com/example/osprey/osprey/store/SslMode" "VERIFY_CA" "Lcom/example/osprey/osprey/store/SslMode;" (.ref w_VERIFY_CA)) (S_VERIFY_FULL : Sta Z h0 "com/example/osprey/osprey/store/SslMode" "VERIFY_FULL" "Lcom/example/osprey/osprey/store/SslMode;" (.ref w_VERIFY_FULL)) (hres : (if p0 = (0 : Int32) then w_DISABLE else (if p0 = (1 : Int32) then w_ALLOW else (if p0 = (2 : Int32) then w_PREFER else (if p0 = (3 : Int32) then w_REQUIRE else (if p0 = (4 : Int32) then w_VERIFY_CA else w_VERIFY_FULL))))) = rr) :
    MetFree l (⟨"com/example/osprey/osprey/store/SslModeRequiresTlsPinLaw", "pick", "(I)Lcom/example/osprey/osprey/store/SslMode;"⟩ : MethodName) (head1 (Jvm.Cond.code (⟨"com/example/osprey/osprey/store/SslModeRequiresTlsPinLaw", "pick", "(I)Lcom/example/osprey/osprey/store/SslMode;"⟩ : MethodName) method_2_code 1 (some (.object "com/example/osprey/osprey/store/SslMode")) :: ws) ({ frames := 0, cells := 0, slots := 0, locals := 0 } : Room)) (fun a U => a = #[(.int p0)] ∧ Z.Warmed39 U.vm ∧ U.heap = h0) (fun _ _ _ _ _ => True) (fun _ U o U' => ∃ v L, o = .returned v ∧ Q_rm_k Z p0 w_DISABLE w_ALLOW w_PREFER w_REQUIRE w_VERIFY_CA w_VERIFY_FULL rr h0 n0 v U'.heap L ∧ FrameEnd U o U' L ({ frames := 0, cells := 0, slots := 0, locals := 0 } : Room).cells ({ frames := 0, cells := 0, slots := 0, locals := 0 } : Room).slots) := by
  refine MetFree.of_bodySF (plainFor_of_name pn_com_example_osprey_osprey_store_SslModeRequiresTlsPinLaw) hisR ?_
  intro p e s m args below meth c s₁ Bd hml0 hP hK
  obtain ⟨rfl, hZ, hh⟩ := hP
  have hx := Bd.exec
  have hby := Bd.bytes
  have hml : c.maxLocals = 1 := hml0
  have hown : s.vm.findClass "com/example/osprey/osprey/store/SslModeRequiresTlsPinLaw" = some m.cls := findClass_of_methodNamed Bd.named
  have hnm := (name_of_methodNamed Bd.named Bd.method).1
  have X0 : Stand p l e ({ frames := 0, cells := 0, slots := 0, locals := 0 } : Room) s m #[(.int p0)] below meth c s₁ [] 0 0 := Stand.of_body Bd
  have e0 : s₁.heap = h0 := by rw [← hh, Bd.state]; rfl
  have N0 := Fr.nil n0
  have pre0 : ∀ t, Steps p.tables e below (s₁.setTop (mkF m 0 #[.val (.int p0)] [])) t → Steps p.tables e below (s₁.setTop (entryFrame m #[(.int p0)] 1)) t := fun t k => castTop (ef_rm_k m p0) k
  have pre2 : ∀ t, Steps p.tables e below (s₁.setTop (mkF m 1 #[.val (.int p0)] [(.int p0)])) t → Steps p.tables e below (s₁.setTop (entryFrame m #[(.int p0)] 1)) t := by
    intro t kt
    refine pre0 t ?_
    show Steps p.tables e below (s₁.setTop (mkF m 0 #[.val (.int p0)] [])) _
    refine XS.iloadN X0.here hx rfl (hb hby d_method_2_code_0) rfl ?_
    exact kt
  by_cases hc1_1 : p0 = (0 : Int32)
  · obtain ⟨T3, X3, e3, st3⟩ := getS2 X0 hx hZ hown (host := "") (Or.inl (hw _ (List.mem_of_getElem? (i := 5) rfl))) Via.refl e0 S_DISABLE (g := (mkF m 4 #[.val (.int p0)] [])) rfl (hb hby d_method_2_code_4)
    have pre4 : ∀ t, Steps p.tables e below (T3.setTop (mkF m 7 #[.val (.int p0)] [(.ref w_DISABLE)])) t → Steps p.tables e below (s₁.setTop (entryFrame m #[(.int p0)] 1)) t := by
      intro t kt
      refine pre2 t ?_
      show Steps p.tables e below (s₁.setTop (mkF m 1 #[.val (.int p0)] [(.int p0)])) _
      refine XS.ifNo X0.here hx rfl (hb hby d_method_2_code_1) rfl ((if0 _ _).trans (teq hc1_1).2) ?_
      show Steps p.tables e below (s₁.setTop (mkF m 4 #[.val (.int p0)] [])) _
      refine st3 _ ?_
      exact kt
    obtain ⟨fs, hr, hrun, hended, hW, hsame⟩ := X3.leave (v := some (.ref w_DISABLE)) (fun h => by rw [Bd.returns] at h; cases h)
    refine ⟨_, _, pre4 _ ?_, hrun, hended, _, _, rfl, ?_, ⟨_, rfl⟩, hW, hsame.mono (by decide) (by decide)⟩
    · show Steps p.tables e below (T3.setTop (mkF m 7 #[.val (.int p0)] [(.ref w_DISABLE)])) _
      jvm_step X3.here [X3.here.top, hx, (hb hby d_method_2_code_7), X3.method', Bd.returns, Value.isRef, FieldType.isReference]
      first | (intro acts; rw [hr _ acts rfl rfl rfl]) | rw [hr _ _ rfl rfl rfl]
      exact Steps.refl _
    · show Q_rm_k Z p0 w_DISABLE w_ALLOW w_PREFER w_REQUIRE w_VERIFY_CA w_VERIFY_FULL rr h0 n0 _ T3.heap _
      rw [e3]
      exact ⟨by rw [← hres]; simp +decide [hc1_1], N0, rfl⟩
  · have pre6 : ∀ t, Steps p.tables e below (s₁.setTop (mkF m 10 #[.val (.int p0)] [(.int (1 : Int32)), (.int p0)])) t → Steps p.tables e below (s₁.setTop (entryFrame m #[(.int p0)] 1)) t := by
      intro t kt
      refine pre2 t ?_
      show Steps p.tables e below (s₁.setTop (mkF m 1 #[.val (.int p0)] [(.int p0)])) _
      refine XS.ifYes X0.here hx rfl (pc0 := 1) (pc' := 8) rfl (hb hby d_method_2_code_1) rfl ((if0 _ _).trans (feq hc1_1).2) (by decide) (by decide) ?_
      show Steps p.tables e below (s₁.setTop (mkF m 8 #[.val (.int p0)] [])) _
      refine XS.iloadN X0.here hx rfl (hb hby d_method_2_code_8) rfl ?_
      show Steps p.tables e below (s₁.setTop (mkF m 9 #[.val (.int p0)] [(.int p0)])) _
      refine XS.iconst X0.here hx rfl (hb hby d_method_2_code_9) ?_
      exact kt
    by_cases hc10_5 : p0 = (1 : Int32)
    · obtain ⟨T7, X7, e7, st7⟩ := getS2 X0 hx hZ hown (host := "") (Or.inl (hw _ (List.mem_of_getElem? (i := 22) rfl))) Via.refl e0 S_ALLOW (g := (mkF m 13 #[.val (.int p0)] [])) rfl (hb hby d_method_2_code_13)
      have pre8 : ∀ t, Steps p.tables e below (T7.setTop (mkF m 16 #[.val (.int p0)] [(.ref w_ALLOW)])) t → Steps p.tables e below (s₁.setTop (entryFrame m #[(.int p0)] 1)) t := by
        intro t kt
        refine pre6 t ?_
        show Steps p.tables e below (s₁.setTop (mkF m 10 #[.val (.int p0)] [(.int (1 : Int32)), (.int p0)])) _
        refine XS.icmpNo X0.here hx rfl (hb hby d_method_2_code_10) rfl (teq hc10_5).2 ?_
        show Steps p.tables e below (s₁.setTop (mkF m 13 #[.val (.int p0)] [])) _
        refine st7 _ ?_
        exact kt
      obtain ⟨fs, hr, hrun, hended, hW, hsame⟩ := X7.leave (v := some (.ref w_ALLOW)) (fun h => by rw [Bd.returns] at h; cases h)
      refine ⟨_, _, pre8 _ ?_, hrun, hended, _, _, rfl, ?_, ⟨_, rfl⟩, hW, hsame.mono (by decide) (by decide)⟩
      · show Steps p.tables e below (T7.setTop (mkF m 16 #[.val (.int p0)] [(.ref w_ALLOW)])) _
        jvm_step X7.here [X7.here.top, hx, (hb hby d_method_2_code_16), X7.method', Bd.returns, Value.isRef, FieldType.isReference]
        first | (intro acts; rw [hr _ acts rfl rfl rfl]) | rw [hr _ _ rfl rfl rfl]
        exact Steps.refl _
      · show Q_rm_k Z p0 w_DISABLE w_ALLOW w_PREFER w_REQUIRE w_VERIFY_CA w_VERIFY_FULL rr h0 n0 _ T7.heap _
        rw [e7]
        exact ⟨by rw [← hres]; simp +decide [hc1_1, hc10_5], N0, rfl⟩
    · have pre10 : ∀ t, Steps p.tables e below (s₁.setTop (mkF m 19 #[.val (.int p0)] [(.int (2 : Int32)), (.int p0)])) t → Steps p.tables e below (s₁.setTop (entryFrame m #[(.int p0)] 1)) t := by
        intro t kt
        refine pre6 t ?_
        show Steps p.tables e below (s₁.setTop (mkF m 10 #[.val (.int p0)] [(.int (1 : Int32)), (.int p0)])) _
        refine XS.icmpYes X0.here hx rfl (pc0 := 10) (pc' := 17) rfl (hb hby d_method_2_code_10) rfl (feq hc10_5).2 (by decide) (by decide) ?_
        show Steps p.tables e below (s₁.setTop (mkF m 17 #[.val (.int p0)] [])) _
        refine XS.iloadN X0.here hx rfl (hb hby d_method_2_code_17) rfl ?_
        show Steps p.tables e below (s₁.setTop (mkF m 18 #[.val (.int p0)] [(.int p0)])) _
        refine XS.iconst X0.here hx rfl (hb hby d_method_2_code_18) ?_
        exact kt
      by_cases hc19_9 : p0 = (2 : Int32)
      · obtain ⟨T11, X11, e11, st11⟩ := getS2 X0 hx hZ hown (host := "") (Or.inl (hw _ (List.mem_of_getElem? (i := 20) rfl))) Via.refl e0 S_PREFER (g := (mkF m 22 #[.val (.int p0)] [])) rfl (hb hby d_method_2_code_22)
        have pre12 : ∀ t, Steps p.tables e below (T11.setTop (mkF m 25 #[.val (.int p0)] [(.ref w_PREFER)])) t → Steps p.tables e below (s₁.setTop (entryFrame m #[(.int p0)] 1)) t := by
          intro t kt
          refine pre10 t ?_
          show Steps p.tables e below (s₁.setTop (mkF m 19 #[.val (.int p0)] [(.int (2 : Int32)), (.int p0)])) _
          refine XS.icmpNo X0.here hx rfl (hb hby d_method_2_code_19) rfl (teq hc19_9).2 ?_
          show Steps p.tables e below (s₁.setTop (mkF m 22 #[.val (.int p0)] [])) _
          refine st11 _ ?_
          exact kt
        obtain ⟨fs, hr, hrun, hended, hW, hsame⟩ := X11.leave (v := some (.ref w_PREFER)) (fun h => by rw [Bd.returns] at h; cases h)
        refine ⟨_, _, pre12 _ ?_, hrun, hended, _, _, rfl, ?_, ⟨_, rfl⟩, hW, hsame.mono (by decide) (by decide)⟩
        · show Steps p.tables e below (T11.setTop (mkF m 25 #[.val (.int p0)] [(.ref w_PREFER)])) _
          jvm_step X11.here [X11.here.top, hx, (hb hby d_method_2_code_25), X11.method', Bd.returns, Value.isRef, FieldType.isReference]
          first | (intro acts; rw [hr _ acts rfl rfl rfl]) | rw [hr _ _ rfl rfl rfl]
          exact Steps.refl _
        · show Q_rm_k Z p0 w_DISABLE w_ALLOW w_PREFER w_REQUIRE w_VERIFY_CA w_VERIFY_FULL rr h0 n0 _ T11.heap _
          rw [e11]
          exact ⟨by rw [← hres]; simp +decide [hc1_1, hc10_5, hc19_9], N0, rfl⟩
      · have pre14 : ∀ t, Steps p.tables e below (s₁.setTop (mkF m 28 #[.val (.int p0)] [(.int (3 : Int32)), (.int p0)])) t → Steps p.tables e below (s₁.setTop (entryFrame m #[(.int p0)] 1)) t := by
          intro t kt
          refine pre10 t ?_
          show Steps p.tables e below (s₁.setTop (mkF m 19 #[.val (.int p0)] [(.int (2 : Int32)), (.int p0)])) _
          refine XS.icmpYes X0.here hx rfl (pc0 := 19) (pc' := 26) rfl (hb hby d_method_2_code_19) rfl (feq hc19_9).2 (by decide) (by decide) ?_
          show Steps p.tables e below (s₁.setTop (mkF m 26 #[.val (.int p0)] [])) _
          refine XS.iloadN X0.here hx rfl (hb hby d_method_2_code_26) rfl ?_
          show Steps p.tables e below (s₁.setTop (mkF m 27 #[.val (.int p0)] [(.int p0)])) _
          refine XS.iconst X0.here hx rfl (hb hby d_method_2_code_27) ?_
          exact kt
        by_cases hc28_13 : p0 = (3 : Int32)
        · obtain ⟨T15, X15, e15, st15⟩ := getS2 X0 hx hZ hown (host := "") (Or.inl (hw _ (List.mem_of_getElem? (i := 19) rfl))) Via.refl e0 S_REQUIRE (g := (mkF m 31 #[.val (.int p0)] [])) rfl (hb hby d_method_2_code_31)
          have pre16 : ∀ t, Steps p.tables e below (T15.setTop (mkF m 34 #[.val (.int p0)] [(.ref w_REQUIRE)])) t → Steps p.tables e below (s₁.setTop (entryFrame m #[(.int p0)] 1)) t := by
            intro t kt
            refine pre14 t ?_
            show Steps p.tables e below (s₁.setTop (mkF m 28 #[.val (.int p0)] [(.int (3 : Int32)), (.int p0)])) _
            refine XS.icmpNo X0.here hx rfl (hb hby d_method_2_code_28) rfl (teq hc28_13).2 ?_
            show Steps p.tables e below (s₁.setTop (mkF m 31 #[.val (.int p0)] [])) _
            refine st15 _ ?_
            exact kt
          obtain ⟨fs, hr, hrun, hended, hW, hsame⟩ := X15.leave (v := some (.ref w_REQUIRE)) (fun h => by rw [Bd.returns] at h; cases h)
          refine ⟨_, _, pre16 _ ?_, hrun, hended, _, _, rfl, ?_, ⟨_, rfl⟩, hW, hsame.mono (by decide) (by decide)⟩
          · show Steps p.tables e below (T15.setTop (mkF m 34 #[.val (.int p0)] [(.ref w_REQUIRE)])) _
            jvm_step X15.here [X15.here.top, hx, (hb hby d_method_2_code_34), X15.method', Bd.returns, Value.isRef, FieldType.isReference]
            first | (intro acts; rw [hr _ acts rfl rfl rfl]) | rw [hr _ _ rfl rfl rfl]
            exact Steps.refl _
          · show Q_rm_k Z p0 w_DISABLE w_ALLOW w_PREFER w_REQUIRE w_VERIFY_CA w_VERIFY_FULL rr h0 n0 _ T15.heap _
            rw [e15]
            exact ⟨by rw [← hres]; simp +decide [hc1_1, hc10_5, hc19_9, hc28_13], N0, rfl⟩
        · have pre18 : ∀ t, Steps p.tables e below (s₁.setTop (mkF m 37 #[.val (.int p0)] [(.int (4 : Int32)), (.int p0)])) t → Steps p.tables e below (s₁.setTop (entryFrame m #[(.int p0)] 1)) t := by
            intro t kt
            refine pre14 t ?_
            show Steps p.tables e below (s₁.setTop (mkF m 28 #[.val (.int p0)] [(.int (3 : Int32)), (.int p0)])) _
            refine XS.icmpYes X0.here hx rfl (pc0 := 28) (pc' := 35) rfl (hb hby d_method_2_code_28) rfl (feq hc28_13).2 (by decide) (by decide) ?_
            show Steps p.tables e below (s₁.setTop (mkF m 35 #[.val (.int p0)] [])) _
            refine XS.iloadN X0.here hx rfl (hb hby d_method_2_code_35) rfl ?_
            show Steps p.tables e below (s₁.setTop (mkF m 36 #[.val (.int p0)] [(.int p0)])) _
            refine XS.iconst X0.here hx rfl (hb hby d_method_2_code_36) ?_
            exact kt
          by_cases hc37_17 : p0 = (4 : Int32)
          · obtain ⟨T19, X19, e19, st19⟩ := getS2 X0 hx hZ hown (host := "") (Or.inl (hw _ (List.mem_of_getElem? (i := 25) rfl))) Via.refl e0 S_VERIFY_CA (g := (mkF m 40 #[.val (.int p0)] [])) rfl (hb hby d_method_2_code_40)
            have pre20 : ∀ t, Steps p.tables e below (T19.setTop (mkF m 43 #[.val (.int p0)] [(.ref w_VERIFY_CA)])) t → Steps p.tables e below (s₁.setTop (entryFrame m #[(.int p0)] 1)) t := by
              intro t kt
              refine pre18 t ?_
              show Steps p.tables e below (s₁.setTop (mkF m 37 #[.val (.int p0)] [(.int (4 : Int32)), (.int p0)])) _
              refine XS.icmpNo X0.here hx rfl (hb hby d_method_2_code_37) rfl (teq hc37_17).2 ?_
              show Steps p.tables e below (s₁.setTop (mkF m 40 #[.val (.int p0)] [])) _
              refine st19 _ ?_
              exact kt
            obtain ⟨fs, hr, hrun, hended, hW, hsame⟩ := X19.leave (v := some (.ref w_VERIFY_CA)) (fun h => by rw [Bd.returns] at h; cases h)
            refine ⟨_, _, pre20 _ ?_, hrun, hended, _, _, rfl, ?_, ⟨_, rfl⟩, hW, hsame.mono (by decide) (by decide)⟩
            · show Steps p.tables e below (T19.setTop (mkF m 43 #[.val (.int p0)] [(.ref w_VERIFY_CA)])) _
              jvm_step X19.here [X19.here.top, hx, (hb hby d_method_2_code_43), X19.method', Bd.returns, Value.isRef, FieldType.isReference]
              first | (intro acts; rw [hr _ acts rfl rfl rfl]) | rw [hr _ _ rfl rfl rfl]
              exact Steps.refl _
            · show Q_rm_k Z p0 w_DISABLE w_ALLOW w_PREFER w_REQUIRE w_VERIFY_CA w_VERIFY_FULL rr h0 n0 _ T19.heap _
              rw [e19]
              exact ⟨by rw [← hres]; simp +decide [hc1_1, hc10_5, hc19_9, hc28_13, hc37_17], N0, rfl⟩
          · obtain ⟨T21, X21, e21, st21⟩ := getS2 X0 hx hZ hown (host := "") (Or.inl (hw _ (List.mem_of_getElem? (i := 24) rfl))) Via.refl e0 S_VERIFY_FULL (g := (mkF m 44 #[.val (.int p0)] [])) rfl (hb hby d_method_2_code_44)
            have pre22 : ∀ t, Steps p.tables e below (T21.setTop (mkF m 47 #[.val (.int p0)] [(.ref w_VERIFY_FULL)])) t → Steps p.tables e below (s₁.setTop (entryFrame m #[(.int p0)] 1)) t := by
              intro t kt
              refine pre18 t ?_
              show Steps p.tables e below (s₁.setTop (mkF m 37 #[.val (.int p0)] [(.int (4 : Int32)), (.int p0)])) _
              refine XS.icmpYes X0.here hx rfl (pc0 := 37) (pc' := 44) rfl (hb hby d_method_2_code_37) rfl (feq hc37_17).2 (by decide) (by decide) ?_
              show Steps p.tables e below (s₁.setTop (mkF m 44 #[.val (.int p0)] [])) _
              refine st21 _ ?_
              exact kt
            obtain ⟨fs, hr, hrun, hended, hW, hsame⟩ := X21.leave (v := some (.ref w_VERIFY_FULL)) (fun h => by rw [Bd.returns] at h; cases h)
            refine ⟨_, _, pre22 _ ?_, hrun, hended, _, _, rfl, ?_, ⟨_, rfl⟩, hW, hsame.mono (by decide) (by decide)⟩
            · show Steps p.tables e below (T21.setTop (mkF m 47 #[.val (.int p0)] [(.ref w_VERIFY_FULL)])) _
              jvm_step X21.here [X21.here.top, hx, (hb hby d_method_2_code_47), X21.method', Bd.returns, Value.isRef, FieldType.isReference]
              first | (intro acts; rw [hr _ acts rfl rfl rfl]) | rw [hr _ _ rfl rfl rfl]
              exact Steps.refl _
            · show Q_rm_k Z p0 w_DISABLE w_ALLOW w_PREFER w_REQUIRE w_VERIFY_CA w_VERIFY_FULL rr h0 n0 _ T21.heap _
              rw [e21]
              exact ⟨by rw [← hres]; simp +decide [hc1_1, hc10_5, hc19_9, hc28_13, hc37_17], N0, rfl⟩
theorem pn_com_example_osprey_osprey_store_SslMode : plainName "com/example/osprey/osprey/store/SslMode" = true := by first | (simp [plainName, overriddenIn]; done) | decide +kernel
theorem ef_rm_p (m : MethodId) (o0 : Addr) : entryFrame m #[(.ref o0)] 1 = mkF m 0 #[.val (.ref o0)] [] := by first | (simp [entryFrame, mkF, argsToLocals, Value.category]; done) | rfl
def Q_rm_p (Z : State) (o0 : Addr) (w_REQUIRE w_VERIFY_CA w_VERIFY_FULL : Addr) (r : Int32) (h0 : Heap) (n0 : Nat) (v : Option Value) (h : Heap) (L : List Loc) : Prop := v = some (.int r) ∧ Fr n0 L ∧ h = h0
theorem d_prog_56_method_6_code_0 : decode prog_56_method_6_code 0 = .ok (.aload_n 0, 1) := by decide +kernel
theorem d_prog_56_method_6_code_1 : decode prog_56_method_6_code 1 = .ok (.getstatic 13, 3) := by decide +kernel
theorem d_prog_56_method_6_code_4 : decode prog_56_method_6_code 4 = .ok (.if_acmp .eq 17, 3) := by decide +kernel
theorem d_prog_56_method_6_code_21 : decode prog_56_method_6_code 21 = .ok (.iconst 1, 1) := by decide +kernel
theorem d_prog_56_method_6_code_22 : decode prog_56_method_6_code 22 = .ok (.goto 4, 3) := by decide +kernel
theorem d_prog_56_method_6_code_26 : decode prog_56_method_6_code 26 = .ok (.ireturn, 1) := by decide +kernel
theorem d_prog_56_method_6_code_7 : decode prog_56_method_6_code 7 = .ok (.aload_n 0, 1) := by decide +kernel
theorem d_prog_56_method_6_code_8 : decode prog_56_method_6_code 8 = .ok (.getstatic 16, 3) := by decide +kernel
theorem d_prog_56_method_6_code_11 : decode prog_56_method_6_code 11 = .ok (.if_acmp .eq 10, 3) := by decide +kernel
theorem d_prog_56_method_6_code_14 : decode prog_56_method_6_code 14 = .ok (.aload_n 0, 1) := by decide +kernel
theorem d_prog_56_method_6_code_15 : decode prog_56_method_6_code 15 = .ok (.getstatic 19, 3) := by decide +kernel
theorem d_prog_56_method_6_code_18 : decode prog_56_method_6_code 18 = .ok (.if_acmp .ne 7, 3) := by decide +kernel
theorem d_prog_56_method_6_code_25 : decode prog_56_method_6_code 25 = .ok (.iconst 0, 1) := by decide +kernel
set_option maxRecDepth 65536 in
set_option maxHeartbeats 40000000 in
theorem rm_p (l : Launch) (Z : State) (a0 : Array Value) (hw : ∀ d ∈ tables_1, d.before a0 Z = true) (ws : List Jvm.Cond) (o0 : Addr) (w_REQUIRE w_VERIFY_CA w_VERIFY_FULL : Addr) (r : Int32) (h0 : Heap) (n0 : Nat) (Z0 : n0 ≤ h0.size) (S_REQUIRE : Sta Z h0 "com/example/osprey/osprey/store/SslMode" "REQUIRE" "Lcom/example/osprey/osprey/store/SslMode;" (.ref w_REQUIRE)) (S_VERIFY_CA : Sta Z h0 "com/example/osprey/osprey/store/SslMode" "VERIFY_CA" "Lcom/example/osprey/osprey/store/SslMode;" (.ref w_VERIFY_CA)) (S_VERIFY_FULL : Sta Z h0 "com/example/osprey/osprey/store/SslMode" "VERIFY_FULL" "Lcom/example/osprey/osprey/store/SslMode;" (.ref w_VERIFY_FULL)) (hres : (if o0 = w_REQUIRE then (1 : Int32) else (if o0 = w_VERIFY_CA then (1 : Int32) else (if o0 = w_VERIFY_FULL then (1 : Int32) else (0 : Int32)))) = r) :
    MetFree l (⟨"com/example/osprey/osprey/store/SslMode", "requiresTls", "()Z"⟩ : MethodName) (head1 (Jvm.Cond.code (⟨"com/example/osprey/osprey/store/SslMode", "requiresTls", "()Z"⟩ : MethodName) prog_56_method_6_code 1 (some .boolean) :: ws) ({ frames := 0, cells := 0, slots := 0, locals := 0 } : Room)) (fun a U => a = #[(.ref o0)] ∧ Z.Warmed39 U.vm ∧ U.heap = h0) (fun _ _ _ _ _ => True) (fun _ U o U' => ∃ v L, o = .returned v ∧ Q_rm_p Z o0 w_REQUIRE w_VERIFY_CA w_VERIFY_FULL r h0 n0 v U'.heap L ∧ FrameEnd U o U' L ({ frames := 0, cells := 0, slots := 0, locals := 0 } : Room).cells ({ frames := 0, cells := 0, slots := 0, locals := 0 } : Room).slots) := by
  refine MetFree.of_bodySF (plainFor_of_name pn_com_example_osprey_osprey_store_SslMode) hisR ?_
  intro p e s m args below meth c s₁ Bd hml0 hP hK
  obtain ⟨rfl, hZ, hh⟩ := hP
  have hx := Bd.exec
  have hby := Bd.bytes
  have hml : c.maxLocals = 1 := hml0
  have hown : s.vm.findClass "com/example/osprey/osprey/store/SslMode" = some m.cls := findClass_of_methodNamed Bd.named
  have hnm := (name_of_methodNamed Bd.named Bd.method).1
  have X0 : Stand p l e ({ frames := 0, cells := 0, slots := 0, locals := 0 } : Room) s m #[(.ref o0)] below meth c s₁ [] 0 0 := Stand.of_body Bd
  have e0 : s₁.heap = h0 := by rw [← hh, Bd.state]; rfl
  have N0 := Fr.nil n0
  have pre0 : ∀ t, Steps p.tables e below (s₁.setTop (mkF m 0 #[.val (.ref o0)] [])) t → Steps p.tables e below (s₁.setTop (entryFrame m #[(.ref o0)] 1)) t := fun t k => castTop (ef_rm_p m o0) k
  obtain ⟨T23, X23, e23, st23⟩ := getS2 X0 hx hZ hown (host := "") (Or.inl (hw _ (List.mem_of_getElem? (i := 13) rfl))) Via.refl e0 S_REQUIRE (g := (mkF m 1 #[.val (.ref o0)] [(.ref o0)])) rfl (hb hby d_prog_56_method_6_code_1)
  have pre24 : ∀ t, Steps p.tables e below (T23.setTop (mkF m 4 #[.val (.ref o0)] [(.ref w_REQUIRE), (.ref o0)])) t → Steps p.tables e below (s₁.setTop (entryFrame m #[(.ref o0)] 1)) t := by
    intro t kt
    refine pre0 t ?_
    show Steps p.tables e below (s₁.setTop (mkF m 0 #[.val (.ref o0)] [])) _
    refine XS.aloadN X0.here hx rfl (hb hby d_prog_56_method_6_code_0) rfl rfl ?_
    show Steps p.tables e below (s₁.setTop (mkF m 1 #[.val (.ref o0)] [(.ref o0)])) _
    refine st23 _ ?_
    exact kt
  by_cases ha4_25 : o0 = w_REQUIRE
  · have pre26 : ∀ t, Steps p.tables e below (T23.setTop (mkF m 26 #[.val (.ref o0)] [(.int (1 : Int32))])) t → Steps p.tables e below (s₁.setTop (entryFrame m #[(.ref o0)] 1)) t := by
      intro t kt
      refine pre24 t ?_
      show Steps p.tables e below (T23.setTop (mkF m 4 #[.val (.ref o0)] [(.ref w_REQUIRE), (.ref o0)])) _
      refine Jvm.RoadKit.acmp (g := (mkF m 4 #[.val (.ref o0)] [(.ref w_REQUIRE), (.ref o0)])) X23 hx rfl rfl rfl (pc0 := 4) (pc' := 21) (same := true) rfl (hb hby d_prog_56_method_6_code_4) rfl (decide_eq_true (congrArg Value.ref ha4_25)) (by decide) (by decide) ?_
      show Steps p.tables e below (T23.setTop (mkF m 21 #[.val (.ref o0)] [])) _
      refine XS.iconst X23.here hx rfl (hb hby d_prog_56_method_6_code_21) ?_
      show Steps p.tables e below (T23.setTop (mkF m 22 #[.val (.ref o0)] [(.int (1 : Int32))])) _
      refine XS.goto X23.here hx rfl (pc0 := 22) (pc' := 26) rfl (hb hby d_prog_56_method_6_code_22) (by decide) (by decide) ?_
      exact kt
    obtain ⟨fs, hr, hrun, hended, hW, hsame⟩ := X23.leave (v := some (.int (1 : Int32))) (fun h => by rw [Bd.returns] at h; cases h)
    refine ⟨_, _, pre26 _ ?_, hrun, hended, _, _, rfl, ?_, ⟨_, rfl⟩, hW, hsame.mono (by decide) (by decide)⟩
    · show Steps p.tables e below (T23.setTop (mkF m 26 #[.val (.ref o0)] [(.int (1 : Int32))])) _
      exact retN X23 hx (t := .boolean) Bd.returns (by simp) (hb hby d_prog_56_method_6_code_26) hr
    · show Q_rm_p Z o0 w_REQUIRE w_VERIFY_CA w_VERIFY_FULL r h0 n0 _ T23.heap _
      rw [e23]
      exact ⟨by rw [← hres]; simp [ha4_25], N0, rfl⟩
  · obtain ⟨T27, X27, e27, st27⟩ := getS2 X23 hx hZ hown (host := "") (Or.inl (hw _ (List.mem_of_getElem? (i := 15) rfl))) Via.refl e23 S_VERIFY_CA (g := (mkF m 8 #[.val (.ref o0)] [(.ref o0)])) rfl (hb hby d_prog_56_method_6_code_8)
    have pre28 : ∀ t, Steps p.tables e below (T27.setTop (mkF m 11 #[.val (.ref o0)] [(.ref w_VERIFY_CA), (.ref o0)])) t → Steps p.tables e below (s₁.setTop (entryFrame m #[(.ref o0)] 1)) t := by
      intro t kt
      refine pre24 t ?_
      show Steps p.tables e below (T23.setTop (mkF m 4 #[.val (.ref o0)] [(.ref w_REQUIRE), (.ref o0)])) _
      refine Jvm.RoadKit.acmp (g := (mkF m 4 #[.val (.ref o0)] [(.ref w_REQUIRE), (.ref o0)])) X23 hx rfl rfl rfl (pc0 := 4) (pc' := 7) (same := false) rfl (hb hby d_prog_56_method_6_code_4) rfl (decide_eq_false fun q => ha4_25 (Value.ref.inj q)) (by decide) (by decide) ?_
      show Steps p.tables e below (T23.setTop (mkF m 7 #[.val (.ref o0)] [])) _
      refine XS.aloadN X23.here hx rfl (hb hby d_prog_56_method_6_code_7) rfl rfl ?_
      show Steps p.tables e below (T23.setTop (mkF m 8 #[.val (.ref o0)] [(.ref o0)])) _
      refine st27 _ ?_
      exact kt
    by_cases ha11_29 : o0 = w_VERIFY_CA
    · have pre30 : ∀ t, Steps p.tables e below (T27.setTop (mkF m 26 #[.val (.ref o0)] [(.int (1 : Int32))])) t → Steps p.tables e below (s₁.setTop (entryFrame m #[(.ref o0)] 1)) t := by
        intro t kt
        refine pre28 t ?_
        show Steps p.tables e below (T27.setTop (mkF m 11 #[.val (.ref o0)] [(.ref w_VERIFY_CA), (.ref o0)])) _
        refine Jvm.RoadKit.acmp (g := (mkF m 11 #[.val (.ref o0)] [(.ref w_VERIFY_CA), (.ref o0)])) X27 hx rfl rfl rfl (pc0 := 11) (pc' := 21) (same := true) rfl (hb hby d_prog_56_method_6_code_11) rfl (decide_eq_true (congrArg Value.ref ha11_29)) (by decide) (by decide) ?_
        show Steps p.tables e below (T27.setTop (mkF m 21 #[.val (.ref o0)] [])) _
        refine XS.iconst X27.here hx rfl (hb hby d_prog_56_method_6_code_21) ?_
        show Steps p.tables e below (T27.setTop (mkF m 22 #[.val (.ref o0)] [(.int (1 : Int32))])) _
        refine XS.goto X27.here hx rfl (pc0 := 22) (pc' := 26) rfl (hb hby d_prog_56_method_6_code_22) (by decide) (by decide) ?_
        exact kt
      obtain ⟨fs, hr, hrun, hended, hW, hsame⟩ := X27.leave (v := some (.int (1 : Int32))) (fun h => by rw [Bd.returns] at h; cases h)
      refine ⟨_, _, pre30 _ ?_, hrun, hended, _, _, rfl, ?_, ⟨_, rfl⟩, hW, hsame.mono (by decide) (by decide)⟩
      · show Steps p.tables e below (T27.setTop (mkF m 26 #[.val (.ref o0)] [(.int (1 : Int32))])) _
        exact retN X27 hx (t := .boolean) Bd.returns (by simp) (hb hby d_prog_56_method_6_code_26) hr
      · show Q_rm_p Z o0 w_REQUIRE w_VERIFY_CA w_VERIFY_FULL r h0 n0 _ T27.heap _
        rw [e27]
        exact ⟨by rw [← hres]; simp [ha4_25, ha11_29], N0, rfl⟩
    · obtain ⟨T31, X31, e31, st31⟩ := getS2 X27 hx hZ hown (host := "") (Or.inl (hw _ (List.mem_of_getElem? (i := 17) rfl))) Via.refl e27 S_VERIFY_FULL (g := (mkF m 15 #[.val (.ref o0)] [(.ref o0)])) rfl (hb hby d_prog_56_method_6_code_15)
      have pre32 : ∀ t, Steps p.tables e below (T31.setTop (mkF m 18 #[.val (.ref o0)] [(.ref w_VERIFY_FULL), (.ref o0)])) t → Steps p.tables e below (s₁.setTop (entryFrame m #[(.ref o0)] 1)) t := by
        intro t kt
        refine pre28 t ?_
        show Steps p.tables e below (T27.setTop (mkF m 11 #[.val (.ref o0)] [(.ref w_VERIFY_CA), (.ref o0)])) _
        refine Jvm.RoadKit.acmp (g := (mkF m 11 #[.val (.ref o0)] [(.ref w_VERIFY_CA), (.ref o0)])) X27 hx rfl rfl rfl (pc0 := 11) (pc' := 14) (same := false) rfl (hb hby d_prog_56_method_6_code_11) rfl (decide_eq_false fun q => ha11_29 (Value.ref.inj q)) (by decide) (by decide) ?_
        show Steps p.tables e below (T27.setTop (mkF m 14 #[.val (.ref o0)] [])) _
        refine XS.aloadN X27.here hx rfl (hb hby d_prog_56_method_6_code_14) rfl rfl ?_
        show Steps p.tables e below (T27.setTop (mkF m 15 #[.val (.ref o0)] [(.ref o0)])) _
        refine st31 _ ?_
        exact kt
      by_cases ha18_33 : o0 = w_VERIFY_FULL
      · have pre34 : ∀ t, Steps p.tables e below (T31.setTop (mkF m 26 #[.val (.ref o0)] [(.int (1 : Int32))])) t → Steps p.tables e below (s₁.setTop (entryFrame m #[(.ref o0)] 1)) t := by
          intro t kt
          refine pre32 t ?_
          show Steps p.tables e below (T31.setTop (mkF m 18 #[.val (.ref o0)] [(.ref w_VERIFY_FULL), (.ref o0)])) _
          refine Jvm.RoadKit.acmp (g := (mkF m 18 #[.val (.ref o0)] [(.ref w_VERIFY_FULL), (.ref o0)])) X31 hx rfl rfl rfl (pc0 := 18) (pc' := 21) (same := true) rfl (hb hby d_prog_56_method_6_code_18) rfl (decide_eq_true (congrArg Value.ref ha18_33)) (by decide) (by decide) ?_
          show Steps p.tables e below (T31.setTop (mkF m 21 #[.val (.ref o0)] [])) _
          refine XS.iconst X31.here hx rfl (hb hby d_prog_56_method_6_code_21) ?_
          show Steps p.tables e below (T31.setTop (mkF m 22 #[.val (.ref o0)] [(.int (1 : Int32))])) _
          refine XS.goto X31.here hx rfl (pc0 := 22) (pc' := 26) rfl (hb hby d_prog_56_method_6_code_22) (by decide) (by decide) ?_
          exact kt
        obtain ⟨fs, hr, hrun, hended, hW, hsame⟩ := X31.leave (v := some (.int (1 : Int32))) (fun h => by rw [Bd.returns] at h; cases h)
        refine ⟨_, _, pre34 _ ?_, hrun, hended, _, _, rfl, ?_, ⟨_, rfl⟩, hW, hsame.mono (by decide) (by decide)⟩
        · show Steps p.tables e below (T31.setTop (mkF m 26 #[.val (.ref o0)] [(.int (1 : Int32))])) _
          exact retN X31 hx (t := .boolean) Bd.returns (by simp) (hb hby d_prog_56_method_6_code_26) hr
        · show Q_rm_p Z o0 w_REQUIRE w_VERIFY_CA w_VERIFY_FULL r h0 n0 _ T31.heap _
          rw [e31]
          exact ⟨by rw [← hres]; simp [ha4_25, ha11_29, ha18_33], N0, rfl⟩
      · have pre35 : ∀ t, Steps p.tables e below (T31.setTop (mkF m 26 #[.val (.ref o0)] [(.int (0 : Int32))])) t → Steps p.tables e below (s₁.setTop (entryFrame m #[(.ref o0)] 1)) t := by
          intro t kt
          refine pre32 t ?_
          show Steps p.tables e below (T31.setTop (mkF m 18 #[.val (.ref o0)] [(.ref w_VERIFY_FULL), (.ref o0)])) _
          refine Jvm.RoadKit.acmp (g := (mkF m 18 #[.val (.ref o0)] [(.ref w_VERIFY_FULL), (.ref o0)])) X31 hx rfl rfl rfl (pc0 := 18) (pc' := 25) (same := false) rfl (hb hby d_prog_56_method_6_code_18) rfl (decide_eq_false fun q => ha18_33 (Value.ref.inj q)) (by decide) (by decide) ?_
          show Steps p.tables e below (T31.setTop (mkF m 25 #[.val (.ref o0)] [])) _
          refine XS.iconst X31.here hx rfl (hb hby d_prog_56_method_6_code_25) ?_
          exact kt
        obtain ⟨fs, hr, hrun, hended, hW, hsame⟩ := X31.leave (v := some (.int (0 : Int32))) (fun h => by rw [Bd.returns] at h; cases h)
        refine ⟨_, _, pre35 _ ?_, hrun, hended, _, _, rfl, ?_, ⟨_, rfl⟩, hW, hsame.mono (by decide) (by decide)⟩
        · show Steps p.tables e below (T31.setTop (mkF m 26 #[.val (.ref o0)] [(.int (0 : Int32))])) _
          exact retN X31 hx (t := .boolean) Bd.returns (by simp) (hb hby d_prog_56_method_6_code_26) hr
        · show Q_rm_p Z o0 w_REQUIRE w_VERIFY_CA w_VERIFY_FULL r h0 n0 _ T31.heap _
          rw [e31]
          exact ⟨by rw [← hres]; simp [ha4_25, ha11_29, ha18_33], N0, rfl⟩
theorem ef_rm0 (m : MethodId) (p0 : Int32) : entryFrame m #[(.int p0)] maxLocals = mkF m 0 #[.val (.int p0), .unset, .unset, .unset, .unset] [] := by first | (simp [entryFrame, mkF, argsToLocals, Value.category, maxLocals]; done) | rfl
def Q_rm0 (Z : State) (p0 : Int32) (w_DISABLE w_REQUIRE w_VERIFY_CA w_VERIFY_FULL w_PREFER w_ALLOW : Addr)  (h0 : Heap) (n0 : Nat) (v : Option Value) (h : Heap) (L : List Loc) : Prop := v = some (.int 1) ∧ Fr n0 L
theorem pd__I_Lcom_example_osprey_osprey_store_SslMode_ : parseMethodDescriptor "(I)Lcom/example/osprey/osprey/store/SslMode;" = some ⟨[.int], some (.object "com/example/osprey/osprey/store/SslMode")⟩ := by decide +kernel
theorem pd___Z : parseMethodDescriptor "()Z" = some ⟨[], some .boolean⟩ := by decide +kernel
set_option maxRecDepth 65536 in
set_option maxHeartbeats 40000000 in
theorem rm0 (l : Launch) (Z : State) (a0 : Array Value) (hw : ∀ d ∈ tables_1, d.before a0 Z = true) (ws : List Jvm.Cond) (p0 : Int32) (w_DISABLE w_REQUIRE w_VERIFY_CA w_VERIFY_FULL w_PREFER w_ALLOW : Addr)  (h0 : Heap) (n0 : Nat) (Z0 : n0 ≤ h0.size) (S_DISABLE : Sta Z h0 "com/example/osprey/osprey/store/SslMode" "DISABLE" "Lcom/example/osprey/osprey/store/SslMode;" (.ref w_DISABLE)) (E_DISABLE : Exa Z h0 w_DISABLE "com/example/osprey/osprey/store/SslMode") (S_REQUIRE : Sta Z h0 "com/example/osprey/osprey/store/SslMode" "REQUIRE" "Lcom/example/osprey/osprey/store/SslMode;" (.ref w_REQUIRE)) (E_REQUIRE : Exa Z h0 w_REQUIRE "com/example/osprey/osprey/store/SslMode") (S_VERIFY_CA : Sta Z h0 "com/example/osprey/osprey/store/SslMode" "VERIFY_CA" "Lcom/example/osprey/osprey/store/SslMode;" (.ref w_VERIFY_CA)) (E_VERIFY_CA : Exa Z h0 w_VERIFY_CA "com/example/osprey/osprey/store/SslMode") (S_VERIFY_FULL : Sta Z h0 "com/example/osprey/osprey/store/SslMode" "VERIFY_FULL" "Lcom/example/osprey/osprey/store/SslMode;" (.ref w_VERIFY_FULL)) (E_VERIFY_FULL : Exa Z h0 w_VERIFY_FULL "com/example/osprey/osprey/store/SslMode") (S_PREFER : Sta Z h0 "com/example/osprey/osprey/store/SslMode" "PREFER" "Lcom/example/osprey/osprey/store/SslMode;" (.ref w_PREFER)) (E_PREFER : Exa Z h0 w_PREFER "com/example/osprey/osprey/store/SslMode") (S_ALLOW : Sta Z h0 "com/example/osprey/osprey/store/SslMode" "ALLOW" "Lcom/example/osprey/osprey/store/SslMode;" (.ref w_ALLOW)) (E_ALLOW : Exa Z h0 w_ALLOW "com/example/osprey/osprey/store/SslMode") (F_ordinal_DISABLE : Fld Z h0 w_DISABLE "java/lang/Enum" "ordinal" "I" (.int (0 : Int32))) (F_ordinal_REQUIRE : Fld Z h0 w_REQUIRE "java/lang/Enum" "ordinal" "I" (.int (3 : Int32))) (F_ordinal_VERIFY_CA : Fld Z h0 w_VERIFY_CA "java/lang/Enum" "ordinal" "I" (.int (4 : Int32))) (F_ordinal_VERIFY_FULL : Fld Z h0 w_VERIFY_FULL "java/lang/Enum" "ordinal" "I" (.int (5 : Int32))) (F_ordinal_PREFER : Fld Z h0 w_PREFER "java/lang/Enum" "ordinal" "I" (.int (2 : Int32))) (F_ordinal_ALLOW : Fld Z h0 w_ALLOW "java/lang/Enum" "ordinal" "I" (.int (1 : Int32))) :
    MetFree l x (head1 (Jvm.Cond.code x code maxLocals ret :: ws) room_1) (fun a U => a = #[(.int p0)] ∧ Z.Warmed39 U.vm ∧ U.heap = h0) (fun _ _ _ _ _ => True) (fun _ U o U' => ∃ v L, o = .returned v ∧ Q_rm0 Z p0 w_DISABLE w_REQUIRE w_VERIFY_CA w_VERIFY_FULL w_PREFER w_ALLOW h0 n0 v U'.heap L ∧ FrameEnd U o U' L room_1.cells room_1.slots) := by
  refine MetFree.of_bodySF (plainFor_of_name pn_com_example_osprey_osprey_store_SslModeRequiresTlsPinLaw) hisR ?_
  intro p e s m args below meth c s₁ Bd hml0 hP hK
  obtain ⟨rfl, hZ, hh⟩ := hP
  have hx := Bd.exec
  have hby := Bd.bytes
  have hml : c.maxLocals = 5 := hml0
  have hown : s.vm.findClass "com/example/osprey/osprey/store/SslModeRequiresTlsPinLaw" = some m.cls := findClass_of_methodNamed Bd.named
  have hnm := (name_of_methodNamed Bd.named Bd.method).1
  have X0 : Stand p l e room_1 s m #[(.int p0)] below meth c s₁ [] 0 0 := Stand.of_body Bd
  have e0 : s₁.heap = h0 := by rw [← hh, Bd.state]; rfl
  have N0 := Fr.nil n0
  have pre0 : ∀ t, Steps p.tables e below (s₁.setTop (mkF m 0 #[.val (.int p0), .unset, .unset, .unset, .unset] [])) t → Steps p.tables e below (s₁.setTop (entryFrame m #[(.int p0)] maxLocals)) t := fun t k => castTop (ef_rm0 m p0) k
  have ne_DISABLE_REQUIRE : w_DISABLE ≠ w_REQUIRE := Fld.ne F_ordinal_DISABLE F_ordinal_REQUIRE (fun q => absurd (Value.int.inj q) (by decide))
  have ne_DISABLE_VERIFY_CA : w_DISABLE ≠ w_VERIFY_CA := Fld.ne F_ordinal_DISABLE F_ordinal_VERIFY_CA (fun q => absurd (Value.int.inj q) (by decide))
  have ne_DISABLE_VERIFY_FULL : w_DISABLE ≠ w_VERIFY_FULL := Fld.ne F_ordinal_DISABLE F_ordinal_VERIFY_FULL (fun q => absurd (Value.int.inj q) (by decide))
  have ne_DISABLE_PREFER : w_DISABLE ≠ w_PREFER := Fld.ne F_ordinal_DISABLE F_ordinal_PREFER (fun q => absurd (Value.int.inj q) (by decide))
  have ne_DISABLE_ALLOW : w_DISABLE ≠ w_ALLOW := Fld.ne F_ordinal_DISABLE F_ordinal_ALLOW (fun q => absurd (Value.int.inj q) (by decide))
  have ne_REQUIRE_DISABLE : w_REQUIRE ≠ w_DISABLE := Fld.ne F_ordinal_REQUIRE F_ordinal_DISABLE (fun q => absurd (Value.int.inj q) (by decide))
  have ne_REQUIRE_VERIFY_CA : w_REQUIRE ≠ w_VERIFY_CA := Fld.ne F_ordinal_REQUIRE F_ordinal_VERIFY_CA (fun q => absurd (Value.int.inj q) (by decide))
  have ne_REQUIRE_VERIFY_FULL : w_REQUIRE ≠ w_VERIFY_FULL := Fld.ne F_ordinal_REQUIRE F_ordinal_VERIFY_FULL (fun q => absurd (Value.int.inj q) (by decide))
  have ne_REQUIRE_PREFER : w_REQUIRE ≠ w_PREFER := Fld.ne F_ordinal_REQUIRE F_ordinal_PREFER (fun q => absurd (Value.int.inj q) (by decide))
  have ne_REQUIRE_ALLOW : w_REQUIRE ≠ w_ALLOW := Fld.ne F_ordinal_REQUIRE F_ordinal_ALLOW (fun q => absurd (Value.int.inj q) (by decide))
  have ne_VERIFY_CA_DISABLE : w_VERIFY_CA ≠ w_DISABLE := Fld.ne F_ordinal_VERIFY_CA F_ordinal_DISABLE (fun q => absurd (Value.int.inj q) (by decide))
  have ne_VERIFY_CA_REQUIRE : w_VERIFY_CA ≠ w_REQUIRE := Fld.ne F_ordinal_VERIFY_CA F_ordinal_REQUIRE (fun q => absurd (Value.int.inj q) (by decide))
  have ne_VERIFY_CA_VERIFY_FULL : w_VERIFY_CA ≠ w_VERIFY_FULL := Fld.ne F_ordinal_VERIFY_CA F_ordinal_VERIFY_FULL (fun q => absurd (Value.int.inj q) (by decide))
  have ne_VERIFY_CA_PREFER : w_VERIFY_CA ≠ w_PREFER := Fld.ne F_ordinal_VERIFY_CA F_ordinal_PREFER (fun q => absurd (Value.int.inj q) (by decide))
  have ne_VERIFY_CA_ALLOW : w_VERIFY_CA ≠ w_ALLOW := Fld.ne F_ordinal_VERIFY_CA F_ordinal_ALLOW (fun q => absurd (Value.int.inj q) (by decide))
  have ne_VERIFY_FULL_DISABLE : w_VERIFY_FULL ≠ w_DISABLE := Fld.ne F_ordinal_VERIFY_FULL F_ordinal_DISABLE (fun q => absurd (Value.int.inj q) (by decide))
  have ne_VERIFY_FULL_REQUIRE : w_VERIFY_FULL ≠ w_REQUIRE := Fld.ne F_ordinal_VERIFY_FULL F_ordinal_REQUIRE (fun q => absurd (Value.int.inj q) (by decide))
  have ne_VERIFY_FULL_VERIFY_CA : w_VERIFY_FULL ≠ w_VERIFY_CA := Fld.ne F_ordinal_VERIFY_FULL F_ordinal_VERIFY_CA (fun q => absurd (Value.int.inj q) (by decide))
  have ne_VERIFY_FULL_PREFER : w_VERIFY_FULL ≠ w_PREFER := Fld.ne F_ordinal_VERIFY_FULL F_ordinal_PREFER (fun q => absurd (Value.int.inj q) (by decide))
  have ne_VERIFY_FULL_ALLOW : w_VERIFY_FULL ≠ w_ALLOW := Fld.ne F_ordinal_VERIFY_FULL F_ordinal_ALLOW (fun q => absurd (Value.int.inj q) (by decide))
  have ne_PREFER_DISABLE : w_PREFER ≠ w_DISABLE := Fld.ne F_ordinal_PREFER F_ordinal_DISABLE (fun q => absurd (Value.int.inj q) (by decide))
  have ne_PREFER_REQUIRE : w_PREFER ≠ w_REQUIRE := Fld.ne F_ordinal_PREFER F_ordinal_REQUIRE (fun q => absurd (Value.int.inj q) (by decide))
  have ne_PREFER_VERIFY_CA : w_PREFER ≠ w_VERIFY_CA := Fld.ne F_ordinal_PREFER F_ordinal_VERIFY_CA (fun q => absurd (Value.int.inj q) (by decide))
  have ne_PREFER_VERIFY_FULL : w_PREFER ≠ w_VERIFY_FULL := Fld.ne F_ordinal_PREFER F_ordinal_VERIFY_FULL (fun q => absurd (Value.int.inj q) (by decide))
  have ne_PREFER_ALLOW : w_PREFER ≠ w_ALLOW := Fld.ne F_ordinal_PREFER F_ordinal_ALLOW (fun q => absurd (Value.int.inj q) (by decide))
  have ne_ALLOW_DISABLE : w_ALLOW ≠ w_DISABLE := Fld.ne F_ordinal_ALLOW F_ordinal_DISABLE (fun q => absurd (Value.int.inj q) (by decide))
  have ne_ALLOW_REQUIRE : w_ALLOW ≠ w_REQUIRE := Fld.ne F_ordinal_ALLOW F_ordinal_REQUIRE (fun q => absurd (Value.int.inj q) (by decide))
  have ne_ALLOW_VERIFY_CA : w_ALLOW ≠ w_VERIFY_CA := Fld.ne F_ordinal_ALLOW F_ordinal_VERIFY_CA (fun q => absurd (Value.int.inj q) (by decide))
  have ne_ALLOW_VERIFY_FULL : w_ALLOW ≠ w_VERIFY_FULL := Fld.ne F_ordinal_ALLOW F_ordinal_VERIFY_FULL (fun q => absurd (Value.int.inj q) (by decide))
  have ne_ALLOW_PREFER : w_ALLOW ≠ w_PREFER := Fld.ne F_ordinal_ALLOW F_ordinal_PREFER (fun q => absurd (Value.int.inj q) (by decide))
  have pre36 : ∀ t, Steps p.tables e below (s₁.setTop (mkF m 8 #[.val (.int p0), .val (.int ((p0 &&& (2147483647 : Int32)) % (6 : Int32))), .unset, .unset, .unset] [])) t → Steps p.tables e below (s₁.setTop (entryFrame m #[(.int p0)] maxLocals)) t := by
    intro t kt
    refine pre0 t ?_
    show Steps p.tables e below (s₁.setTop (mkF m 0 #[.val (.int p0), .unset, .unset, .unset, .unset] [])) _
    refine XS.iloadN X0.here hx rfl (hb hby at_0) rfl ?_
    show Steps p.tables e below (s₁.setTop (mkF m 1 #[.val (.int p0), .unset, .unset, .unset, .unset] [(.int p0)])) _
    refine X0.ldcInt hx hown (mvT hZ (hw _ (List.mem_of_getElem? (i := 0) rfl))) (g := (mkF m 1 #[.val (.int p0), .unset, .unset, .unset, .unset] [(.int p0)])) rfl (hb hby at_1) _ ?_
    show Steps p.tables e below (s₁.setTop (mkF m 3 #[.val (.int p0), .unset, .unset, .unset, .unset] [(.int (2147483647 : Int32)), (.int p0)])) _
    refine XS.iand X0.here hx rfl (hb hby at_3) rfl ?_
    show Steps p.tables e below (s₁.setTop (mkF m 4 #[.val (.int p0), .unset, .unset, .unset, .unset] [(.int (p0 &&& (2147483647 : Int32)))])) _
    refine XS.bipush X0.here hx rfl (hb hby at_4) ?_
    show Steps p.tables e below (s₁.setTop (mkF m 6 #[.val (.int p0), .unset, .unset, .unset, .unset] [(.int (6 : Int32)), (.int (p0 &&& (2147483647 : Int32)))])) _
    refine iremM X0 hx rfl (hb hby at_6) rfl (by decide) ?_
    show Steps p.tables e below (s₁.setTop (mkF m 7 #[.val (.int p0), .unset, .unset, .unset, .unset] [(.int ((p0 &&& (2147483647 : Int32)) % (6 : Int32)))])) _
    refine XS.istoreN X0.here hx rfl (hb hby at_7) rfl (l' := #[.val (.int p0), .val (.int ((p0 &&& (2147483647 : Int32)) % (6 : Int32))), .unset, .unset, .unset]) rfl ?_
    exact kt
  rcases own_cases6 (own_rem6 p0).1 (own_rem6 p0).2 with hk | hk | hk | hk | hk | hk
  · rw [hk] at pre36
    obtain ⟨_, _, ⟨T37, L37, k37, n37⟩, -, X37, ⟨Lc37, hQ37, l37, y37, z37⟩, st37⟩ := Jvm.LawKit.callS X0 hx (y := (⟨"com/example/osprey/osprey/store/SslModeRequiresTlsPinLaw", "pick", "(I)Lcom/example/osprey/osprey/store/SslMode;"⟩ : MethodName)) hown (mvT hZ (hw _ (List.mem_of_getElem? (i := 1) rfl))) (mvT hZ (hw _ (List.mem_of_getElem? (i := 2) rfl))) (mvT hZ (hw _ (List.mem_of_getElem? (i := 3) rfl))) (mvT hZ (hw _ (List.mem_of_getElem? (i := 4) rfl))) (by decide) (backOf (W := 0) (rm_k l Z a0 hw [] (0 : Int32) w_DISABLE w_ALLOW w_PREFER w_REQUIRE w_VERIFY_CA w_VERIFY_FULL w_DISABLE h0 n0 Z0 S_DISABLE S_ALLOW S_PREFER S_REQUIRE S_VERIFY_CA S_VERIFY_FULL (by simp +decide)) hZ (hw _ (List.mem_of_getElem? (i := 4) rfl)) (hw _ (List.mem_of_getElem? (i := 3) rfl)) (by decide) (by decide)) (g := (mkF m 9 #[.val (.int p0), .val (.int (0 : Int32)), .unset, .unset, .unset] [(.int (0 : Int32))])) rfl (by rw [hml]; rfl) (argsL := [(.int (0 : Int32))]) (rest := []) (lenOf pd__I_Lcom_example_osprey_osprey_store_SslMode_ rfl) rfl (by show 2 * 0 + _ ≤ _; exact Nat.le_of_eq rfl) (hb hby at_9) (fun _ _ => ⟨rfl, e0, (by decide : 0 + 0 ≤ _), (by decide : 0 + 0 ≤ _)⟩)
    dsimp only [Pt.U, Pt.locs, Pt.cells, Pt.slots] at X37 l37 y37 z37 st37 hQ37
    subst l37 y37 z37
    obtain ⟨rfl, N37q, e37⟩ := hQ37
    have N37 := Fr.app N0 N37q
    obtain ⟨cq38, kq38, q38a, q38b, q38c⟩ := isOf hZ e37 E_DISABLE
    obtain ⟨_, _, ⟨T38, L38, k38, n38⟩, -, X38, ⟨Lc38, hQ38, l38, y38, z38⟩, st38⟩ := X37.virtualBack hx (y := (⟨"com/example/osprey/osprey/store/SslMode", "requiresTls", "()Z"⟩ : MethodName)) (z := (⟨"com/example/osprey/osprey/store/SslMode", "requiresTls", "()Z"⟩ : MethodName)) hown (mvT hZ (hw _ (List.mem_of_getElem? (i := 8) rfl))) (mvT hZ (hw _ (List.mem_of_getElem? (i := 9) rfl))) (notFace_of_selects (args := #[]) (mvT hZ (hw _ (List.mem_of_getElem? (i := 11) rfl)))) (mvT hZ (hw _ (List.mem_of_getElem? (i := 11) rfl))) (mvT hZ (hw _ (List.mem_of_getElem? (i := 10) rfl))) (by decide) (backOf (W := 0) (rm_p l Z a0 hw [] w_DISABLE w_REQUIRE w_VERIFY_CA w_VERIFY_FULL (0 : Int32) h0 n0 Z0 S_REQUIRE S_VERIFY_CA S_VERIFY_FULL (by simp [ne_DISABLE_REQUIRE, ne_DISABLE_VERIFY_CA, ne_DISABLE_VERIFY_FULL])) hZ (hw _ (List.mem_of_getElem? (i := 12) rfl)) (hw _ (List.mem_of_getElem? (i := 6) rfl)) (by decide) (by decide)) q38a q38c (g := (mkF m 45 #[.val (.int p0), .val (.int (0 : Int32)), .val (.ref w_DISABLE), .val (.int (1 : Int32)), .val (.int (0 : Int32))] [(.ref w_DISABLE)])) rfl (by rw [hml]; rfl) (Steps.refl _) (argsL := []) (rest := []) (lenOf pd___Z rfl) rfl (by show 2 * 0 + _ ≤ _; exact Nat.le_of_eq rfl) (hb hby at_45) (fun _ _ => ⟨rfl, e37, (by decide : 0 + 0 ≤ _), (by decide : 0 + 0 ≤ _)⟩)
    dsimp only [Pt.U, Pt.locs, Pt.cells, Pt.slots] at X38 l38 y38 z38 st38 hQ38
    subst l38 y38 z38
    obtain ⟨rfl, N38q, e38⟩ := hQ38
    have N38 := Fr.app N37 N38q
    have pre39 : ∀ t, Steps p.tables e below (T38.setTop (mkF m 58 #[.val (.int p0), .val (.int (0 : Int32)), .val (.ref w_DISABLE), .val (.int (1 : Int32)), .val (.int (0 : Int32))] [(.int (1 : Int32))])) t → Steps p.tables e below (s₁.setTop (entryFrame m #[(.int p0)] maxLocals)) t := by
      intro t kt
      refine pre36 t ?_
      show Steps p.tables e below (s₁.setTop (mkF m 8 #[.val (.int p0), .val (.int (0 : Int32)), .unset, .unset, .unset] [])) _
      refine XS.iloadN X0.here hx rfl (hb hby at_8) rfl ?_
      show Steps p.tables e below (s₁.setTop (mkF m 9 #[.val (.int p0), .val (.int (0 : Int32)), .unset, .unset, .unset] [(.int (0 : Int32))])) _
      refine st37 _ ?_
      show Steps p.tables e below (T37.setTop (mkF m 12 #[.val (.int p0), .val (.int (0 : Int32)), .unset, .unset, .unset] [(.ref w_DISABLE)])) _
      refine XS.astoreN X37.here hx rfl (hb hby at_12) rfl rfl (l' := #[.val (.int p0), .val (.int (0 : Int32)), .val (.ref w_DISABLE), .unset, .unset]) rfl ?_
      show Steps p.tables e below (T37.setTop (mkF m 13 #[.val (.int p0), .val (.int (0 : Int32)), .val (.ref w_DISABLE), .unset, .unset] [])) _
      refine XS.iloadN X37.here hx rfl (hb hby at_13) rfl ?_
      show Steps p.tables e below (T37.setTop (mkF m 14 #[.val (.int p0), .val (.int (0 : Int32)), .val (.ref w_DISABLE), .unset, .unset] [(.int (0 : Int32))])) _
      refine XS.ifYes X37.here hx rfl (pc0 := 14) (pc' := 27) rfl (hb hby at_14) rfl ((if0 _ _).trans (teq (by decide : (0 : Int32) = (0 : Int32))).1) (by decide) (by decide) ?_
      show Steps p.tables e below (T37.setTop (mkF m 27 #[.val (.int p0), .val (.int (0 : Int32)), .val (.ref w_DISABLE), .unset, .unset] [])) _
      refine XS.iconst X37.here hx rfl (hb hby at_27) ?_
      show Steps p.tables e below (T37.setTop (mkF m 28 #[.val (.int p0), .val (.int (0 : Int32)), .val (.ref w_DISABLE), .unset, .unset] [(.int (1 : Int32))])) _
      refine XS.goto X37.here hx rfl (pc0 := 28) (pc' := 32) rfl (hb hby at_28) (by decide) (by decide) ?_
      show Steps p.tables e below (T37.setTop (mkF m 32 #[.val (.int p0), .val (.int (0 : Int32)), .val (.ref w_DISABLE), .unset, .unset] [(.int (1 : Int32))])) _
      refine XS.istoreN X37.here hx rfl (hb hby at_32) rfl (l' := #[.val (.int p0), .val (.int (0 : Int32)), .val (.ref w_DISABLE), .val (.int (1 : Int32)), .unset]) rfl ?_
      show Steps p.tables e below (T37.setTop (mkF m 33 #[.val (.int p0), .val (.int (0 : Int32)), .val (.ref w_DISABLE), .val (.int (1 : Int32)), .unset] [])) _
      refine XS.iloadN X37.here hx rfl (hb hby at_33) rfl ?_
      show Steps p.tables e below (T37.setTop (mkF m 34 #[.val (.int p0), .val (.int (0 : Int32)), .val (.ref w_DISABLE), .val (.int (1 : Int32)), .unset] [(.int (1 : Int32))])) _
      refine XS.ifYes X37.here hx rfl (pc0 := 34) (pc' := 41) rfl (hb hby at_34) rfl ((if0 _ _).trans (feq (by decide : ¬ ((1 : Int32) = (0 : Int32)))).2) (by decide) (by decide) ?_
      show Steps p.tables e below (T37.setTop (mkF m 41 #[.val (.int p0), .val (.int (0 : Int32)), .val (.ref w_DISABLE), .val (.int (1 : Int32)), .unset] [])) _
      refine XS.iconst X37.here hx rfl (hb hby at_41) ?_
      show Steps p.tables e below (T37.setTop (mkF m 42 #[.val (.int p0), .val (.int (0 : Int32)), .val (.ref w_DISABLE), .val (.int (1 : Int32)), .unset] [(.int (0 : Int32))])) _
      refine XS.istore X37.here hx rfl (hb hby at_42) rfl (l' := #[.val (.int p0), .val (.int (0 : Int32)), .val (.ref w_DISABLE), .val (.int (1 : Int32)), .val (.int (0 : Int32))]) rfl ?_
      show Steps p.tables e below (T37.setTop (mkF m 44 #[.val (.int p0), .val (.int (0 : Int32)), .val (.ref w_DISABLE), .val (.int (1 : Int32)), .val (.int (0 : Int32))] [])) _
      refine XS.aloadN X37.here hx rfl (hb hby at_44) rfl rfl ?_
      show Steps p.tables e below (T37.setTop (mkF m 45 #[.val (.int p0), .val (.int (0 : Int32)), .val (.ref w_DISABLE), .val (.int (1 : Int32)), .val (.int (0 : Int32))] [(.ref w_DISABLE)])) _
      refine st38.trans ?_
      show Steps p.tables e below (T38.setTop (mkF m 48 #[.val (.int p0), .val (.int (0 : Int32)), .val (.ref w_DISABLE), .val (.int (1 : Int32)), .val (.int (0 : Int32))] [(.int (0 : Int32))])) _
      refine XS.iload X38.here hx rfl (hb hby at_48) rfl ?_
      show Steps p.tables e below (T38.setTop (mkF m 50 #[.val (.int p0), .val (.int (0 : Int32)), .val (.ref w_DISABLE), .val (.int (1 : Int32)), .val (.int (0 : Int32))] [(.int (0 : Int32)), (.int (0 : Int32))])) _
      refine XS.icmpNo X38.here hx rfl (hb hby at_50) rfl (teq (by decide : (0 : Int32) = (0 : Int32))).2 ?_
      show Steps p.tables e below (T38.setTop (mkF m 53 #[.val (.int p0), .val (.int (0 : Int32)), .val (.ref w_DISABLE), .val (.int (1 : Int32)), .val (.int (0 : Int32))] [])) _
      refine XS.iconst X38.here hx rfl (hb hby at_53) ?_
      show Steps p.tables e below (T38.setTop (mkF m 54 #[.val (.int p0), .val (.int (0 : Int32)), .val (.ref w_DISABLE), .val (.int (1 : Int32)), .val (.int (0 : Int32))] [(.int (1 : Int32))])) _
      refine XS.goto X38.here hx rfl (pc0 := 54) (pc' := 58) rfl (hb hby at_54) (by decide) (by decide) ?_
      exact kt
    obtain ⟨fs, hr, hrun, hended, hW, hsame⟩ := X38.leave (v := some (.int (1 : Int32))) (fun h => by rw [Bd.returns] at h; cases h)
    refine ⟨_, _, pre39 _ ?_, hrun, hended, _, _, rfl, ?_, ⟨_, rfl⟩, hW, hsame.mono (by decide) (by decide)⟩
    · show Steps p.tables e below (T38.setTop (mkF m 58 #[.val (.int p0), .val (.int (0 : Int32)), .val (.ref w_DISABLE), .val (.int (1 : Int32)), .val (.int (0 : Int32))] [(.int (1 : Int32))])) _
      exact retN X38 hx (t := .boolean) Bd.returns (by simp) (hb hby at_58) hr
    · show Q_rm0 Z p0 w_DISABLE w_REQUIRE w_VERIFY_CA w_VERIFY_FULL w_PREFER w_ALLOW h0 n0 _ T38.heap _
      rw [e38]
      exact ⟨rfl, N38⟩
  · rw [hk] at pre36
    obtain ⟨_, _, ⟨T40, L40, k40, n40⟩, -, X40, ⟨Lc40, hQ40, l40, y40, z40⟩, st40⟩ := Jvm.LawKit.callS X0 hx (y := (⟨"com/example/osprey/osprey/store/SslModeRequiresTlsPinLaw", "pick", "(I)Lcom/example/osprey/osprey/store/SslMode;"⟩ : MethodName)) hown (mvT hZ (hw _ (List.mem_of_getElem? (i := 1) rfl))) (mvT hZ (hw _ (List.mem_of_getElem? (i := 2) rfl))) (mvT hZ (hw _ (List.mem_of_getElem? (i := 3) rfl))) (mvT hZ (hw _ (List.mem_of_getElem? (i := 4) rfl))) (by decide) (backOf (W := 0) (rm_k l Z a0 hw [] (1 : Int32) w_DISABLE w_ALLOW w_PREFER w_REQUIRE w_VERIFY_CA w_VERIFY_FULL w_ALLOW h0 n0 Z0 S_DISABLE S_ALLOW S_PREFER S_REQUIRE S_VERIFY_CA S_VERIFY_FULL (by simp +decide)) hZ (hw _ (List.mem_of_getElem? (i := 4) rfl)) (hw _ (List.mem_of_getElem? (i := 3) rfl)) (by decide) (by decide)) (g := (mkF m 9 #[.val (.int p0), .val (.int (1 : Int32)), .unset, .unset, .unset] [(.int (1 : Int32))])) rfl (by rw [hml]; rfl) (argsL := [(.int (1 : Int32))]) (rest := []) (lenOf pd__I_Lcom_example_osprey_osprey_store_SslMode_ rfl) rfl (by show 2 * 0 + _ ≤ _; exact Nat.le_of_eq rfl) (hb hby at_9) (fun _ _ => ⟨rfl, e0, (by decide : 0 + 0 ≤ _), (by decide : 0 + 0 ≤ _)⟩)
    dsimp only [Pt.U, Pt.locs, Pt.cells, Pt.slots] at X40 l40 y40 z40 st40 hQ40
    subst l40 y40 z40
    obtain ⟨rfl, N40q, e40⟩ := hQ40
    have N40 := Fr.app N0 N40q
    obtain ⟨cq41, kq41, q41a, q41b, q41c⟩ := isOf hZ e40 E_ALLOW
    obtain ⟨_, _, ⟨T41, L41, k41, n41⟩, -, X41, ⟨Lc41, hQ41, l41, y41, z41⟩, st41⟩ := X40.virtualBack hx (y := (⟨"com/example/osprey/osprey/store/SslMode", "requiresTls", "()Z"⟩ : MethodName)) (z := (⟨"com/example/osprey/osprey/store/SslMode", "requiresTls", "()Z"⟩ : MethodName)) hown (mvT hZ (hw _ (List.mem_of_getElem? (i := 8) rfl))) (mvT hZ (hw _ (List.mem_of_getElem? (i := 9) rfl))) (notFace_of_selects (args := #[]) (mvT hZ (hw _ (List.mem_of_getElem? (i := 11) rfl)))) (mvT hZ (hw _ (List.mem_of_getElem? (i := 11) rfl))) (mvT hZ (hw _ (List.mem_of_getElem? (i := 10) rfl))) (by decide) (backOf (W := 0) (rm_p l Z a0 hw [] w_ALLOW w_REQUIRE w_VERIFY_CA w_VERIFY_FULL (0 : Int32) h0 n0 Z0 S_REQUIRE S_VERIFY_CA S_VERIFY_FULL (by simp [ne_ALLOW_REQUIRE, ne_ALLOW_VERIFY_CA, ne_ALLOW_VERIFY_FULL])) hZ (hw _ (List.mem_of_getElem? (i := 12) rfl)) (hw _ (List.mem_of_getElem? (i := 6) rfl)) (by decide) (by decide)) q41a q41c (g := (mkF m 45 #[.val (.int p0), .val (.int (1 : Int32)), .val (.ref w_ALLOW), .val (.int (1 : Int32)), .val (.int (0 : Int32))] [(.ref w_ALLOW)])) rfl (by rw [hml]; rfl) (Steps.refl _) (argsL := []) (rest := []) (lenOf pd___Z rfl) rfl (by show 2 * 0 + _ ≤ _; exact Nat.le_of_eq rfl) (hb hby at_45) (fun _ _ => ⟨rfl, e40, (by decide : 0 + 0 ≤ _), (by decide : 0 + 0 ≤ _)⟩)
    dsimp only [Pt.U, Pt.locs, Pt.cells, Pt.slots] at X41 l41 y41 z41 st41 hQ41
    subst l41 y41 z41
    obtain ⟨rfl, N41q, e41⟩ := hQ41
    have N41 := Fr.app N40 N41q
    have pre42 : ∀ t, Steps p.tables e below (T41.setTop (mkF m 58 #[.val (.int p0), .val (.int (1 : Int32)), .val (.ref w_ALLOW), .val (.int (1 : Int32)), .val (.int (0 : Int32))] [(.int (1 : Int32))])) t → Steps p.tables e below (s₁.setTop (entryFrame m #[(.int p0)] maxLocals)) t := by
      intro t kt
      refine pre36 t ?_
      show Steps p.tables e below (s₁.setTop (mkF m 8 #[.val (.int p0), .val (.int (1 : Int32)), .unset, .unset, .unset] [])) _
      refine XS.iloadN X0.here hx rfl (hb hby at_8) rfl ?_
      show Steps p.tables e below (s₁.setTop (mkF m 9 #[.val (.int p0), .val (.int (1 : Int32)), .unset, .unset, .unset] [(.int (1 : Int32))])) _
      refine st40 _ ?_
      show Steps p.tables e below (T40.setTop (mkF m 12 #[.val (.int p0), .val (.int (1 : Int32)), .unset, .unset, .unset] [(.ref w_ALLOW)])) _
      refine XS.astoreN X40.here hx rfl (hb hby at_12) rfl rfl (l' := #[.val (.int p0), .val (.int (1 : Int32)), .val (.ref w_ALLOW), .unset, .unset]) rfl ?_
      show Steps p.tables e below (T40.setTop (mkF m 13 #[.val (.int p0), .val (.int (1 : Int32)), .val (.ref w_ALLOW), .unset, .unset] [])) _
      refine XS.iloadN X40.here hx rfl (hb hby at_13) rfl ?_
      show Steps p.tables e below (T40.setTop (mkF m 14 #[.val (.int p0), .val (.int (1 : Int32)), .val (.ref w_ALLOW), .unset, .unset] [(.int (1 : Int32))])) _
      refine XS.ifNo X40.here hx rfl (hb hby at_14) rfl ((if0 _ _).trans (feq (by decide : ¬ ((1 : Int32) = (0 : Int32)))).1) ?_
      show Steps p.tables e below (T40.setTop (mkF m 17 #[.val (.int p0), .val (.int (1 : Int32)), .val (.ref w_ALLOW), .unset, .unset] [])) _
      refine XS.iloadN X40.here hx rfl (hb hby at_17) rfl ?_
      show Steps p.tables e below (T40.setTop (mkF m 18 #[.val (.int p0), .val (.int (1 : Int32)), .val (.ref w_ALLOW), .unset, .unset] [(.int (1 : Int32))])) _
      refine XS.iconst X40.here hx rfl (hb hby at_18) ?_
      show Steps p.tables e below (T40.setTop (mkF m 19 #[.val (.int p0), .val (.int (1 : Int32)), .val (.ref w_ALLOW), .unset, .unset] [(.int (1 : Int32)), (.int (1 : Int32))])) _
      refine XS.icmpYes X40.here hx rfl (pc0 := 19) (pc' := 27) rfl (hb hby at_19) rfl (teq (by decide : (1 : Int32) = (1 : Int32))).1 (by decide) (by decide) ?_
      show Steps p.tables e below (T40.setTop (mkF m 27 #[.val (.int p0), .val (.int (1 : Int32)), .val (.ref w_ALLOW), .unset, .unset] [])) _
      refine XS.iconst X40.here hx rfl (hb hby at_27) ?_
      show Steps p.tables e below (T40.setTop (mkF m 28 #[.val (.int p0), .val (.int (1 : Int32)), .val (.ref w_ALLOW), .unset, .unset] [(.int (1 : Int32))])) _
      refine XS.goto X40.here hx rfl (pc0 := 28) (pc' := 32) rfl (hb hby at_28) (by decide) (by decide) ?_
      show Steps p.tables e below (T40.setTop (mkF m 32 #[.val (.int p0), .val (.int (1 : Int32)), .val (.ref w_ALLOW), .unset, .unset] [(.int (1 : Int32))])) _
      refine XS.istoreN X40.here hx rfl (hb hby at_32) rfl (l' := #[.val (.int p0), .val (.int (1 : Int32)), .val (.ref w_ALLOW), .val (.int (1 : Int32)), .unset]) rfl ?_
      show Steps p.tables e below (T40.setTop (mkF m 33 #[.val (.int p0), .val (.int (1 : Int32)), .val (.ref w_ALLOW), .val (.int (1 : Int32)), .unset] [])) _
      refine XS.iloadN X40.here hx rfl (hb hby at_33) rfl ?_
      show Steps p.tables e below (T40.setTop (mkF m 34 #[.val (.int p0), .val (.int (1 : Int32)), .val (.ref w_ALLOW), .val (.int (1 : Int32)), .unset] [(.int (1 : Int32))])) _
      refine XS.ifYes X40.here hx rfl (pc0 := 34) (pc' := 41) rfl (hb hby at_34) rfl ((if0 _ _).trans (feq (by decide : ¬ ((1 : Int32) = (0 : Int32)))).2) (by decide) (by decide) ?_
      show Steps p.tables e below (T40.setTop (mkF m 41 #[.val (.int p0), .val (.int (1 : Int32)), .val (.ref w_ALLOW), .val (.int (1 : Int32)), .unset] [])) _
      refine XS.iconst X40.here hx rfl (hb hby at_41) ?_
      show Steps p.tables e below (T40.setTop (mkF m 42 #[.val (.int p0), .val (.int (1 : Int32)), .val (.ref w_ALLOW), .val (.int (1 : Int32)), .unset] [(.int (0 : Int32))])) _
      refine XS.istore X40.here hx rfl (hb hby at_42) rfl (l' := #[.val (.int p0), .val (.int (1 : Int32)), .val (.ref w_ALLOW), .val (.int (1 : Int32)), .val (.int (0 : Int32))]) rfl ?_
      show Steps p.tables e below (T40.setTop (mkF m 44 #[.val (.int p0), .val (.int (1 : Int32)), .val (.ref w_ALLOW), .val (.int (1 : Int32)), .val (.int (0 : Int32))] [])) _
      refine XS.aloadN X40.here hx rfl (hb hby at_44) rfl rfl ?_
      show Steps p.tables e below (T40.setTop (mkF m 45 #[.val (.int p0), .val (.int (1 : Int32)), .val (.ref w_ALLOW), .val (.int (1 : Int32)), .val (.int (0 : Int32))] [(.ref w_ALLOW)])) _
      refine st41.trans ?_
      show Steps p.tables e below (T41.setTop (mkF m 48 #[.val (.int p0), .val (.int (1 : Int32)), .val (.ref w_ALLOW), .val (.int (1 : Int32)), .val (.int (0 : Int32))] [(.int (0 : Int32))])) _
      refine XS.iload X41.here hx rfl (hb hby at_48) rfl ?_
      show Steps p.tables e below (T41.setTop (mkF m 50 #[.val (.int p0), .val (.int (1 : Int32)), .val (.ref w_ALLOW), .val (.int (1 : Int32)), .val (.int (0 : Int32))] [(.int (0 : Int32)), (.int (0 : Int32))])) _
      refine XS.icmpNo X41.here hx rfl (hb hby at_50) rfl (teq (by decide : (0 : Int32) = (0 : Int32))).2 ?_
      show Steps p.tables e below (T41.setTop (mkF m 53 #[.val (.int p0), .val (.int (1 : Int32)), .val (.ref w_ALLOW), .val (.int (1 : Int32)), .val (.int (0 : Int32))] [])) _
      refine XS.iconst X41.here hx rfl (hb hby at_53) ?_
      show Steps p.tables e below (T41.setTop (mkF m 54 #[.val (.int p0), .val (.int (1 : Int32)), .val (.ref w_ALLOW), .val (.int (1 : Int32)), .val (.int (0 : Int32))] [(.int (1 : Int32))])) _
      refine XS.goto X41.here hx rfl (pc0 := 54) (pc' := 58) rfl (hb hby at_54) (by decide) (by decide) ?_
      exact kt
    obtain ⟨fs, hr, hrun, hended, hW, hsame⟩ := X41.leave (v := some (.int (1 : Int32))) (fun h => by rw [Bd.returns] at h; cases h)
    refine ⟨_, _, pre42 _ ?_, hrun, hended, _, _, rfl, ?_, ⟨_, rfl⟩, hW, hsame.mono (by decide) (by decide)⟩
    · show Steps p.tables e below (T41.setTop (mkF m 58 #[.val (.int p0), .val (.int (1 : Int32)), .val (.ref w_ALLOW), .val (.int (1 : Int32)), .val (.int (0 : Int32))] [(.int (1 : Int32))])) _
      exact retN X41 hx (t := .boolean) Bd.returns (by simp) (hb hby at_58) hr
    · show Q_rm0 Z p0 w_DISABLE w_REQUIRE w_VERIFY_CA w_VERIFY_FULL w_PREFER w_ALLOW h0 n0 _ T41.heap _
      rw [e41]
      exact ⟨rfl, N41⟩
  · rw [hk] at pre36
    obtain ⟨_, _, ⟨T43, L43, k43, n43⟩, -, X43, ⟨Lc43, hQ43, l43, y43, z43⟩, st43⟩ := Jvm.LawKit.callS X0 hx (y := (⟨"com/example/osprey/osprey/store/SslModeRequiresTlsPinLaw", "pick", "(I)Lcom/example/osprey/osprey/store/SslMode;"⟩ : MethodName)) hown (mvT hZ (hw _ (List.mem_of_getElem? (i := 1) rfl))) (mvT hZ (hw _ (List.mem_of_getElem? (i := 2) rfl))) (mvT hZ (hw _ (List.mem_of_getElem? (i := 3) rfl))) (mvT hZ (hw _ (List.mem_of_getElem? (i := 4) rfl))) (by decide) (backOf (W := 0) (rm_k l Z a0 hw [] (2 : Int32) w_DISABLE w_ALLOW w_PREFER w_REQUIRE w_VERIFY_CA w_VERIFY_FULL w_PREFER h0 n0 Z0 S_DISABLE S_ALLOW S_PREFER S_REQUIRE S_VERIFY_CA S_VERIFY_FULL (by simp +decide)) hZ (hw _ (List.mem_of_getElem? (i := 4) rfl)) (hw _ (List.mem_of_getElem? (i := 3) rfl)) (by decide) (by decide)) (g := (mkF m 9 #[.val (.int p0), .val (.int (2 : Int32)), .unset, .unset, .unset] [(.int (2 : Int32))])) rfl (by rw [hml]; rfl) (argsL := [(.int (2 : Int32))]) (rest := []) (lenOf pd__I_Lcom_example_osprey_osprey_store_SslMode_ rfl) rfl (by show 2 * 0 + _ ≤ _; exact Nat.le_of_eq rfl) (hb hby at_9) (fun _ _ => ⟨rfl, e0, (by decide : 0 + 0 ≤ _), (by decide : 0 + 0 ≤ _)⟩)
    dsimp only [Pt.U, Pt.locs, Pt.cells, Pt.slots] at X43 l43 y43 z43 st43 hQ43
    subst l43 y43 z43
    obtain ⟨rfl, N43q, e43⟩ := hQ43
    have N43 := Fr.app N0 N43q
    obtain ⟨cq44, kq44, q44a, q44b, q44c⟩ := isOf hZ e43 E_PREFER
    obtain ⟨_, _, ⟨T44, L44, k44, n44⟩, -, X44, ⟨Lc44, hQ44, l44, y44, z44⟩, st44⟩ := X43.virtualBack hx (y := (⟨"com/example/osprey/osprey/store/SslMode", "requiresTls", "()Z"⟩ : MethodName)) (z := (⟨"com/example/osprey/osprey/store/SslMode", "requiresTls", "()Z"⟩ : MethodName)) hown (mvT hZ (hw _ (List.mem_of_getElem? (i := 8) rfl))) (mvT hZ (hw _ (List.mem_of_getElem? (i := 9) rfl))) (notFace_of_selects (args := #[]) (mvT hZ (hw _ (List.mem_of_getElem? (i := 11) rfl)))) (mvT hZ (hw _ (List.mem_of_getElem? (i := 11) rfl))) (mvT hZ (hw _ (List.mem_of_getElem? (i := 10) rfl))) (by decide) (backOf (W := 0) (rm_p l Z a0 hw [] w_PREFER w_REQUIRE w_VERIFY_CA w_VERIFY_FULL (0 : Int32) h0 n0 Z0 S_REQUIRE S_VERIFY_CA S_VERIFY_FULL (by simp [ne_PREFER_REQUIRE, ne_PREFER_VERIFY_CA, ne_PREFER_VERIFY_FULL])) hZ (hw _ (List.mem_of_getElem? (i := 12) rfl)) (hw _ (List.mem_of_getElem? (i := 6) rfl)) (by decide) (by decide)) q44a q44c (g := (mkF m 45 #[.val (.int p0), .val (.int (2 : Int32)), .val (.ref w_PREFER), .val (.int (1 : Int32)), .val (.int (0 : Int32))] [(.ref w_PREFER)])) rfl (by rw [hml]; rfl) (Steps.refl _) (argsL := []) (rest := []) (lenOf pd___Z rfl) rfl (by show 2 * 0 + _ ≤ _; exact Nat.le_of_eq rfl) (hb hby at_45) (fun _ _ => ⟨rfl, e43, (by decide : 0 + 0 ≤ _), (by decide : 0 + 0 ≤ _)⟩)
    dsimp only [Pt.U, Pt.locs, Pt.cells, Pt.slots] at X44 l44 y44 z44 st44 hQ44
    subst l44 y44 z44
    obtain ⟨rfl, N44q, e44⟩ := hQ44
    have N44 := Fr.app N43 N44q
    have pre45 : ∀ t, Steps p.tables e below (T44.setTop (mkF m 58 #[.val (.int p0), .val (.int (2 : Int32)), .val (.ref w_PREFER), .val (.int (1 : Int32)), .val (.int (0 : Int32))] [(.int (1 : Int32))])) t → Steps p.tables e below (s₁.setTop (entryFrame m #[(.int p0)] maxLocals)) t := by
      intro t kt
      refine pre36 t ?_
      show Steps p.tables e below (s₁.setTop (mkF m 8 #[.val (.int p0), .val (.int (2 : Int32)), .unset, .unset, .unset] [])) _
      refine XS.iloadN X0.here hx rfl (hb hby at_8) rfl ?_
      show Steps p.tables e below (s₁.setTop (mkF m 9 #[.val (.int p0), .val (.int (2 : Int32)), .unset, .unset, .unset] [(.int (2 : Int32))])) _
      refine st43 _ ?_
      show Steps p.tables e below (T43.setTop (mkF m 12 #[.val (.int p0), .val (.int (2 : Int32)), .unset, .unset, .unset] [(.ref w_PREFER)])) _
      refine XS.astoreN X43.here hx rfl (hb hby at_12) rfl rfl (l' := #[.val (.int p0), .val (.int (2 : Int32)), .val (.ref w_PREFER), .unset, .unset]) rfl ?_
      show Steps p.tables e below (T43.setTop (mkF m 13 #[.val (.int p0), .val (.int (2 : Int32)), .val (.ref w_PREFER), .unset, .unset] [])) _
      refine XS.iloadN X43.here hx rfl (hb hby at_13) rfl ?_
      show Steps p.tables e below (T43.setTop (mkF m 14 #[.val (.int p0), .val (.int (2 : Int32)), .val (.ref w_PREFER), .unset, .unset] [(.int (2 : Int32))])) _
      refine XS.ifNo X43.here hx rfl (hb hby at_14) rfl ((if0 _ _).trans (feq (by decide : ¬ ((2 : Int32) = (0 : Int32)))).1) ?_
      show Steps p.tables e below (T43.setTop (mkF m 17 #[.val (.int p0), .val (.int (2 : Int32)), .val (.ref w_PREFER), .unset, .unset] [])) _
      refine XS.iloadN X43.here hx rfl (hb hby at_17) rfl ?_
      show Steps p.tables e below (T43.setTop (mkF m 18 #[.val (.int p0), .val (.int (2 : Int32)), .val (.ref w_PREFER), .unset, .unset] [(.int (2 : Int32))])) _
      refine XS.iconst X43.here hx rfl (hb hby at_18) ?_
      show Steps p.tables e below (T43.setTop (mkF m 19 #[.val (.int p0), .val (.int (2 : Int32)), .val (.ref w_PREFER), .unset, .unset] [(.int (1 : Int32)), (.int (2 : Int32))])) _
      refine XS.icmpNo X43.here hx rfl (hb hby at_19) rfl (feq (by decide : ¬ ((2 : Int32) = (1 : Int32)))).1 ?_
      show Steps p.tables e below (T43.setTop (mkF m 22 #[.val (.int p0), .val (.int (2 : Int32)), .val (.ref w_PREFER), .unset, .unset] [])) _
      refine XS.iloadN X43.here hx rfl (hb hby at_22) rfl ?_
      show Steps p.tables e below (T43.setTop (mkF m 23 #[.val (.int p0), .val (.int (2 : Int32)), .val (.ref w_PREFER), .unset, .unset] [(.int (2 : Int32))])) _
      refine XS.iconst X43.here hx rfl (hb hby at_23) ?_
      show Steps p.tables e below (T43.setTop (mkF m 24 #[.val (.int p0), .val (.int (2 : Int32)), .val (.ref w_PREFER), .unset, .unset] [(.int (2 : Int32)), (.int (2 : Int32))])) _
      refine XS.icmpNo X43.here hx rfl (hb hby at_24) rfl (teq (by decide : (2 : Int32) = (2 : Int32))).2 ?_
      show Steps p.tables e below (T43.setTop (mkF m 27 #[.val (.int p0), .val (.int (2 : Int32)), .val (.ref w_PREFER), .unset, .unset] [])) _
      refine XS.iconst X43.here hx rfl (hb hby at_27) ?_
      show Steps p.tables e below (T43.setTop (mkF m 28 #[.val (.int p0), .val (.int (2 : Int32)), .val (.ref w_PREFER), .unset, .unset] [(.int (1 : Int32))])) _
      refine XS.goto X43.here hx rfl (pc0 := 28) (pc' := 32) rfl (hb hby at_28) (by decide) (by decide) ?_
      show Steps p.tables e below (T43.setTop (mkF m 32 #[.val (.int p0), .val (.int (2 : Int32)), .val (.ref w_PREFER), .unset, .unset] [(.int (1 : Int32))])) _
      refine XS.istoreN X43.here hx rfl (hb hby at_32) rfl (l' := #[.val (.int p0), .val (.int (2 : Int32)), .val (.ref w_PREFER), .val (.int (1 : Int32)), .unset]) rfl ?_
      show Steps p.tables e below (T43.setTop (mkF m 33 #[.val (.int p0), .val (.int (2 : Int32)), .val (.ref w_PREFER), .val (.int (1 : Int32)), .unset] [])) _
      refine XS.iloadN X43.here hx rfl (hb hby at_33) rfl ?_
      show Steps p.tables e below (T43.setTop (mkF m 34 #[.val (.int p0), .val (.int (2 : Int32)), .val (.ref w_PREFER), .val (.int (1 : Int32)), .unset] [(.int (1 : Int32))])) _
      refine XS.ifYes X43.here hx rfl (pc0 := 34) (pc' := 41) rfl (hb hby at_34) rfl ((if0 _ _).trans (feq (by decide : ¬ ((1 : Int32) = (0 : Int32)))).2) (by decide) (by decide) ?_
      show Steps p.tables e below (T43.setTop (mkF m 41 #[.val (.int p0), .val (.int (2 : Int32)), .val (.ref w_PREFER), .val (.int (1 : Int32)), .unset] [])) _
      refine XS.iconst X43.here hx rfl (hb hby at_41) ?_
      show Steps p.tables e below (T43.setTop (mkF m 42 #[.val (.int p0), .val (.int (2 : Int32)), .val (.ref w_PREFER), .val (.int (1 : Int32)), .unset] [(.int (0 : Int32))])) _
      refine XS.istore X43.here hx rfl (hb hby at_42) rfl (l' := #[.val (.int p0), .val (.int (2 : Int32)), .val (.ref w_PREFER), .val (.int (1 : Int32)), .val (.int (0 : Int32))]) rfl ?_
      show Steps p.tables e below (T43.setTop (mkF m 44 #[.val (.int p0), .val (.int (2 : Int32)), .val (.ref w_PREFER), .val (.int (1 : Int32)), .val (.int (0 : Int32))] [])) _
      refine XS.aloadN X43.here hx rfl (hb hby at_44) rfl rfl ?_
      show Steps p.tables e below (T43.setTop (mkF m 45 #[.val (.int p0), .val (.int (2 : Int32)), .val (.ref w_PREFER), .val (.int (1 : Int32)), .val (.int (0 : Int32))] [(.ref w_PREFER)])) _
      refine st44.trans ?_
      show Steps p.tables e below (T44.setTop (mkF m 48 #[.val (.int p0), .val (.int (2 : Int32)), .val (.ref w_PREFER), .val (.int (1 : Int32)), .val (.int (0 : Int32))] [(.int (0 : Int32))])) _
      refine XS.iload X44.here hx rfl (hb hby at_48) rfl ?_
      show Steps p.tables e below (T44.setTop (mkF m 50 #[.val (.int p0), .val (.int (2 : Int32)), .val (.ref w_PREFER), .val (.int (1 : Int32)), .val (.int (0 : Int32))] [(.int (0 : Int32)), (.int (0 : Int32))])) _
      refine XS.icmpNo X44.here hx rfl (hb hby at_50) rfl (teq (by decide : (0 : Int32) = (0 : Int32))).2 ?_
      show Steps p.tables e below (T44.setTop (mkF m 53 #[.val (.int p0), .val (.int (2 : Int32)), .val (.ref w_PREFER), .val (.int (1 : Int32)), .val (.int (0 : Int32))] [])) _
      refine XS.iconst X44.here hx rfl (hb hby at_53) ?_
      show Steps p.tables e below (T44.setTop (mkF m 54 #[.val (.int p0), .val (.int (2 : Int32)), .val (.ref w_PREFER), .val (.int (1 : Int32)), .val (.int (0 : Int32))] [(.int (1 : Int32))])) _
      refine XS.goto X44.here hx rfl (pc0 := 54) (pc' := 58) rfl (hb hby at_54) (by decide) (by decide) ?_
      exact kt
    obtain ⟨fs, hr, hrun, hended, hW, hsame⟩ := X44.leave (v := some (.int (1 : Int32))) (fun h => by rw [Bd.returns] at h; cases h)
    refine ⟨_, _, pre45 _ ?_, hrun, hended, _, _, rfl, ?_, ⟨_, rfl⟩, hW, hsame.mono (by decide) (by decide)⟩
    · show Steps p.tables e below (T44.setTop (mkF m 58 #[.val (.int p0), .val (.int (2 : Int32)), .val (.ref w_PREFER), .val (.int (1 : Int32)), .val (.int (0 : Int32))] [(.int (1 : Int32))])) _
      exact retN X44 hx (t := .boolean) Bd.returns (by simp) (hb hby at_58) hr
    · show Q_rm0 Z p0 w_DISABLE w_REQUIRE w_VERIFY_CA w_VERIFY_FULL w_PREFER w_ALLOW h0 n0 _ T44.heap _
      rw [e44]
      exact ⟨rfl, N44⟩
  · rw [hk] at pre36
    obtain ⟨_, _, ⟨T46, L46, k46, n46⟩, -, X46, ⟨Lc46, hQ46, l46, y46, z46⟩, st46⟩ := Jvm.LawKit.callS X0 hx (y := (⟨"com/example/osprey/osprey/store/SslModeRequiresTlsPinLaw", "pick", "(I)Lcom/example/osprey/osprey/store/SslMode;"⟩ : MethodName)) hown (mvT hZ (hw _ (List.mem_of_getElem? (i := 1) rfl))) (mvT hZ (hw _ (List.mem_of_getElem? (i := 2) rfl))) (mvT hZ (hw _ (List.mem_of_getElem? (i := 3) rfl))) (mvT hZ (hw _ (List.mem_of_getElem? (i := 4) rfl))) (by decide) (backOf (W := 0) (rm_k l Z a0 hw [] (3 : Int32) w_DISABLE w_ALLOW w_PREFER w_REQUIRE w_VERIFY_CA w_VERIFY_FULL w_REQUIRE h0 n0 Z0 S_DISABLE S_ALLOW S_PREFER S_REQUIRE S_VERIFY_CA S_VERIFY_FULL (by simp +decide)) hZ (hw _ (List.mem_of_getElem? (i := 4) rfl)) (hw _ (List.mem_of_getElem? (i := 3) rfl)) (by decide) (by decide)) (g := (mkF m 9 #[.val (.int p0), .val (.int (3 : Int32)), .unset, .unset, .unset] [(.int (3 : Int32))])) rfl (by rw [hml]; rfl) (argsL := [(.int (3 : Int32))]) (rest := []) (lenOf pd__I_Lcom_example_osprey_osprey_store_SslMode_ rfl) rfl (by show 2 * 0 + _ ≤ _; exact Nat.le_of_eq rfl) (hb hby at_9) (fun _ _ => ⟨rfl, e0, (by decide : 0 + 0 ≤ _), (by decide : 0 + 0 ≤ _)⟩)
    dsimp only [Pt.U, Pt.locs, Pt.cells, Pt.slots] at X46 l46 y46 z46 st46 hQ46
    subst l46 y46 z46
    obtain ⟨rfl, N46q, e46⟩ := hQ46
    have N46 := Fr.app N0 N46q
    obtain ⟨cq47, kq47, q47a, q47b, q47c⟩ := isOf hZ e46 E_REQUIRE
    obtain ⟨_, _, ⟨T47, L47, k47, n47⟩, -, X47, ⟨Lc47, hQ47, l47, y47, z47⟩, st47⟩ := X46.virtualBack hx (y := (⟨"com/example/osprey/osprey/store/SslMode", "requiresTls", "()Z"⟩ : MethodName)) (z := (⟨"com/example/osprey/osprey/store/SslMode", "requiresTls", "()Z"⟩ : MethodName)) hown (mvT hZ (hw _ (List.mem_of_getElem? (i := 8) rfl))) (mvT hZ (hw _ (List.mem_of_getElem? (i := 9) rfl))) (notFace_of_selects (args := #[]) (mvT hZ (hw _ (List.mem_of_getElem? (i := 11) rfl)))) (mvT hZ (hw _ (List.mem_of_getElem? (i := 11) rfl))) (mvT hZ (hw _ (List.mem_of_getElem? (i := 10) rfl))) (by decide) (backOf (W := 0) (rm_p l Z a0 hw [] w_REQUIRE w_REQUIRE w_VERIFY_CA w_VERIFY_FULL (1 : Int32) h0 n0 Z0 S_REQUIRE S_VERIFY_CA S_VERIFY_FULL (by simp [ne_REQUIRE_VERIFY_CA, ne_REQUIRE_VERIFY_FULL])) hZ (hw _ (List.mem_of_getElem? (i := 12) rfl)) (hw _ (List.mem_of_getElem? (i := 6) rfl)) (by decide) (by decide)) q47a q47c (g := (mkF m 45 #[.val (.int p0), .val (.int (3 : Int32)), .val (.ref w_REQUIRE), .val (.int (0 : Int32)), .val (.int (1 : Int32))] [(.ref w_REQUIRE)])) rfl (by rw [hml]; rfl) (Steps.refl _) (argsL := []) (rest := []) (lenOf pd___Z rfl) rfl (by show 2 * 0 + _ ≤ _; exact Nat.le_of_eq rfl) (hb hby at_45) (fun _ _ => ⟨rfl, e46, (by decide : 0 + 0 ≤ _), (by decide : 0 + 0 ≤ _)⟩)
    dsimp only [Pt.U, Pt.locs, Pt.cells, Pt.slots] at X47 l47 y47 z47 st47 hQ47
    subst l47 y47 z47
    obtain ⟨rfl, N47q, e47⟩ := hQ47
    have N47 := Fr.app N46 N47q
    have pre48 : ∀ t, Steps p.tables e below (T47.setTop (mkF m 58 #[.val (.int p0), .val (.int (3 : Int32)), .val (.ref w_REQUIRE), .val (.int (0 : Int32)), .val (.int (1 : Int32))] [(.int (1 : Int32))])) t → Steps p.tables e below (s₁.setTop (entryFrame m #[(.int p0)] maxLocals)) t := by
      intro t kt
      refine pre36 t ?_
      show Steps p.tables e below (s₁.setTop (mkF m 8 #[.val (.int p0), .val (.int (3 : Int32)), .unset, .unset, .unset] [])) _
      refine XS.iloadN X0.here hx rfl (hb hby at_8) rfl ?_
      show Steps p.tables e below (s₁.setTop (mkF m 9 #[.val (.int p0), .val (.int (3 : Int32)), .unset, .unset, .unset] [(.int (3 : Int32))])) _
      refine st46 _ ?_
      show Steps p.tables e below (T46.setTop (mkF m 12 #[.val (.int p0), .val (.int (3 : Int32)), .unset, .unset, .unset] [(.ref w_REQUIRE)])) _
      refine XS.astoreN X46.here hx rfl (hb hby at_12) rfl rfl (l' := #[.val (.int p0), .val (.int (3 : Int32)), .val (.ref w_REQUIRE), .unset, .unset]) rfl ?_
      show Steps p.tables e below (T46.setTop (mkF m 13 #[.val (.int p0), .val (.int (3 : Int32)), .val (.ref w_REQUIRE), .unset, .unset] [])) _
      refine XS.iloadN X46.here hx rfl (hb hby at_13) rfl ?_
      show Steps p.tables e below (T46.setTop (mkF m 14 #[.val (.int p0), .val (.int (3 : Int32)), .val (.ref w_REQUIRE), .unset, .unset] [(.int (3 : Int32))])) _
      refine XS.ifNo X46.here hx rfl (hb hby at_14) rfl ((if0 _ _).trans (feq (by decide : ¬ ((3 : Int32) = (0 : Int32)))).1) ?_
      show Steps p.tables e below (T46.setTop (mkF m 17 #[.val (.int p0), .val (.int (3 : Int32)), .val (.ref w_REQUIRE), .unset, .unset] [])) _
      refine XS.iloadN X46.here hx rfl (hb hby at_17) rfl ?_
      show Steps p.tables e below (T46.setTop (mkF m 18 #[.val (.int p0), .val (.int (3 : Int32)), .val (.ref w_REQUIRE), .unset, .unset] [(.int (3 : Int32))])) _
      refine XS.iconst X46.here hx rfl (hb hby at_18) ?_
      show Steps p.tables e below (T46.setTop (mkF m 19 #[.val (.int p0), .val (.int (3 : Int32)), .val (.ref w_REQUIRE), .unset, .unset] [(.int (1 : Int32)), (.int (3 : Int32))])) _
      refine XS.icmpNo X46.here hx rfl (hb hby at_19) rfl (feq (by decide : ¬ ((3 : Int32) = (1 : Int32)))).1 ?_
      show Steps p.tables e below (T46.setTop (mkF m 22 #[.val (.int p0), .val (.int (3 : Int32)), .val (.ref w_REQUIRE), .unset, .unset] [])) _
      refine XS.iloadN X46.here hx rfl (hb hby at_22) rfl ?_
      show Steps p.tables e below (T46.setTop (mkF m 23 #[.val (.int p0), .val (.int (3 : Int32)), .val (.ref w_REQUIRE), .unset, .unset] [(.int (3 : Int32))])) _
      refine XS.iconst X46.here hx rfl (hb hby at_23) ?_
      show Steps p.tables e below (T46.setTop (mkF m 24 #[.val (.int p0), .val (.int (3 : Int32)), .val (.ref w_REQUIRE), .unset, .unset] [(.int (2 : Int32)), (.int (3 : Int32))])) _
      refine XS.icmpYes X46.here hx rfl (pc0 := 24) (pc' := 31) rfl (hb hby at_24) rfl (feq (by decide : ¬ ((3 : Int32) = (2 : Int32)))).2 (by decide) (by decide) ?_
      show Steps p.tables e below (T46.setTop (mkF m 31 #[.val (.int p0), .val (.int (3 : Int32)), .val (.ref w_REQUIRE), .unset, .unset] [])) _
      refine XS.iconst X46.here hx rfl (hb hby at_31) ?_
      show Steps p.tables e below (T46.setTop (mkF m 32 #[.val (.int p0), .val (.int (3 : Int32)), .val (.ref w_REQUIRE), .unset, .unset] [(.int (0 : Int32))])) _
      refine XS.istoreN X46.here hx rfl (hb hby at_32) rfl (l' := #[.val (.int p0), .val (.int (3 : Int32)), .val (.ref w_REQUIRE), .val (.int (0 : Int32)), .unset]) rfl ?_
      show Steps p.tables e below (T46.setTop (mkF m 33 #[.val (.int p0), .val (.int (3 : Int32)), .val (.ref w_REQUIRE), .val (.int (0 : Int32)), .unset] [])) _
      refine XS.iloadN X46.here hx rfl (hb hby at_33) rfl ?_
      show Steps p.tables e below (T46.setTop (mkF m 34 #[.val (.int p0), .val (.int (3 : Int32)), .val (.ref w_REQUIRE), .val (.int (0 : Int32)), .unset] [(.int (0 : Int32))])) _
      refine XS.ifNo X46.here hx rfl (hb hby at_34) rfl ((if0 _ _).trans (teq (by decide : (0 : Int32) = (0 : Int32))).2) ?_
      show Steps p.tables e below (T46.setTop (mkF m 37 #[.val (.int p0), .val (.int (3 : Int32)), .val (.ref w_REQUIRE), .val (.int (0 : Int32)), .unset] [])) _
      refine XS.iconst X46.here hx rfl (hb hby at_37) ?_
      show Steps p.tables e below (T46.setTop (mkF m 38 #[.val (.int p0), .val (.int (3 : Int32)), .val (.ref w_REQUIRE), .val (.int (0 : Int32)), .unset] [(.int (1 : Int32))])) _
      refine XS.goto X46.here hx rfl (pc0 := 38) (pc' := 42) rfl (hb hby at_38) (by decide) (by decide) ?_
      show Steps p.tables e below (T46.setTop (mkF m 42 #[.val (.int p0), .val (.int (3 : Int32)), .val (.ref w_REQUIRE), .val (.int (0 : Int32)), .unset] [(.int (1 : Int32))])) _
      refine XS.istore X46.here hx rfl (hb hby at_42) rfl (l' := #[.val (.int p0), .val (.int (3 : Int32)), .val (.ref w_REQUIRE), .val (.int (0 : Int32)), .val (.int (1 : Int32))]) rfl ?_
      show Steps p.tables e below (T46.setTop (mkF m 44 #[.val (.int p0), .val (.int (3 : Int32)), .val (.ref w_REQUIRE), .val (.int (0 : Int32)), .val (.int (1 : Int32))] [])) _
      refine XS.aloadN X46.here hx rfl (hb hby at_44) rfl rfl ?_
      show Steps p.tables e below (T46.setTop (mkF m 45 #[.val (.int p0), .val (.int (3 : Int32)), .val (.ref w_REQUIRE), .val (.int (0 : Int32)), .val (.int (1 : Int32))] [(.ref w_REQUIRE)])) _
      refine st47.trans ?_
      show Steps p.tables e below (T47.setTop (mkF m 48 #[.val (.int p0), .val (.int (3 : Int32)), .val (.ref w_REQUIRE), .val (.int (0 : Int32)), .val (.int (1 : Int32))] [(.int (1 : Int32))])) _
      refine XS.iload X47.here hx rfl (hb hby at_48) rfl ?_
      show Steps p.tables e below (T47.setTop (mkF m 50 #[.val (.int p0), .val (.int (3 : Int32)), .val (.ref w_REQUIRE), .val (.int (0 : Int32)), .val (.int (1 : Int32))] [(.int (1 : Int32)), (.int (1 : Int32))])) _
      refine XS.icmpNo X47.here hx rfl (hb hby at_50) rfl (teq (by decide : (1 : Int32) = (1 : Int32))).2 ?_
      show Steps p.tables e below (T47.setTop (mkF m 53 #[.val (.int p0), .val (.int (3 : Int32)), .val (.ref w_REQUIRE), .val (.int (0 : Int32)), .val (.int (1 : Int32))] [])) _
      refine XS.iconst X47.here hx rfl (hb hby at_53) ?_
      show Steps p.tables e below (T47.setTop (mkF m 54 #[.val (.int p0), .val (.int (3 : Int32)), .val (.ref w_REQUIRE), .val (.int (0 : Int32)), .val (.int (1 : Int32))] [(.int (1 : Int32))])) _
      refine XS.goto X47.here hx rfl (pc0 := 54) (pc' := 58) rfl (hb hby at_54) (by decide) (by decide) ?_
      exact kt
    obtain ⟨fs, hr, hrun, hended, hW, hsame⟩ := X47.leave (v := some (.int (1 : Int32))) (fun h => by rw [Bd.returns] at h; cases h)
    refine ⟨_, _, pre48 _ ?_, hrun, hended, _, _, rfl, ?_, ⟨_, rfl⟩, hW, hsame.mono (by decide) (by decide)⟩
    · show Steps p.tables e below (T47.setTop (mkF m 58 #[.val (.int p0), .val (.int (3 : Int32)), .val (.ref w_REQUIRE), .val (.int (0 : Int32)), .val (.int (1 : Int32))] [(.int (1 : Int32))])) _
      exact retN X47 hx (t := .boolean) Bd.returns (by simp) (hb hby at_58) hr
    · show Q_rm0 Z p0 w_DISABLE w_REQUIRE w_VERIFY_CA w_VERIFY_FULL w_PREFER w_ALLOW h0 n0 _ T47.heap _
      rw [e47]
      exact ⟨rfl, N47⟩
  · rw [hk] at pre36
    obtain ⟨_, _, ⟨T49, L49, k49, n49⟩, -, X49, ⟨Lc49, hQ49, l49, y49, z49⟩, st49⟩ := Jvm.LawKit.callS X0 hx (y := (⟨"com/example/osprey/osprey/store/SslModeRequiresTlsPinLaw", "pick", "(I)Lcom/example/osprey/osprey/store/SslMode;"⟩ : MethodName)) hown (mvT hZ (hw _ (List.mem_of_getElem? (i := 1) rfl))) (mvT hZ (hw _ (List.mem_of_getElem? (i := 2) rfl))) (mvT hZ (hw _ (List.mem_of_getElem? (i := 3) rfl))) (mvT hZ (hw _ (List.mem_of_getElem? (i := 4) rfl))) (by decide) (backOf (W := 0) (rm_k l Z a0 hw [] (4 : Int32) w_DISABLE w_ALLOW w_PREFER w_REQUIRE w_VERIFY_CA w_VERIFY_FULL w_VERIFY_CA h0 n0 Z0 S_DISABLE S_ALLOW S_PREFER S_REQUIRE S_VERIFY_CA S_VERIFY_FULL (by simp +decide)) hZ (hw _ (List.mem_of_getElem? (i := 4) rfl)) (hw _ (List.mem_of_getElem? (i := 3) rfl)) (by decide) (by decide)) (g := (mkF m 9 #[.val (.int p0), .val (.int (4 : Int32)), .unset, .unset, .unset] [(.int (4 : Int32))])) rfl (by rw [hml]; rfl) (argsL := [(.int (4 : Int32))]) (rest := []) (lenOf pd__I_Lcom_example_osprey_osprey_store_SslMode_ rfl) rfl (by show 2 * 0 + _ ≤ _; exact Nat.le_of_eq rfl) (hb hby at_9) (fun _ _ => ⟨rfl, e0, (by decide : 0 + 0 ≤ _), (by decide : 0 + 0 ≤ _)⟩)
    dsimp only [Pt.U, Pt.locs, Pt.cells, Pt.slots] at X49 l49 y49 z49 st49 hQ49
    subst l49 y49 z49
    obtain ⟨rfl, N49q, e49⟩ := hQ49
    have N49 := Fr.app N0 N49q
    obtain ⟨cq50, kq50, q50a, q50b, q50c⟩ := isOf hZ e49 E_VERIFY_CA
    obtain ⟨_, _, ⟨T50, L50, k50, n50⟩, -, X50, ⟨Lc50, hQ50, l50, y50, z50⟩, st50⟩ := X49.virtualBack hx (y := (⟨"com/example/osprey/osprey/store/SslMode", "requiresTls", "()Z"⟩ : MethodName)) (z := (⟨"com/example/osprey/osprey/store/SslMode", "requiresTls", "()Z"⟩ : MethodName)) hown (mvT hZ (hw _ (List.mem_of_getElem? (i := 8) rfl))) (mvT hZ (hw _ (List.mem_of_getElem? (i := 9) rfl))) (notFace_of_selects (args := #[]) (mvT hZ (hw _ (List.mem_of_getElem? (i := 11) rfl)))) (mvT hZ (hw _ (List.mem_of_getElem? (i := 11) rfl))) (mvT hZ (hw _ (List.mem_of_getElem? (i := 10) rfl))) (by decide) (backOf (W := 0) (rm_p l Z a0 hw [] w_VERIFY_CA w_REQUIRE w_VERIFY_CA w_VERIFY_FULL (1 : Int32) h0 n0 Z0 S_REQUIRE S_VERIFY_CA S_VERIFY_FULL (by simp [ne_VERIFY_CA_REQUIRE, ne_VERIFY_CA_VERIFY_FULL])) hZ (hw _ (List.mem_of_getElem? (i := 12) rfl)) (hw _ (List.mem_of_getElem? (i := 6) rfl)) (by decide) (by decide)) q50a q50c (g := (mkF m 45 #[.val (.int p0), .val (.int (4 : Int32)), .val (.ref w_VERIFY_CA), .val (.int (0 : Int32)), .val (.int (1 : Int32))] [(.ref w_VERIFY_CA)])) rfl (by rw [hml]; rfl) (Steps.refl _) (argsL := []) (rest := []) (lenOf pd___Z rfl) rfl (by show 2 * 0 + _ ≤ _; exact Nat.le_of_eq rfl) (hb hby at_45) (fun _ _ => ⟨rfl, e49, (by decide : 0 + 0 ≤ _), (by decide : 0 + 0 ≤ _)⟩)
    dsimp only [Pt.U, Pt.locs, Pt.cells, Pt.slots] at X50 l50 y50 z50 st50 hQ50
    subst l50 y50 z50
    obtain ⟨rfl, N50q, e50⟩ := hQ50
    have N50 := Fr.app N49 N50q
    have pre51 : ∀ t, Steps p.tables e below (T50.setTop (mkF m 58 #[.val (.int p0), .val (.int (4 : Int32)), .val (.ref w_VERIFY_CA), .val (.int (0 : Int32)), .val (.int (1 : Int32))] [(.int (1 : Int32))])) t → Steps p.tables e below (s₁.setTop (entryFrame m #[(.int p0)] maxLocals)) t := by
      intro t kt
      refine pre36 t ?_
      show Steps p.tables e below (s₁.setTop (mkF m 8 #[.val (.int p0), .val (.int (4 : Int32)), .unset, .unset, .unset] [])) _
      refine XS.iloadN X0.here hx rfl (hb hby at_8) rfl ?_
      show Steps p.tables e below (s₁.setTop (mkF m 9 #[.val (.int p0), .val (.int (4 : Int32)), .unset, .unset, .unset] [(.int (4 : Int32))])) _
      refine st49 _ ?_
      show Steps p.tables e below (T49.setTop (mkF m 12 #[.val (.int p0), .val (.int (4 : Int32)), .unset, .unset, .unset] [(.ref w_VERIFY_CA)])) _
      refine XS.astoreN X49.here hx rfl (hb hby at_12) rfl rfl (l' := #[.val (.int p0), .val (.int (4 : Int32)), .val (.ref w_VERIFY_CA), .unset, .unset]) rfl ?_
      show Steps p.tables e below (T49.setTop (mkF m 13 #[.val (.int p0), .val (.int (4 : Int32)), .val (.ref w_VERIFY_CA), .unset, .unset] [])) _
      refine XS.iloadN X49.here hx rfl (hb hby at_13) rfl ?_
      show Steps p.tables e below (T49.setTop (mkF m 14 #[.val (.int p0), .val (.int (4 : Int32)), .val (.ref w_VERIFY_CA), .unset, .unset] [(.int (4 : Int32))])) _
      refine XS.ifNo X49.here hx rfl (hb hby at_14) rfl ((if0 _ _).trans (feq (by decide : ¬ ((4 : Int32) = (0 : Int32)))).1) ?_
      show Steps p.tables e below (T49.setTop (mkF m 17 #[.val (.int p0), .val (.int (4 : Int32)), .val (.ref w_VERIFY_CA), .unset, .unset] [])) _
      refine XS.iloadN X49.here hx rfl (hb hby at_17) rfl ?_
      show Steps p.tables e below (T49.setTop (mkF m 18 #[.val (.int p0), .val (.int (4 : Int32)), .val (.ref w_VERIFY_CA), .unset, .unset] [(.int (4 : Int32))])) _
      refine XS.iconst X49.here hx rfl (hb hby at_18) ?_
      show Steps p.tables e below (T49.setTop (mkF m 19 #[.val (.int p0), .val (.int (4 : Int32)), .val (.ref w_VERIFY_CA), .unset, .unset] [(.int (1 : Int32)), (.int (4 : Int32))])) _
      refine XS.icmpNo X49.here hx rfl (hb hby at_19) rfl (feq (by decide : ¬ ((4 : Int32) = (1 : Int32)))).1 ?_
      show Steps p.tables e below (T49.setTop (mkF m 22 #[.val (.int p0), .val (.int (4 : Int32)), .val (.ref w_VERIFY_CA), .unset, .unset] [])) _
      refine XS.iloadN X49.here hx rfl (hb hby at_22) rfl ?_
      show Steps p.tables e below (T49.setTop (mkF m 23 #[.val (.int p0), .val (.int (4 : Int32)), .val (.ref w_VERIFY_CA), .unset, .unset] [(.int (4 : Int32))])) _
      refine XS.iconst X49.here hx rfl (hb hby at_23) ?_
      show Steps p.tables e below (T49.setTop (mkF m 24 #[.val (.int p0), .val (.int (4 : Int32)), .val (.ref w_VERIFY_CA), .unset, .unset] [(.int (2 : Int32)), (.int (4 : Int32))])) _
      refine XS.icmpYes X49.here hx rfl (pc0 := 24) (pc' := 31) rfl (hb hby at_24) rfl (feq (by decide : ¬ ((4 : Int32) = (2 : Int32)))).2 (by decide) (by decide) ?_
      show Steps p.tables e below (T49.setTop (mkF m 31 #[.val (.int p0), .val (.int (4 : Int32)), .val (.ref w_VERIFY_CA), .unset, .unset] [])) _
      refine XS.iconst X49.here hx rfl (hb hby at_31) ?_
      show Steps p.tables e below (T49.setTop (mkF m 32 #[.val (.int p0), .val (.int (4 : Int32)), .val (.ref w_VERIFY_CA), .unset, .unset] [(.int (0 : Int32))])) _
      refine XS.istoreN X49.here hx rfl (hb hby at_32) rfl (l' := #[.val (.int p0), .val (.int (4 : Int32)), .val (.ref w_VERIFY_CA), .val (.int (0 : Int32)), .unset]) rfl ?_
      show Steps p.tables e below (T49.setTop (mkF m 33 #[.val (.int p0), .val (.int (4 : Int32)), .val (.ref w_VERIFY_CA), .val (.int (0 : Int32)), .unset] [])) _
      refine XS.iloadN X49.here hx rfl (hb hby at_33) rfl ?_
      show Steps p.tables e below (T49.setTop (mkF m 34 #[.val (.int p0), .val (.int (4 : Int32)), .val (.ref w_VERIFY_CA), .val (.int (0 : Int32)), .unset] [(.int (0 : Int32))])) _
      refine XS.ifNo X49.here hx rfl (hb hby at_34) rfl ((if0 _ _).trans (teq (by decide : (0 : Int32) = (0 : Int32))).2) ?_
      show Steps p.tables e below (T49.setTop (mkF m 37 #[.val (.int p0), .val (.int (4 : Int32)), .val (.ref w_VERIFY_CA), .val (.int (0 : Int32)), .unset] [])) _
      refine XS.iconst X49.here hx rfl (hb hby at_37) ?_
      show Steps p.tables e below (T49.setTop (mkF m 38 #[.val (.int p0), .val (.int (4 : Int32)), .val (.ref w_VERIFY_CA), .val (.int (0 : Int32)), .unset] [(.int (1 : Int32))])) _
      refine XS.goto X49.here hx rfl (pc0 := 38) (pc' := 42) rfl (hb hby at_38) (by decide) (by decide) ?_
      show Steps p.tables e below (T49.setTop (mkF m 42 #[.val (.int p0), .val (.int (4 : Int32)), .val (.ref w_VERIFY_CA), .val (.int (0 : Int32)), .unset] [(.int (1 : Int32))])) _
      refine XS.istore X49.here hx rfl (hb hby at_42) rfl (l' := #[.val (.int p0), .val (.int (4 : Int32)), .val (.ref w_VERIFY_CA), .val (.int (0 : Int32)), .val (.int (1 : Int32))]) rfl ?_
      show Steps p.tables e below (T49.setTop (mkF m 44 #[.val (.int p0), .val (.int (4 : Int32)), .val (.ref w_VERIFY_CA), .val (.int (0 : Int32)), .val (.int (1 : Int32))] [])) _
      refine XS.aloadN X49.here hx rfl (hb hby at_44) rfl rfl ?_
      show Steps p.tables e below (T49.setTop (mkF m 45 #[.val (.int p0), .val (.int (4 : Int32)), .val (.ref w_VERIFY_CA), .val (.int (0 : Int32)), .val (.int (1 : Int32))] [(.ref w_VERIFY_CA)])) _
      refine st50.trans ?_
      show Steps p.tables e below (T50.setTop (mkF m 48 #[.val (.int p0), .val (.int (4 : Int32)), .val (.ref w_VERIFY_CA), .val (.int (0 : Int32)), .val (.int (1 : Int32))] [(.int (1 : Int32))])) _
      refine XS.iload X50.here hx rfl (hb hby at_48) rfl ?_
      show Steps p.tables e below (T50.setTop (mkF m 50 #[.val (.int p0), .val (.int (4 : Int32)), .val (.ref w_VERIFY_CA), .val (.int (0 : Int32)), .val (.int (1 : Int32))] [(.int (1 : Int32)), (.int (1 : Int32))])) _
      refine XS.icmpNo X50.here hx rfl (hb hby at_50) rfl (teq (by decide : (1 : Int32) = (1 : Int32))).2 ?_
      show Steps p.tables e below (T50.setTop (mkF m 53 #[.val (.int p0), .val (.int (4 : Int32)), .val (.ref w_VERIFY_CA), .val (.int (0 : Int32)), .val (.int (1 : Int32))] [])) _
      refine XS.iconst X50.here hx rfl (hb hby at_53) ?_
      show Steps p.tables e below (T50.setTop (mkF m 54 #[.val (.int p0), .val (.int (4 : Int32)), .val (.ref w_VERIFY_CA), .val (.int (0 : Int32)), .val (.int (1 : Int32))] [(.int (1 : Int32))])) _
      refine XS.goto X50.here hx rfl (pc0 := 54) (pc' := 58) rfl (hb hby at_54) (by decide) (by decide) ?_
      exact kt
    obtain ⟨fs, hr, hrun, hended, hW, hsame⟩ := X50.leave (v := some (.int (1 : Int32))) (fun h => by rw [Bd.returns] at h; cases h)
    refine ⟨_, _, pre51 _ ?_, hrun, hended, _, _, rfl, ?_, ⟨_, rfl⟩, hW, hsame.mono (by decide) (by decide)⟩
    · show Steps p.tables e below (T50.setTop (mkF m 58 #[.val (.int p0), .val (.int (4 : Int32)), .val (.ref w_VERIFY_CA), .val (.int (0 : Int32)), .val (.int (1 : Int32))] [(.int (1 : Int32))])) _
      exact retN X50 hx (t := .boolean) Bd.returns (by simp) (hb hby at_58) hr
    · show Q_rm0 Z p0 w_DISABLE w_REQUIRE w_VERIFY_CA w_VERIFY_FULL w_PREFER w_ALLOW h0 n0 _ T50.heap _
      rw [e50]
      exact ⟨rfl, N50⟩
  · rw [hk] at pre36
    obtain ⟨_, _, ⟨T52, L52, k52, n52⟩, -, X52, ⟨Lc52, hQ52, l52, y52, z52⟩, st52⟩ := Jvm.LawKit.callS X0 hx (y := (⟨"com/example/osprey/osprey/store/SslModeRequiresTlsPinLaw", "pick", "(I)Lcom/example/osprey/osprey/store/SslMode;"⟩ : MethodName)) hown (mvT hZ (hw _ (List.mem_of_getElem? (i := 1) rfl))) (mvT hZ (hw _ (List.mem_of_getElem? (i := 2) rfl))) (mvT hZ (hw _ (List.mem_of_getElem? (i := 3) rfl))) (mvT hZ (hw _ (List.mem_of_getElem? (i := 4) rfl))) (by decide) (backOf (W := 0) (rm_k l Z a0 hw [] (5 : Int32) w_DISABLE w_ALLOW w_PREFER w_REQUIRE w_VERIFY_CA w_VERIFY_FULL w_VERIFY_FULL h0 n0 Z0 S_DISABLE S_ALLOW S_PREFER S_REQUIRE S_VERIFY_CA S_VERIFY_FULL (by simp +decide)) hZ (hw _ (List.mem_of_getElem? (i := 4) rfl)) (hw _ (List.mem_of_getElem? (i := 3) rfl)) (by decide) (by decide)) (g := (mkF m 9 #[.val (.int p0), .val (.int (5 : Int32)), .unset, .unset, .unset] [(.int (5 : Int32))])) rfl (by rw [hml]; rfl) (argsL := [(.int (5 : Int32))]) (rest := []) (lenOf pd__I_Lcom_example_osprey_osprey_store_SslMode_ rfl) rfl (by show 2 * 0 + _ ≤ _; exact Nat.le_of_eq rfl) (hb hby at_9) (fun _ _ => ⟨rfl, e0, (by decide : 0 + 0 ≤ _), (by decide : 0 + 0 ≤ _)⟩)
    dsimp only [Pt.U, Pt.locs, Pt.cells, Pt.slots] at X52 l52 y52 z52 st52 hQ52
    subst l52 y52 z52
    obtain ⟨rfl, N52q, e52⟩ := hQ52
    have N52 := Fr.app N0 N52q
    obtain ⟨cq53, kq53, q53a, q53b, q53c⟩ := isOf hZ e52 E_VERIFY_FULL
    obtain ⟨_, _, ⟨T53, L53, k53, n53⟩, -, X53, ⟨Lc53, hQ53, l53, y53, z53⟩, st53⟩ := X52.virtualBack hx (y := (⟨"com/example/osprey/osprey/store/SslMode", "requiresTls", "()Z"⟩ : MethodName)) (z := (⟨"com/example/osprey/osprey/store/SslMode", "requiresTls", "()Z"⟩ : MethodName)) hown (mvT hZ (hw _ (List.mem_of_getElem? (i := 8) rfl))) (mvT hZ (hw _ (List.mem_of_getElem? (i := 9) rfl))) (notFace_of_selects (args := #[]) (mvT hZ (hw _ (List.mem_of_getElem? (i := 11) rfl)))) (mvT hZ (hw _ (List.mem_of_getElem? (i := 11) rfl))) (mvT hZ (hw _ (List.mem_of_getElem? (i := 10) rfl))) (by decide) (backOf (W := 0) (rm_p l Z a0 hw [] w_VERIFY_FULL w_REQUIRE w_VERIFY_CA w_VERIFY_FULL (1 : Int32) h0 n0 Z0 S_REQUIRE S_VERIFY_CA S_VERIFY_FULL (by simp [ne_VERIFY_FULL_REQUIRE, ne_VERIFY_FULL_VERIFY_CA])) hZ (hw _ (List.mem_of_getElem? (i := 12) rfl)) (hw _ (List.mem_of_getElem? (i := 6) rfl)) (by decide) (by decide)) q53a q53c (g := (mkF m 45 #[.val (.int p0), .val (.int (5 : Int32)), .val (.ref w_VERIFY_FULL), .val (.int (0 : Int32)), .val (.int (1 : Int32))] [(.ref w_VERIFY_FULL)])) rfl (by rw [hml]; rfl) (Steps.refl _) (argsL := []) (rest := []) (lenOf pd___Z rfl) rfl (by show 2 * 0 + _ ≤ _; exact Nat.le_of_eq rfl) (hb hby at_45) (fun _ _ => ⟨rfl, e52, (by decide : 0 + 0 ≤ _), (by decide : 0 + 0 ≤ _)⟩)
    dsimp only [Pt.U, Pt.locs, Pt.cells, Pt.slots] at X53 l53 y53 z53 st53 hQ53
    subst l53 y53 z53
    obtain ⟨rfl, N53q, e53⟩ := hQ53
    have N53 := Fr.app N52 N53q
    have pre54 : ∀ t, Steps p.tables e below (T53.setTop (mkF m 58 #[.val (.int p0), .val (.int (5 : Int32)), .val (.ref w_VERIFY_FULL), .val (.int (0 : Int32)), .val (.int (1 : Int32))] [(.int (1 : Int32))])) t → Steps p.tables e below (s₁.setTop (entryFrame m #[(.int p0)] maxLocals)) t := by
      intro t kt
      refine pre36 t ?_
      show Steps p.tables e below (s₁.setTop (mkF m 8 #[.val (.int p0), .val (.int (5 : Int32)), .unset, .unset, .unset] [])) _
      refine XS.iloadN X0.here hx rfl (hb hby at_8) rfl ?_
      show Steps p.tables e below (s₁.setTop (mkF m 9 #[.val (.int p0), .val (.int (5 : Int32)), .unset, .unset, .unset] [(.int (5 : Int32))])) _
      refine st52 _ ?_
      show Steps p.tables e below (T52.setTop (mkF m 12 #[.val (.int p0), .val (.int (5 : Int32)), .unset, .unset, .unset] [(.ref w_VERIFY_FULL)])) _
      refine XS.astoreN X52.here hx rfl (hb hby at_12) rfl rfl (l' := #[.val (.int p0), .val (.int (5 : Int32)), .val (.ref w_VERIFY_FULL), .unset, .unset]) rfl ?_
      show Steps p.tables e below (T52.setTop (mkF m 13 #[.val (.int p0), .val (.int (5 : Int32)), .val (.ref w_VERIFY_FULL), .unset, .unset] [])) _
      refine XS.iloadN X52.here hx rfl (hb hby at_13) rfl ?_
      show Steps p.tables e below (T52.setTop (mkF m 14 #[.val (.int p0), .val (.int (5 : Int32)), .val (.ref w_VERIFY_FULL), .unset, .unset] [(.int (5 : Int32))])) _
      refine XS.ifNo X52.here hx rfl (hb hby at_14) rfl ((if0 _ _).trans (feq (by decide : ¬ ((5 : Int32) = (0 : Int32)))).1) ?_
      show Steps p.tables e below (T52.setTop (mkF m 17 #[.val (.int p0), .val (.int (5 : Int32)), .val (.ref w_VERIFY_FULL), .unset, .unset] [])) _
      refine XS.iloadN X52.here hx rfl (hb hby at_17) rfl ?_
      show Steps p.tables e below (T52.setTop (mkF m 18 #[.val (.int p0), .val (.int (5 : Int32)), .val (.ref w_VERIFY_FULL), .unset, .unset] [(.int (5 : Int32))])) _
      refine XS.iconst X52.here hx rfl (hb hby at_18) ?_
      show Steps p.tables e below (T52.setTop (mkF m 19 #[.val (.int p0), .val (.int (5 : Int32)), .val (.ref w_VERIFY_FULL), .unset, .unset] [(.int (1 : Int32)), (.int (5 : Int32))])) _
      refine XS.icmpNo X52.here hx rfl (hb hby at_19) rfl (feq (by decide : ¬ ((5 : Int32) = (1 : Int32)))).1 ?_
      show Steps p.tables e below (T52.setTop (mkF m 22 #[.val (.int p0), .val (.int (5 : Int32)), .val (.ref w_VERIFY_FULL), .unset, .unset] [])) _
      refine XS.iloadN X52.here hx rfl (hb hby at_22) rfl ?_
      show Steps p.tables e below (T52.setTop (mkF m 23 #[.val (.int p0), .val (.int (5 : Int32)), .val (.ref w_VERIFY_FULL), .unset, .unset] [(.int (5 : Int32))])) _
      refine XS.iconst X52.here hx rfl (hb hby at_23) ?_
      show Steps p.tables e below (T52.setTop (mkF m 24 #[.val (.int p0), .val (.int (5 : Int32)), .val (.ref w_VERIFY_FULL), .unset, .unset] [(.int (2 : Int32)), (.int (5 : Int32))])) _
      refine XS.icmpYes X52.here hx rfl (pc0 := 24) (pc' := 31) rfl (hb hby at_24) rfl (feq (by decide : ¬ ((5 : Int32) = (2 : Int32)))).2 (by decide) (by decide) ?_
      show Steps p.tables e below (T52.setTop (mkF m 31 #[.val (.int p0), .val (.int (5 : Int32)), .val (.ref w_VERIFY_FULL), .unset, .unset] [])) _
      refine XS.iconst X52.here hx rfl (hb hby at_31) ?_
      show Steps p.tables e below (T52.setTop (mkF m 32 #[.val (.int p0), .val (.int (5 : Int32)), .val (.ref w_VERIFY_FULL), .unset, .unset] [(.int (0 : Int32))])) _
      refine XS.istoreN X52.here hx rfl (hb hby at_32) rfl (l' := #[.val (.int p0), .val (.int (5 : Int32)), .val (.ref w_VERIFY_FULL), .val (.int (0 : Int32)), .unset]) rfl ?_
      show Steps p.tables e below (T52.setTop (mkF m 33 #[.val (.int p0), .val (.int (5 : Int32)), .val (.ref w_VERIFY_FULL), .val (.int (0 : Int32)), .unset] [])) _
      refine XS.iloadN X52.here hx rfl (hb hby at_33) rfl ?_
      show Steps p.tables e below (T52.setTop (mkF m 34 #[.val (.int p0), .val (.int (5 : Int32)), .val (.ref w_VERIFY_FULL), .val (.int (0 : Int32)), .unset] [(.int (0 : Int32))])) _
      refine XS.ifNo X52.here hx rfl (hb hby at_34) rfl ((if0 _ _).trans (teq (by decide : (0 : Int32) = (0 : Int32))).2) ?_
      show Steps p.tables e below (T52.setTop (mkF m 37 #[.val (.int p0), .val (.int (5 : Int32)), .val (.ref w_VERIFY_FULL), .val (.int (0 : Int32)), .unset] [])) _
      refine XS.iconst X52.here hx rfl (hb hby at_37) ?_
      show Steps p.tables e below (T52.setTop (mkF m 38 #[.val (.int p0), .val (.int (5 : Int32)), .val (.ref w_VERIFY_FULL), .val (.int (0 : Int32)), .unset] [(.int (1 : Int32))])) _
      refine XS.goto X52.here hx rfl (pc0 := 38) (pc' := 42) rfl (hb hby at_38) (by decide) (by decide) ?_
      show Steps p.tables e below (T52.setTop (mkF m 42 #[.val (.int p0), .val (.int (5 : Int32)), .val (.ref w_VERIFY_FULL), .val (.int (0 : Int32)), .unset] [(.int (1 : Int32))])) _
      refine XS.istore X52.here hx rfl (hb hby at_42) rfl (l' := #[.val (.int p0), .val (.int (5 : Int32)), .val (.ref w_VERIFY_FULL), .val (.int (0 : Int32)), .val (.int (1 : Int32))]) rfl ?_
      show Steps p.tables e below (T52.setTop (mkF m 44 #[.val (.int p0), .val (.int (5 : Int32)), .val (.ref w_VERIFY_FULL), .val (.int (0 : Int32)), .val (.int (1 : Int32))] [])) _
      refine XS.aloadN X52.here hx rfl (hb hby at_44) rfl rfl ?_
      show Steps p.tables e below (T52.setTop (mkF m 45 #[.val (.int p0), .val (.int (5 : Int32)), .val (.ref w_VERIFY_FULL), .val (.int (0 : Int32)), .val (.int (1 : Int32))] [(.ref w_VERIFY_FULL)])) _
      refine st53.trans ?_
      show Steps p.tables e below (T53.setTop (mkF m 48 #[.val (.int p0), .val (.int (5 : Int32)), .val (.ref w_VERIFY_FULL), .val (.int (0 : Int32)), .val (.int (1 : Int32))] [(.int (1 : Int32))])) _
      refine XS.iload X53.here hx rfl (hb hby at_48) rfl ?_
      show Steps p.tables e below (T53.setTop (mkF m 50 #[.val (.int p0), .val (.int (5 : Int32)), .val (.ref w_VERIFY_FULL), .val (.int (0 : Int32)), .val (.int (1 : Int32))] [(.int (1 : Int32)), (.int (1 : Int32))])) _
      refine XS.icmpNo X53.here hx rfl (hb hby at_50) rfl (teq (by decide : (1 : Int32) = (1 : Int32))).2 ?_
      show Steps p.tables e below (T53.setTop (mkF m 53 #[.val (.int p0), .val (.int (5 : Int32)), .val (.ref w_VERIFY_FULL), .val (.int (0 : Int32)), .val (.int (1 : Int32))] [])) _
      refine XS.iconst X53.here hx rfl (hb hby at_53) ?_
      show Steps p.tables e below (T53.setTop (mkF m 54 #[.val (.int p0), .val (.int (5 : Int32)), .val (.ref w_VERIFY_FULL), .val (.int (0 : Int32)), .val (.int (1 : Int32))] [(.int (1 : Int32))])) _
      refine XS.goto X53.here hx rfl (pc0 := 54) (pc' := 58) rfl (hb hby at_54) (by decide) (by decide) ?_
      exact kt
    obtain ⟨fs, hr, hrun, hended, hW, hsame⟩ := X53.leave (v := some (.int (1 : Int32))) (fun h => by rw [Bd.returns] at h; cases h)
    refine ⟨_, _, pre54 _ ?_, hrun, hended, _, _, rfl, ?_, ⟨_, rfl⟩, hW, hsame.mono (by decide) (by decide)⟩
    · show Steps p.tables e below (T53.setTop (mkF m 58 #[.val (.int p0), .val (.int (5 : Int32)), .val (.ref w_VERIFY_FULL), .val (.int (0 : Int32)), .val (.int (1 : Int32))] [(.int (1 : Int32))])) _
      exact retN X53 hx (t := .boolean) Bd.returns (by simp) (hb hby at_58) hr
    · show Q_rm0 Z p0 w_DISABLE w_REQUIRE w_VERIFY_CA w_VERIFY_FULL w_PREFER w_ALLOW h0 n0 _ T53.heap _
      rw [e53]
      exact ⟨rfl, N53⟩
set_option maxRecDepth 65536 in
set_option maxHeartbeats 40000000 in
theorem comes_1 {Post : Tables → Env → Array Value → State → Outcome → State → Prop} (hpost : ∀ tb e args s v u, (limb_1_1.after args s (.returned v) u = true ∧ limb_1_2.after args s (.returned v) u = true ∧ True) → FrameEnd s (.returned v) u (Jvm.fieldLocs frame_1_writes args s ++ Jvm.arrayLocs frame_1_arrays args s ++ Jvm.staticLocs frame_1_statics s) 0 0 → Post tb e args s (.returned v) u) :
    ArmFor flags0 classFile x code maxLocals ret World_1 tables_1 room_1 Calls_1 rest_1 Pre_1 Post := by
  intro l hfl _ _ p e ha hc hk s m args below hf hA hF happ hP
  obtain ⟨hcalls, hrest, hpre⟩ := hP
  obtain ⟨-, -, -, hnamed, -, -, -, hat⟩ := (Spec.applies_iff hf).mp happ
  obtain ⟨hg, hn⟩ := and_e (Cond.before_iff.mp (show (Jvm.Cond.and given_1 narrow_1).before args s = true from hpre))
  have hw := fun d (hd : d ∈ tables_1) => atoms_spec (ws := Jvm.Cond.code x code maxLocals ret :: tables_1) hat d (List.mem_cons_of_mem _ hd)
  obtain ⟨g1, g2⟩ := and_e hg
  obtain ⟨g3, g4⟩ := and_e hn
  obtain ⟨g5, g6⟩ := and_e g4
  obtain ⟨g7, g8⟩ := and_e g6
  obtain ⟨g9, g10⟩ := and_e g8
  obtain ⟨g11, g12⟩ := and_e g10
  obtain ⟨g13, g14⟩ := and_e g12
  obtain ⟨g15, g16⟩ := and_e g14
  obtain ⟨g17, g18⟩ := and_e g16
  obtain ⟨g19, g20⟩ := and_e g18
  obtain ⟨g21, g22⟩ := and_e g20
  obtain ⟨g23, g24⟩ := and_e g22
  obtain ⟨w_DISABLE, ev_DISABLE⟩ := exa_v g3
  have S_DISABLE : Sta s s.heap "com/example/osprey/osprey/store/SslMode" "DISABLE" "Lcom/example/osprey/osprey/store/SslMode;" (.ref w_DISABLE) := Sta.start ev_DISABLE (Or.inr ⟨(hw _ (List.mem_of_getElem? (i := 6) rfl)), (hw _ (List.mem_of_getElem? (i := 7) rfl))⟩)
  have E_DISABLE := Exa.start ev_DISABLE g3
  obtain ⟨w_REQUIRE, ev_REQUIRE⟩ := exa_v g5
  have S_REQUIRE : Sta s s.heap "com/example/osprey/osprey/store/SslMode" "REQUIRE" "Lcom/example/osprey/osprey/store/SslMode;" (.ref w_REQUIRE) := Sta.start ev_REQUIRE (Or.inr ⟨(hw _ (List.mem_of_getElem? (i := 6) rfl)), (hw _ (List.mem_of_getElem? (i := 14) rfl))⟩)
  have E_REQUIRE := Exa.start ev_REQUIRE g5
  obtain ⟨w_VERIFY_CA, ev_VERIFY_CA⟩ := exa_v g11
  have S_VERIFY_CA : Sta s s.heap "com/example/osprey/osprey/store/SslMode" "VERIFY_CA" "Lcom/example/osprey/osprey/store/SslMode;" (.ref w_VERIFY_CA) := Sta.start ev_VERIFY_CA (Or.inr ⟨(hw _ (List.mem_of_getElem? (i := 6) rfl)), (hw _ (List.mem_of_getElem? (i := 16) rfl))⟩)
  have E_VERIFY_CA := Exa.start ev_VERIFY_CA g11
  obtain ⟨w_VERIFY_FULL, ev_VERIFY_FULL⟩ := exa_v g15
  have S_VERIFY_FULL : Sta s s.heap "com/example/osprey/osprey/store/SslMode" "VERIFY_FULL" "Lcom/example/osprey/osprey/store/SslMode;" (.ref w_VERIFY_FULL) := Sta.start ev_VERIFY_FULL (Or.inr ⟨(hw _ (List.mem_of_getElem? (i := 6) rfl)), (hw _ (List.mem_of_getElem? (i := 18) rfl))⟩)
  have E_VERIFY_FULL := Exa.start ev_VERIFY_FULL g15
  obtain ⟨w_PREFER, ev_PREFER⟩ := exa_v g19
  have S_PREFER : Sta s s.heap "com/example/osprey/osprey/store/SslMode" "PREFER" "Lcom/example/osprey/osprey/store/SslMode;" (.ref w_PREFER) := Sta.start ev_PREFER (Or.inr ⟨(hw _ (List.mem_of_getElem? (i := 6) rfl)), (hw _ (List.mem_of_getElem? (i := 21) rfl))⟩)
  have E_PREFER := Exa.start ev_PREFER g19
  obtain ⟨w_ALLOW, ev_ALLOW⟩ := exa_v g23
  have S_ALLOW : Sta s s.heap "com/example/osprey/osprey/store/SslMode" "ALLOW" "Lcom/example/osprey/osprey/store/SslMode;" (.ref w_ALLOW) := Sta.start ev_ALLOW (Or.inr ⟨(hw _ (List.mem_of_getElem? (i := 6) rfl)), (hw _ (List.mem_of_getElem? (i := 23) rfl))⟩)
  have E_ALLOW := Exa.start ev_ALLOW g23
  have F_ordinal_DISABLE := own_fld ev_DISABLE (v := .int (0 : Int32)) rfl g7
  have F_ordinal_REQUIRE := own_fld ev_REQUIRE (v := .int (3 : Int32)) rfl g9
  have F_ordinal_VERIFY_CA := own_fld ev_VERIFY_CA (v := .int (4 : Int32)) rfl g13
  have F_ordinal_VERIFY_FULL := own_fld ev_VERIFY_FULL (v := .int (5 : Int32)) rfl g17
  have F_ordinal_PREFER := own_fld ev_PREFER (v := .int (2 : Int32)) rfl g21
  have F_ordinal_ALLOW := own_fld ev_ALLOW (v := .int (1 : Int32)) rfl g24
  obtain ⟨v0, rfl⟩ : ∃ v0 : Value, args = #[v0] := by
    have hs : args.size = 1 := by simpa [Cond.value, given_1] using g1
    obtain ⟨L⟩ := args
    match L, hs with
    | [v0], _ => exact ⟨v0, rfl⟩
  have hfit : Fit s := fun {y c} hc i hi => by
    obtain ⟨ha, rfl⟩ := Array.getElem?_eq_some_iff.mp hc
    have q := List.all_eq_true.mp ((Array.all_eq_true_iff_forall_mem.mp hF) _ (Array.getElem_mem ha)) i (List.mem_range.mpr hi)
    simpa [Array.getElem?_eq_getElem hi] using q
  obtain ⟨i0, ei0⟩ := is_v g2
  obtain rfl : v0 = (.int i0) := Option.some.inj ei0
  obtain ⟨n, o, h1, h2, h3, _, L, rfl, ⟨rfl, N⟩, hq⟩ := rm0 l s _ hw tables_1 i0 w_DISABLE w_REQUIRE w_VERIFY_CA w_VERIFY_FULL w_PREFER w_ALLOW  s.heap s.heap.size (Nat.le_refl _) S_DISABLE E_DISABLE S_REQUIRE E_REQUIRE S_VERIFY_CA E_VERIFY_CA S_VERIFY_FULL E_VERIFY_FULL S_PREFER E_PREFER S_ALLOW E_ALLOW F_ordinal_DISABLE F_ordinal_REQUIRE F_ordinal_VERIFY_CA F_ordinal_VERIFY_FULL F_ordinal_PREFER F_ordinal_ALLOW p e ha hc hk s m _ below hf ((Spec.applies_iff_loose hf).mp happ).1 ⟨rfl, State.Warmed39.refl s, rfl⟩ trivial
  refine ⟨n, _, h1, h2, h3, hpost _ _ _ _ _ _ ⟨Cond.after_iff.mpr rfl, Cond.after_iff.mpr (eq_i res_at (Term.int_eval (1)) rfl), trivial⟩ ⟨hq.1, hq.2.1, (hq.2.2.sift fun y hy => Or.inr (N y hy)).mono (by decide) (by decide)⟩⟩
theorem main_1_1 : Claimed_1_1 := comes_1 fun _ _ _ _ _ _ h hF => ⟨h.1, hF⟩
theorem main_1_2 : Claimed_1_2 := comes_1 fun _ _ _ _ _ _ h hF => ⟨h.2.1, hF⟩
end Jvm.Pilot.@@N@@
namespace Jvm.Pilot.@@N@@
open Jvm Jvm.ClassFile Sem Op Lib Jvm.Free Jvm.Stand Jvm.Pilot.@@N@@.Jvm.D
/-! MADE BY PROGRAM (witnessworld.py) out of the Statement's table words and the real class files: 12 classes; the members and pool entries that the words name. The judged class is class 1, her method 2. -/
namespace start1
open Jvm.ClassFile
def u (s : String) : CpInfo := .utf8 (stringToUtf16 s)
/-- a pool by its gaps: so many unusable entries, then the entry; so many at the end -/
def gap : Nat → List CpInfo → List CpInfo
  | 0, r => r
  | n + 1, r => .unusable :: gap n r
def poolList (es : List (Nat × CpInfo)) (last : Nat) : List CpInfo := es.foldr (fun e r => gap e.1 (e.2 :: r)) (gap last [])
def pool (es : List (Nat × CpInfo)) (last : Nat) : Array CpInfo := ⟨poolList es last⟩
def fileOf (pool : Array CpInfo) (this : Nat) (attrs : Array Attribute := #[]) (ms : Array MethodInfo := #[]) (fl : Nat := 33) (sup : Nat := 0) (ifs : Array Nat := #[]) (fds : Array FieldInfo := #[]) : ClassFile where
  minorVersion := 0
  majorVersion := 65
  constantPool := pool
  accessFlags := fl
  thisClass := this
  superClass := sup
  interfaces := ifs
  fields := fds
  methods := ms
  attributes := attrs
def plain (name : String) (sup : Option ClassId) : Class where
  name := name
  kind := .ordinary
  loader := none
  accessFlags := 33
  super := sup
  interfaces := #[]
  cf := none
  fields := #[]
  methods := #[]
  instanceTypes := #[]
  staticTypes := #[]
  resolved := #[]
  callSites := []
  init := .initialized
  statics := none
  mirror := none

def pool0 : Array CpInfo := pool [(5, u "<init>"), (0, u "()V"), (1, .class_ 10), (1, u "java/lang/Object")] 113

def k0m0 : Method := { name := "<init>", desc := "()V", sig := { parameters := [], returnType := none }, accessFlags := 1, code := none }
/-- java/lang/Object -/
def k0 : Class := { plain "java/lang/Object" none with
  accessFlags := 33
  interfaces := #[]
  cf := some (fileOf pool0 8 #[] #[{ accessFlags := 1, nameIndex := 5, descriptorIndex := 6, attributes := #[] }] 33 0 #[] #[])
  fields := #[]
  methods := #[k0m0]
  instanceTypes := #[]
  staticTypes := #[]
  resolved := Array.replicate 124 none
  statics := none }

def pool1 : Array CpInfo := pool [(2, .class_ 4), (1, u "java/lang/Object"), (0, u "<init>"), (0, u "()V"), (0, .fieldref 8 9), (0, .class_ 10), (0, .nameAndType 11 12), (0, u "com/example/osprey/osprey/store/SslMode"), (0, u "DISABLE"), (0, u "Lcom/example/osprey/osprey/store/SslMode;"), (0, .fieldref 8 14), (0, .nameAndType 15 12), (0, u "ALLOW"), (0, .fieldref 8 17), (0, .nameAndType 18 12), (0, u "PREFER"), (0, .fieldref 8 20), (0, .nameAndType 21 12), (0, u "REQUIRE"), (0, .fieldref 8 23), (0, .nameAndType 24 12), (0, u "VERIFY_CA"), (0, .fieldref 8 26), (0, .nameAndType 27 12), (0, u "VERIFY_FULL"), (0, .integer 2147483647), (0, .methodref 30 31), (0, .class_ 32), (0, .nameAndType 33 34), (0, u "com/example/osprey/osprey/store/SslModeRequiresTlsPinLaw"), (0, u "pick"), (0, u "(I)Lcom/example/osprey/osprey/store/SslMode;"), (0, .methodref 8 36), (0, .nameAndType 37 38), (0, u "requiresTls"), (0, u "()Z"), (3, u "law"), (0, u "(I)Z")] 2

def k1m0 : Method := { name := "<init>", desc := "()V", sig := { parameters := [], returnType := none }, accessFlags := 1, code := none }
def k1c1 : Code := { maxStack := 2, maxLocals := 1, code := method_2_code, exceptionTable := #[], attributes := #[] }
def k1m1 : Method := { name := "pick", desc := "(I)Lcom/example/osprey/osprey/store/SslMode;", sig := { parameters := [.int], returnType := some (.object "com/example/osprey/osprey/store/SslMode") }, accessFlags := 10, code := some k1c1 }
def k1c2 : Code := { maxStack := 2, maxLocals := 5, code := code, exceptionTable := #[], attributes := #[] }
def k1m2 : Method := { name := "law", desc := "(I)Z", sig := { parameters := [.int], returnType := some .boolean }, accessFlags := 9, code := some k1c2 }
/-- com/example/osprey/osprey/store/SslModeRequiresTlsPinLaw -/
def k1 : Class := { plain "com/example/osprey/osprey/store/SslModeRequiresTlsPinLaw" (some 0) with
  accessFlags := 49
  interfaces := #[]
  cf := some (fileOf pool1 30 #[] #[{ accessFlags := 1, nameIndex := 5, descriptorIndex := 6, attributes := #[] }, { accessFlags := 10, nameIndex := 33, descriptorIndex := 34, attributes := #[] }, { accessFlags := 9, nameIndex := 42, descriptorIndex := 43, attributes := #[] }] 49 2 #[] #[])
  fields := #[]
  methods := #[k1m0, k1m1, k1m2]
  instanceTypes := #[]
  staticTypes := #[]
  resolved := Array.replicate 46 none
  statics := none }

def pool2 : Array CpInfo := pool [(1, .class_ 2), (0, u "java/lang/constant/Constable"), (0, .class_ 4), (0, u "java/lang/Object")] 6

/-- java/lang/constant/Constable -/
def k2 : Class := { plain "java/lang/constant/Constable" (some 0) with
  accessFlags := 1537
  interfaces := #[]
  cf := some (fileOf pool2 1 #[] #[] 1537 3 #[] #[])
  fields := #[]
  methods := #[]
  instanceTypes := #[]
  staticTypes := #[]
  resolved := Array.replicate 11 none
  statics := none }

def pool3 : Array CpInfo := pool [(1, .class_ 2), (0, u "java/lang/Comparable"), (0, .class_ 4), (0, u "java/lang/Object")] 7

/-- java/lang/Comparable -/
def k3 : Class := { plain "java/lang/Comparable" (some 0) with
  accessFlags := 1537
  interfaces := #[]
  cf := some (fileOf pool3 1 #[] #[] 1537 3 #[] #[])
  fields := #[]
  methods := #[]
  instanceTypes := #[]
  staticTypes := #[]
  resolved := Array.replicate 12 none
  statics := none }

def pool4 : Array CpInfo := pool [(1, .class_ 2), (0, u "java/io/Serializable"), (0, .class_ 4), (0, u "java/lang/Object")] 2

/-- java/io/Serializable -/
def k4 : Class := { plain "java/io/Serializable" (some 0) with
  accessFlags := 1537
  interfaces := #[]
  cf := some (fileOf pool4 1 #[] #[] 1537 3 #[] #[])
  fields := #[]
  methods := #[]
  instanceTypes := #[]
  staticTypes := #[]
  resolved := Array.replicate 7 none
  statics := none }

def pool5 : Array CpInfo := pool [(2, .class_ 4), (1, u "java/lang/Enum"), (0, u "name"), (0, u "Ljava/lang/String;"), (2, u "ordinal"), (0, u "I"), (1, .class_ 14), (1, u "java/lang/Object"), (4, u "hash"), (86, .class_ 108), (1, u "java/lang/Enum$EnumDesc"), (2, .class_ 112), (0, u "java/lang/constant/Constable"), (0, .class_ 114), (0, u "java/lang/Comparable"), (0, .class_ 116), (0, u "java/io/Serializable")] 87

/-- java/lang/Enum -/
def k5 : Class := { plain "java/lang/Enum" (some 0) with
  accessFlags := 1057
  interfaces := #[2, 3, 4]
  cf := some (fileOf pool5 2 #[.nestMembers #[106]] #[] 1057 12 #[111, 113, 115] #[{ accessFlags := 18, nameIndex := 5, descriptorIndex := 6, attributes := #[] }, { accessFlags := 18, nameIndex := 9, descriptorIndex := 10, attributes := #[] }, { accessFlags := 2, nameIndex := 19, descriptorIndex := 10, attributes := #[] }])
  fields := #[{ name := "name", type := (.object "java/lang/String"), accessFlags := 18, slot := 0, constantValue := 0 }, { name := "ordinal", type := .int, accessFlags := 18, slot := 1, constantValue := 0 }, { name := "hash", type := .int, accessFlags := 2, slot := 2, constantValue := 0 }]
  methods := #[]
  instanceTypes := #[(.object "java/lang/String"), .int, .int]
  staticTypes := #[]
  resolved := Array.replicate 204 none
  statics := none }

def pool6 : Array CpInfo := pool [(1, .class_ 2), (0, u "com/example/osprey/osprey/store/SslMode"), (2, u "DISABLE"), (0, u "Lcom/example/osprey/osprey/store/SslMode;"), (2, u "ALLOW"), (2, u "PREFER"), (0, .fieldref 1 14), (0, .nameAndType 15 6), (0, u "REQUIRE"), (0, .fieldref 1 17), (0, .nameAndType 18 6), (0, u "VERIFY_CA"), (0, .fieldref 1 20), (0, .nameAndType 21 6), (0, u "VERIFY_FULL"), (2, u "$VALUES"), (0, u "[Lcom/example/osprey/osprey/store/SslMode;"), (6, .class_ 34), (1, u "java/lang/Enum"), (8, u "value"), (0, u "Ljava/lang/String;"), (34, u "requiresTls"), (0, u "()Z")] 43

def k6c0 : Code := { maxStack := 2, maxLocals := 1, code := prog_56_method_6_code, exceptionTable := #[], attributes := #[] }
def k6m0 : Method := { name := "requiresTls", desc := "()Z", sig := { parameters := [], returnType := some .boolean }, accessFlags := 0, code := some k6c0 }
/-- com/example/osprey/osprey/store/SslMode -/
def k6 : Class := { plain "com/example/osprey/osprey/store/SslMode" (some 5) with
  accessFlags := 16432
  interfaces := #[]
  cf := some (fileOf pool6 1 #[] #[{ accessFlags := 0, nameIndex := 79, descriptorIndex := 80, attributes := #[] }] 16432 32 #[] #[{ accessFlags := 16409, nameIndex := 5, descriptorIndex := 6, attributes := #[] }, { accessFlags := 16409, nameIndex := 9, descriptorIndex := 6, attributes := #[] }, { accessFlags := 16409, nameIndex := 12, descriptorIndex := 6, attributes := #[] }, { accessFlags := 16409, nameIndex := 15, descriptorIndex := 6, attributes := #[] }, { accessFlags := 16409, nameIndex := 18, descriptorIndex := 6, attributes := #[] }, { accessFlags := 16409, nameIndex := 21, descriptorIndex := 6, attributes := #[] }, { accessFlags := 18, nameIndex := 43, descriptorIndex := 44, attributes := #[] }, { accessFlags := 4122, nameIndex := 24, descriptorIndex := 25, attributes := #[] }])
  fields := #[{ name := "DISABLE", type := (.object "com/example/osprey/osprey/store/SslMode"), accessFlags := 16409, slot := 0, constantValue := 0 }, { name := "ALLOW", type := (.object "com/example/osprey/osprey/store/SslMode"), accessFlags := 16409, slot := 1, constantValue := 0 }, { name := "PREFER", type := (.object "com/example/osprey/osprey/store/SslMode"), accessFlags := 16409, slot := 2, constantValue := 0 }, { name := "REQUIRE", type := (.object "com/example/osprey/osprey/store/SslMode"), accessFlags := 16409, slot := 3, constantValue := 0 }, { name := "VERIFY_CA", type := (.object "com/example/osprey/osprey/store/SslMode"), accessFlags := 16409, slot := 4, constantValue := 0 }, { name := "VERIFY_FULL", type := (.object "com/example/osprey/osprey/store/SslMode"), accessFlags := 16409, slot := 5, constantValue := 0 }, { name := "value", type := (.object "java/lang/String"), accessFlags := 18, slot := 3, constantValue := 0 }, { name := "$VALUES", type := (.array (.object "com/example/osprey/osprey/store/SslMode")), accessFlags := 4122, slot := 6, constantValue := 0 }]
  methods := #[k6m0]
  instanceTypes := #[(.object "java/lang/String"), .int, .int, (.object "java/lang/String")]
  staticTypes := #[(.object "com/example/osprey/osprey/store/SslMode"), (.object "com/example/osprey/osprey/store/SslMode"), (.object "com/example/osprey/osprey/store/SslMode"), (.object "com/example/osprey/osprey/store/SslMode"), (.object "com/example/osprey/osprey/store/SslMode"), (.object "com/example/osprey/osprey/store/SslMode"), (.array (.object "com/example/osprey/osprey/store/SslMode"))]
  resolved := Array.replicate 124 none
  statics := some 0 }

def pool7 : Array CpInfo := pool [(1, u "java/lang/Cloneable"), (0, .class_ 1), (0, u "java/lang/Object"), (0, .class_ 3)] 3

/-- java/lang/Cloneable -/
def k7 : Class := { plain "java/lang/Cloneable" (some 0) with
  accessFlags := 1537
  interfaces := #[]
  cf := some (fileOf pool7 2 #[] #[] 1537 4 #[] #[])
  fields := #[]
  methods := #[]
  instanceTypes := #[]
  staticTypes := #[]
  resolved := Array.replicate 8 none
  statics := none }

/-- the primitive byte -/
def k8 : Class := { plain "byte" none with kind := .primitive 'B', accessFlags := 0x411 }
/-- [B -/
def k9 : Class := { plain "[B" (some 0) with kind := .array 8 .byte, interfaces := #[7, 4], accessFlags := 1041 }

/-- the primitive int -/
def k10 : Class := { plain "int" none with kind := .primitive 'I', accessFlags := 0x411 }
/-- [I -/
def k11 : Class := { plain "[I" (some 0) with kind := .array 10 .int, interfaces := #[7, 4], accessFlags := 1041 }

def heap : Heap := #[{ cls := 6, slots := #[.ref 1, .ref 6, .ref 5, .ref 2, .ref 3, .ref 4, .null], vm := .statics 6 },
  { cls := 6, slots := #[.null, .int 0, .int 0, .null], vm := .none },
  { cls := 6, slots := #[.null, .int 3, .int 0, .null], vm := .none },
  { cls := 6, slots := #[.null, .int 4, .int 0, .null], vm := .none },
  { cls := 6, slots := #[.null, .int 5, .int 0, .null], vm := .none },
  { cls := 6, slots := #[.null, .int 2, .int 0, .null], vm := .none },
  { cls := 6, slots := #[.null, .int 1, .int 0, .null], vm := .none }]
def classes : Array Class := #[k0, k1, k2, k3, k4, k5, k6, k7, k8, k9, k10, k11]
def interned : List (Array UInt16 × Addr) := []
def slotsUsed : Nat := 31
def theMethod : MethodId := ⟨1, 2⟩
def args0 : Array Value := #[.int 5]
def aboutOver (below : List Frame) : State where
  vm := { classes := classes, interned := interned.toArray }
  heap := heap
  slotsUsed := slotsUsed
  threads := #[{ frames := .invoking theMethod args0 :: below }]
def below0 : List Frame := [.native { method := ⟨0, 0⟩, args := #[] }]
def about1 : State := aboutOver below0
def p0 : Program := .bare "" "" ""
def e0 : Env := launch0.env 0 0 0
theorem w_frames : about1.frames = Frame.invoking theMethod args0 :: below0 := rfl
set_option maxRecDepth 65536 in
theorem w_args : argsFit about1.vm theMethod args0 = true := by decide +kernel
set_option maxRecDepth 65536 in
theorem w_heap : heapFits about1 = true := by decide +kernel
set_option maxRecDepth 65536 in
theorem w_runnable : about1.curStatus? = some .runnable := by decide +kernel
set_option maxRecDepth 65536 in
theorem w_alone : about1.alone = true := by decide +kernel
set_option maxRecDepth 65536 in
theorem w_named : about1.methodNamed? x = some theMethod := by decide +kernel
set_option maxRecDepth 65536 in
theorem w_hears : about1.hears theMethod below0 = true := by decide +kernel
set_option maxRecDepth 65536 in
theorem w_ripe : about1.ripe theMethod args0 below0 = true := by decide +kernel
theorem w_running : about1.status = .running := rfl
set_option maxRecDepth 65536 in
theorem w_room : about1.hasRoom e0.platform room_1 = true :=
  launch0.hasRoom_least _ room_1 (by decide +kernel) (by decide +kernel) (by decide +kernel) (by decide +kernel) (by decide +kernel) (by decide +kernel)
theorem allAtoms_all (ts : List Jvm.Cond) (a : Array Jvm.Value) (st : Jvm.State) : (allAtoms ts).before a st = ts.all (fun c => c.before a st) := by
  induction ts with
  | nil => rfl
  | cons c t ih =>
    show (Jvm.Cond.and c (allAtoms t)).before a st = _
    rw [Jvm.Cond.before_and, ih, List.all_cons]
def words1 : List Jvm.Cond := Jvm.Cond.code x code maxLocals ret :: tables_1
/-- a 'code' word, met by the world's own term for the bytes: nothing is compared byte by byte -/
theorem code_word {y : MethodName} {bytes : ByteArray} {mx : Nat} {rt : Option FieldType} {a : Array Value} {s : State} {m : MethodId} {meth : Method} {c : Code} (h1 : s.methodNamed? y = some m) (h2 : s.vm.method? m = some meth) (h3 : meth.code = some c) (h4 : c.code = bytes)
    (h5 : (c.maxLocals == mx && c.exceptionTable.isEmpty && decide (c.maxStack ≤ mostOperands) && decide (meth.sig.returnType = rt) && !meth.locks && decide (parseMethodDescriptor y.desc = some meth.sig)) = true) : (Jvm.Cond.code y bytes mx rt).before a s = true := by
  simp only [Bool.and_eq_true, beq_iff_eq, Bool.not_eq_true', decide_eq_true_eq] at h5
  obtain ⟨⟨⟨⟨⟨g1, g2⟩, g3⟩, g4⟩, g5⟩, g6⟩ := h5
  simp [Cond.before, Cond.holds, Cond.value, h1, h2, h3, h4, g1, g2, g3, g4, g5, g6]
def isCode : Jvm.Cond → Bool
  | .code _ _ _ _ => true
  | _ => false
theorem all_split {L : List Jvm.Cond} {P : Jvm.Cond → Bool} (h1 : L.all (fun c => isCode c || P c) = true) (h2 : ∀ c ∈ L.filter isCode, P c = true) : L.all P = true := by
  refine List.all_eq_true.mpr fun c hc => ?_
  have h := List.all_eq_true.mp h1 c hc
  rcases Bool.eq_false_or_eq_true (isCode c) with hi | hi
  · exact h2 c (List.mem_filter.mpr ⟨hc, hi⟩)
  · simpa [hi] using h
set_option maxRecDepth 65536 in
theorem w_c0 : (Jvm.Cond.code x code maxLocals ret).before args0 about1 = true := code_word (m := ⟨1, 2⟩) (meth := k1m2) (c := k1c2) (by decide +kernel) rfl rfl rfl (by decide +kernel)
set_option maxRecDepth 65536 in
theorem w_c1 : (Jvm.Cond.code ({ cls := "com/example/osprey/osprey/store/SslModeRequiresTlsPinLaw", name := "pick", desc := "(I)Lcom/example/osprey/osprey/store/SslMode;" } : Jvm.MethodName) method_2_code (1 : Nat) (Option.some (Jvm.ClassFile.FieldType.object "com/example/osprey/osprey/store/SslMode"))).before args0 about1 = true := code_word (m := ⟨1, 1⟩) (meth := k1m1) (c := k1c1) (by decide +kernel) rfl rfl rfl (by decide +kernel)
set_option maxRecDepth 65536 in
theorem w_c2 : (Jvm.Cond.code ({ cls := "com/example/osprey/osprey/store/SslMode", name := "requiresTls", desc := "()Z" } : Jvm.MethodName) prog_56_method_6_code (1 : Nat) (Option.some Jvm.ClassFile.FieldType.boolean)).before args0 about1 = true := code_word (m := ⟨6, 0⟩) (meth := k6m0) (c := k6c0) (by decide +kernel) rfl rfl rfl (by decide +kernel)
def codes1 : List Jvm.Cond := [Jvm.Cond.code x code maxLocals ret, Jvm.Cond.code ({ cls := "com/example/osprey/osprey/store/SslModeRequiresTlsPinLaw", name := "pick", desc := "(I)Lcom/example/osprey/osprey/store/SslMode;" } : Jvm.MethodName) method_2_code (1 : Nat) (Option.some (Jvm.ClassFile.FieldType.object "com/example/osprey/osprey/store/SslMode")), Jvm.Cond.code ({ cls := "com/example/osprey/osprey/store/SslMode", name := "requiresTls", desc := "()Z" } : Jvm.MethodName) prog_56_method_6_code (1 : Nat) (Option.some Jvm.ClassFile.FieldType.boolean)]
set_option maxRecDepth 65536 in
theorem codes_eq : words1.filter isCode = codes1 := rfl
theorem w_codes : ∀ c ∈ words1.filter isCode, c.before args0 about1 = true := by
  rw [codes_eq]
  intro c hc
  simp only [codes1, List.mem_cons, List.not_mem_nil, or_false] at hc
  rcases hc with rfl | rfl | rfl
  · exact w_c0
  · exact w_c1
  · exact w_c2
set_option maxRecDepth 65536 in
theorem w_t1 : (words1.take 24).all (fun c => isCode c || c.before args0 about1) = true := by decide +kernel
set_option maxRecDepth 65536 in
theorem w_t2 : (words1.drop 24).all (fun c => isCode c || c.before args0 about1) = true := by decide +kernel
theorem w_tables : (allAtoms (Jvm.Cond.code x code maxLocals ret :: tables_1)).before args0 about1 = true := by
  rw [allAtoms_all]
  show words1.all (fun c => c.before args0 about1) = true
  refine all_split ?_ w_codes
  rw [← List.take_append_drop 24 words1, List.all_append, w_t1, w_t2]
  rfl
set_option maxRecDepth 65536 in
theorem w_case : (Jvm.Cond.and given_1 narrow_1).before args0 about1 = true := by decide +kernel
theorem w_applies : (headSpec (Jvm.Cond.code x code maxLocals ret :: tables_1) room_1).applies x e0.platform about1 = true :=
  (Spec.applies_iff w_frames).mpr ⟨w_running, w_runnable, w_alone, w_named, w_hears, w_ripe, w_room, w_tables⟩
theorem atStart : AtStart classFile x code maxLocals ret World_1 tables_1 room_1 Calls_1 rest_1 Pre_1 launch0 p0 e0 about1 theMethod args0 below0 :=
  ⟨lists_1, trivial, launch0.admits_env _ _ _, launch0.least_env, fairChoices_fair.cas, fairChoices_fair.clock, w_frames, w_args, w_heap, w_applies, trivial, trivial, w_case⟩
end start1
theorem witness_1 : WitnessClaimed_1 := ⟨start1.p0, start1.e0, start1.about1, start1.theMethod, start1.args0, start1.below0, start1.atStart⟩
end Jvm.Pilot.@@N@@
