import JvmDerived
import JvmDerived.Pilot.@@N@@Statement
import JvmDerived.Pilot.@@N@@Code
set_option linter.unusedVariables false
set_option linter.unusedSimpArgs false
namespace Jvm.Pilot.@@N@@
open Jvm Jvm.ClassFile Sem Op Lib Jvm.Free Jvm.Stand Jvm.LawKit Jvm.RoadKit Bundle Jvm.Pilot.@@N@@.Jvm.D
theorem own_eq {args : Array Value} {first s : State} {o : Option Outcome} {idx : List Nat} {a b : Term} (h : (Jvm.Cond.eq a b).value args first o s idx = some true) : a.eval args first o idx s = b.eval args first o idx s := by
  obtain ⟨x, y, h1, h2, k1, k2⟩ := cmp_v (Or.inl h)
  rw [h1, h2]
  simp only [Jvm.Cond.value, h1, h2] at h
  cases x <;> cases y <;> simp_all
theorem own_fld {args : Array Value} {s : State} {t u : Term} {a : Addr} {C n d : String} {v : Value} (ev : t.eval args s none [] s = some (.ref a)) (eu : u.eval args s none [] s = some v) (h : (Jvm.Cond.eq (.field t C n d) u).value args s none s [] = some true) : Fld s s.heap a C n d v :=
  Fld.start ((fld_at ev).symm.trans ((own_eq h).trans eu))

theorem own_mask7 (x : Int32) : 0 ≤ (x &&& (7 : Int32)).toInt ∧ (x &&& (7 : Int32)).toInt < 8 := by
  have h1 := c_mask x (7 : Int32) 3 (by decide) (by decide)
  omega
theorem own_cases8 {z : Int32} (h0 : 0 ≤ z.toInt) (h1 : z.toInt < 8) : z = (0 : Int32) ∨ z = (1 : Int32) ∨ z = (2 : Int32) ∨ z = (3 : Int32) ∨ z = (4 : Int32) ∨ z = (5 : Int32) ∨ z = (6 : Int32) ∨ z = (7 : Int32) := by
  have h : z.toInt = 0 ∨ z.toInt = 1 ∨ z.toInt = 2 ∨ z.toInt = 3 ∨ z.toInt = 4 ∨ z.toInt = 5 ∨ z.toInt = 6 ∨ z.toInt = 7 := by omega
  rcases h with h | h | h | h | h | h | h | h
  · exact Or.inl (Int32.toInt_inj.mp (h.trans (by decide)))
  · exact Or.inr (Or.inl (Int32.toInt_inj.mp (h.trans (by decide))))
  · exact Or.inr (Or.inr (Or.inl (Int32.toInt_inj.mp (h.trans (by decide)))))
  · exact Or.inr (Or.inr (Or.inr (Or.inl (Int32.toInt_inj.mp (h.trans (by decide))))))
  · exact Or.inr (Or.inr (Or.inr (Or.inr (Or.inl (Int32.toInt_inj.mp (h.trans (by decide)))))))
  · exact Or.inr (Or.inr (Or.inr (Or.inr (Or.inr (Or.inl (Int32.toInt_inj.mp (h.trans (by decide))))))))
  · exact Or.inr (Or.inr (Or.inr (Or.inr (Or.inr (Or.inr (Or.inl (Int32.toInt_inj.mp (h.trans (by decide)))))))))
  · exact Or.inr (Or.inr (Or.inr (Or.inr (Or.inr (Or.inr (Or.inr ((Int32.toInt_inj.mp (h.trans (by decide))))))))))

theorem pn_com_example_bindery_bindery_codecs_airnode_KindDynamicPinLaw : plainName "com/example/bindery/bindery/codecs/airnode/KindDynamicPinLaw" = true := by first | (simp [plainName, overriddenIn]; done) | decide +kernel
theorem ef_rm_k (m : MethodId) (p0 : Int32) : entryFrame m #[(.int p0)] 1 = mkF m 0 #[.val (.int p0)] [] := by first | (simp [entryFrame, mkF, argsToLocals, Value.category]; done) | rfl
def Q_rm_k (Z : State) (p0 : Int32) (w_BYTES w_STRING w_BYTES32 w_TEXT32 w_ADDRESS w_UINT256 w_INT256 w_BOOL : Addr) (rr : Addr) (h0 : Heap) (n0 : Nat) (v : Option Value) (h : Heap) (L : List Loc) : Prop := v = some (.ref rr) ∧ Fr n0 L ∧ h = h0
theorem d_method_3_code_0 : decode method_3_code 0 = .ok (.iload_n 0, 1) := by decide +kernel
theorem d_method_3_code_1 : decode method_3_code 1 = .ok (.ifCond .ne 7, 3) := by decide +kernel
theorem d_method_3_code_4 : decode method_3_code 4 = .ok (.getstatic 19, 3) := by decide +kernel
theorem d_method_3_code_7 : decode method_3_code 7 = .ok (.areturn, 1) := by decide +kernel
theorem d_method_3_code_8 : decode method_3_code 8 = .ok (.iload_n 0, 1) := by decide +kernel
theorem d_method_3_code_9 : decode method_3_code 9 = .ok (.iconst 1, 1) := by decide +kernel
theorem d_method_3_code_10 : decode method_3_code 10 = .ok (.if_icmp .ne 7, 3) := by decide +kernel
theorem d_method_3_code_13 : decode method_3_code 13 = .ok (.getstatic 23, 3) := by decide +kernel
theorem d_method_3_code_16 : decode method_3_code 16 = .ok (.areturn, 1) := by decide +kernel
theorem d_method_3_code_17 : decode method_3_code 17 = .ok (.iload_n 0, 1) := by decide +kernel
theorem d_method_3_code_18 : decode method_3_code 18 = .ok (.iconst 2, 1) := by decide +kernel
theorem d_method_3_code_19 : decode method_3_code 19 = .ok (.if_icmp .ne 7, 3) := by decide +kernel
theorem d_method_3_code_22 : decode method_3_code 22 = .ok (.getstatic 26, 3) := by decide +kernel
theorem d_method_3_code_25 : decode method_3_code 25 = .ok (.areturn, 1) := by decide +kernel
theorem d_method_3_code_26 : decode method_3_code 26 = .ok (.iload_n 0, 1) := by decide +kernel
theorem d_method_3_code_27 : decode method_3_code 27 = .ok (.iconst 3, 1) := by decide +kernel
theorem d_method_3_code_28 : decode method_3_code 28 = .ok (.if_icmp .ne 7, 3) := by decide +kernel
theorem d_method_3_code_31 : decode method_3_code 31 = .ok (.getstatic 29, 3) := by decide +kernel
theorem d_method_3_code_34 : decode method_3_code 34 = .ok (.areturn, 1) := by decide +kernel
theorem d_method_3_code_35 : decode method_3_code 35 = .ok (.iload_n 0, 1) := by decide +kernel
theorem d_method_3_code_36 : decode method_3_code 36 = .ok (.iconst 4, 1) := by decide +kernel
theorem d_method_3_code_37 : decode method_3_code 37 = .ok (.if_icmp .ne 7, 3) := by decide +kernel
theorem d_method_3_code_40 : decode method_3_code 40 = .ok (.getstatic 32, 3) := by decide +kernel
theorem d_method_3_code_43 : decode method_3_code 43 = .ok (.areturn, 1) := by decide +kernel
theorem d_method_3_code_44 : decode method_3_code 44 = .ok (.iload_n 0, 1) := by decide +kernel
theorem d_method_3_code_45 : decode method_3_code 45 = .ok (.iconst 5, 1) := by decide +kernel
theorem d_method_3_code_46 : decode method_3_code 46 = .ok (.if_icmp .ne 7, 3) := by decide +kernel
theorem d_method_3_code_49 : decode method_3_code 49 = .ok (.getstatic 35, 3) := by decide +kernel
theorem d_method_3_code_52 : decode method_3_code 52 = .ok (.areturn, 1) := by decide +kernel
theorem d_method_3_code_53 : decode method_3_code 53 = .ok (.iload_n 0, 1) := by decide +kernel
theorem d_method_3_code_54 : decode method_3_code 54 = .ok (.bipush 6, 2) := by decide +kernel
theorem d_method_3_code_56 : decode method_3_code 56 = .ok (.if_icmp .ne 7, 3) := by decide +kernel
theorem d_method_3_code_59 : decode method_3_code 59 = .ok (.getstatic 38, 3) := by decide +kernel
theorem d_method_3_code_62 : decode method_3_code 62 = .ok (.areturn, 1) := by decide +kernel
theorem d_method_3_code_63 : decode method_3_code 63 = .ok (.getstatic 41, 3) := by decide +kernel
theorem d_method_3_code_66 : decode method_3_code 66 = .ok (.areturn, 1) := by decide +kernel
set_option maxRecDepth 65536 in
set_option maxHeartbeats 40000000 in
theorem rm_k (l : Launch) (Z : State) (a0 : Array Value) (hw : ∀ d ∈ tables_1, d.before a0 Z = true) (ws : List Jvm.Cond) (p0 : Int32) (w_BYTES w_STRING w_BYTES32 w_TEXT32 w_ADDRESS w_UINT256 w_INT256 w_BOOL : Addr) (rr : Addr) (h0 : Heap) (n0 : Nat) (Z0 : n0 ≤ h0.size) (S_BYTES : Sta Z h0 "com/example/bindery/bindery/codecs/airnode/ContractAbi$Kind" "BYTES" "Lcom/example/bindery/bindery/codecs/airnode/ContractAbi$Kind;" (.ref w_BYTES)) (S_STRING : Sta Z h0 "com/example/bindery/bindery/codecs/airnode/ContractAbi$Kind" "STRING" "Lcom/example/bindery/bindery/codecs/airnode/ContractAbi$Kind;" (.ref w_STRING)) (S_BYTES32 : Sta Z h0 "com/example/bindery/bindery/codecs/airnode/ContractAbi$Kind" "BYTES32" "Lcom/example/bindery/bindery/codecs/airnode/ContractAbi$Kind;" (.ref w_BYTES32)) (S_TEXT32 : Sta Z h0 "com/example/bindery/bindery/codecs/airnode/ContractAbi$Kind" "TEXT32" "Lcom/example/bindery/bindery/codecs/airnode/ContractAbi$Kind;" (.ref w_TEXT32)) (S_ADDRESS : Sta Z h0 "com/example/bindery/bindery/codecs/airnode/ContractAbi$Kind" "ADDRESS" "Lcom/example/bindery/bindery/codecs/airnode/ContractAbi$Kind;" (.ref w_ADDRESS)) (S_UINT256 : Sta Z h0 "com/example/bindery/bindery/codecs/airnode/ContractAbi$Kind" "UINT256" "Lcom/example/bindery/bindery/codecs/airnode/ContractAbi$Kind;" (.ref w_UINT256)) (S_INT256 : Sta Z h0 "com/example/bindery/bindery/codecs/airnode/ContractAbi$Kind" "INT256" "Lcom/example/bindery/bindery/codecs/airnode/ContractAbi$Kind;" (.ref w_INT256)) (S_BOOL : Sta Z h0 "com/example/bindery/bindery/codecs/airnode/ContractAbi$Kind" "BOOL" "Lcom/example/bindery/bindery/codecs/airnode/ContractAbi$Kind;" (.ref w_BOOL)) (hres : (if p0 = (0 : Int32) then w_BYTES else (if p0 = (1 : Int32) then w_STRING else (if p0 = (2 : Int32) then w_BYTES32 else (if p0 = (3 : Int32) then w_TEXT32 else (if p0 = (4 : Int32) then w_ADDRESS else (if p0 = (5 : Int32) then w_UINT256 else (if p0 = (6 : Int32) then w_INT256 else w_BOOL))))))) = rr) :
    MetFree l (⟨"com/example/bindery/bindery/codecs/airnode/KindDynamicPinLaw", "pick", "(I)Lcom/example/bindery/bindery/codecs/airnode/ContractAbi$Kind;"⟩ : MethodName) (head1 (Jvm.Cond.code (⟨"com/example/bindery/bindery/codecs/airnode/KindDynamicPinLaw", "pick", "(I)Lcom/example/bindery/bindery/codecs/airnode/ContractAbi$Kind;"⟩ : MethodName) method_3_code 1 (some (.object "com/example/bindery/bindery/codecs/airnode/ContractAbi$Kind")) :: ws) ({ frames := 0, cells := 0, slots := 0, locals := 0 } : Room)) (fun a U => a = #[(.int p0)] ∧ Z.Warmed39 U.vm ∧ U.heap = h0) (fun _ _ _ _ _ => True) (fun _ U o U' => ∃ v L, o = .returned v ∧ Q_rm_k Z p0 w_BYTES w_STRING w_BYTES32 w_TEXT32 w_ADDRESS w_UINT256 w_INT256 w_BOOL rr h0 n0 v U'.heap L ∧ FrameEnd U o U' L ({ frames := 0, cells := 0, slots := 0, locals := 0 } : Room).cells ({ frames := 0, cells := 0, slots := 0, locals := 0 } : Room).slots) := by
  refine MetFree.of_bodySF (plainFor_of_name pn_com_example_bindery_bindery_codecs_airnode_KindDynamicPinLaw) hisR ?_
  intro p e s m args below meth c s₁ Bd hml0 hP hK
  obtain ⟨rfl, hZ, hh⟩ := hP
  have hx := Bd.exec
  have hby := Bd.bytes
  have hml : c.maxLocals = 1 := hml0
  have hown : s.vm.findClass "com/example/bindery/bindery/codecs/airnode/KindDynamicPinLaw" = some m.cls := findClass_of_methodNamed Bd.named
  have hnm := (name_of_methodNamed Bd.named Bd.method).1
  have X0 : Stand p l e ({ frames := 0, cells := 0, slots := 0, locals := 0 } : Room) s m #[(.int p0)] below meth c s₁ [] 0 0 := Stand.of_body Bd
  have e0 : s₁.heap = h0 := by rw [← hh, Bd.state]; rfl
  have N0 := Fr.nil n0
  have pre0 : ∀ t, Steps p.tables e below (s₁.setTop (mkF m 0 #[.val (.int p0)] [])) t → Steps p.tables e below (s₁.setTop (entryFrame m #[(.int p0)] 1)) t := fun t k => castTop (ef_rm_k m p0) k
  have pre2 : ∀ t, Steps p.tables e below (s₁.setTop (mkF m 1 #[.val (.int p0)] [(.int p0)])) t → Steps p.tables e below (s₁.setTop (entryFrame m #[(.int p0)] 1)) t := by
    intro t kt
    refine pre0 t ?_
    show Steps p.tables e below (s₁.setTop (mkF m 0 #[.val (.int p0)] [])) _
    refine XS.iloadN X0.here hx rfl (hb hby d_method_3_code_0) rfl ?_
    exact kt
  by_cases hc1_1 : p0 = (0 : Int32)
  · obtain ⟨T3, X3, e3, st3⟩ := getS2 X0 hx hZ hown (host := "") (Or.inl (hw _ (List.mem_of_getElem? (i := 4) rfl))) Via.refl e0 S_BYTES (g := (mkF m 4 #[.val (.int p0)] [])) rfl (hb hby d_method_3_code_4)
    have pre4 : ∀ t, Steps p.tables e below (T3.setTop (mkF m 7 #[.val (.int p0)] [(.ref w_BYTES)])) t → Steps p.tables e below (s₁.setTop (entryFrame m #[(.int p0)] 1)) t := by
      intro t kt
      refine pre2 t ?_
      show Steps p.tables e below (s₁.setTop (mkF m 1 #[.val (.int p0)] [(.int p0)])) _
      refine XS.ifNo X0.here hx rfl (hb hby d_method_3_code_1) rfl ((if0 _ _).trans (teq hc1_1).2) ?_
      show Steps p.tables e below (s₁.setTop (mkF m 4 #[.val (.int p0)] [])) _
      refine st3 _ ?_
      exact kt
    obtain ⟨fs, hr, hrun, hended, hW, hsame⟩ := X3.leave (v := some (.ref w_BYTES)) (fun h => by rw [Bd.returns] at h; cases h)
    refine ⟨_, _, pre4 _ ?_, hrun, hended, _, _, rfl, ?_, ⟨_, rfl⟩, hW, hsame.mono (by decide) (by decide)⟩
    · show Steps p.tables e below (T3.setTop (mkF m 7 #[.val (.int p0)] [(.ref w_BYTES)])) _
      jvm_step X3.here [X3.here.top, hx, (hb hby d_method_3_code_7), X3.method', Bd.returns, Value.isRef, FieldType.isReference]
      first | (intro acts; rw [hr _ acts rfl rfl rfl]) | rw [hr _ _ rfl rfl rfl]
      exact Steps.refl _
    · show Q_rm_k Z p0 w_BYTES w_STRING w_BYTES32 w_TEXT32 w_ADDRESS w_UINT256 w_INT256 w_BOOL rr h0 n0 _ T3.heap _
      rw [e3]
      exact ⟨by rw [← hres]; simp +decide [hc1_1], N0, rfl⟩
  · have pre6 : ∀ t, Steps p.tables e below (s₁.setTop (mkF m 10 #[.val (.int p0)] [(.int (1 : Int32)), (.int p0)])) t → Steps p.tables e below (s₁.setTop (entryFrame m #[(.int p0)] 1)) t := by
      intro t kt
      refine pre2 t ?_
      show Steps p.tables e below (s₁.setTop (mkF m 1 #[.val (.int p0)] [(.int p0)])) _
      refine XS.ifYes X0.here hx rfl (pc0 := 1) (pc' := 8) rfl (hb hby d_method_3_code_1) rfl ((if0 _ _).trans (feq hc1_1).2) (by decide) (by decide) ?_
      show Steps p.tables e below (s₁.setTop (mkF m 8 #[.val (.int p0)] [])) _
      refine XS.iloadN X0.here hx rfl (hb hby d_method_3_code_8) rfl ?_
      show Steps p.tables e below (s₁.setTop (mkF m 9 #[.val (.int p0)] [(.int p0)])) _
      refine XS.iconst X0.here hx rfl (hb hby d_method_3_code_9) ?_
      exact kt
    by_cases hc10_5 : p0 = (1 : Int32)
    · obtain ⟨T7, X7, e7, st7⟩ := getS2 X0 hx hZ hown (host := "") (Or.inl (hw _ (List.mem_of_getElem? (i := 23) rfl))) Via.refl e0 S_STRING (g := (mkF m 13 #[.val (.int p0)] [])) rfl (hb hby d_method_3_code_13)
      have pre8 : ∀ t, Steps p.tables e below (T7.setTop (mkF m 16 #[.val (.int p0)] [(.ref w_STRING)])) t → Steps p.tables e below (s₁.setTop (entryFrame m #[(.int p0)] 1)) t := by
        intro t kt
        refine pre6 t ?_
        show Steps p.tables e below (s₁.setTop (mkF m 10 #[.val (.int p0)] [(.int (1 : Int32)), (.int p0)])) _
        refine XS.icmpNo X0.here hx rfl (hb hby d_method_3_code_10) rfl (teq hc10_5).2 ?_
        show Steps p.tables e below (s₁.setTop (mkF m 13 #[.val (.int p0)] [])) _
        refine st7 _ ?_
        exact kt
      obtain ⟨fs, hr, hrun, hended, hW, hsame⟩ := X7.leave (v := some (.ref w_STRING)) (fun h => by rw [Bd.returns] at h; cases h)
      refine ⟨_, _, pre8 _ ?_, hrun, hended, _, _, rfl, ?_, ⟨_, rfl⟩, hW, hsame.mono (by decide) (by decide)⟩
      · show Steps p.tables e below (T7.setTop (mkF m 16 #[.val (.int p0)] [(.ref w_STRING)])) _
        jvm_step X7.here [X7.here.top, hx, (hb hby d_method_3_code_16), X7.method', Bd.returns, Value.isRef, FieldType.isReference]
        first | (intro acts; rw [hr _ acts rfl rfl rfl]) | rw [hr _ _ rfl rfl rfl]
        exact Steps.refl _
      · show Q_rm_k Z p0 w_BYTES w_STRING w_BYTES32 w_TEXT32 w_ADDRESS w_UINT256 w_INT256 w_BOOL rr h0 n0 _ T7.heap _
        rw [e7]
        exact ⟨by rw [← hres]; simp +decide [hc1_1, hc10_5], N0, rfl⟩
    · have pre10 : ∀ t, Steps p.tables e below (s₁.setTop (mkF m 19 #[.val (.int p0)] [(.int (2 : Int32)), (.int p0)])) t → Steps p.tables e below (s₁.setTop (entryFrame m #[(.int p0)] 1)) t := by
        intro t kt
        refine pre6 t ?_
        show Steps p.tables e below (s₁.setTop (mkF m 10 #[.val (.int p0)] [(.int (1 : Int32)), (.int p0)])) _
        refine XS.icmpYes X0.here hx rfl (pc0 := 10) (pc' := 17) rfl (hb hby d_method_3_code_10) rfl (feq hc10_5).2 (by decide) (by decide) ?_
        show Steps p.tables e below (s₁.setTop (mkF m 17 #[.val (.int p0)] [])) _
        refine XS.iloadN X0.here hx rfl (hb hby d_method_3_code_17) rfl ?_
        show Steps p.tables e below (s₁.setTop (mkF m 18 #[.val (.int p0)] [(.int p0)])) _
        refine XS.iconst X0.here hx rfl (hb hby d_method_3_code_18) ?_
        exact kt
      by_cases hc19_9 : p0 = (2 : Int32)
      · obtain ⟨T11, X11, e11, st11⟩ := getS2 X0 hx hZ hown (host := "") (Or.inl (hw _ (List.mem_of_getElem? (i := 21) rfl))) Via.refl e0 S_BYTES32 (g := (mkF m 22 #[.val (.int p0)] [])) rfl (hb hby d_method_3_code_22)
        have pre12 : ∀ t, Steps p.tables e below (T11.setTop (mkF m 25 #[.val (.int p0)] [(.ref w_BYTES32)])) t → Steps p.tables e below (s₁.setTop (entryFrame m #[(.int p0)] 1)) t := by
          intro t kt
          refine pre10 t ?_
          show Steps p.tables e below (s₁.setTop (mkF m 19 #[.val (.int p0)] [(.int (2 : Int32)), (.int p0)])) _
          refine XS.icmpNo X0.here hx rfl (hb hby d_method_3_code_19) rfl (teq hc19_9).2 ?_
          show Steps p.tables e below (s₁.setTop (mkF m 22 #[.val (.int p0)] [])) _
          refine st11 _ ?_
          exact kt
        obtain ⟨fs, hr, hrun, hended, hW, hsame⟩ := X11.leave (v := some (.ref w_BYTES32)) (fun h => by rw [Bd.returns] at h; cases h)
        refine ⟨_, _, pre12 _ ?_, hrun, hended, _, _, rfl, ?_, ⟨_, rfl⟩, hW, hsame.mono (by decide) (by decide)⟩
        · show Steps p.tables e below (T11.setTop (mkF m 25 #[.val (.int p0)] [(.ref w_BYTES32)])) _
          jvm_step X11.here [X11.here.top, hx, (hb hby d_method_3_code_25), X11.method', Bd.returns, Value.isRef, FieldType.isReference]
          first | (intro acts; rw [hr _ acts rfl rfl rfl]) | rw [hr _ _ rfl rfl rfl]
          exact Steps.refl _
        · show Q_rm_k Z p0 w_BYTES w_STRING w_BYTES32 w_TEXT32 w_ADDRESS w_UINT256 w_INT256 w_BOOL rr h0 n0 _ T11.heap _
          rw [e11]
          exact ⟨by rw [← hres]; simp +decide [hc1_1, hc10_5, hc19_9], N0, rfl⟩
      · have pre14 : ∀ t, Steps p.tables e below (s₁.setTop (mkF m 28 #[.val (.int p0)] [(.int (3 : Int32)), (.int p0)])) t → Steps p.tables e below (s₁.setTop (entryFrame m #[(.int p0)] 1)) t := by
          intro t kt
          refine pre10 t ?_
          show Steps p.tables e below (s₁.setTop (mkF m 19 #[.val (.int p0)] [(.int (2 : Int32)), (.int p0)])) _
          refine XS.icmpYes X0.here hx rfl (pc0 := 19) (pc' := 26) rfl (hb hby d_method_3_code_19) rfl (feq hc19_9).2 (by decide) (by decide) ?_
          show Steps p.tables e below (s₁.setTop (mkF m 26 #[.val (.int p0)] [])) _
          refine XS.iloadN X0.here hx rfl (hb hby d_method_3_code_26) rfl ?_
          show Steps p.tables e below (s₁.setTop (mkF m 27 #[.val (.int p0)] [(.int p0)])) _
          refine XS.iconst X0.here hx rfl (hb hby d_method_3_code_27) ?_
          exact kt
        by_cases hc28_13 : p0 = (3 : Int32)
        · obtain ⟨T15, X15, e15, st15⟩ := getS2 X0 hx hZ hown (host := "") (Or.inl (hw _ (List.mem_of_getElem? (i := 13) rfl))) Via.refl e0 S_TEXT32 (g := (mkF m 31 #[.val (.int p0)] [])) rfl (hb hby d_method_3_code_31)
          have pre16 : ∀ t, Steps p.tables e below (T15.setTop (mkF m 34 #[.val (.int p0)] [(.ref w_TEXT32)])) t → Steps p.tables e below (s₁.setTop (entryFrame m #[(.int p0)] 1)) t := by
            intro t kt
            refine pre14 t ?_
            show Steps p.tables e below (s₁.setTop (mkF m 28 #[.val (.int p0)] [(.int (3 : Int32)), (.int p0)])) _
            refine XS.icmpNo X0.here hx rfl (hb hby d_method_3_code_28) rfl (teq hc28_13).2 ?_
            show Steps p.tables e below (s₁.setTop (mkF m 31 #[.val (.int p0)] [])) _
            refine st15 _ ?_
            exact kt
          obtain ⟨fs, hr, hrun, hended, hW, hsame⟩ := X15.leave (v := some (.ref w_TEXT32)) (fun h => by rw [Bd.returns] at h; cases h)
          refine ⟨_, _, pre16 _ ?_, hrun, hended, _, _, rfl, ?_, ⟨_, rfl⟩, hW, hsame.mono (by decide) (by decide)⟩
          · show Steps p.tables e below (T15.setTop (mkF m 34 #[.val (.int p0)] [(.ref w_TEXT32)])) _
            jvm_step X15.here [X15.here.top, hx, (hb hby d_method_3_code_34), X15.method', Bd.returns, Value.isRef, FieldType.isReference]
            first | (intro acts; rw [hr _ acts rfl rfl rfl]) | rw [hr _ _ rfl rfl rfl]
            exact Steps.refl _
          · show Q_rm_k Z p0 w_BYTES w_STRING w_BYTES32 w_TEXT32 w_ADDRESS w_UINT256 w_INT256 w_BOOL rr h0 n0 _ T15.heap _
            rw [e15]
            exact ⟨by rw [← hres]; simp +decide [hc1_1, hc10_5, hc19_9, hc28_13], N0, rfl⟩
        · have pre18 : ∀ t, Steps p.tables e below (s₁.setTop (mkF m 37 #[.val (.int p0)] [(.int (4 : Int32)), (.int p0)])) t → Steps p.tables e below (s₁.setTop (entryFrame m #[(.int p0)] 1)) t := by
            intro t kt
            refine pre14 t ?_
            show Steps p.tables e below (s₁.setTop (mkF m 28 #[.val (.int p0)] [(.int (3 : Int32)), (.int p0)])) _
            refine XS.icmpYes X0.here hx rfl (pc0 := 28) (pc' := 35) rfl (hb hby d_method_3_code_28) rfl (feq hc28_13).2 (by decide) (by decide) ?_
            show Steps p.tables e below (s₁.setTop (mkF m 35 #[.val (.int p0)] [])) _
            refine XS.iloadN X0.here hx rfl (hb hby d_method_3_code_35) rfl ?_
            show Steps p.tables e below (s₁.setTop (mkF m 36 #[.val (.int p0)] [(.int p0)])) _
            refine XS.iconst X0.here hx rfl (hb hby d_method_3_code_36) ?_
            exact kt
          by_cases hc37_17 : p0 = (4 : Int32)
          · obtain ⟨T19, X19, e19, st19⟩ := getS2 X0 hx hZ hown (host := "") (Or.inl (hw _ (List.mem_of_getElem? (i := 24) rfl))) Via.refl e0 S_ADDRESS (g := (mkF m 40 #[.val (.int p0)] [])) rfl (hb hby d_method_3_code_40)
            have pre20 : ∀ t, Steps p.tables e below (T19.setTop (mkF m 43 #[.val (.int p0)] [(.ref w_ADDRESS)])) t → Steps p.tables e below (s₁.setTop (entryFrame m #[(.int p0)] 1)) t := by
              intro t kt
              refine pre18 t ?_
              show Steps p.tables e below (s₁.setTop (mkF m 37 #[.val (.int p0)] [(.int (4 : Int32)), (.int p0)])) _
              refine XS.icmpNo X0.here hx rfl (hb hby d_method_3_code_37) rfl (teq hc37_17).2 ?_
              show Steps p.tables e below (s₁.setTop (mkF m 40 #[.val (.int p0)] [])) _
              refine st19 _ ?_
              exact kt
            obtain ⟨fs, hr, hrun, hended, hW, hsame⟩ := X19.leave (v := some (.ref w_ADDRESS)) (fun h => by rw [Bd.returns] at h; cases h)
            refine ⟨_, _, pre20 _ ?_, hrun, hended, _, _, rfl, ?_, ⟨_, rfl⟩, hW, hsame.mono (by decide) (by decide)⟩
            · show Steps p.tables e below (T19.setTop (mkF m 43 #[.val (.int p0)] [(.ref w_ADDRESS)])) _
              jvm_step X19.here [X19.here.top, hx, (hb hby d_method_3_code_43), X19.method', Bd.returns, Value.isRef, FieldType.isReference]
              first | (intro acts; rw [hr _ acts rfl rfl rfl]) | rw [hr _ _ rfl rfl rfl]
              exact Steps.refl _
            · show Q_rm_k Z p0 w_BYTES w_STRING w_BYTES32 w_TEXT32 w_ADDRESS w_UINT256 w_INT256 w_BOOL rr h0 n0 _ T19.heap _
              rw [e19]
              exact ⟨by rw [← hres]; simp +decide [hc1_1, hc10_5, hc19_9, hc28_13, hc37_17], N0, rfl⟩
          · have pre22 : ∀ t, Steps p.tables e below (s₁.setTop (mkF m 46 #[.val (.int p0)] [(.int (5 : Int32)), (.int p0)])) t → Steps p.tables e below (s₁.setTop (entryFrame m #[(.int p0)] 1)) t := by
              intro t kt
              refine pre18 t ?_
              show Steps p.tables e below (s₁.setTop (mkF m 37 #[.val (.int p0)] [(.int (4 : Int32)), (.int p0)])) _
              refine XS.icmpYes X0.here hx rfl (pc0 := 37) (pc' := 44) rfl (hb hby d_method_3_code_37) rfl (feq hc37_17).2 (by decide) (by decide) ?_
              show Steps p.tables e below (s₁.setTop (mkF m 44 #[.val (.int p0)] [])) _
              refine XS.iloadN X0.here hx rfl (hb hby d_method_3_code_44) rfl ?_
              show Steps p.tables e below (s₁.setTop (mkF m 45 #[.val (.int p0)] [(.int p0)])) _
              refine XS.iconst X0.here hx rfl (hb hby d_method_3_code_45) ?_
              exact kt
            by_cases hc46_21 : p0 = (5 : Int32)
            · obtain ⟨T23, X23, e23, st23⟩ := getS2 X0 hx hZ hown (host := "") (Or.inl (hw _ (List.mem_of_getElem? (i := 26) rfl))) Via.refl e0 S_UINT256 (g := (mkF m 49 #[.val (.int p0)] [])) rfl (hb hby d_method_3_code_49)
              have pre24 : ∀ t, Steps p.tables e below (T23.setTop (mkF m 52 #[.val (.int p0)] [(.ref w_UINT256)])) t → Steps p.tables e below (s₁.setTop (entryFrame m #[(.int p0)] 1)) t := by
                intro t kt
                refine pre22 t ?_
                show Steps p.tables e below (s₁.setTop (mkF m 46 #[.val (.int p0)] [(.int (5 : Int32)), (.int p0)])) _
                refine XS.icmpNo X0.here hx rfl (hb hby d_method_3_code_46) rfl (teq hc46_21).2 ?_
                show Steps p.tables e below (s₁.setTop (mkF m 49 #[.val (.int p0)] [])) _
                refine st23 _ ?_
                exact kt
              obtain ⟨fs, hr, hrun, hended, hW, hsame⟩ := X23.leave (v := some (.ref w_UINT256)) (fun h => by rw [Bd.returns] at h; cases h)
              refine ⟨_, _, pre24 _ ?_, hrun, hended, _, _, rfl, ?_, ⟨_, rfl⟩, hW, hsame.mono (by decide) (by decide)⟩
              · show Steps p.tables e below (T23.setTop (mkF m 52 #[.val (.int p0)] [(.ref w_UINT256)])) _
                jvm_step X23.here [X23.here.top, hx, (hb hby d_method_3_code_52), X23.method', Bd.returns, Value.isRef, FieldType.isReference]
                first | (intro acts; rw [hr _ acts rfl rfl rfl]) | rw [hr _ _ rfl rfl rfl]
                exact Steps.refl _
              · show Q_rm_k Z p0 w_BYTES w_STRING w_BYTES32 w_TEXT32 w_ADDRESS w_UINT256 w_INT256 w_BOOL rr h0 n0 _ T23.heap _
                rw [e23]
                exact ⟨by rw [← hres]; simp +decide [hc1_1, hc10_5, hc19_9, hc28_13, hc37_17, hc46_21], N0, rfl⟩
            · have pre26 : ∀ t, Steps p.tables e below (s₁.setTop (mkF m 56 #[.val (.int p0)] [(.int (6 : Int32)), (.int p0)])) t → Steps p.tables e below (s₁.setTop (entryFrame m #[(.int p0)] 1)) t := by
                intro t kt
                refine pre22 t ?_
                show Steps p.tables e below (s₁.setTop (mkF m 46 #[.val (.int p0)] [(.int (5 : Int32)), (.int p0)])) _
                refine XS.icmpYes X0.here hx rfl (pc0 := 46) (pc' := 53) rfl (hb hby d_method_3_code_46) rfl (feq hc46_21).2 (by decide) (by decide) ?_
                show Steps p.tables e below (s₁.setTop (mkF m 53 #[.val (.int p0)] [])) _
                refine XS.iloadN X0.here hx rfl (hb hby d_method_3_code_53) rfl ?_
                show Steps p.tables e below (s₁.setTop (mkF m 54 #[.val (.int p0)] [(.int p0)])) _
                refine XS.bipush X0.here hx rfl (hb hby d_method_3_code_54) ?_
                exact kt
              by_cases hc56_25 : p0 = (6 : Int32)
              · obtain ⟨T27, X27, e27, st27⟩ := getS2 X0 hx hZ hown (host := "") (Or.inl (hw _ (List.mem_of_getElem? (i := 17) rfl))) Via.refl e0 S_INT256 (g := (mkF m 59 #[.val (.int p0)] [])) rfl (hb hby d_method_3_code_59)
                have pre28 : ∀ t, Steps p.tables e below (T27.setTop (mkF m 62 #[.val (.int p0)] [(.ref w_INT256)])) t → Steps p.tables e below (s₁.setTop (entryFrame m #[(.int p0)] 1)) t := by
                  intro t kt
                  refine pre26 t ?_
                  show Steps p.tables e below (s₁.setTop (mkF m 56 #[.val (.int p0)] [(.int (6 : Int32)), (.int p0)])) _
                  refine XS.icmpNo X0.here hx rfl (hb hby d_method_3_code_56) rfl (teq hc56_25).2 ?_
                  show Steps p.tables e below (s₁.setTop (mkF m 59 #[.val (.int p0)] [])) _
                  refine st27 _ ?_
                  exact kt
                obtain ⟨fs, hr, hrun, hended, hW, hsame⟩ := X27.leave (v := some (.ref w_INT256)) (fun h => by rw [Bd.returns] at h; cases h)
                refine ⟨_, _, pre28 _ ?_, hrun, hended, _, _, rfl, ?_, ⟨_, rfl⟩, hW, hsame.mono (by decide) (by decide)⟩
                · show Steps p.tables e below (T27.setTop (mkF m 62 #[.val (.int p0)] [(.ref w_INT256)])) _
                  jvm_step X27.here [X27.here.top, hx, (hb hby d_method_3_code_62), X27.method', Bd.returns, Value.isRef, FieldType.isReference]
                  first | (intro acts; rw [hr _ acts rfl rfl rfl]) | rw [hr _ _ rfl rfl rfl]
                  exact Steps.refl _
                · show Q_rm_k Z p0 w_BYTES w_STRING w_BYTES32 w_TEXT32 w_ADDRESS w_UINT256 w_INT256 w_BOOL rr h0 n0 _ T27.heap _
                  rw [e27]
                  exact ⟨by rw [← hres]; simp +decide [hc1_1, hc10_5, hc19_9, hc28_13, hc37_17, hc46_21, hc56_25], N0, rfl⟩
              · obtain ⟨T29, X29, e29, st29⟩ := getS2 X0 hx hZ hown (host := "") (Or.inl (hw _ (List.mem_of_getElem? (i := 19) rfl))) Via.refl e0 S_BOOL (g := (mkF m 63 #[.val (.int p0)] [])) rfl (hb hby d_method_3_code_63)
                have pre30 : ∀ t, Steps p.tables e below (T29.setTop (mkF m 66 #[.val (.int p0)] [(.ref w_BOOL)])) t → Steps p.tables e below (s₁.setTop (entryFrame m #[(.int p0)] 1)) t := by
                  intro t kt
                  refine pre26 t ?_
                  show Steps p.tables e below (s₁.setTop (mkF m 56 #[.val (.int p0)] [(.int (6 : Int32)), (.int p0)])) _
                  refine XS.icmpYes X0.here hx rfl (pc0 := 56) (pc' := 63) rfl (hb hby d_method_3_code_56) rfl (feq hc56_25).2 (by decide) (by decide) ?_
                  show Steps p.tables e below (s₁.setTop (mkF m 63 #[.val (.int p0)] [])) _
                  refine st29 _ ?_
                  exact kt
                obtain ⟨fs, hr, hrun, hended, hW, hsame⟩ := X29.leave (v := some (.ref w_BOOL)) (fun h => by rw [Bd.returns] at h; cases h)
                refine ⟨_, _, pre30 _ ?_, hrun, hended, _, _, rfl, ?_, ⟨_, rfl⟩, hW, hsame.mono (by decide) (by decide)⟩
                · show Steps p.tables e below (T29.setTop (mkF m 66 #[.val (.int p0)] [(.ref w_BOOL)])) _
                  jvm_step X29.here [X29.here.top, hx, (hb hby d_method_3_code_66), X29.method', Bd.returns, Value.isRef, FieldType.isReference]
                  first | (intro acts; rw [hr _ acts rfl rfl rfl]) | rw [hr _ _ rfl rfl rfl]
                  exact Steps.refl _
                · show Q_rm_k Z p0 w_BYTES w_STRING w_BYTES32 w_TEXT32 w_ADDRESS w_UINT256 w_INT256 w_BOOL rr h0 n0 _ T29.heap _
                  rw [e29]
                  exact ⟨by rw [← hres]; simp +decide [hc1_1, hc10_5, hc19_9, hc28_13, hc37_17, hc46_21, hc56_25], N0, rfl⟩
theorem pn_com_example_bindery_bindery_codecs_airnode_ContractAbi_Kind : plainName "com/example/bindery/bindery/codecs/airnode/ContractAbi$Kind" = true := by first | (simp [plainName, overriddenIn]; done) | decide +kernel
theorem ef_rm_p (m : MethodId) (o0 : Addr) : entryFrame m #[(.ref o0)] 1 = mkF m 0 #[.val (.ref o0)] [] := by first | (simp [entryFrame, mkF, argsToLocals, Value.category]; done) | rfl
def Q_rm_p (Z : State) (o0 : Addr) (w_BYTES w_STRING : Addr) (r : Int32) (h0 : Heap) (n0 : Nat) (v : Option Value) (h : Heap) (L : List Loc) : Prop := v = some (.int r) ∧ Fr n0 L ∧ h = h0
theorem d_prog_52_method_4_code_0 : decode prog_52_method_4_code 0 = .ok (.aload_n 0, 1) := by decide +kernel
theorem d_prog_52_method_4_code_1 : decode prog_52_method_4_code 1 = .ok (.getstatic 3, 3) := by decide +kernel
theorem d_prog_52_method_4_code_4 : decode prog_52_method_4_code 4 = .ok (.if_acmp .eq 10, 3) := by decide +kernel
theorem d_prog_52_method_4_code_14 : decode prog_52_method_4_code 14 = .ok (.iconst 1, 1) := by decide +kernel
theorem d_prog_52_method_4_code_15 : decode prog_52_method_4_code 15 = .ok (.goto 4, 3) := by decide +kernel
theorem d_prog_52_method_4_code_19 : decode prog_52_method_4_code 19 = .ok (.ireturn, 1) := by decide +kernel
theorem d_prog_52_method_4_code_7 : decode prog_52_method_4_code 7 = .ok (.aload_n 0, 1) := by decide +kernel
theorem d_prog_52_method_4_code_8 : decode prog_52_method_4_code 8 = .ok (.getstatic 7, 3) := by decide +kernel
theorem d_prog_52_method_4_code_11 : decode prog_52_method_4_code 11 = .ok (.if_acmp .ne 7, 3) := by decide +kernel
theorem d_prog_52_method_4_code_18 : decode prog_52_method_4_code 18 = .ok (.iconst 0, 1) := by decide +kernel
set_option maxRecDepth 65536 in
set_option maxHeartbeats 40000000 in
theorem rm_p (l : Launch) (Z : State) (a0 : Array Value) (hw : ∀ d ∈ tables_1, d.before a0 Z = true) (ws : List Jvm.Cond) (o0 : Addr) (w_BYTES w_STRING : Addr) (r : Int32) (h0 : Heap) (n0 : Nat) (Z0 : n0 ≤ h0.size) (S_BYTES : Sta Z h0 "com/example/bindery/bindery/codecs/airnode/ContractAbi$Kind" "BYTES" "Lcom/example/bindery/bindery/codecs/airnode/ContractAbi$Kind;" (.ref w_BYTES)) (S_STRING : Sta Z h0 "com/example/bindery/bindery/codecs/airnode/ContractAbi$Kind" "STRING" "Lcom/example/bindery/bindery/codecs/airnode/ContractAbi$Kind;" (.ref w_STRING)) (hres : (if o0 = w_BYTES then (1 : Int32) else (if o0 = w_STRING then (1 : Int32) else (0 : Int32))) = r) :
    MetFree l (⟨"com/example/bindery/bindery/codecs/airnode/ContractAbi$Kind", "dynamic", "()Z"⟩ : MethodName) (head1 (Jvm.Cond.code (⟨"com/example/bindery/bindery/codecs/airnode/ContractAbi$Kind", "dynamic", "()Z"⟩ : MethodName) prog_52_method_4_code 1 (some .boolean) :: ws) ({ frames := 0, cells := 0, slots := 0, locals := 0 } : Room)) (fun a U => a = #[(.ref o0)] ∧ Z.Warmed39 U.vm ∧ U.heap = h0) (fun _ _ _ _ _ => True) (fun _ U o U' => ∃ v L, o = .returned v ∧ Q_rm_p Z o0 w_BYTES w_STRING r h0 n0 v U'.heap L ∧ FrameEnd U o U' L ({ frames := 0, cells := 0, slots := 0, locals := 0 } : Room).cells ({ frames := 0, cells := 0, slots := 0, locals := 0 } : Room).slots) := by
  refine MetFree.of_bodySF (plainFor_of_name pn_com_example_bindery_bindery_codecs_airnode_ContractAbi_Kind) hisR ?_
  intro p e s m args below meth c s₁ Bd hml0 hP hK
  obtain ⟨rfl, hZ, hh⟩ := hP
  have hx := Bd.exec
  have hby := Bd.bytes
  have hml : c.maxLocals = 1 := hml0
  have hown : s.vm.findClass "com/example/bindery/bindery/codecs/airnode/ContractAbi$Kind" = some m.cls := findClass_of_methodNamed Bd.named
  have hnm := (name_of_methodNamed Bd.named Bd.method).1
  have X0 : Stand p l e ({ frames := 0, cells := 0, slots := 0, locals := 0 } : Room) s m #[(.ref o0)] below meth c s₁ [] 0 0 := Stand.of_body Bd
  have e0 : s₁.heap = h0 := by rw [← hh, Bd.state]; rfl
  have N0 := Fr.nil n0
  have pre0 : ∀ t, Steps p.tables e below (s₁.setTop (mkF m 0 #[.val (.ref o0)] [])) t → Steps p.tables e below (s₁.setTop (entryFrame m #[(.ref o0)] 1)) t := fun t k => castTop (ef_rm_p m o0) k
  obtain ⟨T31, X31, e31, st31⟩ := getS2 X0 hx hZ hown (host := "") (Or.inl (hw _ (List.mem_of_getElem? (i := 12) rfl))) Via.refl e0 S_BYTES (g := (mkF m 1 #[.val (.ref o0)] [(.ref o0)])) rfl (hb hby d_prog_52_method_4_code_1)
  have pre32 : ∀ t, Steps p.tables e below (T31.setTop (mkF m 4 #[.val (.ref o0)] [(.ref w_BYTES), (.ref o0)])) t → Steps p.tables e below (s₁.setTop (entryFrame m #[(.ref o0)] 1)) t := by
    intro t kt
    refine pre0 t ?_
    show Steps p.tables e below (s₁.setTop (mkF m 0 #[.val (.ref o0)] [])) _
    refine XS.aloadN X0.here hx rfl (hb hby d_prog_52_method_4_code_0) rfl rfl ?_
    show Steps p.tables e below (s₁.setTop (mkF m 1 #[.val (.ref o0)] [(.ref o0)])) _
    refine st31 _ ?_
    exact kt
  by_cases ha4_33 : o0 = w_BYTES
  · have pre34 : ∀ t, Steps p.tables e below (T31.setTop (mkF m 19 #[.val (.ref o0)] [(.int (1 : Int32))])) t → Steps p.tables e below (s₁.setTop (entryFrame m #[(.ref o0)] 1)) t := by
      intro t kt
      refine pre32 t ?_
      show Steps p.tables e below (T31.setTop (mkF m 4 #[.val (.ref o0)] [(.ref w_BYTES), (.ref o0)])) _
      refine Jvm.RoadKit.acmp (g := (mkF m 4 #[.val (.ref o0)] [(.ref w_BYTES), (.ref o0)])) X31 hx rfl rfl rfl (pc0 := 4) (pc' := 14) (same := true) rfl (hb hby d_prog_52_method_4_code_4) rfl (decide_eq_true (congrArg Value.ref ha4_33)) (by decide) (by decide) ?_
      show Steps p.tables e below (T31.setTop (mkF m 14 #[.val (.ref o0)] [])) _
      refine XS.iconst X31.here hx rfl (hb hby d_prog_52_method_4_code_14) ?_
      show Steps p.tables e below (T31.setTop (mkF m 15 #[.val (.ref o0)] [(.int (1 : Int32))])) _
      refine XS.goto X31.here hx rfl (pc0 := 15) (pc' := 19) rfl (hb hby d_prog_52_method_4_code_15) (by decide) (by decide) ?_
      exact kt
    obtain ⟨fs, hr, hrun, hended, hW, hsame⟩ := X31.leave (v := some (.int (1 : Int32))) (fun h => by rw [Bd.returns] at h; cases h)
    refine ⟨_, _, pre34 _ ?_, hrun, hended, _, _, rfl, ?_, ⟨_, rfl⟩, hW, hsame.mono (by decide) (by decide)⟩
    · show Steps p.tables e below (T31.setTop (mkF m 19 #[.val (.ref o0)] [(.int (1 : Int32))])) _
      exact retN X31 hx (t := .boolean) Bd.returns (by simp) (hb hby d_prog_52_method_4_code_19) hr
    · show Q_rm_p Z o0 w_BYTES w_STRING r h0 n0 _ T31.heap _
      rw [e31]
      exact ⟨by rw [← hres]; simp [ha4_33], N0, rfl⟩
  · obtain ⟨T35, X35, e35, st35⟩ := getS2 X31 hx hZ hown (host := "") (Or.inl (hw _ (List.mem_of_getElem? (i := 15) rfl))) Via.refl e31 S_STRING (g := (mkF m 8 #[.val (.ref o0)] [(.ref o0)])) rfl (hb hby d_prog_52_method_4_code_8)
    have pre36 : ∀ t, Steps p.tables e below (T35.setTop (mkF m 11 #[.val (.ref o0)] [(.ref w_STRING), (.ref o0)])) t → Steps p.tables e below (s₁.setTop (entryFrame m #[(.ref o0)] 1)) t := by
      intro t kt
      refine pre32 t ?_
      show Steps p.tables e below (T31.setTop (mkF m 4 #[.val (.ref o0)] [(.ref w_BYTES), (.ref o0)])) _
      refine Jvm.RoadKit.acmp (g := (mkF m 4 #[.val (.ref o0)] [(.ref w_BYTES), (.ref o0)])) X31 hx rfl rfl rfl (pc0 := 4) (pc' := 7) (same := false) rfl (hb hby d_prog_52_method_4_code_4) rfl (decide_eq_false fun q => ha4_33 (Value.ref.inj q)) (by decide) (by decide) ?_
      show Steps p.tables e below (T31.setTop (mkF m 7 #[.val (.ref o0)] [])) _
      refine XS.aloadN X31.here hx rfl (hb hby d_prog_52_method_4_code_7) rfl rfl ?_
      show Steps p.tables e below (T31.setTop (mkF m 8 #[.val (.ref o0)] [(.ref o0)])) _
      refine st35 _ ?_
      exact kt
    by_cases ha11_37 : o0 = w_STRING
    · have pre38 : ∀ t, Steps p.tables e below (T35.setTop (mkF m 19 #[.val (.ref o0)] [(.int (1 : Int32))])) t → Steps p.tables e below (s₁.setTop (entryFrame m #[(.ref o0)] 1)) t := by
        intro t kt
        refine pre36 t ?_
        show Steps p.tables e below (T35.setTop (mkF m 11 #[.val (.ref o0)] [(.ref w_STRING), (.ref o0)])) _
        refine Jvm.RoadKit.acmp (g := (mkF m 11 #[.val (.ref o0)] [(.ref w_STRING), (.ref o0)])) X35 hx rfl rfl rfl (pc0 := 11) (pc' := 14) (same := true) rfl (hb hby d_prog_52_method_4_code_11) rfl (decide_eq_true (congrArg Value.ref ha11_37)) (by decide) (by decide) ?_
        show Steps p.tables e below (T35.setTop (mkF m 14 #[.val (.ref o0)] [])) _
        refine XS.iconst X35.here hx rfl (hb hby d_prog_52_method_4_code_14) ?_
        show Steps p.tables e below (T35.setTop (mkF m 15 #[.val (.ref o0)] [(.int (1 : Int32))])) _
        refine XS.goto X35.here hx rfl (pc0 := 15) (pc' := 19) rfl (hb hby d_prog_52_method_4_code_15) (by decide) (by decide) ?_
        exact kt
      obtain ⟨fs, hr, hrun, hended, hW, hsame⟩ := X35.leave (v := some (.int (1 : Int32))) (fun h => by rw [Bd.returns] at h; cases h)
      refine ⟨_, _, pre38 _ ?_, hrun, hended, _, _, rfl, ?_, ⟨_, rfl⟩, hW, hsame.mono (by decide) (by decide)⟩
      · show Steps p.tables e below (T35.setTop (mkF m 19 #[.val (.ref o0)] [(.int (1 : Int32))])) _
        exact retN X35 hx (t := .boolean) Bd.returns (by simp) (hb hby d_prog_52_method_4_code_19) hr
      · show Q_rm_p Z o0 w_BYTES w_STRING r h0 n0 _ T35.heap _
        rw [e35]
        exact ⟨by rw [← hres]; simp [ha4_33, ha11_37], N0, rfl⟩
    · have pre39 : ∀ t, Steps p.tables e below (T35.setTop (mkF m 19 #[.val (.ref o0)] [(.int (0 : Int32))])) t → Steps p.tables e below (s₁.setTop (entryFrame m #[(.ref o0)] 1)) t := by
        intro t kt
        refine pre36 t ?_
        show Steps p.tables e below (T35.setTop (mkF m 11 #[.val (.ref o0)] [(.ref w_STRING), (.ref o0)])) _
        refine Jvm.RoadKit.acmp (g := (mkF m 11 #[.val (.ref o0)] [(.ref w_STRING), (.ref o0)])) X35 hx rfl rfl rfl (pc0 := 11) (pc' := 18) (same := false) rfl (hb hby d_prog_52_method_4_code_11) rfl (decide_eq_false fun q => ha11_37 (Value.ref.inj q)) (by decide) (by decide) ?_
        show Steps p.tables e below (T35.setTop (mkF m 18 #[.val (.ref o0)] [])) _
        refine XS.iconst X35.here hx rfl (hb hby d_prog_52_method_4_code_18) ?_
        exact kt
      obtain ⟨fs, hr, hrun, hended, hW, hsame⟩ := X35.leave (v := some (.int (0 : Int32))) (fun h => by rw [Bd.returns] at h; cases h)
      refine ⟨_, _, pre39 _ ?_, hrun, hended, _, _, rfl, ?_, ⟨_, rfl⟩, hW, hsame.mono (by decide) (by decide)⟩
      · show Steps p.tables e below (T35.setTop (mkF m 19 #[.val (.ref o0)] [(.int (0 : Int32))])) _
        exact retN X35 hx (t := .boolean) Bd.returns (by simp) (hb hby d_prog_52_method_4_code_19) hr
      · show Q_rm_p Z o0 w_BYTES w_STRING r h0 n0 _ T35.heap _
        rw [e35]
        exact ⟨by rw [← hres]; simp [ha4_33, ha11_37], N0, rfl⟩
theorem ef_rm0 (m : MethodId) (p0 : Int32) : entryFrame m #[(.int p0)] maxLocals = mkF m 0 #[.val (.int p0), .unset, .unset, .unset] [] := by first | (simp [entryFrame, mkF, argsToLocals, Value.category, maxLocals]; done) | rfl
def Q_rm0 (Z : State) (p0 : Int32) (w_BYTES w_TEXT32 w_STRING w_INT256 w_BOOL w_BYTES32 w_ADDRESS w_UINT256 : Addr)  (h0 : Heap) (n0 : Nat) (v : Option Value) (h : Heap) (L : List Loc) : Prop := v = some (.int 1) ∧ Fr n0 L
theorem pd__I_Lcom_example_bindery_bindery_codecs_airnode_ContractAbi_Kind_ : parseMethodDescriptor "(I)Lcom/example/bindery/bindery/codecs/airnode/ContractAbi$Kind;" = some ⟨[.int], some (.object "com/example/bindery/bindery/codecs/airnode/ContractAbi$Kind")⟩ := by decide +kernel
theorem pd___Z : parseMethodDescriptor "()Z" = some ⟨[], some .boolean⟩ := by decide +kernel
set_option maxRecDepth 65536 in
set_option maxHeartbeats 40000000 in
theorem rm0 (l : Launch) (Z : State) (a0 : Array Value) (hw : ∀ d ∈ tables_1, d.before a0 Z = true) (ws : List Jvm.Cond) (p0 : Int32) (w_BYTES w_TEXT32 w_STRING w_INT256 w_BOOL w_BYTES32 w_ADDRESS w_UINT256 : Addr)  (h0 : Heap) (n0 : Nat) (Z0 : n0 ≤ h0.size) (S_BYTES : Sta Z h0 "com/example/bindery/bindery/codecs/airnode/ContractAbi$Kind" "BYTES" "Lcom/example/bindery/bindery/codecs/airnode/ContractAbi$Kind;" (.ref w_BYTES)) (E_BYTES : Exa Z h0 w_BYTES "com/example/bindery/bindery/codecs/airnode/ContractAbi$Kind") (S_TEXT32 : Sta Z h0 "com/example/bindery/bindery/codecs/airnode/ContractAbi$Kind" "TEXT32" "Lcom/example/bindery/bindery/codecs/airnode/ContractAbi$Kind;" (.ref w_TEXT32)) (E_TEXT32 : Exa Z h0 w_TEXT32 "com/example/bindery/bindery/codecs/airnode/ContractAbi$Kind") (S_STRING : Sta Z h0 "com/example/bindery/bindery/codecs/airnode/ContractAbi$Kind" "STRING" "Lcom/example/bindery/bindery/codecs/airnode/ContractAbi$Kind;" (.ref w_STRING)) (E_STRING : Exa Z h0 w_STRING "com/example/bindery/bindery/codecs/airnode/ContractAbi$Kind") (S_INT256 : Sta Z h0 "com/example/bindery/bindery/codecs/airnode/ContractAbi$Kind" "INT256" "Lcom/example/bindery/bindery/codecs/airnode/ContractAbi$Kind;" (.ref w_INT256)) (E_INT256 : Exa Z h0 w_INT256 "com/example/bindery/bindery/codecs/airnode/ContractAbi$Kind") (S_BOOL : Sta Z h0 "com/example/bindery/bindery/codecs/airnode/ContractAbi$Kind" "BOOL" "Lcom/example/bindery/bindery/codecs/airnode/ContractAbi$Kind;" (.ref w_BOOL)) (E_BOOL : Exa Z h0 w_BOOL "com/example/bindery/bindery/codecs/airnode/ContractAbi$Kind") (S_BYTES32 : Sta Z h0 "com/example/bindery/bindery/codecs/airnode/ContractAbi$Kind" "BYTES32" "Lcom/example/bindery/bindery/codecs/airnode/ContractAbi$Kind;" (.ref w_BYTES32)) (E_BYTES32 : Exa Z h0 w_BYTES32 "com/example/bindery/bindery/codecs/airnode/ContractAbi$Kind") (S_ADDRESS : Sta Z h0 "com/example/bindery/bindery/codecs/airnode/ContractAbi$Kind" "ADDRESS" "Lcom/example/bindery/bindery/codecs/airnode/ContractAbi$Kind;" (.ref w_ADDRESS)) (E_ADDRESS : Exa Z h0 w_ADDRESS "com/example/bindery/bindery/codecs/airnode/ContractAbi$Kind") (S_UINT256 : Sta Z h0 "com/example/bindery/bindery/codecs/airnode/ContractAbi$Kind" "UINT256" "Lcom/example/bindery/bindery/codecs/airnode/ContractAbi$Kind;" (.ref w_UINT256)) (E_UINT256 : Exa Z h0 w_UINT256 "com/example/bindery/bindery/codecs/airnode/ContractAbi$Kind") (F_ordinal_TEXT32 : Fld Z h0 w_TEXT32 "java/lang/Enum" "ordinal" "I" (.int (3 : Int32))) (F_ordinal_BYTES : Fld Z h0 w_BYTES "java/lang/Enum" "ordinal" "I" (.int (0 : Int32))) (F_ordinal_STRING : Fld Z h0 w_STRING "java/lang/Enum" "ordinal" "I" (.int (1 : Int32))) (F_ordinal_INT256 : Fld Z h0 w_INT256 "java/lang/Enum" "ordinal" "I" (.int (6 : Int32))) (F_ordinal_BOOL : Fld Z h0 w_BOOL "java/lang/Enum" "ordinal" "I" (.int (7 : Int32))) (F_ordinal_BYTES32 : Fld Z h0 w_BYTES32 "java/lang/Enum" "ordinal" "I" (.int (2 : Int32))) (F_ordinal_ADDRESS : Fld Z h0 w_ADDRESS "java/lang/Enum" "ordinal" "I" (.int (4 : Int32))) (F_ordinal_UINT256 : Fld Z h0 w_UINT256 "java/lang/Enum" "ordinal" "I" (.int (5 : Int32))) :
    MetFree l x (head1 (Jvm.Cond.code x code maxLocals ret :: ws) room_1) (fun a U => a = #[(.int p0)] ∧ Z.Warmed39 U.vm ∧ U.heap = h0) (fun _ _ _ _ _ => True) (fun _ U o U' => ∃ v L, o = .returned v ∧ Q_rm0 Z p0 w_BYTES w_TEXT32 w_STRING w_INT256 w_BOOL w_BYTES32 w_ADDRESS w_UINT256 h0 n0 v U'.heap L ∧ FrameEnd U o U' L room_1.cells room_1.slots) := by
  refine MetFree.of_bodySF (plainFor_of_name pn_com_example_bindery_bindery_codecs_airnode_KindDynamicPinLaw) hisR ?_
  intro p e s m args below meth c s₁ Bd hml0 hP hK
  obtain ⟨rfl, hZ, hh⟩ := hP
  have hx := Bd.exec
  have hby := Bd.bytes
  have hml : c.maxLocals = 4 := hml0
  have hown : s.vm.findClass "com/example/bindery/bindery/codecs/airnode/KindDynamicPinLaw" = some m.cls := findClass_of_methodNamed Bd.named
  have hnm := (name_of_methodNamed Bd.named Bd.method).1
  have X0 : Stand p l e room_1 s m #[(.int p0)] below meth c s₁ [] 0 0 := Stand.of_body Bd
  have e0 : s₁.heap = h0 := by rw [← hh, Bd.state]; rfl
  have N0 := Fr.nil n0
  have pre0 : ∀ t, Steps p.tables e below (s₁.setTop (mkF m 0 #[.val (.int p0), .unset, .unset, .unset] [])) t → Steps p.tables e below (s₁.setTop (entryFrame m #[(.int p0)] maxLocals)) t := fun t k => castTop (ef_rm0 m p0) k
  have ne_BYTES_TEXT32 : w_BYTES ≠ w_TEXT32 := Fld.ne F_ordinal_BYTES F_ordinal_TEXT32 (fun q => absurd (Value.int.inj q) (by decide))
  have ne_BYTES_STRING : w_BYTES ≠ w_STRING := Fld.ne F_ordinal_BYTES F_ordinal_STRING (fun q => absurd (Value.int.inj q) (by decide))
  have ne_BYTES_INT256 : w_BYTES ≠ w_INT256 := Fld.ne F_ordinal_BYTES F_ordinal_INT256 (fun q => absurd (Value.int.inj q) (by decide))
  have ne_BYTES_BOOL : w_BYTES ≠ w_BOOL := Fld.ne F_ordinal_BYTES F_ordinal_BOOL (fun q => absurd (Value.int.inj q) (by decide))
  have ne_BYTES_BYTES32 : w_BYTES ≠ w_BYTES32 := Fld.ne F_ordinal_BYTES F_ordinal_BYTES32 (fun q => absurd (Value.int.inj q) (by decide))
  have ne_BYTES_ADDRESS : w_BYTES ≠ w_ADDRESS := Fld.ne F_ordinal_BYTES F_ordinal_ADDRESS (fun q => absurd (Value.int.inj q) (by decide))
  have ne_BYTES_UINT256 : w_BYTES ≠ w_UINT256 := Fld.ne F_ordinal_BYTES F_ordinal_UINT256 (fun q => absurd (Value.int.inj q) (by decide))
  have ne_TEXT32_BYTES : w_TEXT32 ≠ w_BYTES := Fld.ne F_ordinal_TEXT32 F_ordinal_BYTES (fun q => absurd (Value.int.inj q) (by decide))
  have ne_TEXT32_STRING : w_TEXT32 ≠ w_STRING := Fld.ne F_ordinal_TEXT32 F_ordinal_STRING (fun q => absurd (Value.int.inj q) (by decide))
  have ne_TEXT32_INT256 : w_TEXT32 ≠ w_INT256 := Fld.ne F_ordinal_TEXT32 F_ordinal_INT256 (fun q => absurd (Value.int.inj q) (by decide))
  have ne_TEXT32_BOOL : w_TEXT32 ≠ w_BOOL := Fld.ne F_ordinal_TEXT32 F_ordinal_BOOL (fun q => absurd (Value.int.inj q) (by decide))
  have ne_TEXT32_BYTES32 : w_TEXT32 ≠ w_BYTES32 := Fld.ne F_ordinal_TEXT32 F_ordinal_BYTES32 (fun q => absurd (Value.int.inj q) (by decide))
  have ne_TEXT32_ADDRESS : w_TEXT32 ≠ w_ADDRESS := Fld.ne F_ordinal_TEXT32 F_ordinal_ADDRESS (fun q => absurd (Value.int.inj q) (by decide))
  have ne_TEXT32_UINT256 : w_TEXT32 ≠ w_UINT256 := Fld.ne F_ordinal_TEXT32 F_ordinal_UINT256 (fun q => absurd (Value.int.inj q) (by decide))
  have ne_STRING_BYTES : w_STRING ≠ w_BYTES := Fld.ne F_ordinal_STRING F_ordinal_BYTES (fun q => absurd (Value.int.inj q) (by decide))
  have ne_STRING_TEXT32 : w_STRING ≠ w_TEXT32 := Fld.ne F_ordinal_STRING F_ordinal_TEXT32 (fun q => absurd (Value.int.inj q) (by decide))
  have ne_STRING_INT256 : w_STRING ≠ w_INT256 := Fld.ne F_ordinal_STRING F_ordinal_INT256 (fun q => absurd (Value.int.inj q) (by decide))
  have ne_STRING_BOOL : w_STRING ≠ w_BOOL := Fld.ne F_ordinal_STRING F_ordinal_BOOL (fun q => absurd (Value.int.inj q) (by decide))
  have ne_STRING_BYTES32 : w_STRING ≠ w_BYTES32 := Fld.ne F_ordinal_STRING F_ordinal_BYTES32 (fun q => absurd (Value.int.inj q) (by decide))
  have ne_STRING_ADDRESS : w_STRING ≠ w_ADDRESS := Fld.ne F_ordinal_STRING F_ordinal_ADDRESS (fun q => absurd (Value.int.inj q) (by decide))
  have ne_STRING_UINT256 : w_STRING ≠ w_UINT256 := Fld.ne F_ordinal_STRING F_ordinal_UINT256 (fun q => absurd (Value.int.inj q) (by decide))
  have ne_INT256_BYTES : w_INT256 ≠ w_BYTES := Fld.ne F_ordinal_INT256 F_ordinal_BYTES (fun q => absurd (Value.int.inj q) (by decide))
  have ne_INT256_TEXT32 : w_INT256 ≠ w_TEXT32 := Fld.ne F_ordinal_INT256 F_ordinal_TEXT32 (fun q => absurd (Value.int.inj q) (by decide))
  have ne_INT256_STRING : w_INT256 ≠ w_STRING := Fld.ne F_ordinal_INT256 F_ordinal_STRING (fun q => absurd (Value.int.inj q) (by decide))
  have ne_INT256_BOOL : w_INT256 ≠ w_BOOL := Fld.ne F_ordinal_INT256 F_ordinal_BOOL (fun q => absurd (Value.int.inj q) (by decide))
  have ne_INT256_BYTES32 : w_INT256 ≠ w_BYTES32 := Fld.ne F_ordinal_INT256 F_ordinal_BYTES32 (fun q => absurd (Value.int.inj q) (by decide))
  have ne_INT256_ADDRESS : w_INT256 ≠ w_ADDRESS := Fld.ne F_ordinal_INT256 F_ordinal_ADDRESS (fun q => absurd (Value.int.inj q) (by decide))
  have ne_INT256_UINT256 : w_INT256 ≠ w_UINT256 := Fld.ne F_ordinal_INT256 F_ordinal_UINT256 (fun q => absurd (Value.int.inj q) (by decide))
  have ne_BOOL_BYTES : w_BOOL ≠ w_BYTES := Fld.ne F_ordinal_BOOL F_ordinal_BYTES (fun q => absurd (Value.int.inj q) (by decide))
  have ne_BOOL_TEXT32 : w_BOOL ≠ w_TEXT32 := Fld.ne F_ordinal_BOOL F_ordinal_TEXT32 (fun q => absurd (Value.int.inj q) (by decide))
  have ne_BOOL_STRING : w_BOOL ≠ w_STRING := Fld.ne F_ordinal_BOOL F_ordinal_STRING (fun q => absurd (Value.int.inj q) (by decide))
  have ne_BOOL_INT256 : w_BOOL ≠ w_INT256 := Fld.ne F_ordinal_BOOL F_ordinal_INT256 (fun q => absurd (Value.int.inj q) (by decide))
  have ne_BOOL_BYTES32 : w_BOOL ≠ w_BYTES32 := Fld.ne F_ordinal_BOOL F_ordinal_BYTES32 (fun q => absurd (Value.int.inj q) (by decide))
  have ne_BOOL_ADDRESS : w_BOOL ≠ w_ADDRESS := Fld.ne F_ordinal_BOOL F_ordinal_ADDRESS (fun q => absurd (Value.int.inj q) (by decide))
  have ne_BOOL_UINT256 : w_BOOL ≠ w_UINT256 := Fld.ne F_ordinal_BOOL F_ordinal_UINT256 (fun q => absurd (Value.int.inj q) (by decide))
  have ne_BYTES32_BYTES : w_BYTES32 ≠ w_BYTES := Fld.ne F_ordinal_BYTES32 F_ordinal_BYTES (fun q => absurd (Value.int.inj q) (by decide))
  have ne_BYTES32_TEXT32 : w_BYTES32 ≠ w_TEXT32 := Fld.ne F_ordinal_BYTES32 F_ordinal_TEXT32 (fun q => absurd (Value.int.inj q) (by decide))
  have ne_BYTES32_STRING : w_BYTES32 ≠ w_STRING := Fld.ne F_ordinal_BYTES32 F_ordinal_STRING (fun q => absurd (Value.int.inj q) (by decide))
  have ne_BYTES32_INT256 : w_BYTES32 ≠ w_INT256 := Fld.ne F_ordinal_BYTES32 F_ordinal_INT256 (fun q => absurd (Value.int.inj q) (by decide))
  have ne_BYTES32_BOOL : w_BYTES32 ≠ w_BOOL := Fld.ne F_ordinal_BYTES32 F_ordinal_BOOL (fun q => absurd (Value.int.inj q) (by decide))
  have ne_BYTES32_ADDRESS : w_BYTES32 ≠ w_ADDRESS := Fld.ne F_ordinal_BYTES32 F_ordinal_ADDRESS (fun q => absurd (Value.int.inj q) (by decide))
  have ne_BYTES32_UINT256 : w_BYTES32 ≠ w_UINT256 := Fld.ne F_ordinal_BYTES32 F_ordinal_UINT256 (fun q => absurd (Value.int.inj q) (by decide))
  have ne_ADDRESS_BYTES : w_ADDRESS ≠ w_BYTES := Fld.ne F_ordinal_ADDRESS F_ordinal_BYTES (fun q => absurd (Value.int.inj q) (by decide))
  have ne_ADDRESS_TEXT32 : w_ADDRESS ≠ w_TEXT32 := Fld.ne F_ordinal_ADDRESS F_ordinal_TEXT32 (fun q => absurd (Value.int.inj q) (by decide))
  have ne_ADDRESS_STRING : w_ADDRESS ≠ w_STRING := Fld.ne F_ordinal_ADDRESS F_ordinal_STRING (fun q => absurd (Value.int.inj q) (by decide))
  have ne_ADDRESS_INT256 : w_ADDRESS ≠ w_INT256 := Fld.ne F_ordinal_ADDRESS F_ordinal_INT256 (fun q => absurd (Value.int.inj q) (by decide))
  have ne_ADDRESS_BOOL : w_ADDRESS ≠ w_BOOL := Fld.ne F_ordinal_ADDRESS F_ordinal_BOOL (fun q => absurd (Value.int.inj q) (by decide))
  have ne_ADDRESS_BYTES32 : w_ADDRESS ≠ w_BYTES32 := Fld.ne F_ordinal_ADDRESS F_ordinal_BYTES32 (fun q => absurd (Value.int.inj q) (by decide))
  have ne_ADDRESS_UINT256 : w_ADDRESS ≠ w_UINT256 := Fld.ne F_ordinal_ADDRESS F_ordinal_UINT256 (fun q => absurd (Value.int.inj q) (by decide))
  have ne_UINT256_BYTES : w_UINT256 ≠ w_BYTES := Fld.ne F_ordinal_UINT256 F_ordinal_BYTES (fun q => absurd (Value.int.inj q) (by decide))
  have ne_UINT256_TEXT32 : w_UINT256 ≠ w_TEXT32 := Fld.ne F_ordinal_UINT256 F_ordinal_TEXT32 (fun q => absurd (Value.int.inj q) (by decide))
  have ne_UINT256_STRING : w_UINT256 ≠ w_STRING := Fld.ne F_ordinal_UINT256 F_ordinal_STRING (fun q => absurd (Value.int.inj q) (by decide))
  have ne_UINT256_INT256 : w_UINT256 ≠ w_INT256 := Fld.ne F_ordinal_UINT256 F_ordinal_INT256 (fun q => absurd (Value.int.inj q) (by decide))
  have ne_UINT256_BOOL : w_UINT256 ≠ w_BOOL := Fld.ne F_ordinal_UINT256 F_ordinal_BOOL (fun q => absurd (Value.int.inj q) (by decide))
  have ne_UINT256_BYTES32 : w_UINT256 ≠ w_BYTES32 := Fld.ne F_ordinal_UINT256 F_ordinal_BYTES32 (fun q => absurd (Value.int.inj q) (by decide))
  have ne_UINT256_ADDRESS : w_UINT256 ≠ w_ADDRESS := Fld.ne F_ordinal_UINT256 F_ordinal_ADDRESS (fun q => absurd (Value.int.inj q) (by decide))
  have pre40 : ∀ t, Steps p.tables e below (s₁.setTop (mkF m 5 #[.val (.int p0), .val (.int (p0 &&& (7 : Int32))), .unset, .unset] [])) t → Steps p.tables e below (s₁.setTop (entryFrame m #[(.int p0)] maxLocals)) t := by
    intro t kt
    refine pre0 t ?_
    show Steps p.tables e below (s₁.setTop (mkF m 0 #[.val (.int p0), .unset, .unset, .unset] [])) _
    refine XS.iloadN X0.here hx rfl (hb hby at_0) rfl ?_
    show Steps p.tables e below (s₁.setTop (mkF m 1 #[.val (.int p0), .unset, .unset, .unset] [(.int p0)])) _
    refine XS.bipush X0.here hx rfl (hb hby at_1) ?_
    show Steps p.tables e below (s₁.setTop (mkF m 3 #[.val (.int p0), .unset, .unset, .unset] [(.int (7 : Int32)), (.int p0)])) _
    refine XS.iand X0.here hx rfl (hb hby at_3) rfl ?_
    show Steps p.tables e below (s₁.setTop (mkF m 4 #[.val (.int p0), .unset, .unset, .unset] [(.int (p0 &&& (7 : Int32)))])) _
    refine XS.istoreN X0.here hx rfl (hb hby at_4) rfl (l' := #[.val (.int p0), .val (.int (p0 &&& (7 : Int32))), .unset, .unset]) rfl ?_
    exact kt
  rcases own_cases8 (own_mask7 p0).1 (own_mask7 p0).2 with hk | hk | hk | hk | hk | hk | hk | hk
  · rw [hk] at pre40
    obtain ⟨_, _, ⟨T41, L41, k41, n41⟩, -, X41, ⟨Lc41, hQ41, l41, y41, z41⟩, st41⟩ := Jvm.LawKit.callS X0 hx (y := (⟨"com/example/bindery/bindery/codecs/airnode/KindDynamicPinLaw", "pick", "(I)Lcom/example/bindery/bindery/codecs/airnode/ContractAbi$Kind;"⟩ : MethodName)) hown (mvT hZ (hw _ (List.mem_of_getElem? (i := 0) rfl))) (mvT hZ (hw _ (List.mem_of_getElem? (i := 1) rfl))) (mvT hZ (hw _ (List.mem_of_getElem? (i := 2) rfl))) (mvT hZ (hw _ (List.mem_of_getElem? (i := 3) rfl))) (by decide) (backOf (W := 0) (rm_k l Z a0 hw [] (0 : Int32) w_BYTES w_STRING w_BYTES32 w_TEXT32 w_ADDRESS w_UINT256 w_INT256 w_BOOL w_BYTES h0 n0 Z0 S_BYTES S_STRING S_BYTES32 S_TEXT32 S_ADDRESS S_UINT256 S_INT256 S_BOOL (by simp +decide)) hZ (hw _ (List.mem_of_getElem? (i := 3) rfl)) (hw _ (List.mem_of_getElem? (i := 2) rfl)) (by decide) (by decide)) (g := (mkF m 6 #[.val (.int p0), .val (.int (0 : Int32)), .unset, .unset] [(.int (0 : Int32))])) rfl (by rw [hml]; rfl) (argsL := [(.int (0 : Int32))]) (rest := []) (lenOf pd__I_Lcom_example_bindery_bindery_codecs_airnode_ContractAbi_Kind_ rfl) rfl (by show 2 * 0 + _ ≤ _; exact Nat.le_of_eq rfl) (hb hby at_6) (fun _ _ => ⟨rfl, e0, (by decide : 0 + 0 ≤ _), (by decide : 0 + 0 ≤ _)⟩)
    dsimp only [Pt.U, Pt.locs, Pt.cells, Pt.slots] at X41 l41 y41 z41 st41 hQ41
    subst l41 y41 z41
    obtain ⟨rfl, N41q, e41⟩ := hQ41
    have N41 := Fr.app N0 N41q
    obtain ⟨cq42, kq42, q42a, q42b, q42c⟩ := isOf hZ e41 E_BYTES
    obtain ⟨_, _, ⟨T42, L42, k42, n42⟩, -, X42, ⟨Lc42, hQ42, l42, y42, z42⟩, st42⟩ := X41.virtualBack hx (y := (⟨"com/example/bindery/bindery/codecs/airnode/ContractAbi$Kind", "dynamic", "()Z"⟩ : MethodName)) (z := (⟨"com/example/bindery/bindery/codecs/airnode/ContractAbi$Kind", "dynamic", "()Z"⟩ : MethodName)) hown (mvT hZ (hw _ (List.mem_of_getElem? (i := 7) rfl))) (mvT hZ (hw _ (List.mem_of_getElem? (i := 8) rfl))) (notFace_of_selects (args := #[]) (mvT hZ (hw _ (List.mem_of_getElem? (i := 10) rfl)))) (mvT hZ (hw _ (List.mem_of_getElem? (i := 10) rfl))) (mvT hZ (hw _ (List.mem_of_getElem? (i := 9) rfl))) (by decide) (backOf (W := 0) (rm_p l Z a0 hw [] w_BYTES w_BYTES w_STRING (1 : Int32) h0 n0 Z0 S_BYTES S_STRING (by simp [ne_BYTES_STRING])) hZ (hw _ (List.mem_of_getElem? (i := 11) rfl)) (hw _ (List.mem_of_getElem? (i := 5) rfl)) (by decide) (by decide)) q42a q42c (g := (mkF m 26 #[.val (.int p0), .val (.int (0 : Int32)), .val (.ref w_BYTES), .val (.int (1 : Int32))] [(.ref w_BYTES)])) rfl (by rw [hml]; rfl) (Steps.refl _) (argsL := []) (rest := []) (lenOf pd___Z rfl) rfl (by show 2 * 0 + _ ≤ _; exact Nat.le_of_eq rfl) (hb hby at_26) (fun _ _ => ⟨rfl, e41, (by decide : 0 + 0 ≤ _), (by decide : 0 + 0 ≤ _)⟩)
    dsimp only [Pt.U, Pt.locs, Pt.cells, Pt.slots] at X42 l42 y42 z42 st42 hQ42
    subst l42 y42 z42
    obtain ⟨rfl, N42q, e42⟩ := hQ42
    have N42 := Fr.app N41 N42q
    have pre43 : ∀ t, Steps p.tables e below (T42.setTop (mkF m 38 #[.val (.int p0), .val (.int (0 : Int32)), .val (.ref w_BYTES), .val (.int (1 : Int32))] [(.int (1 : Int32))])) t → Steps p.tables e below (s₁.setTop (entryFrame m #[(.int p0)] maxLocals)) t := by
      intro t kt
      refine pre40 t ?_
      show Steps p.tables e below (s₁.setTop (mkF m 5 #[.val (.int p0), .val (.int (0 : Int32)), .unset, .unset] [])) _
      refine XS.iloadN X0.here hx rfl (hb hby at_5) rfl ?_
      show Steps p.tables e below (s₁.setTop (mkF m 6 #[.val (.int p0), .val (.int (0 : Int32)), .unset, .unset] [(.int (0 : Int32))])) _
      refine st41 _ ?_
      show Steps p.tables e below (T41.setTop (mkF m 9 #[.val (.int p0), .val (.int (0 : Int32)), .unset, .unset] [(.ref w_BYTES)])) _
      refine XS.astoreN X41.here hx rfl (hb hby at_9) rfl rfl (l' := #[.val (.int p0), .val (.int (0 : Int32)), .val (.ref w_BYTES), .unset]) rfl ?_
      show Steps p.tables e below (T41.setTop (mkF m 10 #[.val (.int p0), .val (.int (0 : Int32)), .val (.ref w_BYTES), .unset] [])) _
      refine XS.iloadN X41.here hx rfl (hb hby at_10) rfl ?_
      show Steps p.tables e below (T41.setTop (mkF m 11 #[.val (.int p0), .val (.int (0 : Int32)), .val (.ref w_BYTES), .unset] [(.int (0 : Int32))])) _
      refine XS.ifYes X41.here hx rfl (pc0 := 11) (pc' := 19) rfl (hb hby at_11) rfl ((if0 _ _).trans (teq (by decide : (0 : Int32) = (0 : Int32))).1) (by decide) (by decide) ?_
      show Steps p.tables e below (T41.setTop (mkF m 19 #[.val (.int p0), .val (.int (0 : Int32)), .val (.ref w_BYTES), .unset] [])) _
      refine XS.iconst X41.here hx rfl (hb hby at_19) ?_
      show Steps p.tables e below (T41.setTop (mkF m 20 #[.val (.int p0), .val (.int (0 : Int32)), .val (.ref w_BYTES), .unset] [(.int (1 : Int32))])) _
      refine XS.goto X41.here hx rfl (pc0 := 20) (pc' := 24) rfl (hb hby at_20) (by decide) (by decide) ?_
      show Steps p.tables e below (T41.setTop (mkF m 24 #[.val (.int p0), .val (.int (0 : Int32)), .val (.ref w_BYTES), .unset] [(.int (1 : Int32))])) _
      refine XS.istoreN X41.here hx rfl (hb hby at_24) rfl (l' := #[.val (.int p0), .val (.int (0 : Int32)), .val (.ref w_BYTES), .val (.int (1 : Int32))]) rfl ?_
      show Steps p.tables e below (T41.setTop (mkF m 25 #[.val (.int p0), .val (.int (0 : Int32)), .val (.ref w_BYTES), .val (.int (1 : Int32))] [])) _
      refine XS.aloadN X41.here hx rfl (hb hby at_25) rfl rfl ?_
      show Steps p.tables e below (T41.setTop (mkF m 26 #[.val (.int p0), .val (.int (0 : Int32)), .val (.ref w_BYTES), .val (.int (1 : Int32))] [(.ref w_BYTES)])) _
      refine st42.trans ?_
      show Steps p.tables e below (T42.setTop (mkF m 29 #[.val (.int p0), .val (.int (0 : Int32)), .val (.ref w_BYTES), .val (.int (1 : Int32))] [(.int (1 : Int32))])) _
      refine XS.iloadN X42.here hx rfl (hb hby at_29) rfl ?_
      show Steps p.tables e below (T42.setTop (mkF m 30 #[.val (.int p0), .val (.int (0 : Int32)), .val (.ref w_BYTES), .val (.int (1 : Int32))] [(.int (1 : Int32)), (.int (1 : Int32))])) _
      refine XS.icmpNo X42.here hx rfl (hb hby at_30) rfl (teq (by decide : (1 : Int32) = (1 : Int32))).2 ?_
      show Steps p.tables e below (T42.setTop (mkF m 33 #[.val (.int p0), .val (.int (0 : Int32)), .val (.ref w_BYTES), .val (.int (1 : Int32))] [])) _
      refine XS.iconst X42.here hx rfl (hb hby at_33) ?_
      show Steps p.tables e below (T42.setTop (mkF m 34 #[.val (.int p0), .val (.int (0 : Int32)), .val (.ref w_BYTES), .val (.int (1 : Int32))] [(.int (1 : Int32))])) _
      refine XS.goto X42.here hx rfl (pc0 := 34) (pc' := 38) rfl (hb hby at_34) (by decide) (by decide) ?_
      exact kt
    obtain ⟨fs, hr, hrun, hended, hW, hsame⟩ := X42.leave (v := some (.int (1 : Int32))) (fun h => by rw [Bd.returns] at h; cases h)
    refine ⟨_, _, pre43 _ ?_, hrun, hended, _, _, rfl, ?_, ⟨_, rfl⟩, hW, hsame.mono (by decide) (by decide)⟩
    · show Steps p.tables e below (T42.setTop (mkF m 38 #[.val (.int p0), .val (.int (0 : Int32)), .val (.ref w_BYTES), .val (.int (1 : Int32))] [(.int (1 : Int32))])) _
      exact retN X42 hx (t := .boolean) Bd.returns (by simp) (hb hby at_38) hr
    · show Q_rm0 Z p0 w_BYTES w_TEXT32 w_STRING w_INT256 w_BOOL w_BYTES32 w_ADDRESS w_UINT256 h0 n0 _ T42.heap _
      rw [e42]
      exact ⟨rfl, N42⟩
  · rw [hk] at pre40
    obtain ⟨_, _, ⟨T44, L44, k44, n44⟩, -, X44, ⟨Lc44, hQ44, l44, y44, z44⟩, st44⟩ := Jvm.LawKit.callS X0 hx (y := (⟨"com/example/bindery/bindery/codecs/airnode/KindDynamicPinLaw", "pick", "(I)Lcom/example/bindery/bindery/codecs/airnode/ContractAbi$Kind;"⟩ : MethodName)) hown (mvT hZ (hw _ (List.mem_of_getElem? (i := 0) rfl))) (mvT hZ (hw _ (List.mem_of_getElem? (i := 1) rfl))) (mvT hZ (hw _ (List.mem_of_getElem? (i := 2) rfl))) (mvT hZ (hw _ (List.mem_of_getElem? (i := 3) rfl))) (by decide) (backOf (W := 0) (rm_k l Z a0 hw [] (1 : Int32) w_BYTES w_STRING w_BYTES32 w_TEXT32 w_ADDRESS w_UINT256 w_INT256 w_BOOL w_STRING h0 n0 Z0 S_BYTES S_STRING S_BYTES32 S_TEXT32 S_ADDRESS S_UINT256 S_INT256 S_BOOL (by simp +decide)) hZ (hw _ (List.mem_of_getElem? (i := 3) rfl)) (hw _ (List.mem_of_getElem? (i := 2) rfl)) (by decide) (by decide)) (g := (mkF m 6 #[.val (.int p0), .val (.int (1 : Int32)), .unset, .unset] [(.int (1 : Int32))])) rfl (by rw [hml]; rfl) (argsL := [(.int (1 : Int32))]) (rest := []) (lenOf pd__I_Lcom_example_bindery_bindery_codecs_airnode_ContractAbi_Kind_ rfl) rfl (by show 2 * 0 + _ ≤ _; exact Nat.le_of_eq rfl) (hb hby at_6) (fun _ _ => ⟨rfl, e0, (by decide : 0 + 0 ≤ _), (by decide : 0 + 0 ≤ _)⟩)
    dsimp only [Pt.U, Pt.locs, Pt.cells, Pt.slots] at X44 l44 y44 z44 st44 hQ44
    subst l44 y44 z44
    obtain ⟨rfl, N44q, e44⟩ := hQ44
    have N44 := Fr.app N0 N44q
    obtain ⟨cq45, kq45, q45a, q45b, q45c⟩ := isOf hZ e44 E_STRING
    obtain ⟨_, _, ⟨T45, L45, k45, n45⟩, -, X45, ⟨Lc45, hQ45, l45, y45, z45⟩, st45⟩ := X44.virtualBack hx (y := (⟨"com/example/bindery/bindery/codecs/airnode/ContractAbi$Kind", "dynamic", "()Z"⟩ : MethodName)) (z := (⟨"com/example/bindery/bindery/codecs/airnode/ContractAbi$Kind", "dynamic", "()Z"⟩ : MethodName)) hown (mvT hZ (hw _ (List.mem_of_getElem? (i := 7) rfl))) (mvT hZ (hw _ (List.mem_of_getElem? (i := 8) rfl))) (notFace_of_selects (args := #[]) (mvT hZ (hw _ (List.mem_of_getElem? (i := 10) rfl)))) (mvT hZ (hw _ (List.mem_of_getElem? (i := 10) rfl))) (mvT hZ (hw _ (List.mem_of_getElem? (i := 9) rfl))) (by decide) (backOf (W := 0) (rm_p l Z a0 hw [] w_STRING w_BYTES w_STRING (1 : Int32) h0 n0 Z0 S_BYTES S_STRING (by simp [ne_STRING_BYTES])) hZ (hw _ (List.mem_of_getElem? (i := 11) rfl)) (hw _ (List.mem_of_getElem? (i := 5) rfl)) (by decide) (by decide)) q45a q45c (g := (mkF m 26 #[.val (.int p0), .val (.int (1 : Int32)), .val (.ref w_STRING), .val (.int (1 : Int32))] [(.ref w_STRING)])) rfl (by rw [hml]; rfl) (Steps.refl _) (argsL := []) (rest := []) (lenOf pd___Z rfl) rfl (by show 2 * 0 + _ ≤ _; exact Nat.le_of_eq rfl) (hb hby at_26) (fun _ _ => ⟨rfl, e44, (by decide : 0 + 0 ≤ _), (by decide : 0 + 0 ≤ _)⟩)
    dsimp only [Pt.U, Pt.locs, Pt.cells, Pt.slots] at X45 l45 y45 z45 st45 hQ45
    subst l45 y45 z45
    obtain ⟨rfl, N45q, e45⟩ := hQ45
    have N45 := Fr.app N44 N45q
    have pre46 : ∀ t, Steps p.tables e below (T45.setTop (mkF m 38 #[.val (.int p0), .val (.int (1 : Int32)), .val (.ref w_STRING), .val (.int (1 : Int32))] [(.int (1 : Int32))])) t → Steps p.tables e below (s₁.setTop (entryFrame m #[(.int p0)] maxLocals)) t := by
      intro t kt
      refine pre40 t ?_
      show Steps p.tables e below (s₁.setTop (mkF m 5 #[.val (.int p0), .val (.int (1 : Int32)), .unset, .unset] [])) _
      refine XS.iloadN X0.here hx rfl (hb hby at_5) rfl ?_
      show Steps p.tables e below (s₁.setTop (mkF m 6 #[.val (.int p0), .val (.int (1 : Int32)), .unset, .unset] [(.int (1 : Int32))])) _
      refine st44 _ ?_
      show Steps p.tables e below (T44.setTop (mkF m 9 #[.val (.int p0), .val (.int (1 : Int32)), .unset, .unset] [(.ref w_STRING)])) _
      refine XS.astoreN X44.here hx rfl (hb hby at_9) rfl rfl (l' := #[.val (.int p0), .val (.int (1 : Int32)), .val (.ref w_STRING), .unset]) rfl ?_
      show Steps p.tables e below (T44.setTop (mkF m 10 #[.val (.int p0), .val (.int (1 : Int32)), .val (.ref w_STRING), .unset] [])) _
      refine XS.iloadN X44.here hx rfl (hb hby at_10) rfl ?_
      show Steps p.tables e below (T44.setTop (mkF m 11 #[.val (.int p0), .val (.int (1 : Int32)), .val (.ref w_STRING), .unset] [(.int (1 : Int32))])) _
      refine XS.ifNo X44.here hx rfl (hb hby at_11) rfl ((if0 _ _).trans (feq (by decide : ¬ ((1 : Int32) = (0 : Int32)))).1) ?_
      show Steps p.tables e below (T44.setTop (mkF m 14 #[.val (.int p0), .val (.int (1 : Int32)), .val (.ref w_STRING), .unset] [])) _
      refine XS.iloadN X44.here hx rfl (hb hby at_14) rfl ?_
      show Steps p.tables e below (T44.setTop (mkF m 15 #[.val (.int p0), .val (.int (1 : Int32)), .val (.ref w_STRING), .unset] [(.int (1 : Int32))])) _
      refine XS.iconst X44.here hx rfl (hb hby at_15) ?_
      show Steps p.tables e below (T44.setTop (mkF m 16 #[.val (.int p0), .val (.int (1 : Int32)), .val (.ref w_STRING), .unset] [(.int (1 : Int32)), (.int (1 : Int32))])) _
      refine XS.icmpNo X44.here hx rfl (hb hby at_16) rfl (teq (by decide : (1 : Int32) = (1 : Int32))).2 ?_
      show Steps p.tables e below (T44.setTop (mkF m 19 #[.val (.int p0), .val (.int (1 : Int32)), .val (.ref w_STRING), .unset] [])) _
      refine XS.iconst X44.here hx rfl (hb hby at_19) ?_
      show Steps p.tables e below (T44.setTop (mkF m 20 #[.val (.int p0), .val (.int (1 : Int32)), .val (.ref w_STRING), .unset] [(.int (1 : Int32))])) _
      refine XS.goto X44.here hx rfl (pc0 := 20) (pc' := 24) rfl (hb hby at_20) (by decide) (by decide) ?_
      show Steps p.tables e below (T44.setTop (mkF m 24 #[.val (.int p0), .val (.int (1 : Int32)), .val (.ref w_STRING), .unset] [(.int (1 : Int32))])) _
      refine XS.istoreN X44.here hx rfl (hb hby at_24) rfl (l' := #[.val (.int p0), .val (.int (1 : Int32)), .val (.ref w_STRING), .val (.int (1 : Int32))]) rfl ?_
      show Steps p.tables e below (T44.setTop (mkF m 25 #[.val (.int p0), .val (.int (1 : Int32)), .val (.ref w_STRING), .val (.int (1 : Int32))] [])) _
      refine XS.aloadN X44.here hx rfl (hb hby at_25) rfl rfl ?_
      show Steps p.tables e below (T44.setTop (mkF m 26 #[.val (.int p0), .val (.int (1 : Int32)), .val (.ref w_STRING), .val (.int (1 : Int32))] [(.ref w_STRING)])) _
      refine st45.trans ?_
      show Steps p.tables e below (T45.setTop (mkF m 29 #[.val (.int p0), .val (.int (1 : Int32)), .val (.ref w_STRING), .val (.int (1 : Int32))] [(.int (1 : Int32))])) _
      refine XS.iloadN X45.here hx rfl (hb hby at_29) rfl ?_
      show Steps p.tables e below (T45.setTop (mkF m 30 #[.val (.int p0), .val (.int (1 : Int32)), .val (.ref w_STRING), .val (.int (1 : Int32))] [(.int (1 : Int32)), (.int (1 : Int32))])) _
      refine XS.icmpNo X45.here hx rfl (hb hby at_30) rfl (teq (by decide : (1 : Int32) = (1 : Int32))).2 ?_
      show Steps p.tables e below (T45.setTop (mkF m 33 #[.val (.int p0), .val (.int (1 : Int32)), .val (.ref w_STRING), .val (.int (1 : Int32))] [])) _
      refine XS.iconst X45.here hx rfl (hb hby at_33) ?_
      show Steps p.tables e below (T45.setTop (mkF m 34 #[.val (.int p0), .val (.int (1 : Int32)), .val (.ref w_STRING), .val (.int (1 : Int32))] [(.int (1 : Int32))])) _
      refine XS.goto X45.here hx rfl (pc0 := 34) (pc' := 38) rfl (hb hby at_34) (by decide) (by decide) ?_
      exact kt
    obtain ⟨fs, hr, hrun, hended, hW, hsame⟩ := X45.leave (v := some (.int (1 : Int32))) (fun h => by rw [Bd.returns] at h; cases h)
    refine ⟨_, _, pre46 _ ?_, hrun, hended, _, _, rfl, ?_, ⟨_, rfl⟩, hW, hsame.mono (by decide) (by decide)⟩
    · show Steps p.tables e below (T45.setTop (mkF m 38 #[.val (.int p0), .val (.int (1 : Int32)), .val (.ref w_STRING), .val (.int (1 : Int32))] [(.int (1 : Int32))])) _
      exact retN X45 hx (t := .boolean) Bd.returns (by simp) (hb hby at_38) hr
    · show Q_rm0 Z p0 w_BYTES w_TEXT32 w_STRING w_INT256 w_BOOL w_BYTES32 w_ADDRESS w_UINT256 h0 n0 _ T45.heap _
      rw [e45]
      exact ⟨rfl, N45⟩
  · rw [hk] at pre40
    obtain ⟨_, _, ⟨T47, L47, k47, n47⟩, -, X47, ⟨Lc47, hQ47, l47, y47, z47⟩, st47⟩ := Jvm.LawKit.callS X0 hx (y := (⟨"com/example/bindery/bindery/codecs/airnode/KindDynamicPinLaw", "pick", "(I)Lcom/example/bindery/bindery/codecs/airnode/ContractAbi$Kind;"⟩ : MethodName)) hown (mvT hZ (hw _ (List.mem_of_getElem? (i := 0) rfl))) (mvT hZ (hw _ (List.mem_of_getElem? (i := 1) rfl))) (mvT hZ (hw _ (List.mem_of_getElem? (i := 2) rfl))) (mvT hZ (hw _ (List.mem_of_getElem? (i := 3) rfl))) (by decide) (backOf (W := 0) (rm_k l Z a0 hw [] (2 : Int32) w_BYTES w_STRING w_BYTES32 w_TEXT32 w_ADDRESS w_UINT256 w_INT256 w_BOOL w_BYTES32 h0 n0 Z0 S_BYTES S_STRING S_BYTES32 S_TEXT32 S_ADDRESS S_UINT256 S_INT256 S_BOOL (by simp +decide)) hZ (hw _ (List.mem_of_getElem? (i := 3) rfl)) (hw _ (List.mem_of_getElem? (i := 2) rfl)) (by decide) (by decide)) (g := (mkF m 6 #[.val (.int p0), .val (.int (2 : Int32)), .unset, .unset] [(.int (2 : Int32))])) rfl (by rw [hml]; rfl) (argsL := [(.int (2 : Int32))]) (rest := []) (lenOf pd__I_Lcom_example_bindery_bindery_codecs_airnode_ContractAbi_Kind_ rfl) rfl (by show 2 * 0 + _ ≤ _; exact Nat.le_of_eq rfl) (hb hby at_6) (fun _ _ => ⟨rfl, e0, (by decide : 0 + 0 ≤ _), (by decide : 0 + 0 ≤ _)⟩)
    dsimp only [Pt.U, Pt.locs, Pt.cells, Pt.slots] at X47 l47 y47 z47 st47 hQ47
    subst l47 y47 z47
    obtain ⟨rfl, N47q, e47⟩ := hQ47
    have N47 := Fr.app N0 N47q
    obtain ⟨cq48, kq48, q48a, q48b, q48c⟩ := isOf hZ e47 E_BYTES32
    obtain ⟨_, _, ⟨T48, L48, k48, n48⟩, -, X48, ⟨Lc48, hQ48, l48, y48, z48⟩, st48⟩ := X47.virtualBack hx (y := (⟨"com/example/bindery/bindery/codecs/airnode/ContractAbi$Kind", "dynamic", "()Z"⟩ : MethodName)) (z := (⟨"com/example/bindery/bindery/codecs/airnode/ContractAbi$Kind", "dynamic", "()Z"⟩ : MethodName)) hown (mvT hZ (hw _ (List.mem_of_getElem? (i := 7) rfl))) (mvT hZ (hw _ (List.mem_of_getElem? (i := 8) rfl))) (notFace_of_selects (args := #[]) (mvT hZ (hw _ (List.mem_of_getElem? (i := 10) rfl)))) (mvT hZ (hw _ (List.mem_of_getElem? (i := 10) rfl))) (mvT hZ (hw _ (List.mem_of_getElem? (i := 9) rfl))) (by decide) (backOf (W := 0) (rm_p l Z a0 hw [] w_BYTES32 w_BYTES w_STRING (0 : Int32) h0 n0 Z0 S_BYTES S_STRING (by simp [ne_BYTES32_BYTES, ne_BYTES32_STRING])) hZ (hw _ (List.mem_of_getElem? (i := 11) rfl)) (hw _ (List.mem_of_getElem? (i := 5) rfl)) (by decide) (by decide)) q48a q48c (g := (mkF m 26 #[.val (.int p0), .val (.int (2 : Int32)), .val (.ref w_BYTES32), .val (.int (0 : Int32))] [(.ref w_BYTES32)])) rfl (by rw [hml]; rfl) (Steps.refl _) (argsL := []) (rest := []) (lenOf pd___Z rfl) rfl (by show 2 * 0 + _ ≤ _; exact Nat.le_of_eq rfl) (hb hby at_26) (fun _ _ => ⟨rfl, e47, (by decide : 0 + 0 ≤ _), (by decide : 0 + 0 ≤ _)⟩)
    dsimp only [Pt.U, Pt.locs, Pt.cells, Pt.slots] at X48 l48 y48 z48 st48 hQ48
    subst l48 y48 z48
    obtain ⟨rfl, N48q, e48⟩ := hQ48
    have N48 := Fr.app N47 N48q
    have pre49 : ∀ t, Steps p.tables e below (T48.setTop (mkF m 38 #[.val (.int p0), .val (.int (2 : Int32)), .val (.ref w_BYTES32), .val (.int (0 : Int32))] [(.int (1 : Int32))])) t → Steps p.tables e below (s₁.setTop (entryFrame m #[(.int p0)] maxLocals)) t := by
      intro t kt
      refine pre40 t ?_
      show Steps p.tables e below (s₁.setTop (mkF m 5 #[.val (.int p0), .val (.int (2 : Int32)), .unset, .unset] [])) _
      refine XS.iloadN X0.here hx rfl (hb hby at_5) rfl ?_
      show Steps p.tables e below (s₁.setTop (mkF m 6 #[.val (.int p0), .val (.int (2 : Int32)), .unset, .unset] [(.int (2 : Int32))])) _
      refine st47 _ ?_
      show Steps p.tables e below (T47.setTop (mkF m 9 #[.val (.int p0), .val (.int (2 : Int32)), .unset, .unset] [(.ref w_BYTES32)])) _
      refine XS.astoreN X47.here hx rfl (hb hby at_9) rfl rfl (l' := #[.val (.int p0), .val (.int (2 : Int32)), .val (.ref w_BYTES32), .unset]) rfl ?_
      show Steps p.tables e below (T47.setTop (mkF m 10 #[.val (.int p0), .val (.int (2 : Int32)), .val (.ref w_BYTES32), .unset] [])) _
      refine XS.iloadN X47.here hx rfl (hb hby at_10) rfl ?_
      show Steps p.tables e below (T47.setTop (mkF m 11 #[.val (.int p0), .val (.int (2 : Int32)), .val (.ref w_BYTES32), .unset] [(.int (2 : Int32))])) _
      refine XS.ifNo X47.here hx rfl (hb hby at_11) rfl ((if0 _ _).trans (feq (by decide : ¬ ((2 : Int32) = (0 : Int32)))).1) ?_
      show Steps p.tables e below (T47.setTop (mkF m 14 #[.val (.int p0), .val (.int (2 : Int32)), .val (.ref w_BYTES32), .unset] [])) _
      refine XS.iloadN X47.here hx rfl (hb hby at_14) rfl ?_
      show Steps p.tables e below (T47.setTop (mkF m 15 #[.val (.int p0), .val (.int (2 : Int32)), .val (.ref w_BYTES32), .unset] [(.int (2 : Int32))])) _
      refine XS.iconst X47.here hx rfl (hb hby at_15) ?_
      show Steps p.tables e below (T47.setTop (mkF m 16 #[.val (.int p0), .val (.int (2 : Int32)), .val (.ref w_BYTES32), .unset] [(.int (1 : Int32)), (.int (2 : Int32))])) _
      refine XS.icmpYes X47.here hx rfl (pc0 := 16) (pc' := 23) rfl (hb hby at_16) rfl (feq (by decide : ¬ ((2 : Int32) = (1 : Int32)))).2 (by decide) (by decide) ?_
      show Steps p.tables e below (T47.setTop (mkF m 23 #[.val (.int p0), .val (.int (2 : Int32)), .val (.ref w_BYTES32), .unset] [])) _
      refine XS.iconst X47.here hx rfl (hb hby at_23) ?_
      show Steps p.tables e below (T47.setTop (mkF m 24 #[.val (.int p0), .val (.int (2 : Int32)), .val (.ref w_BYTES32), .unset] [(.int (0 : Int32))])) _
      refine XS.istoreN X47.here hx rfl (hb hby at_24) rfl (l' := #[.val (.int p0), .val (.int (2 : Int32)), .val (.ref w_BYTES32), .val (.int (0 : Int32))]) rfl ?_
      show Steps p.tables e below (T47.setTop (mkF m 25 #[.val (.int p0), .val (.int (2 : Int32)), .val (.ref w_BYTES32), .val (.int (0 : Int32))] [])) _
      refine XS.aloadN X47.here hx rfl (hb hby at_25) rfl rfl ?_
      show Steps p.tables e below (T47.setTop (mkF m 26 #[.val (.int p0), .val (.int (2 : Int32)), .val (.ref w_BYTES32), .val (.int (0 : Int32))] [(.ref w_BYTES32)])) _
      refine st48.trans ?_
      show Steps p.tables e below (T48.setTop (mkF m 29 #[.val (.int p0), .val (.int (2 : Int32)), .val (.ref w_BYTES32), .val (.int (0 : Int32))] [(.int (0 : Int32))])) _
      refine XS.iloadN X48.here hx rfl (hb hby at_29) rfl ?_
      show Steps p.tables e below (T48.setTop (mkF m 30 #[.val (.int p0), .val (.int (2 : Int32)), .val (.ref w_BYTES32), .val (.int (0 : Int32))] [(.int (0 : Int32)), (.int (0 : Int32))])) _
      refine XS.icmpNo X48.here hx rfl (hb hby at_30) rfl (teq (by decide : (0 : Int32) = (0 : Int32))).2 ?_
      show Steps p.tables e below (T48.setTop (mkF m 33 #[.val (.int p0), .val (.int (2 : Int32)), .val (.ref w_BYTES32), .val (.int (0 : Int32))] [])) _
      refine XS.iconst X48.here hx rfl (hb hby at_33) ?_
      show Steps p.tables e below (T48.setTop (mkF m 34 #[.val (.int p0), .val (.int (2 : Int32)), .val (.ref w_BYTES32), .val (.int (0 : Int32))] [(.int (1 : Int32))])) _
      refine XS.goto X48.here hx rfl (pc0 := 34) (pc' := 38) rfl (hb hby at_34) (by decide) (by decide) ?_
      exact kt
    obtain ⟨fs, hr, hrun, hended, hW, hsame⟩ := X48.leave (v := some (.int (1 : Int32))) (fun h => by rw [Bd.returns] at h; cases h)
    refine ⟨_, _, pre49 _ ?_, hrun, hended, _, _, rfl, ?_, ⟨_, rfl⟩, hW, hsame.mono (by decide) (by decide)⟩
    · show Steps p.tables e below (T48.setTop (mkF m 38 #[.val (.int p0), .val (.int (2 : Int32)), .val (.ref w_BYTES32), .val (.int (0 : Int32))] [(.int (1 : Int32))])) _
      exact retN X48 hx (t := .boolean) Bd.returns (by simp) (hb hby at_38) hr
    · show Q_rm0 Z p0 w_BYTES w_TEXT32 w_STRING w_INT256 w_BOOL w_BYTES32 w_ADDRESS w_UINT256 h0 n0 _ T48.heap _
      rw [e48]
      exact ⟨rfl, N48⟩
  · rw [hk] at pre40
    obtain ⟨_, _, ⟨T50, L50, k50, n50⟩, -, X50, ⟨Lc50, hQ50, l50, y50, z50⟩, st50⟩ := Jvm.LawKit.callS X0 hx (y := (⟨"com/example/bindery/bindery/codecs/airnode/KindDynamicPinLaw", "pick", "(I)Lcom/example/bindery/bindery/codecs/airnode/ContractAbi$Kind;"⟩ : MethodName)) hown (mvT hZ (hw _ (List.mem_of_getElem? (i := 0) rfl))) (mvT hZ (hw _ (List.mem_of_getElem? (i := 1) rfl))) (mvT hZ (hw _ (List.mem_of_getElem? (i := 2) rfl))) (mvT hZ (hw _ (List.mem_of_getElem? (i := 3) rfl))) (by decide) (backOf (W := 0) (rm_k l Z a0 hw [] (3 : Int32) w_BYTES w_STRING w_BYTES32 w_TEXT32 w_ADDRESS w_UINT256 w_INT256 w_BOOL w_TEXT32 h0 n0 Z0 S_BYTES S_STRING S_BYTES32 S_TEXT32 S_ADDRESS S_UINT256 S_INT256 S_BOOL (by simp +decide)) hZ (hw _ (List.mem_of_getElem? (i := 3) rfl)) (hw _ (List.mem_of_getElem? (i := 2) rfl)) (by decide) (by decide)) (g := (mkF m 6 #[.val (.int p0), .val (.int (3 : Int32)), .unset, .unset] [(.int (3 : Int32))])) rfl (by rw [hml]; rfl) (argsL := [(.int (3 : Int32))]) (rest := []) (lenOf pd__I_Lcom_example_bindery_bindery_codecs_airnode_ContractAbi_Kind_ rfl) rfl (by show 2 * 0 + _ ≤ _; exact Nat.le_of_eq rfl) (hb hby at_6) (fun _ _ => ⟨rfl, e0, (by decide : 0 + 0 ≤ _), (by decide : 0 + 0 ≤ _)⟩)
    dsimp only [Pt.U, Pt.locs, Pt.cells, Pt.slots] at X50 l50 y50 z50 st50 hQ50
    subst l50 y50 z50
    obtain ⟨rfl, N50q, e50⟩ := hQ50
    have N50 := Fr.app N0 N50q
    obtain ⟨cq51, kq51, q51a, q51b, q51c⟩ := isOf hZ e50 E_TEXT32
    obtain ⟨_, _, ⟨T51, L51, k51, n51⟩, -, X51, ⟨Lc51, hQ51, l51, y51, z51⟩, st51⟩ := X50.virtualBack hx (y := (⟨"com/example/bindery/bindery/codecs/airnode/ContractAbi$Kind", "dynamic", "()Z"⟩ : MethodName)) (z := (⟨"com/example/bindery/bindery/codecs/airnode/ContractAbi$Kind", "dynamic", "()Z"⟩ : MethodName)) hown (mvT hZ (hw _ (List.mem_of_getElem? (i := 7) rfl))) (mvT hZ (hw _ (List.mem_of_getElem? (i := 8) rfl))) (notFace_of_selects (args := #[]) (mvT hZ (hw _ (List.mem_of_getElem? (i := 10) rfl)))) (mvT hZ (hw _ (List.mem_of_getElem? (i := 10) rfl))) (mvT hZ (hw _ (List.mem_of_getElem? (i := 9) rfl))) (by decide) (backOf (W := 0) (rm_p l Z a0 hw [] w_TEXT32 w_BYTES w_STRING (0 : Int32) h0 n0 Z0 S_BYTES S_STRING (by simp [ne_TEXT32_BYTES, ne_TEXT32_STRING])) hZ (hw _ (List.mem_of_getElem? (i := 11) rfl)) (hw _ (List.mem_of_getElem? (i := 5) rfl)) (by decide) (by decide)) q51a q51c (g := (mkF m 26 #[.val (.int p0), .val (.int (3 : Int32)), .val (.ref w_TEXT32), .val (.int (0 : Int32))] [(.ref w_TEXT32)])) rfl (by rw [hml]; rfl) (Steps.refl _) (argsL := []) (rest := []) (lenOf pd___Z rfl) rfl (by show 2 * 0 + _ ≤ _; exact Nat.le_of_eq rfl) (hb hby at_26) (fun _ _ => ⟨rfl, e50, (by decide : 0 + 0 ≤ _), (by decide : 0 + 0 ≤ _)⟩)
    dsimp only [Pt.U, Pt.locs, Pt.cells, Pt.slots] at X51 l51 y51 z51 st51 hQ51
    subst l51 y51 z51
    obtain ⟨rfl, N51q, e51⟩ := hQ51
    have N51 := Fr.app N50 N51q
    have pre52 : ∀ t, Steps p.tables e below (T51.setTop (mkF m 38 #[.val (.int p0), .val (.int (3 : Int32)), .val (.ref w_TEXT32), .val (.int (0 : Int32))] [(.int (1 : Int32))])) t → Steps p.tables e below (s₁.setTop (entryFrame m #[(.int p0)] maxLocals)) t := by
      intro t kt
      refine pre40 t ?_
      show Steps p.tables e below (s₁.setTop (mkF m 5 #[.val (.int p0), .val (.int (3 : Int32)), .unset, .unset] [])) _
      refine XS.iloadN X0.here hx rfl (hb hby at_5) rfl ?_
      show Steps p.tables e below (s₁.setTop (mkF m 6 #[.val (.int p0), .val (.int (3 : Int32)), .unset, .unset] [(.int (3 : Int32))])) _
      refine st50 _ ?_
      show Steps p.tables e below (T50.setTop (mkF m 9 #[.val (.int p0), .val (.int (3 : Int32)), .unset, .unset] [(.ref w_TEXT32)])) _
      refine XS.astoreN X50.here hx rfl (hb hby at_9) rfl rfl (l' := #[.val (.int p0), .val (.int (3 : Int32)), .val (.ref w_TEXT32), .unset]) rfl ?_
      show Steps p.tables e below (T50.setTop (mkF m 10 #[.val (.int p0), .val (.int (3 : Int32)), .val (.ref w_TEXT32), .unset] [])) _
      refine XS.iloadN X50.here hx rfl (hb hby at_10) rfl ?_
      show Steps p.tables e below (T50.setTop (mkF m 11 #[.val (.int p0), .val (.int (3 : Int32)), .val (.ref w_TEXT32), .unset] [(.int (3 : Int32))])) _
      refine XS.ifNo X50.here hx rfl (hb hby at_11) rfl ((if0 _ _).trans (feq (by decide : ¬ ((3 : Int32) = (0 : Int32)))).1) ?_
      show Steps p.tables e below (T50.setTop (mkF m 14 #[.val (.int p0), .val (.int (3 : Int32)), .val (.ref w_TEXT32), .unset] [])) _
      refine XS.iloadN X50.here hx rfl (hb hby at_14) rfl ?_
      show Steps p.tables e below (T50.setTop (mkF m 15 #[.val (.int p0), .val (.int (3 : Int32)), .val (.ref w_TEXT32), .unset] [(.int (3 : Int32))])) _
      refine XS.iconst X50.here hx rfl (hb hby at_15) ?_
      show Steps p.tables e below (T50.setTop (mkF m 16 #[.val (.int p0), .val (.int (3 : Int32)), .val (.ref w_TEXT32), .unset] [(.int (1 : Int32)), (.int (3 : Int32))])) _
      refine XS.icmpYes X50.here hx rfl (pc0 := 16) (pc' := 23) rfl (hb hby at_16) rfl (feq (by decide : ¬ ((3 : Int32) = (1 : Int32)))).2 (by decide) (by decide) ?_
      show Steps p.tables e below (T50.setTop (mkF m 23 #[.val (.int p0), .val (.int (3 : Int32)), .val (.ref w_TEXT32), .unset] [])) _
      refine XS.iconst X50.here hx rfl (hb hby at_23) ?_
      show Steps p.tables e below (T50.setTop (mkF m 24 #[.val (.int p0), .val (.int (3 : Int32)), .val (.ref w_TEXT32), .unset] [(.int (0 : Int32))])) _
      refine XS.istoreN X50.here hx rfl (hb hby at_24) rfl (l' := #[.val (.int p0), .val (.int (3 : Int32)), .val (.ref w_TEXT32), .val (.int (0 : Int32))]) rfl ?_
      show Steps p.tables e below (T50.setTop (mkF m 25 #[.val (.int p0), .val (.int (3 : Int32)), .val (.ref w_TEXT32), .val (.int (0 : Int32))] [])) _
      refine XS.aloadN X50.here hx rfl (hb hby at_25) rfl rfl ?_
      show Steps p.tables e below (T50.setTop (mkF m 26 #[.val (.int p0), .val (.int (3 : Int32)), .val (.ref w_TEXT32), .val (.int (0 : Int32))] [(.ref w_TEXT32)])) _
      refine st51.trans ?_
      show Steps p.tables e below (T51.setTop (mkF m 29 #[.val (.int p0), .val (.int (3 : Int32)), .val (.ref w_TEXT32), .val (.int (0 : Int32))] [(.int (0 : Int32))])) _
      refine XS.iloadN X51.here hx rfl (hb hby at_29) rfl ?_
      show Steps p.tables e below (T51.setTop (mkF m 30 #[.val (.int p0), .val (.int (3 : Int32)), .val (.ref w_TEXT32), .val (.int (0 : Int32))] [(.int (0 : Int32)), (.int (0 : Int32))])) _
      refine XS.icmpNo X51.here hx rfl (hb hby at_30) rfl (teq (by decide : (0 : Int32) = (0 : Int32))).2 ?_
      show Steps p.tables e below (T51.setTop (mkF m 33 #[.val (.int p0), .val (.int (3 : Int32)), .val (.ref w_TEXT32), .val (.int (0 : Int32))] [])) _
      refine XS.iconst X51.here hx rfl (hb hby at_33) ?_
      show Steps p.tables e below (T51.setTop (mkF m 34 #[.val (.int p0), .val (.int (3 : Int32)), .val (.ref w_TEXT32), .val (.int (0 : Int32))] [(.int (1 : Int32))])) _
      refine XS.goto X51.here hx rfl (pc0 := 34) (pc' := 38) rfl (hb hby at_34) (by decide) (by decide) ?_
      exact kt
    obtain ⟨fs, hr, hrun, hended, hW, hsame⟩ := X51.leave (v := some (.int (1 : Int32))) (fun h => by rw [Bd.returns] at h; cases h)
    refine ⟨_, _, pre52 _ ?_, hrun, hended, _, _, rfl, ?_, ⟨_, rfl⟩, hW, hsame.mono (by decide) (by decide)⟩
    · show Steps p.tables e below (T51.setTop (mkF m 38 #[.val (.int p0), .val (.int (3 : Int32)), .val (.ref w_TEXT32), .val (.int (0 : Int32))] [(.int (1 : Int32))])) _
      exact retN X51 hx (t := .boolean) Bd.returns (by simp) (hb hby at_38) hr
    · show Q_rm0 Z p0 w_BYTES w_TEXT32 w_STRING w_INT256 w_BOOL w_BYTES32 w_ADDRESS w_UINT256 h0 n0 _ T51.heap _
      rw [e51]
      exact ⟨rfl, N51⟩
  · rw [hk] at pre40
    obtain ⟨_, _, ⟨T53, L53, k53, n53⟩, -, X53, ⟨Lc53, hQ53, l53, y53, z53⟩, st53⟩ := Jvm.LawKit.callS X0 hx (y := (⟨"com/example/bindery/bindery/codecs/airnode/KindDynamicPinLaw", "pick", "(I)Lcom/example/bindery/bindery/codecs/airnode/ContractAbi$Kind;"⟩ : MethodName)) hown (mvT hZ (hw _ (List.mem_of_getElem? (i := 0) rfl))) (mvT hZ (hw _ (List.mem_of_getElem? (i := 1) rfl))) (mvT hZ (hw _ (List.mem_of_getElem? (i := 2) rfl))) (mvT hZ (hw _ (List.mem_of_getElem? (i := 3) rfl))) (by decide) (backOf (W := 0) (rm_k l Z a0 hw [] (4 : Int32) w_BYTES w_STRING w_BYTES32 w_TEXT32 w_ADDRESS w_UINT256 w_INT256 w_BOOL w_ADDRESS h0 n0 Z0 S_BYTES S_STRING S_BYTES32 S_TEXT32 S_ADDRESS S_UINT256 S_INT256 S_BOOL (by simp +decide)) hZ (hw _ (List.mem_of_getElem? (i := 3) rfl)) (hw _ (List.mem_of_getElem? (i := 2) rfl)) (by decide) (by decide)) (g := (mkF m 6 #[.val (.int p0), .val (.int (4 : Int32)), .unset, .unset] [(.int (4 : Int32))])) rfl (by rw [hml]; rfl) (argsL := [(.int (4 : Int32))]) (rest := []) (lenOf pd__I_Lcom_example_bindery_bindery_codecs_airnode_ContractAbi_Kind_ rfl) rfl (by show 2 * 0 + _ ≤ _; exact Nat.le_of_eq rfl) (hb hby at_6) (fun _ _ => ⟨rfl, e0, (by decide : 0 + 0 ≤ _), (by decide : 0 + 0 ≤ _)⟩)
    dsimp only [Pt.U, Pt.locs, Pt.cells, Pt.slots] at X53 l53 y53 z53 st53 hQ53
    subst l53 y53 z53
    obtain ⟨rfl, N53q, e53⟩ := hQ53
    have N53 := Fr.app N0 N53q
    obtain ⟨cq54, kq54, q54a, q54b, q54c⟩ := isOf hZ e53 E_ADDRESS
    obtain ⟨_, _, ⟨T54, L54, k54, n54⟩, -, X54, ⟨Lc54, hQ54, l54, y54, z54⟩, st54⟩ := X53.virtualBack hx (y := (⟨"com/example/bindery/bindery/codecs/airnode/ContractAbi$Kind", "dynamic", "()Z"⟩ : MethodName)) (z := (⟨"com/example/bindery/bindery/codecs/airnode/ContractAbi$Kind", "dynamic", "()Z"⟩ : MethodName)) hown (mvT hZ (hw _ (List.mem_of_getElem? (i := 7) rfl))) (mvT hZ (hw _ (List.mem_of_getElem? (i := 8) rfl))) (notFace_of_selects (args := #[]) (mvT hZ (hw _ (List.mem_of_getElem? (i := 10) rfl)))) (mvT hZ (hw _ (List.mem_of_getElem? (i := 10) rfl))) (mvT hZ (hw _ (List.mem_of_getElem? (i := 9) rfl))) (by decide) (backOf (W := 0) (rm_p l Z a0 hw [] w_ADDRESS w_BYTES w_STRING (0 : Int32) h0 n0 Z0 S_BYTES S_STRING (by simp [ne_ADDRESS_BYTES, ne_ADDRESS_STRING])) hZ (hw _ (List.mem_of_getElem? (i := 11) rfl)) (hw _ (List.mem_of_getElem? (i := 5) rfl)) (by decide) (by decide)) q54a q54c (g := (mkF m 26 #[.val (.int p0), .val (.int (4 : Int32)), .val (.ref w_ADDRESS), .val (.int (0 : Int32))] [(.ref w_ADDRESS)])) rfl (by rw [hml]; rfl) (Steps.refl _) (argsL := []) (rest := []) (lenOf pd___Z rfl) rfl (by show 2 * 0 + _ ≤ _; exact Nat.le_of_eq rfl) (hb hby at_26) (fun _ _ => ⟨rfl, e53, (by decide : 0 + 0 ≤ _), (by decide : 0 + 0 ≤ _)⟩)
    dsimp only [Pt.U, Pt.locs, Pt.cells, Pt.slots] at X54 l54 y54 z54 st54 hQ54
    subst l54 y54 z54
    obtain ⟨rfl, N54q, e54⟩ := hQ54
    have N54 := Fr.app N53 N54q
    have pre55 : ∀ t, Steps p.tables e below (T54.setTop (mkF m 38 #[.val (.int p0), .val (.int (4 : Int32)), .val (.ref w_ADDRESS), .val (.int (0 : Int32))] [(.int (1 : Int32))])) t → Steps p.tables e below (s₁.setTop (entryFrame m #[(.int p0)] maxLocals)) t := by
      intro t kt
      refine pre40 t ?_
      show Steps p.tables e below (s₁.setTop (mkF m 5 #[.val (.int p0), .val (.int (4 : Int32)), .unset, .unset] [])) _
      refine XS.iloadN X0.here hx rfl (hb hby at_5) rfl ?_
      show Steps p.tables e below (s₁.setTop (mkF m 6 #[.val (.int p0), .val (.int (4 : Int32)), .unset, .unset] [(.int (4 : Int32))])) _
      refine st53 _ ?_
      show Steps p.tables e below (T53.setTop (mkF m 9 #[.val (.int p0), .val (.int (4 : Int32)), .unset, .unset] [(.ref w_ADDRESS)])) _
      refine XS.astoreN X53.here hx rfl (hb hby at_9) rfl rfl (l' := #[.val (.int p0), .val (.int (4 : Int32)), .val (.ref w_ADDRESS), .unset]) rfl ?_
      show Steps p.tables e below (T53.setTop (mkF m 10 #[.val (.int p0), .val (.int (4 : Int32)), .val (.ref w_ADDRESS), .unset] [])) _
      refine XS.iloadN X53.here hx rfl (hb hby at_10) rfl ?_
      show Steps p.tables e below (T53.setTop (mkF m 11 #[.val (.int p0), .val (.int (4 : Int32)), .val (.ref w_ADDRESS), .unset] [(.int (4 : Int32))])) _
      refine XS.ifNo X53.here hx rfl (hb hby at_11) rfl ((if0 _ _).trans (feq (by decide : ¬ ((4 : Int32) = (0 : Int32)))).1) ?_
      show Steps p.tables e below (T53.setTop (mkF m 14 #[.val (.int p0), .val (.int (4 : Int32)), .val (.ref w_ADDRESS), .unset] [])) _
      refine XS.iloadN X53.here hx rfl (hb hby at_14) rfl ?_
      show Steps p.tables e below (T53.setTop (mkF m 15 #[.val (.int p0), .val (.int (4 : Int32)), .val (.ref w_ADDRESS), .unset] [(.int (4 : Int32))])) _
      refine XS.iconst X53.here hx rfl (hb hby at_15) ?_
      show Steps p.tables e below (T53.setTop (mkF m 16 #[.val (.int p0), .val (.int (4 : Int32)), .val (.ref w_ADDRESS), .unset] [(.int (1 : Int32)), (.int (4 : Int32))])) _
      refine XS.icmpYes X53.here hx rfl (pc0 := 16) (pc' := 23) rfl (hb hby at_16) rfl (feq (by decide : ¬ ((4 : Int32) = (1 : Int32)))).2 (by decide) (by decide) ?_
      show Steps p.tables e below (T53.setTop (mkF m 23 #[.val (.int p0), .val (.int (4 : Int32)), .val (.ref w_ADDRESS), .unset] [])) _
      refine XS.iconst X53.here hx rfl (hb hby at_23) ?_
      show Steps p.tables e below (T53.setTop (mkF m 24 #[.val (.int p0), .val (.int (4 : Int32)), .val (.ref w_ADDRESS), .unset] [(.int (0 : Int32))])) _
      refine XS.istoreN X53.here hx rfl (hb hby at_24) rfl (l' := #[.val (.int p0), .val (.int (4 : Int32)), .val (.ref w_ADDRESS), .val (.int (0 : Int32))]) rfl ?_
      show Steps p.tables e below (T53.setTop (mkF m 25 #[.val (.int p0), .val (.int (4 : Int32)), .val (.ref w_ADDRESS), .val (.int (0 : Int32))] [])) _
      refine XS.aloadN X53.here hx rfl (hb hby at_25) rfl rfl ?_
      show Steps p.tables e below (T53.setTop (mkF m 26 #[.val (.int p0), .val (.int (4 : Int32)), .val (.ref w_ADDRESS), .val (.int (0 : Int32))] [(.ref w_ADDRESS)])) _
      refine st54.trans ?_
      show Steps p.tables e below (T54.setTop (mkF m 29 #[.val (.int p0), .val (.int (4 : Int32)), .val (.ref w_ADDRESS), .val (.int (0 : Int32))] [(.int (0 : Int32))])) _
      refine XS.iloadN X54.here hx rfl (hb hby at_29) rfl ?_
      show Steps p.tables e below (T54.setTop (mkF m 30 #[.val (.int p0), .val (.int (4 : Int32)), .val (.ref w_ADDRESS), .val (.int (0 : Int32))] [(.int (0 : Int32)), (.int (0 : Int32))])) _
      refine XS.icmpNo X54.here hx rfl (hb hby at_30) rfl (teq (by decide : (0 : Int32) = (0 : Int32))).2 ?_
      show Steps p.tables e below (T54.setTop (mkF m 33 #[.val (.int p0), .val (.int (4 : Int32)), .val (.ref w_ADDRESS), .val (.int (0 : Int32))] [])) _
      refine XS.iconst X54.here hx rfl (hb hby at_33) ?_
      show Steps p.tables e below (T54.setTop (mkF m 34 #[.val (.int p0), .val (.int (4 : Int32)), .val (.ref w_ADDRESS), .val (.int (0 : Int32))] [(.int (1 : Int32))])) _
      refine XS.goto X54.here hx rfl (pc0 := 34) (pc' := 38) rfl (hb hby at_34) (by decide) (by decide) ?_
      exact kt
    obtain ⟨fs, hr, hrun, hended, hW, hsame⟩ := X54.leave (v := some (.int (1 : Int32))) (fun h => by rw [Bd.returns] at h; cases h)
    refine ⟨_, _, pre55 _ ?_, hrun, hended, _, _, rfl, ?_, ⟨_, rfl⟩, hW, hsame.mono (by decide) (by decide)⟩
    · show Steps p.tables e below (T54.setTop (mkF m 38 #[.val (.int p0), .val (.int (4 : Int32)), .val (.ref w_ADDRESS), .val (.int (0 : Int32))] [(.int (1 : Int32))])) _
      exact retN X54 hx (t := .boolean) Bd.returns (by simp) (hb hby at_38) hr
    · show Q_rm0 Z p0 w_BYTES w_TEXT32 w_STRING w_INT256 w_BOOL w_BYTES32 w_ADDRESS w_UINT256 h0 n0 _ T54.heap _
      rw [e54]
      exact ⟨rfl, N54⟩
  · rw [hk] at pre40
    obtain ⟨_, _, ⟨T56, L56, k56, n56⟩, -, X56, ⟨Lc56, hQ56, l56, y56, z56⟩, st56⟩ := Jvm.LawKit.callS X0 hx (y := (⟨"com/example/bindery/bindery/codecs/airnode/KindDynamicPinLaw", "pick", "(I)Lcom/example/bindery/bindery/codecs/airnode/ContractAbi$Kind;"⟩ : MethodName)) hown (mvT hZ (hw _ (List.mem_of_getElem? (i := 0) rfl))) (mvT hZ (hw _ (List.mem_of_getElem? (i := 1) rfl))) (mvT hZ (hw _ (List.mem_of_getElem? (i := 2) rfl))) (mvT hZ (hw _ (List.mem_of_getElem? (i := 3) rfl))) (by decide) (backOf (W := 0) (rm_k l Z a0 hw [] (5 : Int32) w_BYTES w_STRING w_BYTES32 w_TEXT32 w_ADDRESS w_UINT256 w_INT256 w_BOOL w_UINT256 h0 n0 Z0 S_BYTES S_STRING S_BYTES32 S_TEXT32 S_ADDRESS S_UINT256 S_INT256 S_BOOL (by simp +decide)) hZ (hw _ (List.mem_of_getElem? (i := 3) rfl)) (hw _ (List.mem_of_getElem? (i := 2) rfl)) (by decide) (by decide)) (g := (mkF m 6 #[.val (.int p0), .val (.int (5 : Int32)), .unset, .unset] [(.int (5 : Int32))])) rfl (by rw [hml]; rfl) (argsL := [(.int (5 : Int32))]) (rest := []) (lenOf pd__I_Lcom_example_bindery_bindery_codecs_airnode_ContractAbi_Kind_ rfl) rfl (by show 2 * 0 + _ ≤ _; exact Nat.le_of_eq rfl) (hb hby at_6) (fun _ _ => ⟨rfl, e0, (by decide : 0 + 0 ≤ _), (by decide : 0 + 0 ≤ _)⟩)
    dsimp only [Pt.U, Pt.locs, Pt.cells, Pt.slots] at X56 l56 y56 z56 st56 hQ56
    subst l56 y56 z56
    obtain ⟨rfl, N56q, e56⟩ := hQ56
    have N56 := Fr.app N0 N56q
    obtain ⟨cq57, kq57, q57a, q57b, q57c⟩ := isOf hZ e56 E_UINT256
    obtain ⟨_, _, ⟨T57, L57, k57, n57⟩, -, X57, ⟨Lc57, hQ57, l57, y57, z57⟩, st57⟩ := X56.virtualBack hx (y := (⟨"com/example/bindery/bindery/codecs/airnode/ContractAbi$Kind", "dynamic", "()Z"⟩ : MethodName)) (z := (⟨"com/example/bindery/bindery/codecs/airnode/ContractAbi$Kind", "dynamic", "()Z"⟩ : MethodName)) hown (mvT hZ (hw _ (List.mem_of_getElem? (i := 7) rfl))) (mvT hZ (hw _ (List.mem_of_getElem? (i := 8) rfl))) (notFace_of_selects (args := #[]) (mvT hZ (hw _ (List.mem_of_getElem? (i := 10) rfl)))) (mvT hZ (hw _ (List.mem_of_getElem? (i := 10) rfl))) (mvT hZ (hw _ (List.mem_of_getElem? (i := 9) rfl))) (by decide) (backOf (W := 0) (rm_p l Z a0 hw [] w_UINT256 w_BYTES w_STRING (0 : Int32) h0 n0 Z0 S_BYTES S_STRING (by simp [ne_UINT256_BYTES, ne_UINT256_STRING])) hZ (hw _ (List.mem_of_getElem? (i := 11) rfl)) (hw _ (List.mem_of_getElem? (i := 5) rfl)) (by decide) (by decide)) q57a q57c (g := (mkF m 26 #[.val (.int p0), .val (.int (5 : Int32)), .val (.ref w_UINT256), .val (.int (0 : Int32))] [(.ref w_UINT256)])) rfl (by rw [hml]; rfl) (Steps.refl _) (argsL := []) (rest := []) (lenOf pd___Z rfl) rfl (by show 2 * 0 + _ ≤ _; exact Nat.le_of_eq rfl) (hb hby at_26) (fun _ _ => ⟨rfl, e56, (by decide : 0 + 0 ≤ _), (by decide : 0 + 0 ≤ _)⟩)
    dsimp only [Pt.U, Pt.locs, Pt.cells, Pt.slots] at X57 l57 y57 z57 st57 hQ57
    subst l57 y57 z57
    obtain ⟨rfl, N57q, e57⟩ := hQ57
    have N57 := Fr.app N56 N57q
    have pre58 : ∀ t, Steps p.tables e below (T57.setTop (mkF m 38 #[.val (.int p0), .val (.int (5 : Int32)), .val (.ref w_UINT256), .val (.int (0 : Int32))] [(.int (1 : Int32))])) t → Steps p.tables e below (s₁.setTop (entryFrame m #[(.int p0)] maxLocals)) t := by
      intro t kt
      refine pre40 t ?_
      show Steps p.tables e below (s₁.setTop (mkF m 5 #[.val (.int p0), .val (.int (5 : Int32)), .unset, .unset] [])) _
      refine XS.iloadN X0.here hx rfl (hb hby at_5) rfl ?_
      show Steps p.tables e below (s₁.setTop (mkF m 6 #[.val (.int p0), .val (.int (5 : Int32)), .unset, .unset] [(.int (5 : Int32))])) _
      refine st56 _ ?_
      show Steps p.tables e below (T56.setTop (mkF m 9 #[.val (.int p0), .val (.int (5 : Int32)), .unset, .unset] [(.ref w_UINT256)])) _
      refine XS.astoreN X56.here hx rfl (hb hby at_9) rfl rfl (l' := #[.val (.int p0), .val (.int (5 : Int32)), .val (.ref w_UINT256), .unset]) rfl ?_
      show Steps p.tables e below (T56.setTop (mkF m 10 #[.val (.int p0), .val (.int (5 : Int32)), .val (.ref w_UINT256), .unset] [])) _
      refine XS.iloadN X56.here hx rfl (hb hby at_10) rfl ?_
      show Steps p.tables e below (T56.setTop (mkF m 11 #[.val (.int p0), .val (.int (5 : Int32)), .val (.ref w_UINT256), .unset] [(.int (5 : Int32))])) _
      refine XS.ifNo X56.here hx rfl (hb hby at_11) rfl ((if0 _ _).trans (feq (by decide : ¬ ((5 : Int32) = (0 : Int32)))).1) ?_
      show Steps p.tables e below (T56.setTop (mkF m 14 #[.val (.int p0), .val (.int (5 : Int32)), .val (.ref w_UINT256), .unset] [])) _
      refine XS.iloadN X56.here hx rfl (hb hby at_14) rfl ?_
      show Steps p.tables e below (T56.setTop (mkF m 15 #[.val (.int p0), .val (.int (5 : Int32)), .val (.ref w_UINT256), .unset] [(.int (5 : Int32))])) _
      refine XS.iconst X56.here hx rfl (hb hby at_15) ?_
      show Steps p.tables e below (T56.setTop (mkF m 16 #[.val (.int p0), .val (.int (5 : Int32)), .val (.ref w_UINT256), .unset] [(.int (1 : Int32)), (.int (5 : Int32))])) _
      refine XS.icmpYes X56.here hx rfl (pc0 := 16) (pc' := 23) rfl (hb hby at_16) rfl (feq (by decide : ¬ ((5 : Int32) = (1 : Int32)))).2 (by decide) (by decide) ?_
      show Steps p.tables e below (T56.setTop (mkF m 23 #[.val (.int p0), .val (.int (5 : Int32)), .val (.ref w_UINT256), .unset] [])) _
      refine XS.iconst X56.here hx rfl (hb hby at_23) ?_
      show Steps p.tables e below (T56.setTop (mkF m 24 #[.val (.int p0), .val (.int (5 : Int32)), .val (.ref w_UINT256), .unset] [(.int (0 : Int32))])) _
      refine XS.istoreN X56.here hx rfl (hb hby at_24) rfl (l' := #[.val (.int p0), .val (.int (5 : Int32)), .val (.ref w_UINT256), .val (.int (0 : Int32))]) rfl ?_
      show Steps p.tables e below (T56.setTop (mkF m 25 #[.val (.int p0), .val (.int (5 : Int32)), .val (.ref w_UINT256), .val (.int (0 : Int32))] [])) _
      refine XS.aloadN X56.here hx rfl (hb hby at_25) rfl rfl ?_
      show Steps p.tables e below (T56.setTop (mkF m 26 #[.val (.int p0), .val (.int (5 : Int32)), .val (.ref w_UINT256), .val (.int (0 : Int32))] [(.ref w_UINT256)])) _
      refine st57.trans ?_
      show Steps p.tables e below (T57.setTop (mkF m 29 #[.val (.int p0), .val (.int (5 : Int32)), .val (.ref w_UINT256), .val (.int (0 : Int32))] [(.int (0 : Int32))])) _
      refine XS.iloadN X57.here hx rfl (hb hby at_29) rfl ?_
      show Steps p.tables e below (T57.setTop (mkF m 30 #[.val (.int p0), .val (.int (5 : Int32)), .val (.ref w_UINT256), .val (.int (0 : Int32))] [(.int (0 : Int32)), (.int (0 : Int32))])) _
      refine XS.icmpNo X57.here hx rfl (hb hby at_30) rfl (teq (by decide : (0 : Int32) = (0 : Int32))).2 ?_
      show Steps p.tables e below (T57.setTop (mkF m 33 #[.val (.int p0), .val (.int (5 : Int32)), .val (.ref w_UINT256), .val (.int (0 : Int32))] [])) _
      refine XS.iconst X57.here hx rfl (hb hby at_33) ?_
      show Steps p.tables e below (T57.setTop (mkF m 34 #[.val (.int p0), .val (.int (5 : Int32)), .val (.ref w_UINT256), .val (.int (0 : Int32))] [(.int (1 : Int32))])) _
      refine XS.goto X57.here hx rfl (pc0 := 34) (pc' := 38) rfl (hb hby at_34) (by decide) (by decide) ?_
      exact kt
    obtain ⟨fs, hr, hrun, hended, hW, hsame⟩ := X57.leave (v := some (.int (1 : Int32))) (fun h => by rw [Bd.returns] at h; cases h)
    refine ⟨_, _, pre58 _ ?_, hrun, hended, _, _, rfl, ?_, ⟨_, rfl⟩, hW, hsame.mono (by decide) (by decide)⟩
    · show Steps p.tables e below (T57.setTop (mkF m 38 #[.val (.int p0), .val (.int (5 : Int32)), .val (.ref w_UINT256), .val (.int (0 : Int32))] [(.int (1 : Int32))])) _
      exact retN X57 hx (t := .boolean) Bd.returns (by simp) (hb hby at_38) hr
    · show Q_rm0 Z p0 w_BYTES w_TEXT32 w_STRING w_INT256 w_BOOL w_BYTES32 w_ADDRESS w_UINT256 h0 n0 _ T57.heap _
      rw [e57]
      exact ⟨rfl, N57⟩
  · rw [hk] at pre40
    obtain ⟨_, _, ⟨T59, L59, k59, n59⟩, -, X59, ⟨Lc59, hQ59, l59, y59, z59⟩, st59⟩ := Jvm.LawKit.callS X0 hx (y := (⟨"com/example/bindery/bindery/codecs/airnode/KindDynamicPinLaw", "pick", "(I)Lcom/example/bindery/bindery/codecs/airnode/ContractAbi$Kind;"⟩ : MethodName)) hown (mvT hZ (hw _ (List.mem_of_getElem? (i := 0) rfl))) (mvT hZ (hw _ (List.mem_of_getElem? (i := 1) rfl))) (mvT hZ (hw _ (List.mem_of_getElem? (i := 2) rfl))) (mvT hZ (hw _ (List.mem_of_getElem? (i := 3) rfl))) (by decide) (backOf (W := 0) (rm_k l Z a0 hw [] (6 : Int32) w_BYTES w_STRING w_BYTES32 w_TEXT32 w_ADDRESS w_UINT256 w_INT256 w_BOOL w_INT256 h0 n0 Z0 S_BYTES S_STRING S_BYTES32 S_TEXT32 S_ADDRESS S_UINT256 S_INT256 S_BOOL (by simp +decide)) hZ (hw _ (List.mem_of_getElem? (i := 3) rfl)) (hw _ (List.mem_of_getElem? (i := 2) rfl)) (by decide) (by decide)) (g := (mkF m 6 #[.val (.int p0), .val (.int (6 : Int32)), .unset, .unset] [(.int (6 : Int32))])) rfl (by rw [hml]; rfl) (argsL := [(.int (6 : Int32))]) (rest := []) (lenOf pd__I_Lcom_example_bindery_bindery_codecs_airnode_ContractAbi_Kind_ rfl) rfl (by show 2 * 0 + _ ≤ _; exact Nat.le_of_eq rfl) (hb hby at_6) (fun _ _ => ⟨rfl, e0, (by decide : 0 + 0 ≤ _), (by decide : 0 + 0 ≤ _)⟩)
    dsimp only [Pt.U, Pt.locs, Pt.cells, Pt.slots] at X59 l59 y59 z59 st59 hQ59
    subst l59 y59 z59
    obtain ⟨rfl, N59q, e59⟩ := hQ59
    have N59 := Fr.app N0 N59q
    obtain ⟨cq60, kq60, q60a, q60b, q60c⟩ := isOf hZ e59 E_INT256
    obtain ⟨_, _, ⟨T60, L60, k60, n60⟩, -, X60, ⟨Lc60, hQ60, l60, y60, z60⟩, st60⟩ := X59.virtualBack hx (y := (⟨"com/example/bindery/bindery/codecs/airnode/ContractAbi$Kind", "dynamic", "()Z"⟩ : MethodName)) (z := (⟨"com/example/bindery/bindery/codecs/airnode/ContractAbi$Kind", "dynamic", "()Z"⟩ : MethodName)) hown (mvT hZ (hw _ (List.mem_of_getElem? (i := 7) rfl))) (mvT hZ (hw _ (List.mem_of_getElem? (i := 8) rfl))) (notFace_of_selects (args := #[]) (mvT hZ (hw _ (List.mem_of_getElem? (i := 10) rfl)))) (mvT hZ (hw _ (List.mem_of_getElem? (i := 10) rfl))) (mvT hZ (hw _ (List.mem_of_getElem? (i := 9) rfl))) (by decide) (backOf (W := 0) (rm_p l Z a0 hw [] w_INT256 w_BYTES w_STRING (0 : Int32) h0 n0 Z0 S_BYTES S_STRING (by simp [ne_INT256_BYTES, ne_INT256_STRING])) hZ (hw _ (List.mem_of_getElem? (i := 11) rfl)) (hw _ (List.mem_of_getElem? (i := 5) rfl)) (by decide) (by decide)) q60a q60c (g := (mkF m 26 #[.val (.int p0), .val (.int (6 : Int32)), .val (.ref w_INT256), .val (.int (0 : Int32))] [(.ref w_INT256)])) rfl (by rw [hml]; rfl) (Steps.refl _) (argsL := []) (rest := []) (lenOf pd___Z rfl) rfl (by show 2 * 0 + _ ≤ _; exact Nat.le_of_eq rfl) (hb hby at_26) (fun _ _ => ⟨rfl, e59, (by decide : 0 + 0 ≤ _), (by decide : 0 + 0 ≤ _)⟩)
    dsimp only [Pt.U, Pt.locs, Pt.cells, Pt.slots] at X60 l60 y60 z60 st60 hQ60
    subst l60 y60 z60
    obtain ⟨rfl, N60q, e60⟩ := hQ60
    have N60 := Fr.app N59 N60q
    have pre61 : ∀ t, Steps p.tables e below (T60.setTop (mkF m 38 #[.val (.int p0), .val (.int (6 : Int32)), .val (.ref w_INT256), .val (.int (0 : Int32))] [(.int (1 : Int32))])) t → Steps p.tables e below (s₁.setTop (entryFrame m #[(.int p0)] maxLocals)) t := by
      intro t kt
      refine pre40 t ?_
      show Steps p.tables e below (s₁.setTop (mkF m 5 #[.val (.int p0), .val (.int (6 : Int32)), .unset, .unset] [])) _
      refine XS.iloadN X0.here hx rfl (hb hby at_5) rfl ?_
      show Steps p.tables e below (s₁.setTop (mkF m 6 #[.val (.int p0), .val (.int (6 : Int32)), .unset, .unset] [(.int (6 : Int32))])) _
      refine st59 _ ?_
      show Steps p.tables e below (T59.setTop (mkF m 9 #[.val (.int p0), .val (.int (6 : Int32)), .unset, .unset] [(.ref w_INT256)])) _
      refine XS.astoreN X59.here hx rfl (hb hby at_9) rfl rfl (l' := #[.val (.int p0), .val (.int (6 : Int32)), .val (.ref w_INT256), .unset]) rfl ?_
      show Steps p.tables e below (T59.setTop (mkF m 10 #[.val (.int p0), .val (.int (6 : Int32)), .val (.ref w_INT256), .unset] [])) _
      refine XS.iloadN X59.here hx rfl (hb hby at_10) rfl ?_
      show Steps p.tables e below (T59.setTop (mkF m 11 #[.val (.int p0), .val (.int (6 : Int32)), .val (.ref w_INT256), .unset] [(.int (6 : Int32))])) _
      refine XS.ifNo X59.here hx rfl (hb hby at_11) rfl ((if0 _ _).trans (feq (by decide : ¬ ((6 : Int32) = (0 : Int32)))).1) ?_
      show Steps p.tables e below (T59.setTop (mkF m 14 #[.val (.int p0), .val (.int (6 : Int32)), .val (.ref w_INT256), .unset] [])) _
      refine XS.iloadN X59.here hx rfl (hb hby at_14) rfl ?_
      show Steps p.tables e below (T59.setTop (mkF m 15 #[.val (.int p0), .val (.int (6 : Int32)), .val (.ref w_INT256), .unset] [(.int (6 : Int32))])) _
      refine XS.iconst X59.here hx rfl (hb hby at_15) ?_
      show Steps p.tables e below (T59.setTop (mkF m 16 #[.val (.int p0), .val (.int (6 : Int32)), .val (.ref w_INT256), .unset] [(.int (1 : Int32)), (.int (6 : Int32))])) _
      refine XS.icmpYes X59.here hx rfl (pc0 := 16) (pc' := 23) rfl (hb hby at_16) rfl (feq (by decide : ¬ ((6 : Int32) = (1 : Int32)))).2 (by decide) (by decide) ?_
      show Steps p.tables e below (T59.setTop (mkF m 23 #[.val (.int p0), .val (.int (6 : Int32)), .val (.ref w_INT256), .unset] [])) _
      refine XS.iconst X59.here hx rfl (hb hby at_23) ?_
      show Steps p.tables e below (T59.setTop (mkF m 24 #[.val (.int p0), .val (.int (6 : Int32)), .val (.ref w_INT256), .unset] [(.int (0 : Int32))])) _
      refine XS.istoreN X59.here hx rfl (hb hby at_24) rfl (l' := #[.val (.int p0), .val (.int (6 : Int32)), .val (.ref w_INT256), .val (.int (0 : Int32))]) rfl ?_
      show Steps p.tables e below (T59.setTop (mkF m 25 #[.val (.int p0), .val (.int (6 : Int32)), .val (.ref w_INT256), .val (.int (0 : Int32))] [])) _
      refine XS.aloadN X59.here hx rfl (hb hby at_25) rfl rfl ?_
      show Steps p.tables e below (T59.setTop (mkF m 26 #[.val (.int p0), .val (.int (6 : Int32)), .val (.ref w_INT256), .val (.int (0 : Int32))] [(.ref w_INT256)])) _
      refine st60.trans ?_
      show Steps p.tables e below (T60.setTop (mkF m 29 #[.val (.int p0), .val (.int (6 : Int32)), .val (.ref w_INT256), .val (.int (0 : Int32))] [(.int (0 : Int32))])) _
      refine XS.iloadN X60.here hx rfl (hb hby at_29) rfl ?_
      show Steps p.tables e below (T60.setTop (mkF m 30 #[.val (.int p0), .val (.int (6 : Int32)), .val (.ref w_INT256), .val (.int (0 : Int32))] [(.int (0 : Int32)), (.int (0 : Int32))])) _
      refine XS.icmpNo X60.here hx rfl (hb hby at_30) rfl (teq (by decide : (0 : Int32) = (0 : Int32))).2 ?_
      show Steps p.tables e below (T60.setTop (mkF m 33 #[.val (.int p0), .val (.int (6 : Int32)), .val (.ref w_INT256), .val (.int (0 : Int32))] [])) _
      refine XS.iconst X60.here hx rfl (hb hby at_33) ?_
      show Steps p.tables e below (T60.setTop (mkF m 34 #[.val (.int p0), .val (.int (6 : Int32)), .val (.ref w_INT256), .val (.int (0 : Int32))] [(.int (1 : Int32))])) _
      refine XS.goto X60.here hx rfl (pc0 := 34) (pc' := 38) rfl (hb hby at_34) (by decide) (by decide) ?_
      exact kt
    obtain ⟨fs, hr, hrun, hended, hW, hsame⟩ := X60.leave (v := some (.int (1 : Int32))) (fun h => by rw [Bd.returns] at h; cases h)
    refine ⟨_, _, pre61 _ ?_, hrun, hended, _, _, rfl, ?_, ⟨_, rfl⟩, hW, hsame.mono (by decide) (by decide)⟩
    · show Steps p.tables e below (T60.setTop (mkF m 38 #[.val (.int p0), .val (.int (6 : Int32)), .val (.ref w_INT256), .val (.int (0 : Int32))] [(.int (1 : Int32))])) _
      exact retN X60 hx (t := .boolean) Bd.returns (by simp) (hb hby at_38) hr
    · show Q_rm0 Z p0 w_BYTES w_TEXT32 w_STRING w_INT256 w_BOOL w_BYTES32 w_ADDRESS w_UINT256 h0 n0 _ T60.heap _
      rw [e60]
      exact ⟨rfl, N60⟩
  · rw [hk] at pre40
    obtain ⟨_, _, ⟨T62, L62, k62, n62⟩, -, X62, ⟨Lc62, hQ62, l62, y62, z62⟩, st62⟩ := Jvm.LawKit.callS X0 hx (y := (⟨"com/example/bindery/bindery/codecs/airnode/KindDynamicPinLaw", "pick", "(I)Lcom/example/bindery/bindery/codecs/airnode/ContractAbi$Kind;"⟩ : MethodName)) hown (mvT hZ (hw _ (List.mem_of_getElem? (i := 0) rfl))) (mvT hZ (hw _ (List.mem_of_getElem? (i := 1) rfl))) (mvT hZ (hw _ (List.mem_of_getElem? (i := 2) rfl))) (mvT hZ (hw _ (List.mem_of_getElem? (i := 3) rfl))) (by decide) (backOf (W := 0) (rm_k l Z a0 hw [] (7 : Int32) w_BYTES w_STRING w_BYTES32 w_TEXT32 w_ADDRESS w_UINT256 w_INT256 w_BOOL w_BOOL h0 n0 Z0 S_BYTES S_STRING S_BYTES32 S_TEXT32 S_ADDRESS S_UINT256 S_INT256 S_BOOL (by simp +decide)) hZ (hw _ (List.mem_of_getElem? (i := 3) rfl)) (hw _ (List.mem_of_getElem? (i := 2) rfl)) (by decide) (by decide)) (g := (mkF m 6 #[.val (.int p0), .val (.int (7 : Int32)), .unset, .unset] [(.int (7 : Int32))])) rfl (by rw [hml]; rfl) (argsL := [(.int (7 : Int32))]) (rest := []) (lenOf pd__I_Lcom_example_bindery_bindery_codecs_airnode_ContractAbi_Kind_ rfl) rfl (by show 2 * 0 + _ ≤ _; exact Nat.le_of_eq rfl) (hb hby at_6) (fun _ _ => ⟨rfl, e0, (by decide : 0 + 0 ≤ _), (by decide : 0 + 0 ≤ _)⟩)
    dsimp only [Pt.U, Pt.locs, Pt.cells, Pt.slots] at X62 l62 y62 z62 st62 hQ62
    subst l62 y62 z62
    obtain ⟨rfl, N62q, e62⟩ := hQ62
    have N62 := Fr.app N0 N62q
    obtain ⟨cq63, kq63, q63a, q63b, q63c⟩ := isOf hZ e62 E_BOOL
    obtain ⟨_, _, ⟨T63, L63, k63, n63⟩, -, X63, ⟨Lc63, hQ63, l63, y63, z63⟩, st63⟩ := X62.virtualBack hx (y := (⟨"com/example/bindery/bindery/codecs/airnode/ContractAbi$Kind", "dynamic", "()Z"⟩ : MethodName)) (z := (⟨"com/example/bindery/bindery/codecs/airnode/ContractAbi$Kind", "dynamic", "()Z"⟩ : MethodName)) hown (mvT hZ (hw _ (List.mem_of_getElem? (i := 7) rfl))) (mvT hZ (hw _ (List.mem_of_getElem? (i := 8) rfl))) (notFace_of_selects (args := #[]) (mvT hZ (hw _ (List.mem_of_getElem? (i := 10) rfl)))) (mvT hZ (hw _ (List.mem_of_getElem? (i := 10) rfl))) (mvT hZ (hw _ (List.mem_of_getElem? (i := 9) rfl))) (by decide) (backOf (W := 0) (rm_p l Z a0 hw [] w_BOOL w_BYTES w_STRING (0 : Int32) h0 n0 Z0 S_BYTES S_STRING (by simp [ne_BOOL_BYTES, ne_BOOL_STRING])) hZ (hw _ (List.mem_of_getElem? (i := 11) rfl)) (hw _ (List.mem_of_getElem? (i := 5) rfl)) (by decide) (by decide)) q63a q63c (g := (mkF m 26 #[.val (.int p0), .val (.int (7 : Int32)), .val (.ref w_BOOL), .val (.int (0 : Int32))] [(.ref w_BOOL)])) rfl (by rw [hml]; rfl) (Steps.refl _) (argsL := []) (rest := []) (lenOf pd___Z rfl) rfl (by show 2 * 0 + _ ≤ _; exact Nat.le_of_eq rfl) (hb hby at_26) (fun _ _ => ⟨rfl, e62, (by decide : 0 + 0 ≤ _), (by decide : 0 + 0 ≤ _)⟩)
    dsimp only [Pt.U, Pt.locs, Pt.cells, Pt.slots] at X63 l63 y63 z63 st63 hQ63
    subst l63 y63 z63
    obtain ⟨rfl, N63q, e63⟩ := hQ63
    have N63 := Fr.app N62 N63q
    have pre64 : ∀ t, Steps p.tables e below (T63.setTop (mkF m 38 #[.val (.int p0), .val (.int (7 : Int32)), .val (.ref w_BOOL), .val (.int (0 : Int32))] [(.int (1 : Int32))])) t → Steps p.tables e below (s₁.setTop (entryFrame m #[(.int p0)] maxLocals)) t := by
      intro t kt
      refine pre40 t ?_
      show Steps p.tables e below (s₁.setTop (mkF m 5 #[.val (.int p0), .val (.int (7 : Int32)), .unset, .unset] [])) _
      refine XS.iloadN X0.here hx rfl (hb hby at_5) rfl ?_
      show Steps p.tables e below (s₁.setTop (mkF m 6 #[.val (.int p0), .val (.int (7 : Int32)), .unset, .unset] [(.int (7 : Int32))])) _
      refine st62 _ ?_
      show Steps p.tables e below (T62.setTop (mkF m 9 #[.val (.int p0), .val (.int (7 : Int32)), .unset, .unset] [(.ref w_BOOL)])) _
      refine XS.astoreN X62.here hx rfl (hb hby at_9) rfl rfl (l' := #[.val (.int p0), .val (.int (7 : Int32)), .val (.ref w_BOOL), .unset]) rfl ?_
      show Steps p.tables e below (T62.setTop (mkF m 10 #[.val (.int p0), .val (.int (7 : Int32)), .val (.ref w_BOOL), .unset] [])) _
      refine XS.iloadN X62.here hx rfl (hb hby at_10) rfl ?_
      show Steps p.tables e below (T62.setTop (mkF m 11 #[.val (.int p0), .val (.int (7 : Int32)), .val (.ref w_BOOL), .unset] [(.int (7 : Int32))])) _
      refine XS.ifNo X62.here hx rfl (hb hby at_11) rfl ((if0 _ _).trans (feq (by decide : ¬ ((7 : Int32) = (0 : Int32)))).1) ?_
      show Steps p.tables e below (T62.setTop (mkF m 14 #[.val (.int p0), .val (.int (7 : Int32)), .val (.ref w_BOOL), .unset] [])) _
      refine XS.iloadN X62.here hx rfl (hb hby at_14) rfl ?_
      show Steps p.tables e below (T62.setTop (mkF m 15 #[.val (.int p0), .val (.int (7 : Int32)), .val (.ref w_BOOL), .unset] [(.int (7 : Int32))])) _
      refine XS.iconst X62.here hx rfl (hb hby at_15) ?_
      show Steps p.tables e below (T62.setTop (mkF m 16 #[.val (.int p0), .val (.int (7 : Int32)), .val (.ref w_BOOL), .unset] [(.int (1 : Int32)), (.int (7 : Int32))])) _
      refine XS.icmpYes X62.here hx rfl (pc0 := 16) (pc' := 23) rfl (hb hby at_16) rfl (feq (by decide : ¬ ((7 : Int32) = (1 : Int32)))).2 (by decide) (by decide) ?_
      show Steps p.tables e below (T62.setTop (mkF m 23 #[.val (.int p0), .val (.int (7 : Int32)), .val (.ref w_BOOL), .unset] [])) _
      refine XS.iconst X62.here hx rfl (hb hby at_23) ?_
      show Steps p.tables e below (T62.setTop (mkF m 24 #[.val (.int p0), .val (.int (7 : Int32)), .val (.ref w_BOOL), .unset] [(.int (0 : Int32))])) _
      refine XS.istoreN X62.here hx rfl (hb hby at_24) rfl (l' := #[.val (.int p0), .val (.int (7 : Int32)), .val (.ref w_BOOL), .val (.int (0 : Int32))]) rfl ?_
      show Steps p.tables e below (T62.setTop (mkF m 25 #[.val (.int p0), .val (.int (7 : Int32)), .val (.ref w_BOOL), .val (.int (0 : Int32))] [])) _
      refine XS.aloadN X62.here hx rfl (hb hby at_25) rfl rfl ?_
      show Steps p.tables e below (T62.setTop (mkF m 26 #[.val (.int p0), .val (.int (7 : Int32)), .val (.ref w_BOOL), .val (.int (0 : Int32))] [(.ref w_BOOL)])) _
      refine st63.trans ?_
      show Steps p.tables e below (T63.setTop (mkF m 29 #[.val (.int p0), .val (.int (7 : Int32)), .val (.ref w_BOOL), .val (.int (0 : Int32))] [(.int (0 : Int32))])) _
      refine XS.iloadN X63.here hx rfl (hb hby at_29) rfl ?_
      show Steps p.tables e below (T63.setTop (mkF m 30 #[.val (.int p0), .val (.int (7 : Int32)), .val (.ref w_BOOL), .val (.int (0 : Int32))] [(.int (0 : Int32)), (.int (0 : Int32))])) _
      refine XS.icmpNo X63.here hx rfl (hb hby at_30) rfl (teq (by decide : (0 : Int32) = (0 : Int32))).2 ?_
      show Steps p.tables e below (T63.setTop (mkF m 33 #[.val (.int p0), .val (.int (7 : Int32)), .val (.ref w_BOOL), .val (.int (0 : Int32))] [])) _
      refine XS.iconst X63.here hx rfl (hb hby at_33) ?_
      show Steps p.tables e below (T63.setTop (mkF m 34 #[.val (.int p0), .val (.int (7 : Int32)), .val (.ref w_BOOL), .val (.int (0 : Int32))] [(.int (1 : Int32))])) _
      refine XS.goto X63.here hx rfl (pc0 := 34) (pc' := 38) rfl (hb hby at_34) (by decide) (by decide) ?_
      exact kt
    obtain ⟨fs, hr, hrun, hended, hW, hsame⟩ := X63.leave (v := some (.int (1 : Int32))) (fun h => by rw [Bd.returns] at h; cases h)
    refine ⟨_, _, pre64 _ ?_, hrun, hended, _, _, rfl, ?_, ⟨_, rfl⟩, hW, hsame.mono (by decide) (by decide)⟩
    · show Steps p.tables e below (T63.setTop (mkF m 38 #[.val (.int p0), .val (.int (7 : Int32)), .val (.ref w_BOOL), .val (.int (0 : Int32))] [(.int (1 : Int32))])) _
      exact retN X63 hx (t := .boolean) Bd.returns (by simp) (hb hby at_38) hr
    · show Q_rm0 Z p0 w_BYTES w_TEXT32 w_STRING w_INT256 w_BOOL w_BYTES32 w_ADDRESS w_UINT256 h0 n0 _ T63.heap _
      rw [e63]
      exact ⟨rfl, N63⟩
set_option maxRecDepth 65536 in
set_option maxHeartbeats 40000000 in
theorem comes_1 {Post : Tables → Env → Array Value → State → Outcome → State → Prop} (hpost : ∀ tb e args s v u, (limb_1_1.after args s (.returned v) u = true ∧ limb_1_2.after args s (.returned v) u = true ∧ True) → FrameEnd s (.returned v) u (Jvm.fieldLocs frame_1_writes args s ++ Jvm.arrayLocs frame_1_arrays args s ++ Jvm.staticLocs frame_1_statics s) 0 0 → Post tb e args s (.returned v) u) :
    ArmFor flags0 classFile x code maxLocals ret World_1 tables_1 room_1 Calls_1 rest_1 Pre_1 Post := by
  intro l hfl _ _ p e ha hc hk s m args below hf hA hF happ hP
  obtain ⟨hcalls, hrest, hpre⟩ := hP
  obtain ⟨-, -, -, hnamed, -, -, -, hat⟩ := (Spec.applies_iff hf).mp happ
  obtain ⟨hg, hn⟩ := and_e (Cond.before_iff.mp (show (Jvm.Cond.and given_1 narrow_1).before args s = true from hpre))
  have hw := fun d (hd : d ∈ tables_1) => atoms_spec (ws := Jvm.Cond.code x code maxLocals ret :: tables_1) hat d (List.mem_cons_of_mem _ hd)
  obtain ⟨g1, g2⟩ := and_e hg
  obtain ⟨g3, g4⟩ := and_e hn
  obtain ⟨g5, g6⟩ := and_e g4
  obtain ⟨g7, g8⟩ := and_e g6
  obtain ⟨g9, g10⟩ := and_e g8
  obtain ⟨g11, g12⟩ := and_e g10
  obtain ⟨g13, g14⟩ := and_e g12
  obtain ⟨g15, g16⟩ := and_e g14
  obtain ⟨g17, g18⟩ := and_e g16
  obtain ⟨g19, g20⟩ := and_e g18
  obtain ⟨g21, g22⟩ := and_e g20
  obtain ⟨g23, g24⟩ := and_e g22
  obtain ⟨g25, g26⟩ := and_e g24
  obtain ⟨g27, g28⟩ := and_e g26
  obtain ⟨g29, g30⟩ := and_e g28
  obtain ⟨g31, g32⟩ := and_e g30
  obtain ⟨w_BYTES, ev_BYTES⟩ := exa_v g3
  have S_BYTES : Sta s s.heap "com/example/bindery/bindery/codecs/airnode/ContractAbi$Kind" "BYTES" "Lcom/example/bindery/bindery/codecs/airnode/ContractAbi$Kind;" (.ref w_BYTES) := Sta.start ev_BYTES (Or.inr ⟨(hw _ (List.mem_of_getElem? (i := 5) rfl)), (hw _ (List.mem_of_getElem? (i := 6) rfl))⟩)
  have E_BYTES := Exa.start ev_BYTES g3
  obtain ⟨w_TEXT32, ev_TEXT32⟩ := exa_v g5
  have S_TEXT32 : Sta s s.heap "com/example/bindery/bindery/codecs/airnode/ContractAbi$Kind" "TEXT32" "Lcom/example/bindery/bindery/codecs/airnode/ContractAbi$Kind;" (.ref w_TEXT32) := Sta.start ev_TEXT32 (Or.inr ⟨(hw _ (List.mem_of_getElem? (i := 5) rfl)), (hw _ (List.mem_of_getElem? (i := 14) rfl))⟩)
  have E_TEXT32 := Exa.start ev_TEXT32 g5
  obtain ⟨w_STRING, ev_STRING⟩ := exa_v g11
  have S_STRING : Sta s s.heap "com/example/bindery/bindery/codecs/airnode/ContractAbi$Kind" "STRING" "Lcom/example/bindery/bindery/codecs/airnode/ContractAbi$Kind;" (.ref w_STRING) := Sta.start ev_STRING (Or.inr ⟨(hw _ (List.mem_of_getElem? (i := 5) rfl)), (hw _ (List.mem_of_getElem? (i := 16) rfl))⟩)
  have E_STRING := Exa.start ev_STRING g11
  obtain ⟨w_INT256, ev_INT256⟩ := exa_v g15
  have S_INT256 : Sta s s.heap "com/example/bindery/bindery/codecs/airnode/ContractAbi$Kind" "INT256" "Lcom/example/bindery/bindery/codecs/airnode/ContractAbi$Kind;" (.ref w_INT256) := Sta.start ev_INT256 (Or.inr ⟨(hw _ (List.mem_of_getElem? (i := 5) rfl)), (hw _ (List.mem_of_getElem? (i := 18) rfl))⟩)
  have E_INT256 := Exa.start ev_INT256 g15
  obtain ⟨w_BOOL, ev_BOOL⟩ := exa_v g19
  have S_BOOL : Sta s s.heap "com/example/bindery/bindery/codecs/airnode/ContractAbi$Kind" "BOOL" "Lcom/example/bindery/bindery/codecs/airnode/ContractAbi$Kind;" (.ref w_BOOL) := Sta.start ev_BOOL (Or.inr ⟨(hw _ (List.mem_of_getElem? (i := 5) rfl)), (hw _ (List.mem_of_getElem? (i := 20) rfl))⟩)
  have E_BOOL := Exa.start ev_BOOL g19
  obtain ⟨w_BYTES32, ev_BYTES32⟩ := exa_v g23
  have S_BYTES32 : Sta s s.heap "com/example/bindery/bindery/codecs/airnode/ContractAbi$Kind" "BYTES32" "Lcom/example/bindery/bindery/codecs/airnode/ContractAbi$Kind;" (.ref w_BYTES32) := Sta.start ev_BYTES32 (Or.inr ⟨(hw _ (List.mem_of_getElem? (i := 5) rfl)), (hw _ (List.mem_of_getElem? (i := 22) rfl))⟩)
  have E_BYTES32 := Exa.start ev_BYTES32 g23
  obtain ⟨w_ADDRESS, ev_ADDRESS⟩ := exa_v g27
  have S_ADDRESS : Sta s s.heap "com/example/bindery/bindery/codecs/airnode/ContractAbi$Kind" "ADDRESS" "Lcom/example/bindery/bindery/codecs/airnode/ContractAbi$Kind;" (.ref w_ADDRESS) := Sta.start ev_ADDRESS (Or.inr ⟨(hw _ (List.mem_of_getElem? (i := 5) rfl)), (hw _ (List.mem_of_getElem? (i := 25) rfl))⟩)
  have E_ADDRESS := Exa.start ev_ADDRESS g27
  obtain ⟨w_UINT256, ev_UINT256⟩ := exa_v g31
  have S_UINT256 : Sta s s.heap "com/example/bindery/bindery/codecs/airnode/ContractAbi$Kind" "UINT256" "Lcom/example/bindery/bindery/codecs/airnode/ContractAbi$Kind;" (.ref w_UINT256) := Sta.start ev_UINT256 (Or.inr ⟨(hw _ (List.mem_of_getElem? (i := 5) rfl)), (hw _ (List.mem_of_getElem? (i := 27) rfl))⟩)
  have E_UINT256 := Exa.start ev_UINT256 g31
  have F_ordinal_TEXT32 := own_fld ev_TEXT32 (v := .int (3 : Int32)) rfl g7
  have F_ordinal_BYTES := own_fld ev_BYTES (v := .int (0 : Int32)) rfl g9
  have F_ordinal_STRING := own_fld ev_STRING (v := .int (1 : Int32)) rfl g13
  have F_ordinal_INT256 := own_fld ev_INT256 (v := .int (6 : Int32)) rfl g17
  have F_ordinal_BOOL := own_fld ev_BOOL (v := .int (7 : Int32)) rfl g21
  have F_ordinal_BYTES32 := own_fld ev_BYTES32 (v := .int (2 : Int32)) rfl g25
  have F_ordinal_ADDRESS := own_fld ev_ADDRESS (v := .int (4 : Int32)) rfl g29
  have F_ordinal_UINT256 := own_fld ev_UINT256 (v := .int (5 : Int32)) rfl g32
  obtain ⟨v0, rfl⟩ : ∃ v0 : Value, args = #[v0] := by
    have hs : args.size = 1 := by simpa [Cond.value, given_1] using g1
    obtain ⟨L⟩ := args
    match L, hs with
    | [v0], _ => exact ⟨v0, rfl⟩
  have hfit : Fit s := fun {y c} hc i hi => by
    obtain ⟨ha, rfl⟩ := Array.getElem?_eq_some_iff.mp hc
    have q := List.all_eq_true.mp ((Array.all_eq_true_iff_forall_mem.mp hF) _ (Array.getElem_mem ha)) i (List.mem_range.mpr hi)
    simpa [Array.getElem?_eq_getElem hi] using q
  obtain ⟨i0, ei0⟩ := is_v g2
  obtain rfl : v0 = (.int i0) := Option.some.inj ei0
  obtain ⟨n, o, h1, h2, h3, _, L, rfl, ⟨rfl, N⟩, hq⟩ := rm0 l s _ hw tables_1 i0 w_BYTES w_TEXT32 w_STRING w_INT256 w_BOOL w_BYTES32 w_ADDRESS w_UINT256  s.heap s.heap.size (Nat.le_refl _) S_BYTES E_BYTES S_TEXT32 E_TEXT32 S_STRING E_STRING S_INT256 E_INT256 S_BOOL E_BOOL S_BYTES32 E_BYTES32 S_ADDRESS E_ADDRESS S_UINT256 E_UINT256 F_ordinal_TEXT32 F_ordinal_BYTES F_ordinal_STRING F_ordinal_INT256 F_ordinal_BOOL F_ordinal_BYTES32 F_ordinal_ADDRESS F_ordinal_UINT256 p e ha hc hk s m _ below hf ((Spec.applies_iff_loose hf).mp happ).1 ⟨rfl, State.Warmed39.refl s, rfl⟩ trivial
  refine ⟨n, _, h1, h2, h3, hpost _ _ _ _ _ _ ⟨Cond.after_iff.mpr rfl, Cond.after_iff.mpr (eq_i res_at (Term.int_eval (1)) rfl), trivial⟩ ⟨hq.1, hq.2.1, (hq.2.2.sift fun y hy => Or.inr (N y hy)).mono (by decide) (by decide)⟩⟩
theorem main_1_1 : Claimed_1_1 := comes_1 fun _ _ _ _ _ _ h hF => ⟨h.1, hF⟩
theorem main_1_2 : Claimed_1_2 := comes_1 fun _ _ _ _ _ _ h hF => ⟨h.2.1, hF⟩
end Jvm.Pilot.@@N@@
namespace Jvm.Pilot.@@N@@
open Jvm Jvm.ClassFile Sem Op Lib Jvm.Free Jvm.Stand Jvm.Pilot.@@N@@.Jvm.D
/-! MADE BY PROGRAM (witnessworld.py) out of the Statement's table words and the real class files: 12 classes; the members and pool entries that the words name. The judged class is class 1, her method 1. -/
namespace start1
open Jvm.ClassFile
def u (s : String) : CpInfo := .utf8 (stringToUtf16 s)
/-- a pool by its gaps: so many unusable entries, then the entry; so many at the end -/
def gap : Nat → List CpInfo → List CpInfo
  | 0, r => r
  | n + 1, r => .unusable :: gap n r
def poolList (es : List (Nat × CpInfo)) (last : Nat) : List CpInfo := es.foldr (fun e r => gap e.1 (e.2 :: r)) (gap last [])
def pool (es : List (Nat × CpInfo)) (last : Nat) : Array CpInfo := ⟨poolList es last⟩
def fileOf (pool : Array CpInfo) (this : Nat) (attrs : Array Attribute := #[]) (ms : Array MethodInfo := #[]) (fl : Nat := 33) (sup : Nat := 0) (ifs : Array Nat := #[]) (fds : Array FieldInfo := #[]) : ClassFile where
  minorVersion := 0
  majorVersion := 65
  constantPool := pool
  accessFlags := fl
  thisClass := this
  superClass := sup
  interfaces := ifs
  fields := fds
  methods := ms
  attributes := attrs
def plain (name : String) (sup : Option ClassId) : Class where
  name := name
  kind := .ordinary
  loader := none
  accessFlags := 33
  super := sup
  interfaces := #[]
  cf := none
  fields := #[]
  methods := #[]
  instanceTypes := #[]
  staticTypes := #[]
  resolved := #[]
  callSites := []
  init := .initialized
  statics := none
  mirror := none

def pool0 : Array CpInfo := pool [(5, u "<init>"), (0, u "()V"), (1, .class_ 10), (1, u "java/lang/Object")] 113

def k0m0 : Method := { name := "<init>", desc := "()V", sig := { parameters := [], returnType := none }, accessFlags := 1, code := none }
/-- java/lang/Object -/
def k0 : Class := { plain "java/lang/Object" none with
  accessFlags := 33
  interfaces := #[]
  cf := some (fileOf pool0 8 #[] #[{ accessFlags := 1, nameIndex := 5, descriptorIndex := 6, attributes := #[] }] 33 0 #[] #[])
  fields := #[]
  methods := #[k0m0]
  instanceTypes := #[]
  staticTypes := #[]
  resolved := Array.replicate 124 none
  statics := none }

def pool1 : Array CpInfo := pool [(2, .class_ 4), (1, u "java/lang/Object"), (0, u "<init>"), (0, u "()V"), (0, .methodref 8 9), (0, .class_ 10), (0, .nameAndType 11 12), (0, u "com/example/bindery/bindery/codecs/airnode/KindDynamicPinLaw"), (0, u "pick"), (0, u "(I)Lcom/example/bindery/bindery/codecs/airnode/ContractAbi$Kind;"), (0, .methodref 14 15), (0, .class_ 16), (0, .nameAndType 17 18), (0, u "com/example/bindery/bindery/codecs/airnode/ContractAbi$Kind"), (0, u "dynamic"), (0, u "()Z"), (0, .fieldref 14 20), (0, .nameAndType 21 22), (0, u "BYTES"), (0, u "Lcom/example/bindery/bindery/codecs/airnode/ContractAbi$Kind;"), (0, .fieldref 14 24), (0, .nameAndType 25 22), (0, u "STRING"), (0, .fieldref 14 27), (0, .nameAndType 28 22), (0, u "BYTES32"), (0, .fieldref 14 30), (0, .nameAndType 31 22), (0, u "TEXT32"), (0, .fieldref 14 33), (0, .nameAndType 34 22), (0, u "ADDRESS"), (0, .fieldref 14 36), (0, .nameAndType 37 22), (0, u "UINT256"), (0, .fieldref 14 39), (0, .nameAndType 40 22), (0, u "INT256"), (0, .fieldref 14 42), (0, .nameAndType 43 22), (0, u "BOOL"), (2, u "law"), (0, u "(I)Z")] 7

def k1m0 : Method := { name := "<init>", desc := "()V", sig := { parameters := [], returnType := none }, accessFlags := 1, code := none }
def k1c1 : Code := { maxStack := 2, maxLocals := 4, code := code, exceptionTable := #[], attributes := #[] }
def k1m1 : Method := { name := "law", desc := "(I)Z", sig := { parameters := [.int], returnType := some .boolean }, accessFlags := 9, code := some k1c1 }
def k1c2 : Code := { maxStack := 2, maxLocals := 1, code := method_3_code, exceptionTable := #[], attributes := #[] }
def k1m2 : Method := { name := "pick", desc := "(I)Lcom/example/bindery/bindery/codecs/airnode/ContractAbi$Kind;", sig := { parameters := [.int], returnType := some (.object "com/example/bindery/bindery/codecs/airnode/ContractAbi$Kind") }, accessFlags := 10, code := some k1c2 }
/-- com/example/bindery/bindery/codecs/airnode/KindDynamicPinLaw -/
def k1 : Class := { plain "com/example/bindery/bindery/codecs/airnode/KindDynamicPinLaw" (some 0) with
  accessFlags := 49
  interfaces := #[]
  cf := some (fileOf pool1 8 #[] #[{ accessFlags := 1, nameIndex := 5, descriptorIndex := 6, attributes := #[] }, { accessFlags := 9, nameIndex := 46, descriptorIndex := 47, attributes := #[] }, { accessFlags := 10, nameIndex := 11, descriptorIndex := 12, attributes := #[] }] 49 2 #[] #[])
  fields := #[]
  methods := #[k1m0, k1m1, k1m2]
  instanceTypes := #[]
  staticTypes := #[]
  resolved := Array.replicate 55 none
  statics := none }

def pool2 : Array CpInfo := pool [(1, .class_ 2), (0, u "java/lang/constant/Constable"), (0, .class_ 4), (0, u "java/lang/Object")] 6

/-- java/lang/constant/Constable -/
def k2 : Class := { plain "java/lang/constant/Constable" (some 0) with
  accessFlags := 1537
  interfaces := #[]
  cf := some (fileOf pool2 1 #[] #[] 1537 3 #[] #[])
  fields := #[]
  methods := #[]
  instanceTypes := #[]
  staticTypes := #[]
  resolved := Array.replicate 11 none
  statics := none }

def pool3 : Array CpInfo := pool [(1, .class_ 2), (0, u "java/lang/Comparable"), (0, .class_ 4), (0, u "java/lang/Object")] 7

/-- java/lang/Comparable -/
def k3 : Class := { plain "java/lang/Comparable" (some 0) with
  accessFlags := 1537
  interfaces := #[]
  cf := some (fileOf pool3 1 #[] #[] 1537 3 #[] #[])
  fields := #[]
  methods := #[]
  instanceTypes := #[]
  staticTypes := #[]
  resolved := Array.replicate 12 none
  statics := none }

def pool4 : Array CpInfo := pool [(1, .class_ 2), (0, u "java/io/Serializable"), (0, .class_ 4), (0, u "java/lang/Object")] 2

/-- java/io/Serializable -/
def k4 : Class := { plain "java/io/Serializable" (some 0) with
  accessFlags := 1537
  interfaces := #[]
  cf := some (fileOf pool4 1 #[] #[] 1537 3 #[] #[])
  fields := #[]
  methods := #[]
  instanceTypes := #[]
  staticTypes := #[]
  resolved := Array.replicate 7 none
  statics := none }

def pool5 : Array CpInfo := pool [(2, .class_ 4), (1, u "java/lang/Enum"), (0, u "name"), (0, u "Ljava/lang/String;"), (2, u "ordinal"), (0, u "I"), (1, .class_ 14), (1, u "java/lang/Object"), (4, u "hash"), (86, .class_ 108), (1, u "java/lang/Enum$EnumDesc"), (2, .class_ 112), (0, u "java/lang/constant/Constable"), (0, .class_ 114), (0, u "java/lang/Comparable"), (0, .class_ 116), (0, u "java/io/Serializable")] 87

/-- java/lang/Enum -/
def k5 : Class := { plain "java/lang/Enum" (some 0) with
  accessFlags := 1057
  interfaces := #[2, 3, 4]
  cf := some (fileOf pool5 2 #[.nestMembers #[106]] #[] 1057 12 #[111, 113, 115] #[{ accessFlags := 18, nameIndex := 5, descriptorIndex := 6, attributes := #[] }, { accessFlags := 18, nameIndex := 9, descriptorIndex := 10, attributes := #[] }, { accessFlags := 2, nameIndex := 19, descriptorIndex := 10, attributes := #[] }])
  fields := #[{ name := "name", type := (.object "java/lang/String"), accessFlags := 18, slot := 0, constantValue := 0 }, { name := "ordinal", type := .int, accessFlags := 18, slot := 1, constantValue := 0 }, { name := "hash", type := .int, accessFlags := 2, slot := 2, constantValue := 0 }]
  methods := #[]
  instanceTypes := #[(.object "java/lang/String"), .int, .int]
  staticTypes := #[]
  resolved := Array.replicate 204 none
  statics := none }

def pool6 : Array CpInfo := pool [(1, .class_ 2), (0, u "com/example/bindery/bindery/codecs/airnode/ContractAbi$Kind"), (0, .fieldref 1 4), (0, .nameAndType 5 6), (0, u "BYTES"), (0, u "Lcom/example/bindery/bindery/codecs/airnode/ContractAbi$Kind;"), (0, .fieldref 1 8), (0, .nameAndType 9 6), (0, u "STRING"), (2, u "BYTES32"), (2, u "TEXT32"), (2, u "ADDRESS"), (2, u "UINT256"), (2, u "INT256"), (2, u "BOOL"), (2, u "$VALUES"), (0, u "[Lcom/example/bindery/bindery/codecs/airnode/ContractAbi$Kind;"), (6, .class_ 40), (1, u "java/lang/Enum"), (26, u "dynamic"), (0, u "()Z"), (6, .class_ 76), (0, u "com/example/bindery/bindery/codecs/airnode/ContractAbi")] 2

def k6c0 : Code := { maxStack := 2, maxLocals := 1, code := prog_52_method_4_code, exceptionTable := #[], attributes := #[] }
def k6m0 : Method := { name := "dynamic", desc := "()Z", sig := { parameters := [], returnType := some .boolean }, accessFlags := 0, code := some k6c0 }
/-- com/example/bindery/bindery/codecs/airnode/ContractAbi$Kind -/
def k6 : Class := { plain "com/example/bindery/bindery/codecs/airnode/ContractAbi$Kind" (some 5) with
  accessFlags := 16432
  interfaces := #[]
  cf := some (fileOf pool6 1 #[.nestHost 75] #[{ accessFlags := 0, nameIndex := 67, descriptorIndex := 68, attributes := #[] }] 16432 38 #[] #[{ accessFlags := 16409, nameIndex := 5, descriptorIndex := 6, attributes := #[] }, { accessFlags := 16409, nameIndex := 9, descriptorIndex := 6, attributes := #[] }, { accessFlags := 16409, nameIndex := 12, descriptorIndex := 6, attributes := #[] }, { accessFlags := 16409, nameIndex := 15, descriptorIndex := 6, attributes := #[] }, { accessFlags := 16409, nameIndex := 18, descriptorIndex := 6, attributes := #[] }, { accessFlags := 16409, nameIndex := 21, descriptorIndex := 6, attributes := #[] }, { accessFlags := 16409, nameIndex := 24, descriptorIndex := 6, attributes := #[] }, { accessFlags := 16409, nameIndex := 27, descriptorIndex := 6, attributes := #[] }, { accessFlags := 4122, nameIndex := 30, descriptorIndex := 31, attributes := #[] }])
  fields := #[{ name := "BYTES", type := (.object "com/example/bindery/bindery/codecs/airnode/ContractAbi$Kind"), accessFlags := 16409, slot := 0, constantValue := 0 }, { name := "STRING", type := (.object "com/example/bindery/bindery/codecs/airnode/ContractAbi$Kind"), accessFlags := 16409, slot := 1, constantValue := 0 }, { name := "BYTES32", type := (.object "com/example/bindery/bindery/codecs/airnode/ContractAbi$Kind"), accessFlags := 16409, slot := 2, constantValue := 0 }, { name := "TEXT32", type := (.object "com/example/bindery/bindery/codecs/airnode/ContractAbi$Kind"), accessFlags := 16409, slot := 3, constantValue := 0 }, { name := "ADDRESS", type := (.object "com/example/bindery/bindery/codecs/airnode/ContractAbi$Kind"), accessFlags := 16409, slot := 4, constantValue := 0 }, { name := "UINT256", type := (.object "com/example/bindery/bindery/codecs/airnode/ContractAbi$Kind"), accessFlags := 16409, slot := 5, constantValue := 0 }, { name := "INT256", type := (.object "com/example/bindery/bindery/codecs/airnode/ContractAbi$Kind"), accessFlags := 16409, slot := 6, constantValue := 0 }, { name := "BOOL", type := (.object "com/example/bindery/bindery/codecs/airnode/ContractAbi$Kind"), accessFlags := 16409, slot := 7, constantValue := 0 }, { name := "$VALUES", type := (.array (.object "com/example/bindery/bindery/codecs/airnode/ContractAbi$Kind")), accessFlags := 4122, slot := 8, constantValue := 0 }]
  methods := #[k6m0]
  instanceTypes := #[(.object "java/lang/String"), .int, .int]
  staticTypes := #[(.object "com/example/bindery/bindery/codecs/airnode/ContractAbi$Kind"), (.object "com/example/bindery/bindery/codecs/airnode/ContractAbi$Kind"), (.object "com/example/bindery/bindery/codecs/airnode/ContractAbi$Kind"), (.object "com/example/bindery/bindery/codecs/airnode/ContractAbi$Kind"), (.object "com/example/bindery/bindery/codecs/airnode/ContractAbi$Kind"), (.object "com/example/bindery/bindery/codecs/airnode/ContractAbi$Kind"), (.object "com/example/bindery/bindery/codecs/airnode/ContractAbi$Kind"), (.object "com/example/bindery/bindery/codecs/airnode/ContractAbi$Kind"), (.array (.object "com/example/bindery/bindery/codecs/airnode/ContractAbi$Kind"))]
  resolved := Array.replicate 79 none
  statics := some 0 }

def pool7 : Array CpInfo := pool [(1, u "java/lang/Cloneable"), (0, .class_ 1), (0, u "java/lang/Object"), (0, .class_ 3)] 3

/-- java/lang/Cloneable -/
def k7 : Class := { plain "java/lang/Cloneable" (some 0) with
  accessFlags := 1537
  interfaces := #[]
  cf := some (fileOf pool7 2 #[] #[] 1537 4 #[] #[])
  fields := #[]
  methods := #[]
  instanceTypes := #[]
  staticTypes := #[]
  resolved := Array.replicate 8 none
  statics := none }

/-- the primitive byte -/
def k8 : Class := { plain "byte" none with kind := .primitive 'B', accessFlags := 0x411 }
/-- [B -/
def k9 : Class := { plain "[B" (some 0) with kind := .array 8 .byte, interfaces := #[7, 4], accessFlags := 1041 }

/-- the primitive int -/
def k10 : Class := { plain "int" none with kind := .primitive 'I', accessFlags := 0x411 }
/-- [I -/
def k11 : Class := { plain "[I" (some 0) with kind := .array 10 .int, interfaces := #[7, 4], accessFlags := 1041 }

def heap : Heap := #[{ cls := 6, slots := #[.ref 1, .ref 3, .ref 6, .ref 2, .ref 7, .ref 8, .ref 4, .ref 5, .null], vm := .statics 6 },
  { cls := 6, slots := #[.null, .int 0, .int 0], vm := .none },
  { cls := 6, slots := #[.null, .int 3, .int 0], vm := .none },
  { cls := 6, slots := #[.null, .int 1, .int 0], vm := .none },
  { cls := 6, slots := #[.null, .int 6, .int 0], vm := .none },
  { cls := 6, slots := #[.null, .int 7, .int 0], vm := .none },
  { cls := 6, slots := #[.null, .int 2, .int 0], vm := .none },
  { cls := 6, slots := #[.null, .int 4, .int 0], vm := .none },
  { cls := 6, slots := #[.null, .int 5, .int 0], vm := .none }]
def classes : Array Class := #[k0, k1, k2, k3, k4, k5, k6, k7, k8, k9, k10, k11]
def interned : List (Array UInt16 × Addr) := []
def slotsUsed : Nat := 33
def theMethod : MethodId := ⟨1, 1⟩
def args0 : Array Value := #[.int 5]
def aboutOver (below : List Frame) : State where
  vm := { classes := classes, interned := interned.toArray }
  heap := heap
  slotsUsed := slotsUsed
  threads := #[{ frames := .invoking theMethod args0 :: below }]
def below0 : List Frame := [.native { method := ⟨0, 0⟩, args := #[] }]
def about1 : State := aboutOver below0
def p0 : Program := .bare "" "" ""
def e0 : Env := launch0.env 0 0 0
theorem w_frames : about1.frames = Frame.invoking theMethod args0 :: below0 := rfl
set_option maxRecDepth 65536 in
theorem w_args : argsFit about1.vm theMethod args0 = true := by decide +kernel
set_option maxRecDepth 65536 in
theorem w_heap : heapFits about1 = true := by decide +kernel
set_option maxRecDepth 65536 in
theorem w_runnable : about1.curStatus? = some .runnable := by decide +kernel
set_option maxRecDepth 65536 in
theorem w_alone : about1.alone = true := by decide +kernel
set_option maxRecDepth 65536 in
theorem w_named : about1.methodNamed? x = some theMethod := by decide +kernel
set_option maxRecDepth 65536 in
theorem w_hears : about1.hears theMethod below0 = true := by decide +kernel
set_option maxRecDepth 65536 in
theorem w_ripe : about1.ripe theMethod args0 below0 = true := by decide +kernel
theorem w_running : about1.status = .running := rfl
set_option maxRecDepth 65536 in
theorem w_room : about1.hasRoom e0.platform room_1 = true :=
  launch0.hasRoom_least _ room_1 (by decide +kernel) (by decide +kernel) (by decide +kernel) (by decide +kernel) (by decide +kernel) (by decide +kernel)
theorem allAtoms_all (ts : List Jvm.Cond) (a : Array Jvm.Value) (st : Jvm.State) : (allAtoms ts).before a st = ts.all (fun c => c.before a st) := by
  induction ts with
  | nil => rfl
  | cons c t ih =>
    show (Jvm.Cond.and c (allAtoms t)).before a st = _
    rw [Jvm.Cond.before_and, ih, List.all_cons]
def words1 : List Jvm.Cond := Jvm.Cond.code x code maxLocals ret :: tables_1
/-- a 'code' word, met by the world's own term for the bytes: nothing is compared byte by byte -/
theorem code_word {y : MethodName} {bytes : ByteArray} {mx : Nat} {rt : Option FieldType} {a : Array Value} {s : State} {m : MethodId} {meth : Method} {c : Code} (h1 : s.methodNamed? y = some m) (h2 : s.vm.method? m = some meth) (h3 : meth.code = some c) (h4 : c.code = bytes)
    (h5 : (c.maxLocals == mx && c.exceptionTable.isEmpty && decide (c.maxStack ≤ mostOperands) && decide (meth.sig.returnType = rt) && !meth.locks && decide (parseMethodDescriptor y.desc = some meth.sig)) = true) : (Jvm.Cond.code y bytes mx rt).before a s = true := by
  simp only [Bool.and_eq_true, beq_iff_eq, Bool.not_eq_true', decide_eq_true_eq] at h5
  obtain ⟨⟨⟨⟨⟨g1, g2⟩, g3⟩, g4⟩, g5⟩, g6⟩ := h5
  simp [Cond.before, Cond.holds, Cond.value, h1, h2, h3, h4, g1, g2, g3, g4, g5, g6]
def isCode : Jvm.Cond → Bool
  | .code _ _ _ _ => true
  | _ => false
theorem all_split {L : List Jvm.Cond} {P : Jvm.Cond → Bool} (h1 : L.all (fun c => isCode c || P c) = true) (h2 : ∀ c ∈ L.filter isCode, P c = true) : L.all P = true := by
  refine List.all_eq_true.mpr fun c hc => ?_
  have h := List.all_eq_true.mp h1 c hc
  rcases Bool.eq_false_or_eq_true (isCode c) with hi | hi
  · exact h2 c (List.mem_filter.mpr ⟨hc, hi⟩)
  · simpa [hi] using h
set_option maxRecDepth 65536 in
theorem w_c0 : (Jvm.Cond.code x code maxLocals ret).before args0 about1 = true := code_word (m := ⟨1, 1⟩) (meth := k1m1) (c := k1c1) (by decide +kernel) rfl rfl rfl (by decide +kernel)
set_option maxRecDepth 65536 in
theorem w_c1 : (Jvm.Cond.code ({ cls := "com/example/bindery/bindery/codecs/airnode/KindDynamicPinLaw", name := "pick", desc := "(I)Lcom/example/bindery/bindery/codecs/airnode/ContractAbi$Kind;" } : Jvm.MethodName) method_3_code (1 : Nat) (Option.some (Jvm.ClassFile.FieldType.object "com/example/bindery/bindery/codecs/airnode/ContractAbi$Kind"))).before args0 about1 = true := code_word (m := ⟨1, 2⟩) (meth := k1m2) (c := k1c2) (by decide +kernel) rfl rfl rfl (by decide +kernel)
set_option maxRecDepth 65536 in
theorem w_c2 : (Jvm.Cond.code ({ cls := "com/example/bindery/bindery/codecs/airnode/ContractAbi$Kind", name := "dynamic", desc := "()Z" } : Jvm.MethodName) prog_52_method_4_code (1 : Nat) (Option.some Jvm.ClassFile.FieldType.boolean)).before args0 about1 = true := code_word (m := ⟨6, 0⟩) (meth := k6m0) (c := k6c0) (by decide +kernel) rfl rfl rfl (by decide +kernel)
def codes1 : List Jvm.Cond := [Jvm.Cond.code x code maxLocals ret, Jvm.Cond.code ({ cls := "com/example/bindery/bindery/codecs/airnode/KindDynamicPinLaw", name := "pick", desc := "(I)Lcom/example/bindery/bindery/codecs/airnode/ContractAbi$Kind;" } : Jvm.MethodName) method_3_code (1 : Nat) (Option.some (Jvm.ClassFile.FieldType.object "com/example/bindery/bindery/codecs/airnode/ContractAbi$Kind")), Jvm.Cond.code ({ cls := "com/example/bindery/bindery/codecs/airnode/ContractAbi$Kind", name := "dynamic", desc := "()Z" } : Jvm.MethodName) prog_52_method_4_code (1 : Nat) (Option.some Jvm.ClassFile.FieldType.boolean)]
set_option maxRecDepth 65536 in
theorem codes_eq : words1.filter isCode = codes1 := rfl
theorem w_codes : ∀ c ∈ words1.filter isCode, c.before args0 about1 = true := by
  rw [codes_eq]
  intro c hc
  simp only [codes1, List.mem_cons, List.not_mem_nil, or_false] at hc
  rcases hc with rfl | rfl | rfl
  · exact w_c0
  · exact w_c1
  · exact w_c2
set_option maxRecDepth 65536 in
theorem w_t1 : (words1.take 24).all (fun c => isCode c || c.before args0 about1) = true := by decide +kernel
set_option maxRecDepth 65536 in
theorem w_t2 : (words1.drop 24).all (fun c => isCode c || c.before args0 about1) = true := by decide +kernel
theorem w_tables : (allAtoms (Jvm.Cond.code x code maxLocals ret :: tables_1)).before args0 about1 = true := by
  rw [allAtoms_all]
  show words1.all (fun c => c.before args0 about1) = true
  refine all_split ?_ w_codes
  rw [← List.take_append_drop 24 words1, List.all_append, w_t1, w_t2]
  rfl
set_option maxRecDepth 65536 in
theorem w_case : (Jvm.Cond.and given_1 narrow_1).before args0 about1 = true := by decide +kernel
theorem w_applies : (headSpec (Jvm.Cond.code x code maxLocals ret :: tables_1) room_1).applies x e0.platform about1 = true :=
  (Spec.applies_iff w_frames).mpr ⟨w_running, w_runnable, w_alone, w_named, w_hears, w_ripe, w_room, w_tables⟩
theorem atStart : AtStart classFile x code maxLocals ret World_1 tables_1 room_1 Calls_1 rest_1 Pre_1 launch0 p0 e0 about1 theMethod args0 below0 :=
  ⟨lists_1, trivial, launch0.admits_env _ _ _, launch0.least_env, fairChoices_fair.cas, fairChoices_fair.clock, w_frames, w_args, w_heap, w_applies, trivial, trivial, w_case⟩
end start1
theorem witness_1 : WitnessClaimed_1 := ⟨start1.p0, start1.e0, start1.about1, start1.theMethod, start1.args0, start1.below0, start1.atStart⟩
end Jvm.Pilot.@@N@@
