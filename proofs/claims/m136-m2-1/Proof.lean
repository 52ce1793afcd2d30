import JvmDerived
import JvmDerived.Pilot.@@N@@Statement
import JvmDerived.Pilot.@@N@@Code
set_option linter.unusedVariables false
set_option linter.unusedSimpArgs false
namespace Jvm.Pilot.@@N@@
open Jvm Jvm.ClassFile Sem Op Lib Jvm.Free Jvm.Stand Jvm.LawKit Jvm.RoadKit Bundle Jvm.Pilot.@@N@@.Jvm.D
theorem own_eq {args : Array Value} {first s : State} {o : Option Outcome} {idx : List Nat} {a b : Term} (h : (Jvm.Cond.eq a b).value args first o s idx = some true) : a.eval args first o idx s = b.eval args first o idx s := by
  obtain ⟨x, y, h1, h2, k1, k2⟩ := cmp_v (Or.inl h)
  rw [h1, h2]
  simp only [Jvm.Cond.value, h1, h2] at h
  cases x <;> cases y <;> simp_all
theorem own_fld {args : Array Value} {s : State} {t u : Term} {a : Addr} {C n d : String} {v : Value} (ev : t.eval args s none [] s = some (.ref a)) (eu : u.eval args s none [] s = some v) (h : (Jvm.Cond.eq (.field t C n d) u).value args s none s [] = some true) : Fld s s.heap a C n d v :=
  Fld.start ((fld_at ev).symm.trans ((own_eq h).trans eu))

theorem own_mask3 (x : Int32) : 0 ≤ (x &&& (3 : Int32)).toInt ∧ (x &&& (3 : Int32)).toInt < 4 := by
  have h1 := c_mask x (3 : Int32) 2 (by decide) (by decide)
  omega
theorem own_cases4 {z : Int32} (h0 : 0 ≤ z.toInt) (h1 : z.toInt < 4) : z = (0 : Int32) ∨ z = (1 : Int32) ∨ z = (2 : Int32) ∨ z = (3 : Int32) := by
  have h : z.toInt = 0 ∨ z.toInt = 1 ∨ z.toInt = 2 ∨ z.toInt = 3 := by omega
  rcases h with h | h | h | h
  · exact Or.inl (Int32.toInt_inj.mp (h.trans (by decide)))
  · exact Or.inr (Or.inl (Int32.toInt_inj.mp (h.trans (by decide))))
  · exact Or.inr (Or.inr (Or.inl (Int32.toInt_inj.mp (h.trans (by decide)))))
  · exact Or.inr (Or.inr (Or.inr ((Int32.toInt_inj.mp (h.trans (by decide))))))

theorem pn_com_example_bidwright_bidwright_model_DecisionKindNamesWinnerPinLaw : plainName "com/example/bidwright/bidwright/model/DecisionKindNamesWinnerPinLaw" = true := by first | (simp [plainName, overriddenIn]; done) | decide +kernel
theorem ef_rm_k (m : MethodId) (p0 : Int32) : entryFrame m #[(.int p0)] 1 = mkF m 0 #[.val (.int p0)] [] := by first | (simp [entryFrame, mkF, argsToLocals, Value.category]; done) | rfl
def Q_rm_k (Z : State) (p0 : Int32) (w_TIE w_LOT w_PURCHASING_DIRECTOR w_NO_ELIGIBLE_BID : Addr) (rr : Addr) (h0 : Heap) (n0 : Nat) (v : Option Value) (h : Heap) (L : List Loc) : Prop := v = some (.ref rr) ∧ Fr n0 L ∧ h = h0
theorem d_method_2_code_0 : decode method_2_code 0 = .ok (.iload_n 0, 1) := by decide +kernel
theorem d_method_2_code_1 : decode method_2_code 1 = .ok (.ifCond .ne 7, 3) := by decide +kernel
theorem d_method_2_code_4 : decode method_2_code 4 = .ok (.getstatic 7, 3) := by decide +kernel
theorem d_method_2_code_7 : decode method_2_code 7 = .ok (.areturn, 1) := by decide +kernel
theorem d_method_2_code_8 : decode method_2_code 8 = .ok (.iload_n 0, 1) := by decide +kernel
theorem d_method_2_code_9 : decode method_2_code 9 = .ok (.iconst 1, 1) := by decide +kernel
theorem d_method_2_code_10 : decode method_2_code 10 = .ok (.if_icmp .ne 7, 3) := by decide +kernel
theorem d_method_2_code_13 : decode method_2_code 13 = .ok (.getstatic 13, 3) := by decide +kernel
theorem d_method_2_code_16 : decode method_2_code 16 = .ok (.areturn, 1) := by decide +kernel
theorem d_method_2_code_17 : decode method_2_code 17 = .ok (.iload_n 0, 1) := by decide +kernel
theorem d_method_2_code_18 : decode method_2_code 18 = .ok (.iconst 2, 1) := by decide +kernel
theorem d_method_2_code_19 : decode method_2_code 19 = .ok (.if_icmp .ne 7, 3) := by decide +kernel
theorem d_method_2_code_22 : decode method_2_code 22 = .ok (.getstatic 16, 3) := by decide +kernel
theorem d_method_2_code_25 : decode method_2_code 25 = .ok (.areturn, 1) := by decide +kernel
theorem d_method_2_code_26 : decode method_2_code 26 = .ok (.getstatic 19, 3) := by decide +kernel
theorem d_method_2_code_29 : decode method_2_code 29 = .ok (.areturn, 1) := by decide +kernel
set_option maxRecDepth 65536 in
set_option maxHeartbeats 40000000 in
theorem rm_k (l : Launch) (Z : State) (a0 : Array Value) (hw : ∀ d ∈ tables_1, d.before a0 Z = true) (ws : List Jvm.Cond) (p0 : Int32) (w_TIE w_LOT w_PURCHASING_DIRECTOR w_NO_ELIGIBLE_BID : Addr) (rr : Addr) (h0 : Heap) (n0 : Nat) (Z0 : n0 ≤ h0.size) (S_TIE : Sta Z h0 "com/example/bidwright/bidwright/model/DecisionKind" "TIE" "Lcom/example/bidwright/bidwright/model/DecisionKind;" (.ref w_TIE)) (S_LOT : Sta Z h0 "com/example/bidwright/bidwright/model/DecisionKind" "LOT" "Lcom/example/bidwright/bidwright/model/DecisionKind;" (.ref w_LOT)) (S_PURCHASING_DIRECTOR : Sta Z h0 "com/example/bidwright/bidwright/model/DecisionKind" "PURCHASING_DIRECTOR" "Lcom/example/bidwright/bidwright/model/DecisionKind;" (.ref w_PURCHASING_DIRECTOR)) (S_NO_ELIGIBLE_BID : Sta Z h0 "com/example/bidwright/bidwright/model/DecisionKind" "NO_ELIGIBLE_BID" "Lcom/example/bidwright/bidwright/model/DecisionKind;" (.ref w_NO_ELIGIBLE_BID)) (hres : (if p0 = (0 : Int32) then w_TIE else (if p0 = (1 : Int32) then w_LOT else (if p0 = (2 : Int32) then w_PURCHASING_DIRECTOR else w_NO_ELIGIBLE_BID))) = rr) :
    MetFree l (⟨"com/example/bidwright/bidwright/model/DecisionKindNamesWinnerPinLaw", "pick", "(I)Lcom/example/bidwright/bidwright/model/DecisionKind;"⟩ : MethodName) (head1 (Jvm.Cond.code (⟨"com/example/bidwright/bidwright/model/DecisionKindNamesWinnerPinLaw", "pick", "(I)Lcom/example/bidwright/bidwright/model/DecisionKind;"⟩ : MethodName) method_2_code 1 (some (.object "com/example/bidwright/bidwright/model/DecisionKind")) :: ws) ({ frames := 0, cells := 0, slots := 0, locals := 0 } : Room)) (fun a U => a = #[(.int p0)] ∧ Z.Warmed39 U.vm ∧ U.heap = h0) (fun _ _ _ _ _ => True) (fun _ U o U' => ∃ v L, o = .returned v ∧ Q_rm_k Z p0 w_TIE w_LOT w_PURCHASING_DIRECTOR w_NO_ELIGIBLE_BID rr h0 n0 v U'.heap L ∧ FrameEnd U o U' L ({ frames := 0, cells := 0, slots := 0, locals := 0 } : Room).cells ({ frames := 0, cells := 0, slots := 0, locals := 0 } : Room).slots) := by
  refine MetFree.of_bodySF (plainFor_of_name pn_com_example_bidwright_bidwright_model_DecisionKindNamesWinnerPinLaw) hisR ?_
  intro p e s m args below meth c s₁ Bd hml0 hP hK
  obtain ⟨rfl, hZ, hh⟩ := hP
  have hx := Bd.exec
  have hby := Bd.bytes
  have hml : c.maxLocals = 1 := hml0
  have hown : s.vm.findClass "com/example/bidwright/bidwright/model/DecisionKindNamesWinnerPinLaw" = some m.cls := findClass_of_methodNamed Bd.named
  have hnm := (name_of_methodNamed Bd.named Bd.method).1
  have X0 : Stand p l e ({ frames := 0, cells := 0, slots := 0, locals := 0 } : Room) s m #[(.int p0)] below meth c s₁ [] 0 0 := Stand.of_body Bd
  have e0 : s₁.heap = h0 := by rw [← hh, Bd.state]; rfl
  have N0 := Fr.nil n0
  have pre0 : ∀ t, Steps p.tables e below (s₁.setTop (mkF m 0 #[.val (.int p0)] [])) t → Steps p.tables e below (s₁.setTop (entryFrame m #[(.int p0)] 1)) t := fun t k => castTop (ef_rm_k m p0) k
  have pre2 : ∀ t, Steps p.tables e below (s₁.setTop (mkF m 1 #[.val (.int p0)] [(.int p0)])) t → Steps p.tables e below (s₁.setTop (entryFrame m #[(.int p0)] 1)) t := by
    intro t kt
    refine pre0 t ?_
    show Steps p.tables e below (s₁.setTop (mkF m 0 #[.val (.int p0)] [])) _
    refine XS.iloadN X0.here hx rfl (hb hby d_method_2_code_0) rfl ?_
    exact kt
  by_cases hc1_1 : p0 = (0 : Int32)
  · obtain ⟨T3, X3, e3, st3⟩ := getS2 X0 hx hZ hown (host := "") (Or.inl (hw _ (List.mem_of_getElem? (i := 4) rfl))) Via.refl e0 S_TIE (g := (mkF m 4 #[.val (.int p0)] [])) rfl (hb hby d_method_2_code_4)
    have pre4 : ∀ t, Steps p.tables e below (T3.setTop (mkF m 7 #[.val (.int p0)] [(.ref w_TIE)])) t → Steps p.tables e below (s₁.setTop (entryFrame m #[(.int p0)] 1)) t := by
      intro t kt
      refine pre2 t ?_
      show Steps p.tables e below (s₁.setTop (mkF m 1 #[.val (.int p0)] [(.int p0)])) _
      refine XS.ifNo X0.here hx rfl (hb hby d_method_2_code_1) rfl ((if0 _ _).trans (teq hc1_1).2) ?_
      show Steps p.tables e below (s₁.setTop (mkF m 4 #[.val (.int p0)] [])) _
      refine st3 _ ?_
      exact kt
    obtain ⟨fs, hr, hrun, hended, hW, hsame⟩ := X3.leave (v := some (.ref w_TIE)) (fun h => by rw [Bd.returns] at h; cases h)
    refine ⟨_, _, pre4 _ ?_, hrun, hended, _, _, rfl, ?_, ⟨_, rfl⟩, hW, hsame.mono (by decide) (by decide)⟩
    · show Steps p.tables e below (T3.setTop (mkF m 7 #[.val (.int p0)] [(.ref w_TIE)])) _
      jvm_step X3.here [X3.here.top, hx, (hb hby d_method_2_code_7), X3.method', Bd.returns, Value.isRef, FieldType.isReference]
      first | (intro acts; rw [hr _ acts rfl rfl rfl]) | rw [hr _ _ rfl rfl rfl]
      exact Steps.refl _
    · show Q_rm_k Z p0 w_TIE w_LOT w_PURCHASING_DIRECTOR w_NO_ELIGIBLE_BID rr h0 n0 _ T3.heap _
      rw [e3]
      exact ⟨by rw [← hres]; simp +decide [hc1_1], N0, rfl⟩
  · have pre6 : ∀ t, Steps p.tables e below (s₁.setTop (mkF m 10 #[.val (.int p0)] [(.int (1 : Int32)), (.int p0)])) t → Steps p.tables e below (s₁.setTop (entryFrame m #[(.int p0)] 1)) t := by
      intro t kt
      refine pre2 t ?_
      show Steps p.tables e below (s₁.setTop (mkF m 1 #[.val (.int p0)] [(.int p0)])) _
      refine XS.ifYes X0.here hx rfl (pc0 := 1) (pc' := 8) rfl (hb hby d_method_2_code_1) rfl ((if0 _ _).trans (feq hc1_1).2) (by decide) (by decide) ?_
      show Steps p.tables e below (s₁.setTop (mkF m 8 #[.val (.int p0)] [])) _
      refine XS.iloadN X0.here hx rfl (hb hby d_method_2_code_8) rfl ?_
      show Steps p.tables e below (s₁.setTop (mkF m 9 #[.val (.int p0)] [(.int p0)])) _
      refine XS.iconst X0.here hx rfl (hb hby d_method_2_code_9) ?_
      exact kt
    by_cases hc10_5 : p0 = (1 : Int32)
    · obtain ⟨T7, X7, e7, st7⟩ := getS2 X0 hx hZ hown (host := "") (Or.inl (hw _ (List.mem_of_getElem? (i := 17) rfl))) Via.refl e0 S_LOT (g := (mkF m 13 #[.val (.int p0)] [])) rfl (hb hby d_method_2_code_13)
      have pre8 : ∀ t, Steps p.tables e below (T7.setTop (mkF m 16 #[.val (.int p0)] [(.ref w_LOT)])) t → Steps p.tables e below (s₁.setTop (entryFrame m #[(.int p0)] 1)) t := by
        intro t kt
        refine pre6 t ?_
        show Steps p.tables e below (s₁.setTop (mkF m 10 #[.val (.int p0)] [(.int (1 : Int32)), (.int p0)])) _
        refine XS.icmpNo X0.here hx rfl (hb hby d_method_2_code_10) rfl (teq hc10_5).2 ?_
        show Steps p.tables e below (s₁.setTop (mkF m 13 #[.val (.int p0)] [])) _
        refine st7 _ ?_
        exact kt
      obtain ⟨fs, hr, hrun, hended, hW, hsame⟩ := X7.leave (v := some (.ref w_LOT)) (fun h => by rw [Bd.returns] at h; cases h)
      refine ⟨_, _, pre8 _ ?_, hrun, hended, _, _, rfl, ?_, ⟨_, rfl⟩, hW, hsame.mono (by decide) (by decide)⟩
      · show Steps p.tables e below (T7.setTop (mkF m 16 #[.val (.int p0)] [(.ref w_LOT)])) _
        jvm_step X7.here [X7.here.top, hx, (hb hby d_method_2_code_16), X7.method', Bd.returns, Value.isRef, FieldType.isReference]
        first | (intro acts; rw [hr _ acts rfl rfl rfl]) | rw [hr _ _ rfl rfl rfl]
        exact Steps.refl _
      · show Q_rm_k Z p0 w_TIE w_LOT w_PURCHASING_DIRECTOR w_NO_ELIGIBLE_BID rr h0 n0 _ T7.heap _
        rw [e7]
        exact ⟨by rw [← hres]; simp +decide [hc1_1, hc10_5], N0, rfl⟩
    · have pre10 : ∀ t, Steps p.tables e below (s₁.setTop (mkF m 19 #[.val (.int p0)] [(.int (2 : Int32)), (.int p0)])) t → Steps p.tables e below (s₁.setTop (entryFrame m #[(.int p0)] 1)) t := by
        intro t kt
        refine pre6 t ?_
        show Steps p.tables e below (s₁.setTop (mkF m 10 #[.val (.int p0)] [(.int (1 : Int32)), (.int p0)])) _
        refine XS.icmpYes X0.here hx rfl (pc0 := 10) (pc' := 17) rfl (hb hby d_method_2_code_10) rfl (feq hc10_5).2 (by decide) (by decide) ?_
        show Steps p.tables e below (s₁.setTop (mkF m 17 #[.val (.int p0)] [])) _
        refine XS.iloadN X0.here hx rfl (hb hby d_method_2_code_17) rfl ?_
        show Steps p.tables e below (s₁.setTop (mkF m 18 #[.val (.int p0)] [(.int p0)])) _
        refine XS.iconst X0.here hx rfl (hb hby d_method_2_code_18) ?_
        exact kt
      by_cases hc19_9 : p0 = (2 : Int32)
      · obtain ⟨T11, X11, e11, st11⟩ := getS2 X0 hx hZ hown (host := "") (Or.inl (hw _ (List.mem_of_getElem? (i := 15) rfl))) Via.refl e0 S_PURCHASING_DIRECTOR (g := (mkF m 22 #[.val (.int p0)] [])) rfl (hb hby d_method_2_code_22)
        have pre12 : ∀ t, Steps p.tables e below (T11.setTop (mkF m 25 #[.val (.int p0)] [(.ref w_PURCHASING_DIRECTOR)])) t → Steps p.tables e below (s₁.setTop (entryFrame m #[(.int p0)] 1)) t := by
          intro t kt
          refine pre10 t ?_
          show Steps p.tables e below (s₁.setTop (mkF m 19 #[.val (.int p0)] [(.int (2 : Int32)), (.int p0)])) _
          refine XS.icmpNo X0.here hx rfl (hb hby d_method_2_code_19) rfl (teq hc19_9).2 ?_
          show Steps p.tables e below (s₁.setTop (mkF m 22 #[.val (.int p0)] [])) _
          refine st11 _ ?_
          exact kt
        obtain ⟨fs, hr, hrun, hended, hW, hsame⟩ := X11.leave (v := some (.ref w_PURCHASING_DIRECTOR)) (fun h => by rw [Bd.returns] at h; cases h)
        refine ⟨_, _, pre12 _ ?_, hrun, hended, _, _, rfl, ?_, ⟨_, rfl⟩, hW, hsame.mono (by decide) (by decide)⟩
        · show Steps p.tables e below (T11.setTop (mkF m 25 #[.val (.int p0)] [(.ref w_PURCHASING_DIRECTOR)])) _
          jvm_step X11.here [X11.here.top, hx, (hb hby d_method_2_code_25), X11.method', Bd.returns, Value.isRef, FieldType.isReference]
          first | (intro acts; rw [hr _ acts rfl rfl rfl]) | rw [hr _ _ rfl rfl rfl]
          exact Steps.refl _
        · show Q_rm_k Z p0 w_TIE w_LOT w_PURCHASING_DIRECTOR w_NO_ELIGIBLE_BID rr h0 n0 _ T11.heap _
          rw [e11]
          exact ⟨by rw [← hres]; simp +decide [hc1_1, hc10_5, hc19_9], N0, rfl⟩
      · obtain ⟨T13, X13, e13, st13⟩ := getS2 X0 hx hZ hown (host := "") (Or.inl (hw _ (List.mem_of_getElem? (i := 14) rfl))) Via.refl e0 S_NO_ELIGIBLE_BID (g := (mkF m 26 #[.val (.int p0)] [])) rfl (hb hby d_method_2_code_26)
        have pre14 : ∀ t, Steps p.tables e below (T13.setTop (mkF m 29 #[.val (.int p0)] [(.ref w_NO_ELIGIBLE_BID)])) t → Steps p.tables e below (s₁.setTop (entryFrame m #[(.int p0)] 1)) t := by
          intro t kt
          refine pre10 t ?_
          show Steps p.tables e below (s₁.setTop (mkF m 19 #[.val (.int p0)] [(.int (2 : Int32)), (.int p0)])) _
          refine XS.icmpYes X0.here hx rfl (pc0 := 19) (pc' := 26) rfl (hb hby d_method_2_code_19) rfl (feq hc19_9).2 (by decide) (by decide) ?_
          show Steps p.tables e below (s₁.setTop (mkF m 26 #[.val (.int p0)] [])) _
          refine st13 _ ?_
          exact kt
        obtain ⟨fs, hr, hrun, hended, hW, hsame⟩ := X13.leave (v := some (.ref w_NO_ELIGIBLE_BID)) (fun h => by rw [Bd.returns] at h; cases h)
        refine ⟨_, _, pre14 _ ?_, hrun, hended, _, _, rfl, ?_, ⟨_, rfl⟩, hW, hsame.mono (by decide) (by decide)⟩
        · show Steps p.tables e below (T13.setTop (mkF m 29 #[.val (.int p0)] [(.ref w_NO_ELIGIBLE_BID)])) _
          jvm_step X13.here [X13.here.top, hx, (hb hby d_method_2_code_29), X13.method', Bd.returns, Value.isRef, FieldType.isReference]
          first | (intro acts; rw [hr _ acts rfl rfl rfl]) | rw [hr _ _ rfl rfl rfl]
          exact Steps.refl _
        · show Q_rm_k Z p0 w_TIE w_LOT w_PURCHASING_DIRECTOR w_NO_ELIGIBLE_BID rr h0 n0 _ T13.heap _
          rw [e13]
          exact ⟨by rw [← hres]; simp +decide [hc1_1, hc10_5, hc19_9], N0, rfl⟩
theorem pn_com_example_bidwright_bidwright_model_DecisionKind : plainName "com/example/bidwright/bidwright/model/DecisionKind" = true := by first | (simp [plainName, overriddenIn]; done) | decide +kernel
theorem ef_rm_p (m : MethodId) (o0 : Addr) : entryFrame m #[(.ref o0)] 1 = mkF m 0 #[.val (.ref o0)] [] := by first | (simp [entryFrame, mkF, argsToLocals, Value.category]; done) | rfl
def Q_rm_p (Z : State) (o0 : Addr) (w_NO_ELIGIBLE_BID : Addr) (r : Int32) (h0 : Heap) (n0 : Nat) (v : Option Value) (h : Heap) (L : List Loc) : Prop := v = some (.int r) ∧ Fr n0 L ∧ h = h0
theorem d_prog_75_method_6_code_0 : decode prog_75_method_6_code 0 = .ok (.aload_n 0, 1) := by decide +kernel
theorem d_prog_75_method_6_code_1 : decode prog_75_method_6_code 1 = .ok (.getstatic 13, 3) := by decide +kernel
theorem d_prog_75_method_6_code_4 : decode prog_75_method_6_code 4 = .ok (.if_acmp .eq 7, 3) := by decide +kernel
theorem d_prog_75_method_6_code_11 : decode prog_75_method_6_code 11 = .ok (.iconst 0, 1) := by decide +kernel
theorem d_prog_75_method_6_code_12 : decode prog_75_method_6_code 12 = .ok (.ireturn, 1) := by decide +kernel
theorem d_prog_75_method_6_code_7 : decode prog_75_method_6_code 7 = .ok (.iconst 1, 1) := by decide +kernel
theorem d_prog_75_method_6_code_8 : decode prog_75_method_6_code 8 = .ok (.goto 4, 3) := by decide +kernel
set_option maxRecDepth 65536 in
set_option maxHeartbeats 40000000 in
theorem rm_p (l : Launch) (Z : State) (a0 : Array Value) (hw : ∀ d ∈ tables_1, d.before a0 Z = true) (ws : List Jvm.Cond) (o0 : Addr) (w_NO_ELIGIBLE_BID : Addr) (r : Int32) (h0 : Heap) (n0 : Nat) (Z0 : n0 ≤ h0.size) (S_NO_ELIGIBLE_BID : Sta Z h0 "com/example/bidwright/bidwright/model/DecisionKind" "NO_ELIGIBLE_BID" "Lcom/example/bidwright/bidwright/model/DecisionKind;" (.ref w_NO_ELIGIBLE_BID)) (hres : (if o0 = w_NO_ELIGIBLE_BID then (0 : Int32) else (1 : Int32)) = r) :
    MetFree l (⟨"com/example/bidwright/bidwright/model/DecisionKind", "namesWinner", "()Z"⟩ : MethodName) (head1 (Jvm.Cond.code (⟨"com/example/bidwright/bidwright/model/DecisionKind", "namesWinner", "()Z"⟩ : MethodName) prog_75_method_6_code 1 (some .boolean) :: ws) ({ frames := 0, cells := 0, slots := 0, locals := 0 } : Room)) (fun a U => a = #[(.ref o0)] ∧ Z.Warmed39 U.vm ∧ U.heap = h0) (fun _ _ _ _ _ => True) (fun _ U o U' => ∃ v L, o = .returned v ∧ Q_rm_p Z o0 w_NO_ELIGIBLE_BID r h0 n0 v U'.heap L ∧ FrameEnd U o U' L ({ frames := 0, cells := 0, slots := 0, locals := 0 } : Room).cells ({ frames := 0, cells := 0, slots := 0, locals := 0 } : Room).slots) := by
  refine MetFree.of_bodySF (plainFor_of_name pn_com_example_bidwright_bidwright_model_DecisionKind) hisR ?_
  intro p e s m args below meth c s₁ Bd hml0 hP hK
  obtain ⟨rfl, hZ, hh⟩ := hP
  have hx := Bd.exec
  have hby := Bd.bytes
  have hml : c.maxLocals = 1 := hml0
  have hown : s.vm.findClass "com/example/bidwright/bidwright/model/DecisionKind" = some m.cls := findClass_of_methodNamed Bd.named
  have hnm := (name_of_methodNamed Bd.named Bd.method).1
  have X0 : Stand p l e ({ frames := 0, cells := 0, slots := 0, locals := 0 } : Room) s m #[(.ref o0)] below meth c s₁ [] 0 0 := Stand.of_body Bd
  have e0 : s₁.heap = h0 := by rw [← hh, Bd.state]; rfl
  have N0 := Fr.nil n0
  have pre0 : ∀ t, Steps p.tables e below (s₁.setTop (mkF m 0 #[.val (.ref o0)] [])) t → Steps p.tables e below (s₁.setTop (entryFrame m #[(.ref o0)] 1)) t := fun t k => castTop (ef_rm_p m o0) k
  obtain ⟨T15, X15, e15, st15⟩ := getS2 X0 hx hZ hown (host := "") (Or.inl (hw _ (List.mem_of_getElem? (i := 12) rfl))) Via.refl e0 S_NO_ELIGIBLE_BID (g := (mkF m 1 #[.val (.ref o0)] [(.ref o0)])) rfl (hb hby d_prog_75_method_6_code_1)
  have pre16 : ∀ t, Steps p.tables e below (T15.setTop (mkF m 4 #[.val (.ref o0)] [(.ref w_NO_ELIGIBLE_BID), (.ref o0)])) t → Steps p.tables e below (s₁.setTop (entryFrame m #[(.ref o0)] 1)) t := by
    intro t kt
    refine pre0 t ?_
    show Steps p.tables e below (s₁.setTop (mkF m 0 #[.val (.ref o0)] [])) _
    refine XS.aloadN X0.here hx rfl (hb hby d_prog_75_method_6_code_0) rfl rfl ?_
    show Steps p.tables e below (s₁.setTop (mkF m 1 #[.val (.ref o0)] [(.ref o0)])) _
    refine st15 _ ?_
    exact kt
  by_cases ha4_17 : o0 = w_NO_ELIGIBLE_BID
  · have pre18 : ∀ t, Steps p.tables e below (T15.setTop (mkF m 12 #[.val (.ref o0)] [(.int (0 : Int32))])) t → Steps p.tables e below (s₁.setTop (entryFrame m #[(.ref o0)] 1)) t := by
      intro t kt
      refine pre16 t ?_
      show Steps p.tables e below (T15.setTop (mkF m 4 #[.val (.ref o0)] [(.ref w_NO_ELIGIBLE_BID), (.ref o0)])) _
      refine Jvm.RoadKit.acmp (g := (mkF m 4 #[.val (.ref o0)] [(.ref w_NO_ELIGIBLE_BID), (.ref o0)])) X15 hx rfl rfl rfl (pc0 := 4) (pc' := 11) (same := true) rfl (hb hby d_prog_75_method_6_code_4) rfl (decide_eq_true (congrArg Value.ref ha4_17)) (by decide) (by decide) ?_
      show Steps p.tables e below (T15.setTop (mkF m 11 #[.val (.ref o0)] [])) _
      refine XS.iconst X15.here hx rfl (hb hby d_prog_75_method_6_code_11) ?_
      exact kt
    obtain ⟨fs, hr, hrun, hended, hW, hsame⟩ := X15.leave (v := some (.int (0 : Int32))) (fun h => by rw [Bd.returns] at h; cases h)
    refine ⟨_, _, pre18 _ ?_, hrun, hended, _, _, rfl, ?_, ⟨_, rfl⟩, hW, hsame.mono (by decide) (by decide)⟩
    · show Steps p.tables e below (T15.setTop (mkF m 12 #[.val (.ref o0)] [(.int (0 : Int32))])) _
      exact retN X15 hx (t := .boolean) Bd.returns (by simp) (hb hby d_prog_75_method_6_code_12) hr
    · show Q_rm_p Z o0 w_NO_ELIGIBLE_BID r h0 n0 _ T15.heap _
      rw [e15]
      exact ⟨by rw [← hres]; simp [ha4_17], N0, rfl⟩
  · have pre19 : ∀ t, Steps p.tables e below (T15.setTop (mkF m 12 #[.val (.ref o0)] [(.int (1 : Int32))])) t → Steps p.tables e below (s₁.setTop (entryFrame m #[(.ref o0)] 1)) t := by
      intro t kt
      refine pre16 t ?_
      show Steps p.tables e below (T15.setTop (mkF m 4 #[.val (.ref o0)] [(.ref w_NO_ELIGIBLE_BID), (.ref o0)])) _
      refine Jvm.RoadKit.acmp (g := (mkF m 4 #[.val (.ref o0)] [(.ref w_NO_ELIGIBLE_BID), (.ref o0)])) X15 hx rfl rfl rfl (pc0 := 4) (pc' := 7) (same := false) rfl (hb hby d_prog_75_method_6_code_4) rfl (decide_eq_false fun q => ha4_17 (Value.ref.inj q)) (by decide) (by decide) ?_
      show Steps p.tables e below (T15.setTop (mkF m 7 #[.val (.ref o0)] [])) _
      refine XS.iconst X15.here hx rfl (hb hby d_prog_75_method_6_code_7) ?_
      show Steps p.tables e below (T15.setTop (mkF m 8 #[.val (.ref o0)] [(.int (1 : Int32))])) _
      refine XS.goto X15.here hx rfl (pc0 := 8) (pc' := 12) rfl (hb hby d_prog_75_method_6_code_8) (by decide) (by decide) ?_
      exact kt
    obtain ⟨fs, hr, hrun, hended, hW, hsame⟩ := X15.leave (v := some (.int (1 : Int32))) (fun h => by rw [Bd.returns] at h; cases h)
    refine ⟨_, _, pre19 _ ?_, hrun, hended, _, _, rfl, ?_, ⟨_, rfl⟩, hW, hsame.mono (by decide) (by decide)⟩
    · show Steps p.tables e below (T15.setTop (mkF m 12 #[.val (.ref o0)] [(.int (1 : Int32))])) _
      exact retN X15 hx (t := .boolean) Bd.returns (by simp) (hb hby d_prog_75_method_6_code_12) hr
    · show Q_rm_p Z o0 w_NO_ELIGIBLE_BID r h0 n0 _ T15.heap _
      rw [e15]
      exact ⟨by rw [← hres]; simp [ha4_17], N0, rfl⟩
theorem ef_rm0 (m : MethodId) (p0 : Int32) : entryFrame m #[(.int p0)] maxLocals = mkF m 0 #[.val (.int p0), .unset, .unset, .unset] [] := by first | (simp [entryFrame, mkF, argsToLocals, Value.category, maxLocals]; done) | rfl
def Q_rm0 (Z : State) (p0 : Int32) (w_TIE w_NO_ELIGIBLE_BID w_PURCHASING_DIRECTOR w_LOT : Addr)  (h0 : Heap) (n0 : Nat) (v : Option Value) (h : Heap) (L : List Loc) : Prop := v = some (.int 1) ∧ Fr n0 L
theorem pd__I_Lcom_example_bidwright_bidwright_model_DecisionKind_ : parseMethodDescriptor "(I)Lcom/example/bidwright/bidwright/model/DecisionKind;" = some ⟨[.int], some (.object "com/example/bidwright/bidwright/model/DecisionKind")⟩ := by decide +kernel
theorem pd___Z : parseMethodDescriptor "()Z" = some ⟨[], some .boolean⟩ := by decide +kernel
set_option maxRecDepth 65536 in
set_option maxHeartbeats 40000000 in
theorem rm0 (l : Launch) (Z : State) (a0 : Array Value) (hw : ∀ d ∈ tables_1, d.before a0 Z = true) (ws : List Jvm.Cond) (p0 : Int32) (w_TIE w_NO_ELIGIBLE_BID w_PURCHASING_DIRECTOR w_LOT : Addr)  (h0 : Heap) (n0 : Nat) (Z0 : n0 ≤ h0.size) (S_TIE : Sta Z h0 "com/example/bidwright/bidwright/model/DecisionKind" "TIE" "Lcom/example/bidwright/bidwright/model/DecisionKind;" (.ref w_TIE)) (E_TIE : Exa Z h0 w_TIE "com/example/bidwright/bidwright/model/DecisionKind") (S_NO_ELIGIBLE_BID : Sta Z h0 "com/example/bidwright/bidwright/model/DecisionKind" "NO_ELIGIBLE_BID" "Lcom/example/bidwright/bidwright/model/DecisionKind;" (.ref w_NO_ELIGIBLE_BID)) (E_NO_ELIGIBLE_BID : Exa Z h0 w_NO_ELIGIBLE_BID "com/example/bidwright/bidwright/model/DecisionKind") (S_PURCHASING_DIRECTOR : Sta Z h0 "com/example/bidwright/bidwright/model/DecisionKind" "PURCHASING_DIRECTOR" "Lcom/example/bidwright/bidwright/model/DecisionKind;" (.ref w_PURCHASING_DIRECTOR)) (E_PURCHASING_DIRECTOR : Exa Z h0 w_PURCHASING_DIRECTOR "com/example/bidwright/bidwright/model/DecisionKind") (S_LOT : Sta Z h0 "com/example/bidwright/bidwright/model/DecisionKind" "LOT" "Lcom/example/bidwright/bidwright/model/DecisionKind;" (.ref w_LOT)) (E_LOT : Exa Z h0 w_LOT "com/example/bidwright/bidwright/model/DecisionKind") (F_ordinal_TIE : Fld Z h0 w_TIE "java/lang/Enum" "ordinal" "I" (.int (0 : Int32))) (F_ordinal_NO_ELIGIBLE_BID : Fld Z h0 w_NO_ELIGIBLE_BID "java/lang/Enum" "ordinal" "I" (.int (3 : Int32))) (F_ordinal_PURCHASING_DIRECTOR : Fld Z h0 w_PURCHASING_DIRECTOR "java/lang/Enum" "ordinal" "I" (.int (2 : Int32))) (F_ordinal_LOT : Fld Z h0 w_LOT "java/lang/Enum" "ordinal" "I" (.int (1 : Int32))) :
    MetFree l x (head1 (Jvm.Cond.code x code maxLocals ret :: ws) room_1) (fun a U => a = #[(.int p0)] ∧ Z.Warmed39 U.vm ∧ U.heap = h0) (fun _ _ _ _ _ => True) (fun _ U o U' => ∃ v L, o = .returned v ∧ Q_rm0 Z p0 w_TIE w_NO_ELIGIBLE_BID w_PURCHASING_DIRECTOR w_LOT h0 n0 v U'.heap L ∧ FrameEnd U o U' L room_1.cells room_1.slots) := by
  refine MetFree.of_bodySF (plainFor_of_name pn_com_example_bidwright_bidwright_model_DecisionKindNamesWinnerPinLaw) hisR ?_
  intro p e s m args below meth c s₁ Bd hml0 hP hK
  obtain ⟨rfl, hZ, hh⟩ := hP
  have hx := Bd.exec
  have hby := Bd.bytes
  have hml : c.maxLocals = 4 := hml0
  have hown : s.vm.findClass "com/example/bidwright/bidwright/model/DecisionKindNamesWinnerPinLaw" = some m.cls := findClass_of_methodNamed Bd.named
  have hnm := (name_of_methodNamed Bd.named Bd.method).1
  have X0 : Stand p l e room_1 s m #[(.int p0)] below meth c s₁ [] 0 0 := Stand.of_body Bd
  have e0 : s₁.heap = h0 := by rw [← hh, Bd.state]; rfl
  have N0 := Fr.nil n0
  have pre0 : ∀ t, Steps p.tables e below (s₁.setTop (mkF m 0 #[.val (.int p0), .unset, .unset, .unset] [])) t → Steps p.tables e below (s₁.setTop (entryFrame m #[(.int p0)] maxLocals)) t := fun t k => castTop (ef_rm0 m p0) k
  have ne_TIE_NO_ELIGIBLE_BID : w_TIE ≠ w_NO_ELIGIBLE_BID := Fld.ne F_ordinal_TIE F_ordinal_NO_ELIGIBLE_BID (fun q => absurd (Value.int.inj q) (by decide))
  have ne_TIE_PURCHASING_DIRECTOR : w_TIE ≠ w_PURCHASING_DIRECTOR := Fld.ne F_ordinal_TIE F_ordinal_PURCHASING_DIRECTOR (fun q => absurd (Value.int.inj q) (by decide))
  have ne_TIE_LOT : w_TIE ≠ w_LOT := Fld.ne F_ordinal_TIE F_ordinal_LOT (fun q => absurd (Value.int.inj q) (by decide))
  have ne_NO_ELIGIBLE_BID_TIE : w_NO_ELIGIBLE_BID ≠ w_TIE := Fld.ne F_ordinal_NO_ELIGIBLE_BID F_ordinal_TIE (fun q => absurd (Value.int.inj q) (by decide))
  have ne_NO_ELIGIBLE_BID_PURCHASING_DIRECTOR : w_NO_ELIGIBLE_BID ≠ w_PURCHASING_DIRECTOR := Fld.ne F_ordinal_NO_ELIGIBLE_BID F_ordinal_PURCHASING_DIRECTOR (fun q => absurd (Value.int.inj q) (by decide))
  have ne_NO_ELIGIBLE_BID_LOT : w_NO_ELIGIBLE_BID ≠ w_LOT := Fld.ne F_ordinal_NO_ELIGIBLE_BID F_ordinal_LOT (fun q => absurd (Value.int.inj q) (by decide))
  have ne_PURCHASING_DIRECTOR_TIE : w_PURCHASING_DIRECTOR ≠ w_TIE := Fld.ne F_ordinal_PURCHASING_DIRECTOR F_ordinal_TIE (fun q => absurd (Value.int.inj q) (by decide))
  have ne_PURCHASING_DIRECTOR_NO_ELIGIBLE_BID : w_PURCHASING_DIRECTOR ≠ w_NO_ELIGIBLE_BID := Fld.ne F_ordinal_PURCHASING_DIRECTOR F_ordinal_NO_ELIGIBLE_BID (fun q => absurd (Value.int.inj q) (by decide))
  have ne_PURCHASING_DIRECTOR_LOT : w_PURCHASING_DIRECTOR ≠ w_LOT := Fld.ne F_ordinal_PURCHASING_DIRECTOR F_ordinal_LOT (fun q => absurd (Value.int.inj q) (by decide))
  have ne_LOT_TIE : w_LOT ≠ w_TIE := Fld.ne F_ordinal_LOT F_ordinal_TIE (fun q => absurd (Value.int.inj q) (by decide))
  have ne_LOT_NO_ELIGIBLE_BID : w_LOT ≠ w_NO_ELIGIBLE_BID := Fld.ne F_ordinal_LOT F_ordinal_NO_ELIGIBLE_BID (fun q => absurd (Value.int.inj q) (by decide))
  have ne_LOT_PURCHASING_DIRECTOR : w_LOT ≠ w_PURCHASING_DIRECTOR := Fld.ne F_ordinal_LOT F_ordinal_PURCHASING_DIRECTOR (fun q => absurd (Value.int.inj q) (by decide))
  have pre20 : ∀ t, Steps p.tables e below (s₁.setTop (mkF m 4 #[.val (.int p0), .val (.int (p0 &&& (3 : Int32))), .unset, .unset] [])) t → Steps p.tables e below (s₁.setTop (entryFrame m #[(.int p0)] maxLocals)) t := by
    intro t kt
    refine pre0 t ?_
    show Steps p.tables e below (s₁.setTop (mkF m 0 #[.val (.int p0), .unset, .unset, .unset] [])) _
    refine XS.iloadN X0.here hx rfl (hb hby at_0) rfl ?_
    show Steps p.tables e below (s₁.setTop (mkF m 1 #[.val (.int p0), .unset, .unset, .unset] [(.int p0)])) _
    refine XS.iconst X0.here hx rfl (hb hby at_1) ?_
    show Steps p.tables e below (s₁.setTop (mkF m 2 #[.val (.int p0), .unset, .unset, .unset] [(.int (3 : Int32)), (.int p0)])) _
    refine XS.iand X0.here hx rfl (hb hby at_2) rfl ?_
    show Steps p.tables e below (s₁.setTop (mkF m 3 #[.val (.int p0), .unset, .unset, .unset] [(.int (p0 &&& (3 : Int32)))])) _
    refine XS.istoreN X0.here hx rfl (hb hby at_3) rfl (l' := #[.val (.int p0), .val (.int (p0 &&& (3 : Int32))), .unset, .unset]) rfl ?_
    exact kt
  rcases own_cases4 (own_mask3 p0).1 (own_mask3 p0).2 with hk | hk | hk | hk
  · rw [hk] at pre20
    obtain ⟨_, _, ⟨T21, L21, k21, n21⟩, -, X21, ⟨Lc21, hQ21, l21, y21, z21⟩, st21⟩ := Jvm.LawKit.callS X0 hx (y := (⟨"com/example/bidwright/bidwright/model/DecisionKindNamesWinnerPinLaw", "pick", "(I)Lcom/example/bidwright/bidwright/model/DecisionKind;"⟩ : MethodName)) hown (mvT hZ (hw _ (List.mem_of_getElem? (i := 0) rfl))) (mvT hZ (hw _ (List.mem_of_getElem? (i := 1) rfl))) (mvT hZ (hw _ (List.mem_of_getElem? (i := 2) rfl))) (mvT hZ (hw _ (List.mem_of_getElem? (i := 3) rfl))) (by decide) (backOf (W := 0) (rm_k l Z a0 hw [] (0 : Int32) w_TIE w_LOT w_PURCHASING_DIRECTOR w_NO_ELIGIBLE_BID w_TIE h0 n0 Z0 S_TIE S_LOT S_PURCHASING_DIRECTOR S_NO_ELIGIBLE_BID (by simp +decide)) hZ (hw _ (List.mem_of_getElem? (i := 3) rfl)) (hw _ (List.mem_of_getElem? (i := 2) rfl)) (by decide) (by decide)) (g := (mkF m 5 #[.val (.int p0), .val (.int (0 : Int32)), .unset, .unset] [(.int (0 : Int32))])) rfl (by rw [hml]; rfl) (argsL := [(.int (0 : Int32))]) (rest := []) (lenOf pd__I_Lcom_example_bidwright_bidwright_model_DecisionKind_ rfl) rfl (by show 2 * 0 + _ ≤ _; exact Nat.le_of_eq rfl) (hb hby at_5) (fun _ _ => ⟨rfl, e0, (by decide : 0 + 0 ≤ _), (by decide : 0 + 0 ≤ _)⟩)
    dsimp only [Pt.U, Pt.locs, Pt.cells, Pt.slots] at X21 l21 y21 z21 st21 hQ21
    subst l21 y21 z21
    obtain ⟨rfl, N21q, e21⟩ := hQ21
    have N21 := Fr.app N0 N21q
    obtain ⟨cq22, kq22, q22a, q22b, q22c⟩ := isOf hZ e21 E_TIE
    obtain ⟨_, _, ⟨T22, L22, k22, n22⟩, -, X22, ⟨Lc22, hQ22, l22, y22, z22⟩, st22⟩ := X21.virtualBack hx (y := (⟨"com/example/bidwright/bidwright/model/DecisionKind", "namesWinner", "()Z"⟩ : MethodName)) (z := (⟨"com/example/bidwright/bidwright/model/DecisionKind", "namesWinner", "()Z"⟩ : MethodName)) hown (mvT hZ (hw _ (List.mem_of_getElem? (i := 7) rfl))) (mvT hZ (hw _ (List.mem_of_getElem? (i := 8) rfl))) (notFace_of_selects (args := #[]) (mvT hZ (hw _ (List.mem_of_getElem? (i := 10) rfl)))) (mvT hZ (hw _ (List.mem_of_getElem? (i := 10) rfl))) (mvT hZ (hw _ (List.mem_of_getElem? (i := 9) rfl))) (by decide) (backOf (W := 0) (rm_p l Z a0 hw [] w_TIE w_NO_ELIGIBLE_BID (1 : Int32) h0 n0 Z0 S_NO_ELIGIBLE_BID (by simp [ne_TIE_NO_ELIGIBLE_BID])) hZ (hw _ (List.mem_of_getElem? (i := 11) rfl)) (hw _ (List.mem_of_getElem? (i := 5) rfl)) (by decide) (by decide)) q22a q22c (g := (mkF m 22 #[.val (.int p0), .val (.int (0 : Int32)), .val (.ref w_TIE), .val (.int (1 : Int32))] [(.ref w_TIE)])) rfl (by rw [hml]; rfl) (Steps.refl _) (argsL := []) (rest := []) (lenOf pd___Z rfl) rfl (by show 2 * 0 + _ ≤ _; exact Nat.le_of_eq rfl) (hb hby at_22) (fun _ _ => ⟨rfl, e21, (by decide : 0 + 0 ≤ _), (by decide : 0 + 0 ≤ _)⟩)
    dsimp only [Pt.U, Pt.locs, Pt.cells, Pt.slots] at X22 l22 y22 z22 st22 hQ22
    subst l22 y22 z22
    obtain ⟨rfl, N22q, e22⟩ := hQ22
    have N22 := Fr.app N21 N22q
    have pre23 : ∀ t, Steps p.tables e below (T22.setTop (mkF m 34 #[.val (.int p0), .val (.int (0 : Int32)), .val (.ref w_TIE), .val (.int (1 : Int32))] [(.int (1 : Int32))])) t → Steps p.tables e below (s₁.setTop (entryFrame m #[(.int p0)] maxLocals)) t := by
      intro t kt
      refine pre20 t ?_
      show Steps p.tables e below (s₁.setTop (mkF m 4 #[.val (.int p0), .val (.int (0 : Int32)), .unset, .unset] [])) _
      refine XS.iloadN X0.here hx rfl (hb hby at_4) rfl ?_
      show Steps p.tables e below (s₁.setTop (mkF m 5 #[.val (.int p0), .val (.int (0 : Int32)), .unset, .unset] [(.int (0 : Int32))])) _
      refine st21 _ ?_
      show Steps p.tables e below (T21.setTop (mkF m 8 #[.val (.int p0), .val (.int (0 : Int32)), .unset, .unset] [(.ref w_TIE)])) _
      refine XS.astoreN X21.here hx rfl (hb hby at_8) rfl rfl (l' := #[.val (.int p0), .val (.int (0 : Int32)), .val (.ref w_TIE), .unset]) rfl ?_
      show Steps p.tables e below (T21.setTop (mkF m 9 #[.val (.int p0), .val (.int (0 : Int32)), .val (.ref w_TIE), .unset] [])) _
      refine XS.iloadN X21.here hx rfl (hb hby at_9) rfl ?_
      show Steps p.tables e below (T21.setTop (mkF m 10 #[.val (.int p0), .val (.int (0 : Int32)), .val (.ref w_TIE), .unset] [(.int (0 : Int32))])) _
      refine XS.iconst X21.here hx rfl (hb hby at_10) ?_
      show Steps p.tables e below (T21.setTop (mkF m 11 #[.val (.int p0), .val (.int (0 : Int32)), .val (.ref w_TIE), .unset] [(.int (3 : Int32)), (.int (0 : Int32))])) _
      refine XS.icmpYes X21.here hx rfl (pc0 := 11) (pc' := 19) rfl (hb hby at_11) rfl (feq (by decide : ¬ ((0 : Int32) = (3 : Int32)))).2 (by decide) (by decide) ?_
      show Steps p.tables e below (T21.setTop (mkF m 19 #[.val (.int p0), .val (.int (0 : Int32)), .val (.ref w_TIE), .unset] [])) _
      refine XS.iconst X21.here hx rfl (hb hby at_19) ?_
      show Steps p.tables e below (T21.setTop (mkF m 20 #[.val (.int p0), .val (.int (0 : Int32)), .val (.ref w_TIE), .unset] [(.int (1 : Int32))])) _
      refine XS.istoreN X21.here hx rfl (hb hby at_20) rfl (l' := #[.val (.int p0), .val (.int (0 : Int32)), .val (.ref w_TIE), .val (.int (1 : Int32))]) rfl ?_
      show Steps p.tables e below (T21.setTop (mkF m 21 #[.val (.int p0), .val (.int (0 : Int32)), .val (.ref w_TIE), .val (.int (1 : Int32))] [])) _
      refine XS.aloadN X21.here hx rfl (hb hby at_21) rfl rfl ?_
      show Steps p.tables e below (T21.setTop (mkF m 22 #[.val (.int p0), .val (.int (0 : Int32)), .val (.ref w_TIE), .val (.int (1 : Int32))] [(.ref w_TIE)])) _
      refine st22.trans ?_
      show Steps p.tables e below (T22.setTop (mkF m 25 #[.val (.int p0), .val (.int (0 : Int32)), .val (.ref w_TIE), .val (.int (1 : Int32))] [(.int (1 : Int32))])) _
      refine XS.iloadN X22.here hx rfl (hb hby at_25) rfl ?_
      show Steps p.tables e below (T22.setTop (mkF m 26 #[.val (.int p0), .val (.int (0 : Int32)), .val (.ref w_TIE), .val (.int (1 : Int32))] [(.int (1 : Int32)), (.int (1 : Int32))])) _
      refine XS.icmpNo X22.here hx rfl (hb hby at_26) rfl (teq (by decide : (1 : Int32) = (1 : Int32))).2 ?_
      show Steps p.tables e below (T22.setTop (mkF m 29 #[.val (.int p0), .val (.int (0 : Int32)), .val (.ref w_TIE), .val (.int (1 : Int32))] [])) _
      refine XS.iconst X22.here hx rfl (hb hby at_29) ?_
      show Steps p.tables e below (T22.setTop (mkF m 30 #[.val (.int p0), .val (.int (0 : Int32)), .val (.ref w_TIE), .val (.int (1 : Int32))] [(.int (1 : Int32))])) _
      refine XS.goto X22.here hx rfl (pc0 := 30) (pc' := 34) rfl (hb hby at_30) (by decide) (by decide) ?_
      exact kt
    obtain ⟨fs, hr, hrun, hended, hW, hsame⟩ := X22.leave (v := some (.int (1 : Int32))) (fun h => by rw [Bd.returns] at h; cases h)
    refine ⟨_, _, pre23 _ ?_, hrun, hended, _, _, rfl, ?_, ⟨_, rfl⟩, hW, hsame.mono (by decide) (by decide)⟩
    · show Steps p.tables e below (T22.setTop (mkF m 34 #[.val (.int p0), .val (.int (0 : Int32)), .val (.ref w_TIE), .val (.int (1 : Int32))] [(.int (1 : Int32))])) _
      exact retN X22 hx (t := .boolean) Bd.returns (by simp) (hb hby at_34) hr
    · show Q_rm0 Z p0 w_TIE w_NO_ELIGIBLE_BID w_PURCHASING_DIRECTOR w_LOT h0 n0 _ T22.heap _
      rw [e22]
      exact ⟨rfl, N22⟩
  · rw [hk] at pre20
    obtain ⟨_, _, ⟨T24, L24, k24, n24⟩, -, X24, ⟨Lc24, hQ24, l24, y24, z24⟩, st24⟩ := Jvm.LawKit.callS X0 hx (y := (⟨"com/example/bidwright/bidwright/model/DecisionKindNamesWinnerPinLaw", "pick", "(I)Lcom/example/bidwright/bidwright/model/DecisionKind;"⟩ : MethodName)) hown (mvT hZ (hw _ (List.mem_of_getElem? (i := 0) rfl))) (mvT hZ (hw _ (List.mem_of_getElem? (i := 1) rfl))) (mvT hZ (hw _ (List.mem_of_getElem? (i := 2) rfl))) (mvT hZ (hw _ (List.mem_of_getElem? (i := 3) rfl))) (by decide) (backOf (W := 0) (rm_k l Z a0 hw [] (1 : Int32) w_TIE w_LOT w_PURCHASING_DIRECTOR w_NO_ELIGIBLE_BID w_LOT h0 n0 Z0 S_TIE S_LOT S_PURCHASING_DIRECTOR S_NO_ELIGIBLE_BID (by simp +decide)) hZ (hw _ (List.mem_of_getElem? (i := 3) rfl)) (hw _ (List.mem_of_getElem? (i := 2) rfl)) (by decide) (by decide)) (g := (mkF m 5 #[.val (.int p0), .val (.int (1 : Int32)), .unset, .unset] [(.int (1 : Int32))])) rfl (by rw [hml]; rfl) (argsL := [(.int (1 : Int32))]) (rest := []) (lenOf pd__I_Lcom_example_bidwright_bidwright_model_DecisionKind_ rfl) rfl (by show 2 * 0 + _ ≤ _; exact Nat.le_of_eq rfl) (hb hby at_5) (fun _ _ => ⟨rfl, e0, (by decide : 0 + 0 ≤ _), (by decide : 0 + 0 ≤ _)⟩)
    dsimp only [Pt.U, Pt.locs, Pt.cells, Pt.slots] at X24 l24 y24 z24 st24 hQ24
    subst l24 y24 z24
    obtain ⟨rfl, N24q, e24⟩ := hQ24
    have N24 := Fr.app N0 N24q
    obtain ⟨cq25, kq25, q25a, q25b, q25c⟩ := isOf hZ e24 E_LOT
    obtain ⟨_, _, ⟨T25, L25, k25, n25⟩, -, X25, ⟨Lc25, hQ25, l25, y25, z25⟩, st25⟩ := X24.virtualBack hx (y := (⟨"com/example/bidwright/bidwright/model/DecisionKind", "namesWinner", "()Z"⟩ : MethodName)) (z := (⟨"com/example/bidwright/bidwright/model/DecisionKind", "namesWinner", "()Z"⟩ : MethodName)) hown (mvT hZ (hw _ (List.mem_of_getElem? (i := 7) rfl))) (mvT hZ (hw _ (List.mem_of_getElem? (i := 8) rfl))) (notFace_of_selects (args := #[]) (mvT hZ (hw _ (List.mem_of_getElem? (i := 10) rfl)))) (mvT hZ (hw _ (List.mem_of_getElem? (i := 10) rfl))) (mvT hZ (hw _ (List.mem_of_getElem? (i := 9) rfl))) (by decide) (backOf (W := 0) (rm_p l Z a0 hw [] w_LOT w_NO_ELIGIBLE_BID (1 : Int32) h0 n0 Z0 S_NO_ELIGIBLE_BID (by simp [ne_LOT_NO_ELIGIBLE_BID])) hZ (hw _ (List.mem_of_getElem? (i := 11) rfl)) (hw _ (List.mem_of_getElem? (i := 5) rfl)) (by decide) (by decide)) q25a q25c (g := (mkF m 22 #[.val (.int p0), .val (.int (1 : Int32)), .val (.ref w_LOT), .val (.int (1 : Int32))] [(.ref w_LOT)])) rfl (by rw [hml]; rfl) (Steps.refl _) (argsL := []) (rest := []) (lenOf pd___Z rfl) rfl (by show 2 * 0 + _ ≤ _; exact Nat.le_of_eq rfl) (hb hby at_22) (fun _ _ => ⟨rfl, e24, (by decide : 0 + 0 ≤ _), (by decide : 0 + 0 ≤ _)⟩)
    dsimp only [Pt.U, Pt.locs, Pt.cells, Pt.slots] at X25 l25 y25 z25 st25 hQ25
    subst l25 y25 z25
    obtain ⟨rfl, N25q, e25⟩ := hQ25
    have N25 := Fr.app N24 N25q
    have pre26 : ∀ t, Steps p.tables e below (T25.setTop (mkF m 34 #[.val (.int p0), .val (.int (1 : Int32)), .val (.ref w_LOT), .val (.int (1 : Int32))] [(.int (1 : Int32))])) t → Steps p.tables e below (s₁.setTop (entryFrame m #[(.int p0)] maxLocals)) t := by
      intro t kt
      refine pre20 t ?_
      show Steps p.tables e below (s₁.setTop (mkF m 4 #[.val (.int p0), .val (.int (1 : Int32)), .unset, .unset] [])) _
      refine XS.iloadN X0.here hx rfl (hb hby at_4) rfl ?_
      show Steps p.tables e below (s₁.setTop (mkF m 5 #[.val (.int p0), .val (.int (1 : Int32)), .unset, .unset] [(.int (1 : Int32))])) _
      refine st24 _ ?_
      show Steps p.tables e below (T24.setTop (mkF m 8 #[.val (.int p0), .val (.int (1 : Int32)), .unset, .unset] [(.ref w_LOT)])) _
      refine XS.astoreN X24.here hx rfl (hb hby at_8) rfl rfl (l' := #[.val (.int p0), .val (.int (1 : Int32)), .val (.ref w_LOT), .unset]) rfl ?_
      show Steps p.tables e below (T24.setTop (mkF m 9 #[.val (.int p0), .val (.int (1 : Int32)), .val (.ref w_LOT), .unset] [])) _
      refine XS.iloadN X24.here hx rfl (hb hby at_9) rfl ?_
      show Steps p.tables e below (T24.setTop (mkF m 10 #[.val (.int p0), .val (.int (1 : Int32)), .val (.ref w_LOT), .unset] [(.int (1 : Int32))])) _
      refine XS.iconst X24.here hx rfl (hb hby at_10) ?_
      show Steps p.tables e below (T24.setTop (mkF m 11 #[.val (.int p0), .val (.int (1 : Int32)), .val (.ref w_LOT), .unset] [(.int (3 : Int32)), (.int (1 : Int32))])) _
      refine XS.icmpYes X24.here hx rfl (pc0 := 11) (pc' := 19) rfl (hb hby at_11) rfl (feq (by decide : ¬ ((1 : Int32) = (3 : Int32)))).2 (by decide) (by decide) ?_
      show Steps p.tables e below (T24.setTop (mkF m 19 #[.val (.int p0), .val (.int (1 : Int32)), .val (.ref w_LOT), .unset] [])) _
      refine XS.iconst X24.here hx rfl (hb hby at_19) ?_
      show Steps p.tables e below (T24.setTop (mkF m 20 #[.val (.int p0), .val (.int (1 : Int32)), .val (.ref w_LOT), .unset] [(.int (1 : Int32))])) _
      refine XS.istoreN X24.here hx rfl (hb hby at_20) rfl (l' := #[.val (.int p0), .val (.int (1 : Int32)), .val (.ref w_LOT), .val (.int (1 : Int32))]) rfl ?_
      show Steps p.tables e below (T24.setTop (mkF m 21 #[.val (.int p0), .val (.int (1 : Int32)), .val (.ref w_LOT), .val (.int (1 : Int32))] [])) _
      refine XS.aloadN X24.here hx rfl (hb hby at_21) rfl rfl ?_
      show Steps p.tables e below (T24.setTop (mkF m 22 #[.val (.int p0), .val (.int (1 : Int32)), .val (.ref w_LOT), .val (.int (1 : Int32))] [(.ref w_LOT)])) _
      refine st25.trans ?_
      show Steps p.tables e below (T25.setTop (mkF m 25 #[.val (.int p0), .val (.int (1 : Int32)), .val (.ref w_LOT), .val (.int (1 : Int32))] [(.int (1 : Int32))])) _
      refine XS.iloadN X25.here hx rfl (hb hby at_25) rfl ?_
      show Steps p.tables e below (T25.setTop (mkF m 26 #[.val (.int p0), .val (.int (1 : Int32)), .val (.ref w_LOT), .val (.int (1 : Int32))] [(.int (1 : Int32)), (.int (1 : Int32))])) _
      refine XS.icmpNo X25.here hx rfl (hb hby at_26) rfl (teq (by decide : (1 : Int32) = (1 : Int32))).2 ?_
      show Steps p.tables e below (T25.setTop (mkF m 29 #[.val (.int p0), .val (.int (1 : Int32)), .val (.ref w_LOT), .val (.int (1 : Int32))] [])) _
      refine XS.iconst X25.here hx rfl (hb hby at_29) ?_
      show Steps p.tables e below (T25.setTop (mkF m 30 #[.val (.int p0), .val (.int (1 : Int32)), .val (.ref w_LOT), .val (.int (1 : Int32))] [(.int (1 : Int32))])) _
      refine XS.goto X25.here hx rfl (pc0 := 30) (pc' := 34) rfl (hb hby at_30) (by decide) (by decide) ?_
      exact kt
    obtain ⟨fs, hr, hrun, hended, hW, hsame⟩ := X25.leave (v := some (.int (1 : Int32))) (fun h => by rw [Bd.returns] at h; cases h)
    refine ⟨_, _, pre26 _ ?_, hrun, hended, _, _, rfl, ?_, ⟨_, rfl⟩, hW, hsame.mono (by decide) (by decide)⟩
    · show Steps p.tables e below (T25.setTop (mkF m 34 #[.val (.int p0), .val (.int (1 : Int32)), .val (.ref w_LOT), .val (.int (1 : Int32))] [(.int (1 : Int32))])) _
      exact retN X25 hx (t := .boolean) Bd.returns (by simp) (hb hby at_34) hr
    · show Q_rm0 Z p0 w_TIE w_NO_ELIGIBLE_BID w_PURCHASING_DIRECTOR w_LOT h0 n0 _ T25.heap _
      rw [e25]
      exact ⟨rfl, N25⟩
  · rw [hk] at pre20
    obtain ⟨_, _, ⟨T27, L27, k27, n27⟩, -, X27, ⟨Lc27, hQ27, l27, y27, z27⟩, st27⟩ := Jvm.LawKit.callS X0 hx (y := (⟨"com/example/bidwright/bidwright/model/DecisionKindNamesWinnerPinLaw", "pick", "(I)Lcom/example/bidwright/bidwright/model/DecisionKind;"⟩ : MethodName)) hown (mvT hZ (hw _ (List.mem_of_getElem? (i := 0) rfl))) (mvT hZ (hw _ (List.mem_of_getElem? (i := 1) rfl))) (mvT hZ (hw _ (List.mem_of_getElem? (i := 2) rfl))) (mvT hZ (hw _ (List.mem_of_getElem? (i := 3) rfl))) (by decide) (backOf (W := 0) (rm_k l Z a0 hw [] (2 : Int32) w_TIE w_LOT w_PURCHASING_DIRECTOR w_NO_ELIGIBLE_BID w_PURCHASING_DIRECTOR h0 n0 Z0 S_TIE S_LOT S_PURCHASING_DIRECTOR S_NO_ELIGIBLE_BID (by simp +decide)) hZ (hw _ (List.mem_of_getElem? (i := 3) rfl)) (hw _ (List.mem_of_getElem? (i := 2) rfl)) (by decide) (by decide)) (g := (mkF m 5 #[.val (.int p0), .val (.int (2 : Int32)), .unset, .unset] [(.int (2 : Int32))])) rfl (by rw [hml]; rfl) (argsL := [(.int (2 : Int32))]) (rest := []) (lenOf pd__I_Lcom_example_bidwright_bidwright_model_DecisionKind_ rfl) rfl (by show 2 * 0 + _ ≤ _; exact Nat.le_of_eq rfl) (hb hby at_5) (fun _ _ => ⟨rfl, e0, (by decide : 0 + 0 ≤ _), (by decide : 0 + 0 ≤ _)⟩)
    dsimp only [Pt.U, Pt.locs, Pt.cells, Pt.slots] at X27 l27 y27 z27 st27 hQ27
    subst l27 y27 z27
    obtain ⟨rfl, N27q, e27⟩ := hQ27
    have N27 := Fr.app N0 N27q
    obtain ⟨cq28, kq28, q28a, q28b, q28c⟩ := isOf hZ e27 E_PURCHASING_DIRECTOR
    obtain ⟨_, _, ⟨T28, L28, k28, n28⟩, -, X28, ⟨Lc28, hQ28, l28, y28, z28⟩, st28⟩ := X27.virtualBack hx (y := (⟨"com/example/bidwright/bidwright/model/DecisionKind", "namesWinner", "()Z"⟩ : MethodName)) (z := (⟨"com/example/bidwright/bidwright/model/DecisionKind", "namesWinner", "()Z"⟩ : MethodName)) hown (mvT hZ (hw _ (List.mem_of_getElem? (i := 7) rfl))) (mvT hZ (hw _ (List.mem_of_getElem? (i := 8) rfl))) (notFace_of_selects (args := #[]) (mvT hZ (hw _ (List.mem_of_getElem? (i := 10) rfl)))) (mvT hZ (hw _ (List.mem_of_getElem? (i := 10) rfl))) (mvT hZ (hw _ (List.mem_of_getElem? (i := 9) rfl))) (by decide) (backOf (W := 0) (rm_p l Z a0 hw [] w_PURCHASING_DIRECTOR w_NO_ELIGIBLE_BID (1 : Int32) h0 n0 Z0 S_NO_ELIGIBLE_BID (by simp [ne_PURCHASING_DIRECTOR_NO_ELIGIBLE_BID])) hZ (hw _ (List.mem_of_getElem? (i := 11) rfl)) (hw _ (List.mem_of_getElem? (i := 5) rfl)) (by decide) (by decide)) q28a q28c (g := (mkF m 22 #[.val (.int p0), .val (.int (2 : Int32)), .val (.ref w_PURCHASING_DIRECTOR), .val (.int (1 : Int32))] [(.ref w_PURCHASING_DIRECTOR)])) rfl (by rw [hml]; rfl) (Steps.refl _) (argsL := []) (rest := []) (lenOf pd___Z rfl) rfl (by show 2 * 0 + _ ≤ _; exact Nat.le_of_eq rfl) (hb hby at_22) (fun _ _ => ⟨rfl, e27, (by decide : 0 + 0 ≤ _), (by decide : 0 + 0 ≤ _)⟩)
    dsimp only [Pt.U, Pt.locs, Pt.cells, Pt.slots] at X28 l28 y28 z28 st28 hQ28
    subst l28 y28 z28
    obtain ⟨rfl, N28q, e28⟩ := hQ28
    have N28 := Fr.app N27 N28q
    have pre29 : ∀ t, Steps p.tables e below (T28.setTop (mkF m 34 #[.val (.int p0), .val (.int (2 : Int32)), .val (.ref w_PURCHASING_DIRECTOR), .val (.int (1 : Int32))] [(.int (1 : Int32))])) t → Steps p.tables e below (s₁.setTop (entryFrame m #[(.int p0)] maxLocals)) t := by
      intro t kt
      refine pre20 t ?_
      show Steps p.tables e below (s₁.setTop (mkF m 4 #[.val (.int p0), .val (.int (2 : Int32)), .unset, .unset] [])) _
      refine XS.iloadN X0.here hx rfl (hb hby at_4) rfl ?_
      show Steps p.tables e below (s₁.setTop (mkF m 5 #[.val (.int p0), .val (.int (2 : Int32)), .unset, .unset] [(.int (2 : Int32))])) _
      refine st27 _ ?_
      show Steps p.tables e below (T27.setTop (mkF m 8 #[.val (.int p0), .val (.int (2 : Int32)), .unset, .unset] [(.ref w_PURCHASING_DIRECTOR)])) _
      refine XS.astoreN X27.here hx rfl (hb hby at_8) rfl rfl (l' := #[.val (.int p0), .val (.int (2 : Int32)), .val (.ref w_PURCHASING_DIRECTOR), .unset]) rfl ?_
      show Steps p.tables e below (T27.setTop (mkF m 9 #[.val (.int p0), .val (.int (2 : Int32)), .val (.ref w_PURCHASING_DIRECTOR), .unset] [])) _
      refine XS.iloadN X27.here hx rfl (hb hby at_9) rfl ?_
      show Steps p.tables e below (T27.setTop (mkF m 10 #[.val (.int p0), .val (.int (2 : Int32)), .val (.ref w_PURCHASING_DIRECTOR), .unset] [(.int (2 : Int32))])) _
      refine XS.iconst X27.here hx rfl (hb hby at_10) ?_
      show Steps p.tables e below (T27.setTop (mkF m 11 #[.val (.int p0), .val (.int (2 : Int32)), .val (.ref w_PURCHASING_DIRECTOR), .unset] [(.int (3 : Int32)), (.int (2 : Int32))])) _
      refine XS.icmpYes X27.here hx rfl (pc0 := 11) (pc' := 19) rfl (hb hby at_11) rfl (feq (by decide : ¬ ((2 : Int32) = (3 : Int32)))).2 (by decide) (by decide) ?_
      show Steps p.tables e below (T27.setTop (mkF m 19 #[.val (.int p0), .val (.int (2 : Int32)), .val (.ref w_PURCHASING_DIRECTOR), .unset] [])) _
      refine XS.iconst X27.here hx rfl (hb hby at_19) ?_
      show Steps p.tables e below (T27.setTop (mkF m 20 #[.val (.int p0), .val (.int (2 : Int32)), .val (.ref w_PURCHASING_DIRECTOR), .unset] [(.int (1 : Int32))])) _
      refine XS.istoreN X27.here hx rfl (hb hby at_20) rfl (l' := #[.val (.int p0), .val (.int (2 : Int32)), .val (.ref w_PURCHASING_DIRECTOR), .val (.int (1 : Int32))]) rfl ?_
      show Steps p.tables e below (T27.setTop (mkF m 21 #[.val (.int p0), .val (.int (2 : Int32)), .val (.ref w_PURCHASING_DIRECTOR), .val (.int (1 : Int32))] [])) _
      refine XS.aloadN X27.here hx rfl (hb hby at_21) rfl rfl ?_
      show Steps p.tables e below (T27.setTop (mkF m 22 #[.val (.int p0), .val (.int (2 : Int32)), .val (.ref w_PURCHASING_DIRECTOR), .val (.int (1 : Int32))] [(.ref w_PURCHASING_DIRECTOR)])) _
      refine st28.trans ?_
      show Steps p.tables e below (T28.setTop (mkF m 25 #[.val (.int p0), .val (.int (2 : Int32)), .val (.ref w_PURCHASING_DIRECTOR), .val (.int (1 : Int32))] [(.int (1 : Int32))])) _
      refine XS.iloadN X28.here hx rfl (hb hby at_25) rfl ?_
      show Steps p.tables e below (T28.setTop (mkF m 26 #[.val (.int p0), .val (.int (2 : Int32)), .val (.ref w_PURCHASING_DIRECTOR), .val (.int (1 : Int32))] [(.int (1 : Int32)), (.int (1 : Int32))])) _
      refine XS.icmpNo X28.here hx rfl (hb hby at_26) rfl (teq (by decide : (1 : Int32) = (1 : Int32))).2 ?_
      show Steps p.tables e below (T28.setTop (mkF m 29 #[.val (.int p0), .val (.int (2 : Int32)), .val (.ref w_PURCHASING_DIRECTOR), .val (.int (1 : Int32))] [])) _
      refine XS.iconst X28.here hx rfl (hb hby at_29) ?_
      show Steps p.tables e below (T28.setTop (mkF m 30 #[.val (.int p0), .val (.int (2 : Int32)), .val (.ref w_PURCHASING_DIRECTOR), .val (.int (1 : Int32))] [(.int (1 : Int32))])) _
      refine XS.goto X28.here hx rfl (pc0 := 30) (pc' := 34) rfl (hb hby at_30) (by decide) (by decide) ?_
      exact kt
    obtain ⟨fs, hr, hrun, hended, hW, hsame⟩ := X28.leave (v := some (.int (1 : Int32))) (fun h => by rw [Bd.returns] at h; cases h)
    refine ⟨_, _, pre29 _ ?_, hrun, hended, _, _, rfl, ?_, ⟨_, rfl⟩, hW, hsame.mono (by decide) (by decide)⟩
    · show Steps p.tables e below (T28.setTop (mkF m 34 #[.val (.int p0), .val (.int (2 : Int32)), .val (.ref w_PURCHASING_DIRECTOR), .val (.int (1 : Int32))] [(.int (1 : Int32))])) _
      exact retN X28 hx (t := .boolean) Bd.returns (by simp) (hb hby at_34) hr
    · show Q_rm0 Z p0 w_TIE w_NO_ELIGIBLE_BID w_PURCHASING_DIRECTOR w_LOT h0 n0 _ T28.heap _
      rw [e28]
      exact ⟨rfl, N28⟩
  · rw [hk] at pre20
    obtain ⟨_, _, ⟨T30, L30, k30, n30⟩, -, X30, ⟨Lc30, hQ30, l30, y30, z30⟩, st30⟩ := Jvm.LawKit.callS X0 hx (y := (⟨"com/example/bidwright/bidwright/model/DecisionKindNamesWinnerPinLaw", "pick", "(I)Lcom/example/bidwright/bidwright/model/DecisionKind;"⟩ : MethodName)) hown (mvT hZ (hw _ (List.mem_of_getElem? (i := 0) rfl))) (mvT hZ (hw _ (List.mem_of_getElem? (i := 1) rfl))) (mvT hZ (hw _ (List.mem_of_getElem? (i := 2) rfl))) (mvT hZ (hw _ (List.mem_of_getElem? (i := 3) rfl))) (by decide) (backOf (W := 0) (rm_k l Z a0 hw [] (3 : Int32) w_TIE w_LOT w_PURCHASING_DIRECTOR w_NO_ELIGIBLE_BID w_NO_ELIGIBLE_BID h0 n0 Z0 S_TIE S_LOT S_PURCHASING_DIRECTOR S_NO_ELIGIBLE_BID (by simp +decide)) hZ (hw _ (List.mem_of_getElem? (i := 3) rfl)) (hw _ (List.mem_of_getElem? (i := 2) rfl)) (by decide) (by decide)) (g := (mkF m 5 #[.val (.int p0), .val (.int (3 : Int32)), .unset, .unset] [(.int (3 : Int32))])) rfl (by rw [hml]; rfl) (argsL := [(.int (3 : Int32))]) (rest := []) (lenOf pd__I_Lcom_example_bidwright_bidwright_model_DecisionKind_ rfl) rfl (by show 2 * 0 + _ ≤ _; exact Nat.le_of_eq rfl) (hb hby at_5) (fun _ _ => ⟨rfl, e0, (by decide : 0 + 0 ≤ _), (by decide : 0 + 0 ≤ _)⟩)
    dsimp only [Pt.U, Pt.locs, Pt.cells, Pt.slots] at X30 l30 y30 z30 st30 hQ30
    subst l30 y30 z30
    obtain ⟨rfl, N30q, e30⟩ := hQ30
    have N30 := Fr.app N0 N30q
    obtain ⟨cq31, kq31, q31a, q31b, q31c⟩ := isOf hZ e30 E_NO_ELIGIBLE_BID
    obtain ⟨_, _, ⟨T31, L31, k31, n31⟩, -, X31, ⟨Lc31, hQ31, l31, y31, z31⟩, st31⟩ := X30.virtualBack hx (y := (⟨"com/example/bidwright/bidwright/model/DecisionKind", "namesWinner", "()Z"⟩ : MethodName)) (z := (⟨"com/example/bidwright/bidwright/model/DecisionKind", "namesWinner", "()Z"⟩ : MethodName)) hown (mvT hZ (hw _ (List.mem_of_getElem? (i := 7) rfl))) (mvT hZ (hw _ (List.mem_of_getElem? (i := 8) rfl))) (notFace_of_selects (args := #[]) (mvT hZ (hw _ (List.mem_of_getElem? (i := 10) rfl)))) (mvT hZ (hw _ (List.mem_of_getElem? (i := 10) rfl))) (mvT hZ (hw _ (List.mem_of_getElem? (i := 9) rfl))) (by decide) (backOf (W := 0) (rm_p l Z a0 hw [] w_NO_ELIGIBLE_BID w_NO_ELIGIBLE_BID (0 : Int32) h0 n0 Z0 S_NO_ELIGIBLE_BID (by simp [])) hZ (hw _ (List.mem_of_getElem? (i := 11) rfl)) (hw _ (List.mem_of_getElem? (i := 5) rfl)) (by decide) (by decide)) q31a q31c (g := (mkF m 22 #[.val (.int p0), .val (.int (3 : Int32)), .val (.ref w_NO_ELIGIBLE_BID), .val (.int (0 : Int32))] [(.ref w_NO_ELIGIBLE_BID)])) rfl (by rw [hml]; rfl) (Steps.refl _) (argsL := []) (rest := []) (lenOf pd___Z rfl) rfl (by show 2 * 0 + _ ≤ _; exact Nat.le_of_eq rfl) (hb hby at_22) (fun _ _ => ⟨rfl, e30, (by decide : 0 + 0 ≤ _), (by decide : 0 + 0 ≤ _)⟩)
    dsimp only [Pt.U, Pt.locs, Pt.cells, Pt.slots] at X31 l31 y31 z31 st31 hQ31
    subst l31 y31 z31
    obtain ⟨rfl, N31q, e31⟩ := hQ31
    have N31 := Fr.app N30 N31q
    have pre32 : ∀ t, Steps p.tables e below (T31.setTop (mkF m 34 #[.val (.int p0), .val (.int (3 : Int32)), .val (.ref w_NO_ELIGIBLE_BID), .val (.int (0 : Int32))] [(.int (1 : Int32))])) t → Steps p.tables e below (s₁.setTop (entryFrame m #[(.int p0)] maxLocals)) t := by
      intro t kt
      refine pre20 t ?_
      show Steps p.tables e below (s₁.setTop (mkF m 4 #[.val (.int p0), .val (.int (3 : Int32)), .unset, .unset] [])) _
      refine XS.iloadN X0.here hx rfl (hb hby at_4) rfl ?_
      show Steps p.tables e below (s₁.setTop (mkF m 5 #[.val (.int p0), .val (.int (3 : Int32)), .unset, .unset] [(.int (3 : Int32))])) _
      refine st30 _ ?_
      show Steps p.tables e below (T30.setTop (mkF m 8 #[.val (.int p0), .val (.int (3 : Int32)), .unset, .unset] [(.ref w_NO_ELIGIBLE_BID)])) _
      refine XS.astoreN X30.here hx rfl (hb hby at_8) rfl rfl (l' := #[.val (.int p0), .val (.int (3 : Int32)), .val (.ref w_NO_ELIGIBLE_BID), .unset]) rfl ?_
      show Steps p.tables e below (T30.setTop (mkF m 9 #[.val (.int p0), .val (.int (3 : Int32)), .val (.ref w_NO_ELIGIBLE_BID), .unset] [])) _
      refine XS.iloadN X30.here hx rfl (hb hby at_9) rfl ?_
      show Steps p.tables e below (T30.setTop (mkF m 10 #[.val (.int p0), .val (.int (3 : Int32)), .val (.ref w_NO_ELIGIBLE_BID), .unset] [(.int (3 : Int32))])) _
      refine XS.iconst X30.here hx rfl (hb hby at_10) ?_
      show Steps p.tables e below (T30.setTop (mkF m 11 #[.val (.int p0), .val (.int (3 : Int32)), .val (.ref w_NO_ELIGIBLE_BID), .unset] [(.int (3 : Int32)), (.int (3 : Int32))])) _
      refine XS.icmpNo X30.here hx rfl (hb hby at_11) rfl (teq (by decide : (3 : Int32) = (3 : Int32))).2 ?_
      show Steps p.tables e below (T30.setTop (mkF m 14 #[.val (.int p0), .val (.int (3 : Int32)), .val (.ref w_NO_ELIGIBLE_BID), .unset] [])) _
      refine XS.iconst X30.here hx rfl (hb hby at_14) ?_
      show Steps p.tables e below (T30.setTop (mkF m 15 #[.val (.int p0), .val (.int (3 : Int32)), .val (.ref w_NO_ELIGIBLE_BID), .unset] [(.int (0 : Int32))])) _
      refine XS.istoreN X30.here hx rfl (hb hby at_15) rfl (l' := #[.val (.int p0), .val (.int (3 : Int32)), .val (.ref w_NO_ELIGIBLE_BID), .val (.int (0 : Int32))]) rfl ?_
      show Steps p.tables e below (T30.setTop (mkF m 16 #[.val (.int p0), .val (.int (3 : Int32)), .val (.ref w_NO_ELIGIBLE_BID), .val (.int (0 : Int32))] [])) _
      refine XS.goto X30.here hx rfl (pc0 := 16) (pc' := 21) rfl (hb hby at_16) (by decide) (by decide) ?_
      show Steps p.tables e below (T30.setTop (mkF m 21 #[.val (.int p0), .val (.int (3 : Int32)), .val (.ref w_NO_ELIGIBLE_BID), .val (.int (0 : Int32))] [])) _
      refine XS.aloadN X30.here hx rfl (hb hby at_21) rfl rfl ?_
      show Steps p.tables e below (T30.setTop (mkF m 22 #[.val (.int p0), .val (.int (3 : Int32)), .val (.ref w_NO_ELIGIBLE_BID), .val (.int (0 : Int32))] [(.ref w_NO_ELIGIBLE_BID)])) _
      refine st31.trans ?_
      show Steps p.tables e below (T31.setTop (mkF m 25 #[.val (.int p0), .val (.int (3 : Int32)), .val (.ref w_NO_ELIGIBLE_BID), .val (.int (0 : Int32))] [(.int (0 : Int32))])) _
      refine XS.iloadN X31.here hx rfl (hb hby at_25) rfl ?_
      show Steps p.tables e below (T31.setTop (mkF m 26 #[.val (.int p0), .val (.int (3 : Int32)), .val (.ref w_NO_ELIGIBLE_BID), .val (.int (0 : Int32))] [(.int (0 : Int32)), (.int (0 : Int32))])) _
      refine XS.icmpNo X31.here hx rfl (hb hby at_26) rfl (teq (by decide : (0 : Int32) = (0 : Int32))).2 ?_
      show Steps p.tables e below (T31.setTop (mkF m 29 #[.val (.int p0), .val (.int (3 : Int32)), .val (.ref w_NO_ELIGIBLE_BID), .val (.int (0 : Int32))] [])) _
      refine XS.iconst X31.here hx rfl (hb hby at_29) ?_
      show Steps p.tables e below (T31.setTop (mkF m 30 #[.val (.int p0), .val (.int (3 : Int32)), .val (.ref w_NO_ELIGIBLE_BID), .val (.int (0 : Int32))] [(.int (1 : Int32))])) _
      refine XS.goto X31.here hx rfl (pc0 := 30) (pc' := 34) rfl (hb hby at_30) (by decide) (by decide) ?_
      exact kt
    obtain ⟨fs, hr, hrun, hended, hW, hsame⟩ := X31.leave (v := some (.int (1 : Int32))) (fun h => by rw [Bd.returns] at h; cases h)
    refine ⟨_, _, pre32 _ ?_, hrun, hended, _, _, rfl, ?_, ⟨_, rfl⟩, hW, hsame.mono (by decide) (by decide)⟩
    · show Steps p.tables e below (T31.setTop (mkF m 34 #[.val (.int p0), .val (.int (3 : Int32)), .val (.ref w_NO_ELIGIBLE_BID), .val (.int (0 : Int32))] [(.int (1 : Int32))])) _
      exact retN X31 hx (t := .boolean) Bd.returns (by simp) (hb hby at_34) hr
    · show Q_rm0 Z p0 w_TIE w_NO_ELIGIBLE_BID w_PURCHASING_DIRECTOR w_LOT h0 n0 _ T31.heap _
      rw [e31]
      exact ⟨rfl, N31⟩
set_option maxRecDepth 65536 in
set_option maxHeartbeats 40000000 in
theorem comes_1 {Post : Tables → Env → Array Value → State → Outcome → State → Prop} (hpost : ∀ tb e args s v u, (limb_1_1.after args s (.returned v) u = true ∧ limb_1_2.after args s (.returned v) u = true ∧ True) → FrameEnd s (.returned v) u (Jvm.fieldLocs frame_1_writes args s ++ Jvm.arrayLocs frame_1_arrays args s ++ Jvm.staticLocs frame_1_statics s) 0 0 → Post tb e args s (.returned v) u) :
    ArmFor flags0 classFile x code maxLocals ret World_1 tables_1 room_1 Calls_1 rest_1 Pre_1 Post := by
  intro l hfl _ _ p e ha hc hk s m args below hf hA hF happ hP
  obtain ⟨hcalls, hrest, hpre⟩ := hP
  obtain ⟨-, -, -, hnamed, -, -, -, hat⟩ := (Spec.applies_iff hf).mp happ
  obtain ⟨hg, hn⟩ := and_e (Cond.before_iff.mp (show (Jvm.Cond.and given_1 narrow_1).before args s = true from hpre))
  have hw := fun d (hd : d ∈ tables_1) => atoms_spec (ws := Jvm.Cond.code x code maxLocals ret :: tables_1) hat d (List.mem_cons_of_mem _ hd)
  obtain ⟨g1, g2⟩ := and_e hg
  obtain ⟨g3, g4⟩ := and_e hn
  obtain ⟨g5, g6⟩ := and_e g4
  obtain ⟨g7, g8⟩ := and_e g6
  obtain ⟨g9, g10⟩ := and_e g8
  obtain ⟨g11, g12⟩ := and_e g10
  obtain ⟨g13, g14⟩ := and_e g12
  obtain ⟨g15, g16⟩ := and_e g14
  obtain ⟨w_TIE, ev_TIE⟩ := exa_v g3
  have S_TIE : Sta s s.heap "com/example/bidwright/bidwright/model/DecisionKind" "TIE" "Lcom/example/bidwright/bidwright/model/DecisionKind;" (.ref w_TIE) := Sta.start ev_TIE (Or.inr ⟨(hw _ (List.mem_of_getElem? (i := 5) rfl)), (hw _ (List.mem_of_getElem? (i := 6) rfl))⟩)
  have E_TIE := Exa.start ev_TIE g3
  obtain ⟨w_NO_ELIGIBLE_BID, ev_NO_ELIGIBLE_BID⟩ := exa_v g5
  have S_NO_ELIGIBLE_BID : Sta s s.heap "com/example/bidwright/bidwright/model/DecisionKind" "NO_ELIGIBLE_BID" "Lcom/example/bidwright/bidwright/model/DecisionKind;" (.ref w_NO_ELIGIBLE_BID) := Sta.start ev_NO_ELIGIBLE_BID (Or.inr ⟨(hw _ (List.mem_of_getElem? (i := 5) rfl)), (hw _ (List.mem_of_getElem? (i := 13) rfl))⟩)
  have E_NO_ELIGIBLE_BID := Exa.start ev_NO_ELIGIBLE_BID g5
  obtain ⟨w_PURCHASING_DIRECTOR, ev_PURCHASING_DIRECTOR⟩ := exa_v g11
  have S_PURCHASING_DIRECTOR : Sta s s.heap "com/example/bidwright/bidwright/model/DecisionKind" "PURCHASING_DIRECTOR" "Lcom/example/bidwright/bidwright/model/DecisionKind;" (.ref w_PURCHASING_DIRECTOR) := Sta.start ev_PURCHASING_DIRECTOR (Or.inr ⟨(hw _ (List.mem_of_getElem? (i := 5) rfl)), (hw _ (List.mem_of_getElem? (i := 16) rfl))⟩)
  have E_PURCHASING_DIRECTOR := Exa.start ev_PURCHASING_DIRECTOR g11
  obtain ⟨w_LOT, ev_LOT⟩ := exa_v g15
  have S_LOT : Sta s s.heap "com/example/bidwright/bidwright/model/DecisionKind" "LOT" "Lcom/example/bidwright/bidwright/model/DecisionKind;" (.ref w_LOT) := Sta.start ev_LOT (Or.inr ⟨(hw _ (List.mem_of_getElem? (i := 5) rfl)), (hw _ (List.mem_of_getElem? (i := 18) rfl))⟩)
  have E_LOT := Exa.start ev_LOT g15
  have F_ordinal_TIE := own_fld ev_TIE (v := .int (0 : Int32)) rfl g7
  have F_ordinal_NO_ELIGIBLE_BID := own_fld ev_NO_ELIGIBLE_BID (v := .int (3 : Int32)) rfl g9
  have F_ordinal_PURCHASING_DIRECTOR := own_fld ev_PURCHASING_DIRECTOR (v := .int (2 : Int32)) rfl g13
  have F_ordinal_LOT := own_fld ev_LOT (v := .int (1 : Int32)) rfl g16
  obtain ⟨v0, rfl⟩ : ∃ v0 : Value, args = #[v0] := by
    have hs : args.size = 1 := by simpa [Cond.value, given_1] using g1
    obtain ⟨L⟩ := args
    match L, hs with
    | [v0], _ => exact ⟨v0, rfl⟩
  have hfit : Fit s := fun {y c} hc i hi => by
    obtain ⟨ha, rfl⟩ := Array.getElem?_eq_some_iff.mp hc
    have q := List.all_eq_true.mp ((Array.all_eq_true_iff_forall_mem.mp hF) _ (Array.getElem_mem ha)) i (List.mem_range.mpr hi)
    simpa [Array.getElem?_eq_getElem hi] using q
  obtain ⟨i0, ei0⟩ := is_v g2
  obtain rfl : v0 = (.int i0) := Option.some.inj ei0
  obtain ⟨n, o, h1, h2, h3, _, L, rfl, ⟨rfl, N⟩, hq⟩ := rm0 l s _ hw tables_1 i0 w_TIE w_NO_ELIGIBLE_BID w_PURCHASING_DIRECTOR w_LOT  s.heap s.heap.size (Nat.le_refl _) S_TIE E_TIE S_NO_ELIGIBLE_BID E_NO_ELIGIBLE_BID S_PURCHASING_DIRECTOR E_PURCHASING_DIRECTOR S_LOT E_LOT F_ordinal_TIE F_ordinal_NO_ELIGIBLE_BID F_ordinal_PURCHASING_DIRECTOR F_ordinal_LOT p e ha hc hk s m _ below hf ((Spec.applies_iff_loose hf).mp happ).1 ⟨rfl, State.Warmed39.refl s, rfl⟩ trivial
  refine ⟨n, _, h1, h2, h3, hpost _ _ _ _ _ _ ⟨Cond.after_iff.mpr rfl, Cond.after_iff.mpr (eq_i res_at (Term.int_eval (1)) rfl), trivial⟩ ⟨hq.1, hq.2.1, (hq.2.2.sift fun y hy => Or.inr (N y hy)).mono (by decide) (by decide)⟩⟩
theorem main_1_1 : Claimed_1_1 := comes_1 fun _ _ _ _ _ _ h hF => ⟨h.1, hF⟩
theorem main_1_2 : Claimed_1_2 := comes_1 fun _ _ _ _ _ _ h hF => ⟨h.2.1, hF⟩
end Jvm.Pilot.@@N@@
namespace Jvm.Pilot.@@N@@
open Jvm Jvm.ClassFile Sem Op Lib Jvm.Free Jvm.Stand Jvm.Pilot.@@N@@.Jvm.D
/-! MADE BY PROGRAM (witnessworld.py) out of the Statement's table words and the real class files: 13 classes; the members and pool entries that the words name. The judged class is class 1, her method 2. -/
namespace start1
open Jvm.ClassFile
def u (s : String) : CpInfo := .utf8 (stringToUtf16 s)
/-- a pool by its gaps: so many unusable entries, then the entry; so many at the end -/
def gap : Nat → List CpInfo → List CpInfo
  | 0, r => r
  | n + 1, r => .unusable :: gap n r
def poolList (es : List (Nat × CpInfo)) (last : Nat) : List CpInfo := es.foldr (fun e r => gap e.1 (e.2 :: r)) (gap last [])
def pool (es : List (Nat × CpInfo)) (last : Nat) : Array CpInfo := ⟨poolList es last⟩
def fileOf (pool : Array CpInfo) (this : Nat) (attrs : Array Attribute := #[]) (ms : Array MethodInfo := #[]) (fl : Nat := 33) (sup : Nat := 0) (ifs : Array Nat := #[]) (fds : Array FieldInfo := #[]) : ClassFile where
  minorVersion := 0
  majorVersion := 65
  constantPool := pool
  accessFlags := fl
  thisClass := this
  superClass := sup
  interfaces := ifs
  fields := fds
  methods := ms
  attributes := attrs
def plain (name : String) (sup : Option ClassId) : Class where
  name := name
  kind := .ordinary
  loader := none
  accessFlags := 33
  super := sup
  interfaces := #[]
  cf := none
  fields := #[]
  methods := #[]
  instanceTypes := #[]
  staticTypes := #[]
  resolved := #[]
  callSites := []
  init := .initialized
  statics := none
  mirror := none

def pool0 : Array CpInfo := pool [(5, u "<init>"), (0, u "()V"), (1, .class_ 10), (1, u "java/lang/Object")] 113

def k0m0 : Method := { name := "<init>", desc := "()V", sig := { parameters := [], returnType := none }, accessFlags := 1, code := none }
/-- java/lang/Object -/
def k0 : Class := { plain "java/lang/Object" none with
  accessFlags := 33
  interfaces := #[]
  cf := some (fileOf pool0 8 #[] #[{ accessFlags := 1, nameIndex := 5, descriptorIndex := 6, attributes := #[] }] 33 0 #[] #[])
  fields := #[]
  methods := #[k0m0]
  instanceTypes := #[]
  staticTypes := #[]
  resolved := Array.replicate 124 none
  statics := none }

def pool1 : Array CpInfo := pool [(2, .class_ 4), (1, u "java/lang/Object"), (0, u "<init>"), (0, u "()V"), (0, .fieldref 8 9), (0, .class_ 10), (0, .nameAndType 11 12), (0, u "com/example/bidwright/bidwright/model/DecisionKind"), (0, u "TIE"), (0, u "Lcom/example/bidwright/bidwright/model/DecisionKind;"), (0, .fieldref 8 14), (0, .nameAndType 15 12), (0, u "LOT"), (0, .fieldref 8 17), (0, .nameAndType 18 12), (0, u "PURCHASING_DIRECTOR"), (0, .fieldref 8 20), (0, .nameAndType 21 12), (0, u "NO_ELIGIBLE_BID"), (0, .methodref 23 24), (0, .class_ 25), (0, .nameAndType 26 27), (0, u "com/example/bidwright/bidwright/model/DecisionKindNamesWinnerPinLaw"), (0, u "pick"), (0, u "(I)Lcom/example/bidwright/bidwright/model/DecisionKind;"), (0, .methodref 8 29), (0, .nameAndType 30 31), (0, u "namesWinner"), (0, u "()Z"), (3, u "law"), (0, u "(I)Z")] 2

def k1m0 : Method := { name := "<init>", desc := "()V", sig := { parameters := [], returnType := none }, accessFlags := 1, code := none }
def k1c1 : Code := { maxStack := 2, maxLocals := 1, code := method_2_code, exceptionTable := #[], attributes := #[] }
def k1m1 : Method := { name := "pick", desc := "(I)Lcom/example/bidwright/bidwright/model/DecisionKind;", sig := { parameters := [.int], returnType := some (.object "com/example/bidwright/bidwright/model/DecisionKind") }, accessFlags := 10, code := some k1c1 }
def k1c2 : Code := { maxStack := 2, maxLocals := 4, code := code, exceptionTable := #[], attributes := #[] }
def k1m2 : Method := { name := "law", desc := "(I)Z", sig := { parameters := [.int], returnType := some .boolean }, accessFlags := 9, code := some k1c2 }
/-- com/example/bidwright/bidwright/model/DecisionKindNamesWinnerPinLaw -/
def k1 : Class := { plain "com/example/bidwright/bidwright/model/DecisionKindNamesWinnerPinLaw" (some 0) with
  accessFlags := 49
  interfaces := #[]
  cf := some (fileOf pool1 23 #[] #[{ accessFlags := 1, nameIndex := 5, descriptorIndex := 6, attributes := #[] }, { accessFlags := 10, nameIndex := 26, descriptorIndex := 27, attributes := #[] }, { accessFlags := 9, nameIndex := 35, descriptorIndex := 36, attributes := #[] }] 49 2 #[] #[])
  fields := #[]
  methods := #[k1m0, k1m1, k1m2]
  instanceTypes := #[]
  staticTypes := #[]
  resolved := Array.replicate 39 none
  statics := none }

def pool2 : Array CpInfo := pool [(1, .class_ 2), (0, u "java/lang/constant/Constable"), (0, .class_ 4), (0, u "java/lang/Object")] 6

/-- java/lang/constant/Constable -/
def k2 : Class := { plain "java/lang/constant/Constable" (some 0) with
  accessFlags := 1537
  interfaces := #[]
  cf := some (fileOf pool2 1 #[] #[] 1537 3 #[] #[])
  fields := #[]
  methods := #[]
  instanceTypes := #[]
  staticTypes := #[]
  resolved := Array.replicate 11 none
  statics := none }

def pool3 : Array CpInfo := pool [(1, .class_ 2), (0, u "java/lang/Comparable"), (0, .class_ 4), (0, u "java/lang/Object")] 7

/-- java/lang/Comparable -/
def k3 : Class := { plain "java/lang/Comparable" (some 0) with
  accessFlags := 1537
  interfaces := #[]
  cf := some (fileOf pool3 1 #[] #[] 1537 3 #[] #[])
  fields := #[]
  methods := #[]
  instanceTypes := #[]
  staticTypes := #[]
  resolved := Array.replicate 12 none
  statics := none }

def pool4 : Array CpInfo := pool [(1, .class_ 2), (0, u "java/io/Serializable"), (0, .class_ 4), (0, u "java/lang/Object")] 2

/-- java/io/Serializable -/
def k4 : Class := { plain "java/io/Serializable" (some 0) with
  accessFlags := 1537
  interfaces := #[]
  cf := some (fileOf pool4 1 #[] #[] 1537 3 #[] #[])
  fields := #[]
  methods := #[]
  instanceTypes := #[]
  staticTypes := #[]
  resolved := Array.replicate 7 none
  statics := none }

def pool5 : Array CpInfo := pool [(2, .class_ 4), (1, u "java/lang/Enum"), (0, u "name"), (0, u "Ljava/lang/String;"), (2, u "ordinal"), (0, u "I"), (1, .class_ 14), (1, u "java/lang/Object"), (4, u "hash"), (86, .class_ 108), (1, u "java/lang/Enum$EnumDesc"), (2, .class_ 112), (0, u "java/lang/constant/Constable"), (0, .class_ 114), (0, u "java/lang/Comparable"), (0, .class_ 116), (0, u "java/io/Serializable")] 87

/-- java/lang/Enum -/
def k5 : Class := { plain "java/lang/Enum" (some 0) with
  accessFlags := 1057
  interfaces := #[2, 3, 4]
  cf := some (fileOf pool5 2 #[.nestMembers #[106]] #[] 1057 12 #[111, 113, 115] #[{ accessFlags := 18, nameIndex := 5, descriptorIndex := 6, attributes := #[] }, { accessFlags := 18, nameIndex := 9, descriptorIndex := 10, attributes := #[] }, { accessFlags := 2, nameIndex := 19, descriptorIndex := 10, attributes := #[] }])
  fields := #[{ name := "name", type := (.object "java/lang/String"), accessFlags := 18, slot := 0, constantValue := 0 }, { name := "ordinal", type := .int, accessFlags := 18, slot := 1, constantValue := 0 }, { name := "hash", type := .int, accessFlags := 2, slot := 2, constantValue := 0 }]
  methods := #[]
  instanceTypes := #[(.object "java/lang/String"), .int, .int]
  staticTypes := #[]
  resolved := Array.replicate 204 none
  statics := none }

def pool6 : Array CpInfo := pool [(26, .class_ 28), (1, u "com/example/bidwright/bidwright/model/Labelled"), (37, .class_ 67), (0, u "java/lang/Object")] 37

/-- com/example/bidwright/bidwright/model/Labelled -/
def k6 : Class := { plain "com/example/bidwright/bidwright/model/Labelled" (some 0) with
  accessFlags := 1537
  interfaces := #[]
  cf := some (fileOf pool6 26 #[] #[] 1537 66 #[] #[])
  fields := #[]
  methods := #[]
  instanceTypes := #[]
  staticTypes := #[]
  resolved := Array.replicate 105 none
  statics := none }

def pool7 : Array CpInfo := pool [(1, .class_ 2), (0, u "com/example/bidwright/bidwright/model/DecisionKind"), (2, u "TIE"), (0, u "Lcom/example/bidwright/bidwright/model/DecisionKind;"), (2, u "LOT"), (2, u "PURCHASING_DIRECTOR"), (0, .fieldref 1 14), (0, .nameAndType 15 6), (0, u "NO_ELIGIBLE_BID"), (2, u "$VALUES"), (0, u "[Lcom/example/bidwright/bidwright/model/DecisionKind;"), (6, .class_ 28), (1, u "java/lang/Enum"), (8, u "label"), (0, u "Ljava/lang/String;"), (5, .class_ 46), (1, u "com/example/bidwright/bidwright/model/Labelled"), (7, u "()Z"), (43, u "namesWinner")] 21

def k7c0 : Code := { maxStack := 2, maxLocals := 1, code := prog_75_method_6_code, exceptionTable := #[], attributes := #[] }
def k7m0 : Method := { name := "namesWinner", desc := "()Z", sig := { parameters := [], returnType := some .boolean }, accessFlags := 1, code := some k7c0 }
/-- com/example/bidwright/bidwright/model/DecisionKind -/
def k7 : Class := { plain "com/example/bidwright/bidwright/model/DecisionKind" (some 5) with
  accessFlags := 16433
  interfaces := #[6]
  cf := some (fileOf pool7 1 #[] #[{ accessFlags := 1, nameIndex := 98, descriptorIndex := 54, attributes := #[] }] 16433 26 #[44] #[{ accessFlags := 16409, nameIndex := 5, descriptorIndex := 6, attributes := #[] }, { accessFlags := 16409, nameIndex := 9, descriptorIndex := 6, attributes := #[] }, { accessFlags := 16409, nameIndex := 12, descriptorIndex := 6, attributes := #[] }, { accessFlags := 16409, nameIndex := 15, descriptorIndex := 6, attributes := #[] }, { accessFlags := 18, nameIndex := 37, descriptorIndex := 38, attributes := #[] }, { accessFlags := 4122, nameIndex := 18, descriptorIndex := 19, attributes := #[] }])
  fields := #[{ name := "TIE", type := (.object "com/example/bidwright/bidwright/model/DecisionKind"), accessFlags := 16409, slot := 0, constantValue := 0 }, { name := "LOT", type := (.object "com/example/bidwright/bidwright/model/DecisionKind"), accessFlags := 16409, slot := 1, constantValue := 0 }, { name := "PURCHASING_DIRECTOR", type := (.object "com/example/bidwright/bidwright/model/DecisionKind"), accessFlags := 16409, slot := 2, constantValue := 0 }, { name := "NO_ELIGIBLE_BID", type := (.object "com/example/bidwright/bidwright/model/DecisionKind"), accessFlags := 16409, slot := 3, constantValue := 0 }, { name := "label", type := (.object "java/lang/String"), accessFlags := 18, slot := 3, constantValue := 0 }, { name := "$VALUES", type := (.array (.object "com/example/bidwright/bidwright/model/DecisionKind")), accessFlags := 4122, slot := 4, constantValue := 0 }]
  methods := #[k7m0]
  instanceTypes := #[(.object "java/lang/String"), .int, .int, (.object "java/lang/String")]
  staticTypes := #[(.object "com/example/bidwright/bidwright/model/DecisionKind"), (.object "com/example/bidwright/bidwright/model/DecisionKind"), (.object "com/example/bidwright/bidwright/model/DecisionKind"), (.object "com/example/bidwright/bidwright/model/DecisionKind"), (.array (.object "com/example/bidwright/bidwright/model/DecisionKind"))]
  resolved := Array.replicate 120 none
  statics := some 0 }

def pool8 : Array CpInfo := pool [(1, u "java/lang/Cloneable"), (0, .class_ 1), (0, u "java/lang/Object"), (0, .class_ 3)] 3

/-- java/lang/Cloneable -/
def k8 : Class := { plain "java/lang/Cloneable" (some 0) with
  accessFlags := 1537
  interfaces := #[]
  cf := some (fileOf pool8 2 #[] #[] 1537 4 #[] #[])
  fields := #[]
  methods := #[]
  instanceTypes := #[]
  staticTypes := #[]
  resolved := Array.replicate 8 none
  statics := none }

/-- the primitive byte -/
def k9 : Class := { plain "byte" none with kind := .primitive 'B', accessFlags := 0x411 }
/-- [B -/
def k10 : Class := { plain "[B" (some 0) with kind := .array 9 .byte, interfaces := #[8, 4], accessFlags := 1041 }

/-- the primitive int -/
def k11 : Class := { plain "int" none with kind := .primitive 'I', accessFlags := 0x411 }
/-- [I -/
def k12 : Class := { plain "[I" (some 0) with kind := .array 11 .int, interfaces := #[8, 4], accessFlags := 1041 }

def heap : Heap := #[{ cls := 7, slots := #[.ref 1, .ref 4, .ref 3, .ref 2, .null], vm := .statics 7 },
  { cls := 7, slots := #[.null, .int 0, .int 0, .null], vm := .none },
  { cls := 7, slots := #[.null, .int 3, .int 0, .null], vm := .none },
  { cls := 7, slots := #[.null, .int 2, .int 0, .null], vm := .none },
  { cls := 7, slots := #[.null, .int 1, .int 0, .null], vm := .none }]
def classes : Array Class := #[k0, k1, k2, k3, k4, k5, k6, k7, k8, k9, k10, k11, k12]
def interned : List (Array UInt16 × Addr) := []
def slotsUsed : Nat := 21
def theMethod : MethodId := ⟨1, 2⟩
def args0 : Array Value := #[.int 5]
def aboutOver (below : List Frame) : State where
  vm := { classes := classes, interned := interned.toArray }
  heap := heap
  slotsUsed := slotsUsed
  threads := #[{ frames := .invoking theMethod args0 :: below }]
def below0 : List Frame := [.native { method := ⟨0, 0⟩, args := #[] }]
def about1 : State := aboutOver below0
def p0 : Program := .bare "" "" ""
def e0 : Env := launch0.env 0 0 0
theorem w_frames : about1.frames = Frame.invoking theMethod args0 :: below0 := rfl
set_option maxRecDepth 65536 in
theorem w_args : argsFit about1.vm theMethod args0 = true := by decide +kernel
set_option maxRecDepth 65536 in
theorem w_heap : heapFits about1 = true := by decide +kernel
set_option maxRecDepth 65536 in
theorem w_runnable : about1.curStatus? = some .runnable := by decide +kernel
set_option maxRecDepth 65536 in
theorem w_alone : about1.alone = true := by decide +kernel
set_option maxRecDepth 65536 in
theorem w_named : about1.methodNamed? x = some theMethod := by decide +kernel
set_option maxRecDepth 65536 in
theorem w_hears : about1.hears theMethod below0 = true := by decide +kernel
set_option maxRecDepth 65536 in
theorem w_ripe : about1.ripe theMethod args0 below0 = true := by decide +kernel
theorem w_running : about1.status = .running := rfl
set_option maxRecDepth 65536 in
theorem w_room : about1.hasRoom e0.platform room_1 = true :=
  launch0.hasRoom_least _ room_1 (by decide +kernel) (by decide +kernel) (by decide +kernel) (by decide +kernel) (by decide +kernel) (by decide +kernel)
theorem allAtoms_all (ts : List Jvm.Cond) (a : Array Jvm.Value) (st : Jvm.State) : (allAtoms ts).before a st = ts.all (fun c => c.before a st) := by
  induction ts with
  | nil => rfl
  | cons c t ih =>
    show (Jvm.Cond.and c (allAtoms t)).before a st = _
    rw [Jvm.Cond.before_and, ih, List.all_cons]
def words1 : List Jvm.Cond := Jvm.Cond.code x code maxLocals ret :: tables_1
/-- a 'code' word, met by the world's own term for the bytes: nothing is compared byte by byte -/
theorem code_word {y : MethodName} {bytes : ByteArray} {mx : Nat} {rt : Option FieldType} {a : Array Value} {s : State} {m : MethodId} {meth : Method} {c : Code} (h1 : s.methodNamed? y = some m) (h2 : s.vm.method? m = some meth) (h3 : meth.code = some c) (h4 : c.code = bytes)
    (h5 : (c.maxLocals == mx && c.exceptionTable.isEmpty && decide (c.maxStack ≤ mostOperands) && decide (meth.sig.returnType = rt) && !meth.locks && decide (parseMethodDescriptor y.desc = some meth.sig)) = true) : (Jvm.Cond.code y bytes mx rt).before a s = true := by
  simp only [Bool.and_eq_true, beq_iff_eq, Bool.not_eq_true', decide_eq_true_eq] at h5
  obtain ⟨⟨⟨⟨⟨g1, g2⟩, g3⟩, g4⟩, g5⟩, g6⟩ := h5
  simp [Cond.before, Cond.holds, Cond.value, h1, h2, h3, h4, g1, g2, g3, g4, g5, g6]
def isCode : Jvm.Cond → Bool
  | .code _ _ _ _ => true
  | _ => false
theorem all_split {L : List Jvm.Cond} {P : Jvm.Cond → Bool} (h1 : L.all (fun c => isCode c || P c) = true) (h2 : ∀ c ∈ L.filter isCode, P c = true) : L.all P = true := by
  refine List.all_eq_true.mpr fun c hc => ?_
  have h := List.all_eq_true.mp h1 c hc
  rcases Bool.eq_false_or_eq_true (isCode c) with hi | hi
  · exact h2 c (List.mem_filter.mpr ⟨hc, hi⟩)
  · simpa [hi] using h
set_option maxRecDepth 65536 in
theorem w_c0 : (Jvm.Cond.code x code maxLocals ret).before args0 about1 = true := code_word (m := ⟨1, 2⟩) (meth := k1m2) (c := k1c2) (by decide +kernel) rfl rfl rfl (by decide +kernel)
set_option maxRecDepth 65536 in
theorem w_c1 : (Jvm.Cond.code ({ cls := "com/example/bidwright/bidwright/model/DecisionKindNamesWinnerPinLaw", name := "pick", desc := "(I)Lcom/example/bidwright/bidwright/model/DecisionKind;" } : Jvm.MethodName) method_2_code (1 : Nat) (Option.some (Jvm.ClassFile.FieldType.object "com/example/bidwright/bidwright/model/DecisionKind"))).before args0 about1 = true := code_word (m := ⟨1, 1⟩) (meth := k1m1) (c := k1c1) (by decide +kernel) rfl rfl rfl (by decide +kernel)
set_option maxRecDepth 65536 in
theorem w_c2 : (Jvm.Cond.code ({ cls := "com/example/bidwright/bidwright/model/DecisionKind", name := "namesWinner", desc := "()Z" } : Jvm.MethodName) prog_75_method_6_code (1 : Nat) (Option.some Jvm.ClassFile.FieldType.boolean)).before args0 about1 = true := code_word (m := ⟨7, 0⟩) (meth := k7m0) (c := k7c0) (by decide +kernel) rfl rfl rfl (by decide +kernel)
def codes1 : List Jvm.Cond := [Jvm.Cond.code x code maxLocals ret, Jvm.Cond.code ({ cls := "com/example/bidwright/bidwright/model/DecisionKindNamesWinnerPinLaw", name := "pick", desc := "(I)Lcom/example/bidwright/bidwright/model/DecisionKind;" } : Jvm.MethodName) method_2_code (1 : Nat) (Option.some (Jvm.ClassFile.FieldType.object "com/example/bidwright/bidwright/model/DecisionKind")), Jvm.Cond.code ({ cls := "com/example/bidwright/bidwright/model/DecisionKind", name := "namesWinner", desc := "()Z" } : Jvm.MethodName) prog_75_method_6_code (1 : Nat) (Option.some Jvm.ClassFile.FieldType.boolean)]
set_option maxRecDepth 65536 in
theorem codes_eq : words1.filter isCode = codes1 := rfl
theorem w_codes : ∀ c ∈ words1.filter isCode, c.before args0 about1 = true := by
  rw [codes_eq]
  intro c hc
  simp only [codes1, List.mem_cons, List.not_mem_nil, or_false] at hc
  rcases hc with rfl | rfl | rfl
  · exact w_c0
  · exact w_c1
  · exact w_c2
set_option maxRecDepth 65536 in
theorem w_t1 : words1.all (fun c => isCode c || c.before args0 about1) = true := by decide +kernel
theorem w_tables : (allAtoms (Jvm.Cond.code x code maxLocals ret :: tables_1)).before args0 about1 = true := by
  rw [allAtoms_all]
  show words1.all (fun c => c.before args0 about1) = true
  refine all_split ?_ w_codes
  rw [w_t1]
set_option maxRecDepth 65536 in
theorem w_case : (Jvm.Cond.and given_1 narrow_1).before args0 about1 = true := by decide +kernel
theorem w_applies : (headSpec (Jvm.Cond.code x code maxLocals ret :: tables_1) room_1).applies x e0.platform about1 = true :=
  (Spec.applies_iff w_frames).mpr ⟨w_running, w_runnable, w_alone, w_named, w_hears, w_ripe, w_room, w_tables⟩
theorem atStart : AtStart classFile x code maxLocals ret World_1 tables_1 room_1 Calls_1 rest_1 Pre_1 launch0 p0 e0 about1 theMethod args0 below0 :=
  ⟨lists_1, trivial, launch0.admits_env _ _ _, launch0.least_env, fairChoices_fair.cas, fairChoices_fair.clock, w_frames, w_args, w_heap, w_applies, trivial, trivial, w_case⟩
end start1
theorem witness_1 : WitnessClaimed_1 := ⟨start1.p0, start1.e0, start1.about1, start1.theMethod, start1.args0, start1.below0, start1.atStart⟩
end Jvm.Pilot.@@N@@
