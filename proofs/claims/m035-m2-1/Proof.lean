import JvmDerived
import JvmDerived.Pilot.@@N@@Statement
import JvmDerived.Pilot.@@N@@Code
set_option linter.unusedVariables false
set_option linter.unusedSimpArgs false
namespace Jvm.Pilot.@@N@@
open Jvm Jvm.ClassFile Sem Op Lib Jvm.Free Jvm.Stand Jvm.LawKit Jvm.RoadKit Bundle Jvm.Pilot.@@N@@.Jvm.D
theorem own_eq {args : Array Value} {first s : State} {o : Option Outcome} {idx : List Nat} {a b : Term} (h : (Jvm.Cond.eq a b).value args first o s idx = some true) : a.eval args first o idx s = b.eval args first o idx s := by
  obtain ⟨x, y, h1, h2, k1, k2⟩ := cmp_v (Or.inl h)
  rw [h1, h2]
  simp only [Jvm.Cond.value, h1, h2] at h
  cases x <;> cases y <;> simp_all
theorem own_fld {args : Array Value} {s : State} {t u : Term} {a : Addr} {C n d : String} {v : Value} (ev : t.eval args s none [] s = some (.ref a)) (eu : u.eval args s none [] s = some v) (h : (Jvm.Cond.eq (.field t C n d) u).value args s none s [] = some true) : Fld s s.heap a C n d v :=
  Fld.start ((fld_at ev).symm.trans ((own_eq h).trans eu))

theorem own_rem6 (x : Int32) : 0 ≤ ((x &&& (2147483647 : Int32)) % (6 : Int32)).toInt ∧ ((x &&& (2147483647 : Int32)) % (6 : Int32)).toInt < 6 := by
  have h1 := c_mask x (2147483647 : Int32) 31 (by decide) (by decide)
  have h2 := (c_irem (x &&& (2147483647 : Int32)) (6 : Int32) 6 (by decide)).1 (by omega)
  omega
theorem own_cases6 {z : Int32} (h0 : 0 ≤ z.toInt) (h1 : z.toInt < 6) : z = (0 : Int32) ∨ z = (1 : Int32) ∨ z = (2 : Int32) ∨ z = (3 : Int32) ∨ z = (4 : Int32) ∨ z = (5 : Int32) := by
  have h : z.toInt = 0 ∨ z.toInt = 1 ∨ z.toInt = 2 ∨ z.toInt = 3 ∨ z.toInt = 4 ∨ z.toInt = 5 := by omega
  rcases h with h | h | h | h | h | h
  · exact Or.inl (Int32.toInt_inj.mp (h.trans (by decide)))
  · exact Or.inr (Or.inl (Int32.toInt_inj.mp (h.trans (by decide))))
  · exact Or.inr (Or.inr (Or.inl (Int32.toInt_inj.mp (h.trans (by decide)))))
  · exact Or.inr (Or.inr (Or.inr (Or.inl (Int32.toInt_inj.mp (h.trans (by decide))))))
  · exact Or.inr (Or.inr (Or.inr (Or.inr (Or.inl (Int32.toInt_inj.mp (h.trans (by decide)))))))
  · exact Or.inr (Or.inr (Or.inr (Or.inr (Or.inr ((Int32.toInt_inj.mp (h.trans (by decide))))))))

theorem pn_com_example_headtail_headtail_abi_KindHasSelectorPinLaw : plainName "com/example/headtail/headtail/abi/KindHasSelectorPinLaw" = true := by first | (simp [plainName, overriddenIn]; done) | decide +kernel
theorem ef_rm_k (m : MethodId) (p0 : Int32) : entryFrame m #[(.int p0)] 2 = mkF m 0 #[.val (.int p0), .unset] [] := by first | (simp [entryFrame, mkF, argsToLocals, Value.category]; done) | rfl
def Q_rm_k (Z : State) (p0 : Int32) (w_FUNCTION w_CONSTRUCTOR w_RECEIVE w_FALLBACK w_EVENT w_ERROR : Addr) (rr : Addr) (h0 : Heap) (n0 : Nat) (v : Option Value) (h : Heap) (L : List Loc) : Prop := v = some (.ref rr) ∧ Fr n0 L ∧ h = h0
theorem d_method_2_code_0 : decode method_2_code 0 = .ok (.iload_n 0, 1) := by decide +kernel
theorem d_method_2_code_1 : decode method_2_code 1 = .ok (.ifCond .ne 10, 3) := by decide +kernel
theorem d_method_2_code_4 : decode method_2_code 4 = .ok (.getstatic 7, 3) := by decide +kernel
theorem d_method_2_code_7 : decode method_2_code 7 = .ok (.astore_n 1, 1) := by decide +kernel
theorem d_method_2_code_8 : decode method_2_code 8 = .ok (.goto 55, 3) := by decide +kernel
theorem d_method_2_code_63 : decode method_2_code 63 = .ok (.aload_n 1, 1) := by decide +kernel
theorem d_method_2_code_64 : decode method_2_code 64 = .ok (.areturn, 1) := by decide +kernel
theorem d_method_2_code_11 : decode method_2_code 11 = .ok (.iload_n 0, 1) := by decide +kernel
theorem d_method_2_code_12 : decode method_2_code 12 = .ok (.iconst 1, 1) := by decide +kernel
theorem d_method_2_code_13 : decode method_2_code 13 = .ok (.if_icmp .ne 10, 3) := by decide +kernel
theorem d_method_2_code_16 : decode method_2_code 16 = .ok (.getstatic 13, 3) := by decide +kernel
theorem d_method_2_code_19 : decode method_2_code 19 = .ok (.astore_n 1, 1) := by decide +kernel
theorem d_method_2_code_20 : decode method_2_code 20 = .ok (.goto 43, 3) := by decide +kernel
theorem d_method_2_code_23 : decode method_2_code 23 = .ok (.iload_n 0, 1) := by decide +kernel
theorem d_method_2_code_24 : decode method_2_code 24 = .ok (.iconst 2, 1) := by decide +kernel
theorem d_method_2_code_25 : decode method_2_code 25 = .ok (.if_icmp .ne 10, 3) := by decide +kernel
theorem d_method_2_code_28 : decode method_2_code 28 = .ok (.getstatic 16, 3) := by decide +kernel
theorem d_method_2_code_31 : decode method_2_code 31 = .ok (.astore_n 1, 1) := by decide +kernel
theorem d_method_2_code_32 : decode method_2_code 32 = .ok (.goto 31, 3) := by decide +kernel
theorem d_method_2_code_35 : decode method_2_code 35 = .ok (.iload_n 0, 1) := by decide +kernel
theorem d_method_2_code_36 : decode method_2_code 36 = .ok (.iconst 3, 1) := by decide +kernel
theorem d_method_2_code_37 : decode method_2_code 37 = .ok (.if_icmp .ne 10, 3) := by decide +kernel
theorem d_method_2_code_40 : decode method_2_code 40 = .ok (.getstatic 19, 3) := by decide +kernel
theorem d_method_2_code_43 : decode method_2_code 43 = .ok (.astore_n 1, 1) := by decide +kernel
theorem d_method_2_code_44 : decode method_2_code 44 = .ok (.goto 19, 3) := by decide +kernel
theorem d_method_2_code_47 : decode method_2_code 47 = .ok (.iload_n 0, 1) := by decide +kernel
theorem d_method_2_code_48 : decode method_2_code 48 = .ok (.iconst 4, 1) := by decide +kernel
theorem d_method_2_code_49 : decode method_2_code 49 = .ok (.if_icmp .ne 10, 3) := by decide +kernel
theorem d_method_2_code_52 : decode method_2_code 52 = .ok (.getstatic 22, 3) := by decide +kernel
theorem d_method_2_code_55 : decode method_2_code 55 = .ok (.astore_n 1, 1) := by decide +kernel
theorem d_method_2_code_56 : decode method_2_code 56 = .ok (.goto 7, 3) := by decide +kernel
theorem d_method_2_code_59 : decode method_2_code 59 = .ok (.getstatic 25, 3) := by decide +kernel
theorem d_method_2_code_62 : decode method_2_code 62 = .ok (.astore_n 1, 1) := by decide +kernel
set_option maxRecDepth 65536 in
set_option maxHeartbeats 40000000 in
theorem rm_k (l : Launch) (Z : State) (a0 : Array Value) (hw : ∀ d ∈ tables_1, d.before a0 Z = true) (ws : List Jvm.Cond) (p0 : Int32) (w_FUNCTION w_CONSTRUCTOR w_RECEIVE w_FALLBACK w_EVENT w_ERROR : Addr) (rr : Addr) (h0 : Heap) (n0 : Nat) (Z0 : n0 ≤ h0.size) (S_FUNCTION : Sta Z h0 "com/example/headtail/headtail/abi/AbiEntry$Kind" "FUNCTION" "Lcom/example/headtail/headtail/abi/AbiEntry$Kind;" (.ref w_FUNCTION)) (S_CONSTRUCTOR : Sta Z h0 "com/example/headtail/headtail/abi/AbiEntry$Kind" "CONSTRUCTOR" "Lcom/example/headtail/headtail/abi/AbiEntry$Kind;" (.ref w_CONSTRUCTOR)) (S_RECEIVE : Sta Z h0 "com/example/headtail/headtail/abi/AbiEntry$Kind" "RECEIVE" "Lcom/example/headtail/headtail/abi/AbiEntry$Kind;" (.ref w_RECEIVE)) (S_FALLBACK : Sta Z h0 "com/example/headtail/headtail/abi/AbiEntry$Kind" "FALLBACK" "Lcom/example/headtail/headtail/abi/AbiEntry$Kind;" (.ref w_FALLBACK)) (S_EVENT : Sta Z h0 "com/example/headtail/headtail/abi/AbiEntry$Kind" "EVENT" "Lcom/example/headtail/headtail/abi/AbiEntry$Kind;" (.ref w_EVENT)) (S_ERROR : Sta Z h0 "com/example/headtail/headtail/abi/AbiEntry$Kind" "ERROR" "Lcom/example/headtail/headtail/abi/AbiEntry$Kind;" (.ref w_ERROR)) (hres : (if p0 = (0 : Int32) then w_FUNCTION else (if p0 = (1 : Int32) then w_CONSTRUCTOR else (if p0 = (2 : Int32) then w_RECEIVE else (if p0 = (3 : Int32) then w_FALLBACK else (if p0 = (4 : Int32) then w_EVENT else w_ERROR))))) = rr) :
    MetFree l (⟨"com/example/headtail/headtail/abi/KindHasSelectorPinLaw", "kindOf", "(I)Lcom/example/headtail/headtail/abi/AbiEntry$Kind;"⟩ : MethodName) (head1 (Jvm.Cond.code (⟨"com/example/headtail/headtail/abi/KindHasSelectorPinLaw", "kindOf", "(I)Lcom/example/headtail/headtail/abi/AbiEntry$Kind;"⟩ : MethodName) method_2_code 2 (some (.object "com/example/headtail/headtail/abi/AbiEntry$Kind")) :: ws) ({ frames := 0, cells := 0, slots := 0, locals := 0 } : Room)) (fun a U => a = #[(.int p0)] ∧ Z.Warmed39 U.vm ∧ U.heap = h0) (fun _ _ _ _ _ => True) (fun _ U o U' => ∃ v L, o = .returned v ∧ Q_rm_k Z p0 w_FUNCTION w_CONSTRUCTOR w_RECEIVE w_FALLBACK w_EVENT w_ERROR rr h0 n0 v U'.heap L ∧ FrameEnd U o U' L ({ frames := 0, cells := 0, slots := 0, locals := 0 } : Room).cells ({ frames := 0, cells := 0, slots := 0, locals := 0 } : Room).slots) := by
  refine MetFree.of_bodySF (plainFor_of_name pn_com_example_headtail_headtail_abi_KindHasSelectorPinLaw) hisR ?_
  intro p e s m args below meth c s₁ Bd hml0 hP hK
  obtain ⟨rfl, hZ, hh⟩ := hP
  have hx := Bd.exec
  have hby := Bd.bytes
  have hml : c.maxLocals = 2 := hml0
  have hown : s.vm.findClass "com/example/headtail/headtail/abi/KindHasSelectorPinLaw" = some m.cls := findClass_of_methodNamed Bd.named
  have hnm := (name_of_methodNamed Bd.named Bd.method).1
  have X0 : Stand p l e ({ frames := 0, cells := 0, slots := 0, locals := 0 } : Room) s m #[(.int p0)] below meth c s₁ [] 0 0 := Stand.of_body Bd
  have e0 : s₁.heap = h0 := by rw [← hh, Bd.state]; rfl
  have N0 := Fr.nil n0
  have pre0 : ∀ t, Steps p.tables e below (s₁.setTop (mkF m 0 #[.val (.int p0), .unset] [])) t → Steps p.tables e below (s₁.setTop (entryFrame m #[(.int p0)] 2)) t := fun t k => castTop (ef_rm_k m p0) k
  have pre2 : ∀ t, Steps p.tables e below (s₁.setTop (mkF m 1 #[.val (.int p0), .unset] [(.int p0)])) t → Steps p.tables e below (s₁.setTop (entryFrame m #[(.int p0)] 2)) t := by
    intro t kt
    refine pre0 t ?_
    show Steps p.tables e below (s₁.setTop (mkF m 0 #[.val (.int p0), .unset] [])) _
    refine XS.iloadN X0.here hx rfl (hb hby d_method_2_code_0) rfl ?_
    exact kt
  by_cases hc1_1 : p0 = (0 : Int32)
  · obtain ⟨T3, X3, e3, st3⟩ := getS2 X0 hx hZ hown (host := "") (Or.inl (hw _ (List.mem_of_getElem? (i := 5) rfl))) Via.refl e0 S_FUNCTION (g := (mkF m 4 #[.val (.int p0), .unset] [])) rfl (hb hby d_method_2_code_4)
    have pre4 : ∀ t, Steps p.tables e below (T3.setTop (mkF m 64 #[.val (.int p0), .val (.ref w_FUNCTION)] [(.ref w_FUNCTION)])) t → Steps p.tables e below (s₁.setTop (entryFrame m #[(.int p0)] 2)) t := by
      intro t kt
      refine pre2 t ?_
      show Steps p.tables e below (s₁.setTop (mkF m 1 #[.val (.int p0), .unset] [(.int p0)])) _
      refine XS.ifNo X0.here hx rfl (hb hby d_method_2_code_1) rfl ((if0 _ _).trans (teq hc1_1).2) ?_
      show Steps p.tables e below (s₁.setTop (mkF m 4 #[.val (.int p0), .unset] [])) _
      refine st3 _ ?_
      show Steps p.tables e below (T3.setTop (mkF m 7 #[.val (.int p0), .unset] [(.ref w_FUNCTION)])) _
      refine XS.astoreN X3.here hx rfl (hb hby d_method_2_code_7) rfl rfl (l' := #[.val (.int p0), .val (.ref w_FUNCTION)]) rfl ?_
      show Steps p.tables e below (T3.setTop (mkF m 8 #[.val (.int p0), .val (.ref w_FUNCTION)] [])) _
      refine XS.goto X3.here hx rfl (pc0 := 8) (pc' := 63) rfl (hb hby d_method_2_code_8) (by decide) (by decide) ?_
      show Steps p.tables e below (T3.setTop (mkF m 63 #[.val (.int p0), .val (.ref w_FUNCTION)] [])) _
      refine XS.aloadN X3.here hx rfl (hb hby d_method_2_code_63) rfl rfl ?_
      exact kt
    obtain ⟨fs, hr, hrun, hended, hW, hsame⟩ := X3.leave (v := some (.ref w_FUNCTION)) (fun h => by rw [Bd.returns] at h; cases h)
    refine ⟨_, _, pre4 _ ?_, hrun, hended, _, _, rfl, ?_, ⟨_, rfl⟩, hW, hsame.mono (by decide) (by decide)⟩
    · show Steps p.tables e below (T3.setTop (mkF m 64 #[.val (.int p0), .val (.ref w_FUNCTION)] [(.ref w_FUNCTION)])) _
      jvm_step X3.here [X3.here.top, hx, (hb hby d_method_2_code_64), X3.method', Bd.returns, Value.isRef, FieldType.isReference]
      first | (intro acts; rw [hr _ acts rfl rfl rfl]) | rw [hr _ _ rfl rfl rfl]
      exact Steps.refl _
    · show Q_rm_k Z p0 w_FUNCTION w_CONSTRUCTOR w_RECEIVE w_FALLBACK w_EVENT w_ERROR rr h0 n0 _ T3.heap _
      rw [e3]
      exact ⟨by rw [← hres]; simp +decide [hc1_1], N0, rfl⟩
  · have pre6 : ∀ t, Steps p.tables e below (s₁.setTop (mkF m 13 #[.val (.int p0), .unset] [(.int (1 : Int32)), (.int p0)])) t → Steps p.tables e below (s₁.setTop (entryFrame m #[(.int p0)] 2)) t := by
      intro t kt
      refine pre2 t ?_
      show Steps p.tables e below (s₁.setTop (mkF m 1 #[.val (.int p0), .unset] [(.int p0)])) _
      refine XS.ifYes X0.here hx rfl (pc0 := 1) (pc' := 11) rfl (hb hby d_method_2_code_1) rfl ((if0 _ _).trans (feq hc1_1).2) (by decide) (by decide) ?_
      show Steps p.tables e below (s₁.setTop (mkF m 11 #[.val (.int p0), .unset] [])) _
      refine XS.iloadN X0.here hx rfl (hb hby d_method_2_code_11) rfl ?_
      show Steps p.tables e below (s₁.setTop (mkF m 12 #[.val (.int p0), .unset] [(.int p0)])) _
      refine XS.iconst X0.here hx rfl (hb hby d_method_2_code_12) ?_
      exact kt
    by_cases hc13_5 : p0 = (1 : Int32)
    · obtain ⟨T7, X7, e7, st7⟩ := getS2 X0 hx hZ hown (host := "") (Or.inl (hw _ (List.mem_of_getElem? (i := 20) rfl))) Via.refl e0 S_CONSTRUCTOR (g := (mkF m 16 #[.val (.int p0), .unset] [])) rfl (hb hby d_method_2_code_16)
      have pre8 : ∀ t, Steps p.tables e below (T7.setTop (mkF m 64 #[.val (.int p0), .val (.ref w_CONSTRUCTOR)] [(.ref w_CONSTRUCTOR)])) t → Steps p.tables e below (s₁.setTop (entryFrame m #[(.int p0)] 2)) t := by
        intro t kt
        refine pre6 t ?_
        show Steps p.tables e below (s₁.setTop (mkF m 13 #[.val (.int p0), .unset] [(.int (1 : Int32)), (.int p0)])) _
        refine XS.icmpNo X0.here hx rfl (hb hby d_method_2_code_13) rfl (teq hc13_5).2 ?_
        show Steps p.tables e below (s₁.setTop (mkF m 16 #[.val (.int p0), .unset] [])) _
        refine st7 _ ?_
        show Steps p.tables e below (T7.setTop (mkF m 19 #[.val (.int p0), .unset] [(.ref w_CONSTRUCTOR)])) _
        refine XS.astoreN X7.here hx rfl (hb hby d_method_2_code_19) rfl rfl (l' := #[.val (.int p0), .val (.ref w_CONSTRUCTOR)]) rfl ?_
        show Steps p.tables e below (T7.setTop (mkF m 20 #[.val (.int p0), .val (.ref w_CONSTRUCTOR)] [])) _
        refine XS.goto X7.here hx rfl (pc0 := 20) (pc' := 63) rfl (hb hby d_method_2_code_20) (by decide) (by decide) ?_
        show Steps p.tables e below (T7.setTop (mkF m 63 #[.val (.int p0), .val (.ref w_CONSTRUCTOR)] [])) _
        refine XS.aloadN X7.here hx rfl (hb hby d_method_2_code_63) rfl rfl ?_
        exact kt
      obtain ⟨fs, hr, hrun, hended, hW, hsame⟩ := X7.leave (v := some (.ref w_CONSTRUCTOR)) (fun h => by rw [Bd.returns] at h; cases h)
      refine ⟨_, _, pre8 _ ?_, hrun, hended, _, _, rfl, ?_, ⟨_, rfl⟩, hW, hsame.mono (by decide) (by decide)⟩
      · show Steps p.tables e below (T7.setTop (mkF m 64 #[.val (.int p0), .val (.ref w_CONSTRUCTOR)] [(.ref w_CONSTRUCTOR)])) _
        jvm_step X7.here [X7.here.top, hx, (hb hby d_method_2_code_64), X7.method', Bd.returns, Value.isRef, FieldType.isReference]
        first | (intro acts; rw [hr _ acts rfl rfl rfl]) | rw [hr _ _ rfl rfl rfl]
        exact Steps.refl _
      · show Q_rm_k Z p0 w_FUNCTION w_CONSTRUCTOR w_RECEIVE w_FALLBACK w_EVENT w_ERROR rr h0 n0 _ T7.heap _
        rw [e7]
        exact ⟨by rw [← hres]; simp +decide [hc1_1, hc13_5], N0, rfl⟩
    · have pre10 : ∀ t, Steps p.tables e below (s₁.setTop (mkF m 25 #[.val (.int p0), .unset] [(.int (2 : Int32)), (.int p0)])) t → Steps p.tables e below (s₁.setTop (entryFrame m #[(.int p0)] 2)) t := by
        intro t kt
        refine pre6 t ?_
        show Steps p.tables e below (s₁.setTop (mkF m 13 #[.val (.int p0), .unset] [(.int (1 : Int32)), (.int p0)])) _
        refine XS.icmpYes X0.here hx rfl (pc0 := 13) (pc' := 23) rfl (hb hby d_method_2_code_13) rfl (feq hc13_5).2 (by decide) (by decide) ?_
        show Steps p.tables e below (s₁.setTop (mkF m 23 #[.val (.int p0), .unset] [])) _
        refine XS.iloadN X0.here hx rfl (hb hby d_method_2_code_23) rfl ?_
        show Steps p.tables e below (s₁.setTop (mkF m 24 #[.val (.int p0), .unset] [(.int p0)])) _
        refine XS.iconst X0.here hx rfl (hb hby d_method_2_code_24) ?_
        exact kt
      by_cases hc25_9 : p0 = (2 : Int32)
      · obtain ⟨T11, X11, e11, st11⟩ := getS2 X0 hx hZ hown (host := "") (Or.inl (hw _ (List.mem_of_getElem? (i := 18) rfl))) Via.refl e0 S_RECEIVE (g := (mkF m 28 #[.val (.int p0), .unset] [])) rfl (hb hby d_method_2_code_28)
        have pre12 : ∀ t, Steps p.tables e below (T11.setTop (mkF m 64 #[.val (.int p0), .val (.ref w_RECEIVE)] [(.ref w_RECEIVE)])) t → Steps p.tables e below (s₁.setTop (entryFrame m #[(.int p0)] 2)) t := by
          intro t kt
          refine pre10 t ?_
          show Steps p.tables e below (s₁.setTop (mkF m 25 #[.val (.int p0), .unset] [(.int (2 : Int32)), (.int p0)])) _
          refine XS.icmpNo X0.here hx rfl (hb hby d_method_2_code_25) rfl (teq hc25_9).2 ?_
          show Steps p.tables e below (s₁.setTop (mkF m 28 #[.val (.int p0), .unset] [])) _
          refine st11 _ ?_
          show Steps p.tables e below (T11.setTop (mkF m 31 #[.val (.int p0), .unset] [(.ref w_RECEIVE)])) _
          refine XS.astoreN X11.here hx rfl (hb hby d_method_2_code_31) rfl rfl (l' := #[.val (.int p0), .val (.ref w_RECEIVE)]) rfl ?_
          show Steps p.tables e below (T11.setTop (mkF m 32 #[.val (.int p0), .val (.ref w_RECEIVE)] [])) _
          refine XS.goto X11.here hx rfl (pc0 := 32) (pc' := 63) rfl (hb hby d_method_2_code_32) (by decide) (by decide) ?_
          show Steps p.tables e below (T11.setTop (mkF m 63 #[.val (.int p0), .val (.ref w_RECEIVE)] [])) _
          refine XS.aloadN X11.here hx rfl (hb hby d_method_2_code_63) rfl rfl ?_
          exact kt
        obtain ⟨fs, hr, hrun, hended, hW, hsame⟩ := X11.leave (v := some (.ref w_RECEIVE)) (fun h => by rw [Bd.returns] at h; cases h)
        refine ⟨_, _, pre12 _ ?_, hrun, hended, _, _, rfl, ?_, ⟨_, rfl⟩, hW, hsame.mono (by decide) (by decide)⟩
        · show Steps p.tables e below (T11.setTop (mkF m 64 #[.val (.int p0), .val (.ref w_RECEIVE)] [(.ref w_RECEIVE)])) _
          jvm_step X11.here [X11.here.top, hx, (hb hby d_method_2_code_64), X11.method', Bd.returns, Value.isRef, FieldType.isReference]
          first | (intro acts; rw [hr _ acts rfl rfl rfl]) | rw [hr _ _ rfl rfl rfl]
          exact Steps.refl _
        · show Q_rm_k Z p0 w_FUNCTION w_CONSTRUCTOR w_RECEIVE w_FALLBACK w_EVENT w_ERROR rr h0 n0 _ T11.heap _
          rw [e11]
          exact ⟨by rw [← hres]; simp +decide [hc1_1, hc13_5, hc25_9], N0, rfl⟩
      · have pre14 : ∀ t, Steps p.tables e below (s₁.setTop (mkF m 37 #[.val (.int p0), .unset] [(.int (3 : Int32)), (.int p0)])) t → Steps p.tables e below (s₁.setTop (entryFrame m #[(.int p0)] 2)) t := by
          intro t kt
          refine pre10 t ?_
          show Steps p.tables e below (s₁.setTop (mkF m 25 #[.val (.int p0), .unset] [(.int (2 : Int32)), (.int p0)])) _
          refine XS.icmpYes X0.here hx rfl (pc0 := 25) (pc' := 35) rfl (hb hby d_method_2_code_25) rfl (feq hc25_9).2 (by decide) (by decide) ?_
          show Steps p.tables e below (s₁.setTop (mkF m 35 #[.val (.int p0), .unset] [])) _
          refine XS.iloadN X0.here hx rfl (hb hby d_method_2_code_35) rfl ?_
          show Steps p.tables e below (s₁.setTop (mkF m 36 #[.val (.int p0), .unset] [(.int p0)])) _
          refine XS.iconst X0.here hx rfl (hb hby d_method_2_code_36) ?_
          exact kt
        by_cases hc37_13 : p0 = (3 : Int32)
        · obtain ⟨T15, X15, e15, st15⟩ := getS2 X0 hx hZ hown (host := "") (Or.inl (hw _ (List.mem_of_getElem? (i := 14) rfl))) Via.refl e0 S_FALLBACK (g := (mkF m 40 #[.val (.int p0), .unset] [])) rfl (hb hby d_method_2_code_40)
          have pre16 : ∀ t, Steps p.tables e below (T15.setTop (mkF m 64 #[.val (.int p0), .val (.ref w_FALLBACK)] [(.ref w_FALLBACK)])) t → Steps p.tables e below (s₁.setTop (entryFrame m #[(.int p0)] 2)) t := by
            intro t kt
            refine pre14 t ?_
            show Steps p.tables e below (s₁.setTop (mkF m 37 #[.val (.int p0), .unset] [(.int (3 : Int32)), (.int p0)])) _
            refine XS.icmpNo X0.here hx rfl (hb hby d_method_2_code_37) rfl (teq hc37_13).2 ?_
            show Steps p.tables e below (s₁.setTop (mkF m 40 #[.val (.int p0), .unset] [])) _
            refine st15 _ ?_
            show Steps p.tables e below (T15.setTop (mkF m 43 #[.val (.int p0), .unset] [(.ref w_FALLBACK)])) _
            refine XS.astoreN X15.here hx rfl (hb hby d_method_2_code_43) rfl rfl (l' := #[.val (.int p0), .val (.ref w_FALLBACK)]) rfl ?_
            show Steps p.tables e below (T15.setTop (mkF m 44 #[.val (.int p0), .val (.ref w_FALLBACK)] [])) _
            refine XS.goto X15.here hx rfl (pc0 := 44) (pc' := 63) rfl (hb hby d_method_2_code_44) (by decide) (by decide) ?_
            show Steps p.tables e below (T15.setTop (mkF m 63 #[.val (.int p0), .val (.ref w_FALLBACK)] [])) _
            refine XS.aloadN X15.here hx rfl (hb hby d_method_2_code_63) rfl rfl ?_
            exact kt
          obtain ⟨fs, hr, hrun, hended, hW, hsame⟩ := X15.leave (v := some (.ref w_FALLBACK)) (fun h => by rw [Bd.returns] at h; cases h)
          refine ⟨_, _, pre16 _ ?_, hrun, hended, _, _, rfl, ?_, ⟨_, rfl⟩, hW, hsame.mono (by decide) (by decide)⟩
          · show Steps p.tables e below (T15.setTop (mkF m 64 #[.val (.int p0), .val (.ref w_FALLBACK)] [(.ref w_FALLBACK)])) _
            jvm_step X15.here [X15.here.top, hx, (hb hby d_method_2_code_64), X15.method', Bd.returns, Value.isRef, FieldType.isReference]
            first | (intro acts; rw [hr _ acts rfl rfl rfl]) | rw [hr _ _ rfl rfl rfl]
            exact Steps.refl _
          · show Q_rm_k Z p0 w_FUNCTION w_CONSTRUCTOR w_RECEIVE w_FALLBACK w_EVENT w_ERROR rr h0 n0 _ T15.heap _
            rw [e15]
            exact ⟨by rw [← hres]; simp +decide [hc1_1, hc13_5, hc25_9, hc37_13], N0, rfl⟩
        · have pre18 : ∀ t, Steps p.tables e below (s₁.setTop (mkF m 49 #[.val (.int p0), .unset] [(.int (4 : Int32)), (.int p0)])) t → Steps p.tables e below (s₁.setTop (entryFrame m #[(.int p0)] 2)) t := by
            intro t kt
            refine pre14 t ?_
            show Steps p.tables e below (s₁.setTop (mkF m 37 #[.val (.int p0), .unset] [(.int (3 : Int32)), (.int p0)])) _
            refine XS.icmpYes X0.here hx rfl (pc0 := 37) (pc' := 47) rfl (hb hby d_method_2_code_37) rfl (feq hc37_13).2 (by decide) (by decide) ?_
            show Steps p.tables e below (s₁.setTop (mkF m 47 #[.val (.int p0), .unset] [])) _
            refine XS.iloadN X0.here hx rfl (hb hby d_method_2_code_47) rfl ?_
            show Steps p.tables e below (s₁.setTop (mkF m 48 #[.val (.int p0), .unset] [(.int p0)])) _
            refine XS.iconst X0.here hx rfl (hb hby d_method_2_code_48) ?_
            exact kt
          by_cases hc49_17 : p0 = (4 : Int32)
          · obtain ⟨T19, X19, e19, st19⟩ := getS2 X0 hx hZ hown (host := "") (Or.inl (hw _ (List.mem_of_getElem? (i := 23) rfl))) Via.refl e0 S_EVENT (g := (mkF m 52 #[.val (.int p0), .unset] [])) rfl (hb hby d_method_2_code_52)
            have pre20 : ∀ t, Steps p.tables e below (T19.setTop (mkF m 64 #[.val (.int p0), .val (.ref w_EVENT)] [(.ref w_EVENT)])) t → Steps p.tables e below (s₁.setTop (entryFrame m #[(.int p0)] 2)) t := by
              intro t kt
              refine pre18 t ?_
              show Steps p.tables e below (s₁.setTop (mkF m 49 #[.val (.int p0), .unset] [(.int (4 : Int32)), (.int p0)])) _
              refine XS.icmpNo X0.here hx rfl (hb hby d_method_2_code_49) rfl (teq hc49_17).2 ?_
              show Steps p.tables e below (s₁.setTop (mkF m 52 #[.val (.int p0), .unset] [])) _
              refine st19 _ ?_
              show Steps p.tables e below (T19.setTop (mkF m 55 #[.val (.int p0), .unset] [(.ref w_EVENT)])) _
              refine XS.astoreN X19.here hx rfl (hb hby d_method_2_code_55) rfl rfl (l' := #[.val (.int p0), .val (.ref w_EVENT)]) rfl ?_
              show Steps p.tables e below (T19.setTop (mkF m 56 #[.val (.int p0), .val (.ref w_EVENT)] [])) _
              refine XS.goto X19.here hx rfl (pc0 := 56) (pc' := 63) rfl (hb hby d_method_2_code_56) (by decide) (by decide) ?_
              show Steps p.tables e below (T19.setTop (mkF m 63 #[.val (.int p0), .val (.ref w_EVENT)] [])) _
              refine XS.aloadN X19.here hx rfl (hb hby d_method_2_code_63) rfl rfl ?_
              exact kt
            obtain ⟨fs, hr, hrun, hended, hW, hsame⟩ := X19.leave (v := some (.ref w_EVENT)) (fun h => by rw [Bd.returns] at h; cases h)
            refine ⟨_, _, pre20 _ ?_, hrun, hended, _, _, rfl, ?_, ⟨_, rfl⟩, hW, hsame.mono (by decide) (by decide)⟩
            · show Steps p.tables e below (T19.setTop (mkF m 64 #[.val (.int p0), .val (.ref w_EVENT)] [(.ref w_EVENT)])) _
              jvm_step X19.here [X19.here.top, hx, (hb hby d_method_2_code_64), X19.method', Bd.returns, Value.isRef, FieldType.isReference]
              first | (intro acts; rw [hr _ acts rfl rfl rfl]) | rw [hr _ _ rfl rfl rfl]
              exact Steps.refl _
            · show Q_rm_k Z p0 w_FUNCTION w_CONSTRUCTOR w_RECEIVE w_FALLBACK w_EVENT w_ERROR rr h0 n0 _ T19.heap _
              rw [e19]
              exact ⟨by rw [← hres]; simp +decide [hc1_1, hc13_5, hc25_9, hc37_13, hc49_17], N0, rfl⟩
          · obtain ⟨T21, X21, e21, st21⟩ := getS2 X0 hx hZ hown (host := "") (Or.inl (hw _ (List.mem_of_getElem? (i := 22) rfl))) Via.refl e0 S_ERROR (g := (mkF m 59 #[.val (.int p0), .unset] [])) rfl (hb hby d_method_2_code_59)
            have pre22 : ∀ t, Steps p.tables e below (T21.setTop (mkF m 64 #[.val (.int p0), .val (.ref w_ERROR)] [(.ref w_ERROR)])) t → Steps p.tables e below (s₁.setTop (entryFrame m #[(.int p0)] 2)) t := by
              intro t kt
              refine pre18 t ?_
              show Steps p.tables e below (s₁.setTop (mkF m 49 #[.val (.int p0), .unset] [(.int (4 : Int32)), (.int p0)])) _
              refine XS.icmpYes X0.here hx rfl (pc0 := 49) (pc' := 59) rfl (hb hby d_method_2_code_49) rfl (feq hc49_17).2 (by decide) (by decide) ?_
              show Steps p.tables e below (s₁.setTop (mkF m 59 #[.val (.int p0), .unset] [])) _
              refine st21 _ ?_
              show Steps p.tables e below (T21.setTop (mkF m 62 #[.val (.int p0), .unset] [(.ref w_ERROR)])) _
              refine XS.astoreN X21.here hx rfl (hb hby d_method_2_code_62) rfl rfl (l' := #[.val (.int p0), .val (.ref w_ERROR)]) rfl ?_
              show Steps p.tables e below (T21.setTop (mkF m 63 #[.val (.int p0), .val (.ref w_ERROR)] [])) _
              refine XS.aloadN X21.here hx rfl (hb hby d_method_2_code_63) rfl rfl ?_
              exact kt
            obtain ⟨fs, hr, hrun, hended, hW, hsame⟩ := X21.leave (v := some (.ref w_ERROR)) (fun h => by rw [Bd.returns] at h; cases h)
            refine ⟨_, _, pre22 _ ?_, hrun, hended, _, _, rfl, ?_, ⟨_, rfl⟩, hW, hsame.mono (by decide) (by decide)⟩
            · show Steps p.tables e below (T21.setTop (mkF m 64 #[.val (.int p0), .val (.ref w_ERROR)] [(.ref w_ERROR)])) _
              jvm_step X21.here [X21.here.top, hx, (hb hby d_method_2_code_64), X21.method', Bd.returns, Value.isRef, FieldType.isReference]
              first | (intro acts; rw [hr _ acts rfl rfl rfl]) | rw [hr _ _ rfl rfl rfl]
              exact Steps.refl _
            · show Q_rm_k Z p0 w_FUNCTION w_CONSTRUCTOR w_RECEIVE w_FALLBACK w_EVENT w_ERROR rr h0 n0 _ T21.heap _
              rw [e21]
              exact ⟨by rw [← hres]; simp +decide [hc1_1, hc13_5, hc25_9, hc37_13, hc49_17], N0, rfl⟩
theorem pn_com_example_headtail_headtail_abi_AbiEntry_Kind : plainName "com/example/headtail/headtail/abi/AbiEntry$Kind" = true := by first | (simp [plainName, overriddenIn]; done) | decide +kernel
theorem ef_rm_p (m : MethodId) (o0 : Addr) : entryFrame m #[(.ref o0)] 1 = mkF m 0 #[.val (.ref o0)] [] := by first | (simp [entryFrame, mkF, argsToLocals, Value.category]; done) | rfl
def Q_rm_p (Z : State) (o0 : Addr) (w_FUNCTION w_ERROR : Addr) (r : Int32) (h0 : Heap) (n0 : Nat) (v : Option Value) (h : Heap) (L : List Loc) : Prop := v = some (.int r) ∧ Fr n0 L ∧ h = h0
theorem d_prog_3_method_6_code_0 : decode prog_3_method_6_code 0 = .ok (.aload_n 0, 1) := by decide +kernel
theorem d_prog_3_method_6_code_1 : decode prog_3_method_6_code 1 = .ok (.getstatic 3, 3) := by decide +kernel
theorem d_prog_3_method_6_code_4 : decode prog_3_method_6_code 4 = .ok (.if_acmp .eq 10, 3) := by decide +kernel
theorem d_prog_3_method_6_code_14 : decode prog_3_method_6_code 14 = .ok (.iconst 1, 1) := by decide +kernel
theorem d_prog_3_method_6_code_15 : decode prog_3_method_6_code 15 = .ok (.goto 4, 3) := by decide +kernel
theorem d_prog_3_method_6_code_19 : decode prog_3_method_6_code 19 = .ok (.ireturn, 1) := by decide +kernel
theorem d_prog_3_method_6_code_7 : decode prog_3_method_6_code 7 = .ok (.aload_n 0, 1) := by decide +kernel
theorem d_prog_3_method_6_code_8 : decode prog_3_method_6_code 8 = .ok (.getstatic 19, 3) := by decide +kernel
theorem d_prog_3_method_6_code_11 : decode prog_3_method_6_code 11 = .ok (.if_acmp .ne 7, 3) := by decide +kernel
theorem d_prog_3_method_6_code_18 : decode prog_3_method_6_code 18 = .ok (.iconst 0, 1) := by decide +kernel
set_option maxRecDepth 65536 in
set_option maxHeartbeats 40000000 in
theorem rm_p (l : Launch) (Z : State) (a0 : Array Value) (hw : ∀ d ∈ tables_1, d.before a0 Z = true) (ws : List Jvm.Cond) (o0 : Addr) (w_FUNCTION w_ERROR : Addr) (r : Int32) (h0 : Heap) (n0 : Nat) (Z0 : n0 ≤ h0.size) (S_FUNCTION : Sta Z h0 "com/example/headtail/headtail/abi/AbiEntry$Kind" "FUNCTION" "Lcom/example/headtail/headtail/abi/AbiEntry$Kind;" (.ref w_FUNCTION)) (S_ERROR : Sta Z h0 "com/example/headtail/headtail/abi/AbiEntry$Kind" "ERROR" "Lcom/example/headtail/headtail/abi/AbiEntry$Kind;" (.ref w_ERROR)) (hres : (if o0 = w_FUNCTION then (1 : Int32) else (if o0 = w_ERROR then (1 : Int32) else (0 : Int32))) = r) :
    MetFree l (⟨"com/example/headtail/headtail/abi/AbiEntry$Kind", "hasSelector", "()Z"⟩ : MethodName) (head1 (Jvm.Cond.code (⟨"com/example/headtail/headtail/abi/AbiEntry$Kind", "hasSelector", "()Z"⟩ : MethodName) prog_3_method_6_code 1 (some .boolean) :: ws) ({ frames := 0, cells := 0, slots := 0, locals := 0 } : Room)) (fun a U => a = #[(.ref o0)] ∧ Z.Warmed39 U.vm ∧ U.heap = h0) (fun _ _ _ _ _ => True) (fun _ U o U' => ∃ v L, o = .returned v ∧ Q_rm_p Z o0 w_FUNCTION w_ERROR r h0 n0 v U'.heap L ∧ FrameEnd U o U' L ({ frames := 0, cells := 0, slots := 0, locals := 0 } : Room).cells ({ frames := 0, cells := 0, slots := 0, locals := 0 } : Room).slots) := by
  refine MetFree.of_bodySF (plainFor_of_name pn_com_example_headtail_headtail_abi_AbiEntry_Kind) hisR ?_
  intro p e s m args below meth c s₁ Bd hml0 hP hK
  obtain ⟨rfl, hZ, hh⟩ := hP
  have hx := Bd.exec
  have hby := Bd.bytes
  have hml : c.maxLocals = 1 := hml0
  have hown : s.vm.findClass "com/example/headtail/headtail/abi/AbiEntry$Kind" = some m.cls := findClass_of_methodNamed Bd.named
  have hnm := (name_of_methodNamed Bd.named Bd.method).1
  have X0 : Stand p l e ({ frames := 0, cells := 0, slots := 0, locals := 0 } : Room) s m #[(.ref o0)] below meth c s₁ [] 0 0 := Stand.of_body Bd
  have e0 : s₁.heap = h0 := by rw [← hh, Bd.state]; rfl
  have N0 := Fr.nil n0
  have pre0 : ∀ t, Steps p.tables e below (s₁.setTop (mkF m 0 #[.val (.ref o0)] [])) t → Steps p.tables e below (s₁.setTop (entryFrame m #[(.ref o0)] 1)) t := fun t k => castTop (ef_rm_p m o0) k
  obtain ⟨T23, X23, e23, st23⟩ := getS2 X0 hx hZ hown (host := "") (Or.inl (hw _ (List.mem_of_getElem? (i := 13) rfl))) Via.refl e0 S_FUNCTION (g := (mkF m 1 #[.val (.ref o0)] [(.ref o0)])) rfl (hb hby d_prog_3_method_6_code_1)
  have pre24 : ∀ t, Steps p.tables e below (T23.setTop (mkF m 4 #[.val (.ref o0)] [(.ref w_FUNCTION), (.ref o0)])) t → Steps p.tables e below (s₁.setTop (entryFrame m #[(.ref o0)] 1)) t := by
    intro t kt
    refine pre0 t ?_
    show Steps p.tables e below (s₁.setTop (mkF m 0 #[.val (.ref o0)] [])) _
    refine XS.aloadN X0.here hx rfl (hb hby d_prog_3_method_6_code_0) rfl rfl ?_
    show Steps p.tables e below (s₁.setTop (mkF m 1 #[.val (.ref o0)] [(.ref o0)])) _
    refine st23 _ ?_
    exact kt
  by_cases ha4_25 : o0 = w_FUNCTION
  · have pre26 : ∀ t, Steps p.tables e below (T23.setTop (mkF m 19 #[.val (.ref o0)] [(.int (1 : Int32))])) t → Steps p.tables e below (s₁.setTop (entryFrame m #[(.ref o0)] 1)) t := by
      intro t kt
      refine pre24 t ?_
      show Steps p.tables e below (T23.setTop (mkF m 4 #[.val (.ref o0)] [(.ref w_FUNCTION), (.ref o0)])) _
      refine Jvm.RoadKit.acmp (g := (mkF m 4 #[.val (.ref o0)] [(.ref w_FUNCTION), (.ref o0)])) X23 hx rfl rfl rfl (pc0 := 4) (pc' := 14) (same := true) rfl (hb hby d_prog_3_method_6_code_4) rfl (decide_eq_true (congrArg Value.ref ha4_25)) (by decide) (by decide) ?_
      show Steps p.tables e below (T23.setTop (mkF m 14 #[.val (.ref o0)] [])) _
      refine XS.iconst X23.here hx rfl (hb hby d_prog_3_method_6_code_14) ?_
      show Steps p.tables e below (T23.setTop (mkF m 15 #[.val (.ref o0)] [(.int (1 : Int32))])) _
      refine XS.goto X23.here hx rfl (pc0 := 15) (pc' := 19) rfl (hb hby d_prog_3_method_6_code_15) (by decide) (by decide) ?_
      exact kt
    obtain ⟨fs, hr, hrun, hended, hW, hsame⟩ := X23.leave (v := some (.int (1 : Int32))) (fun h => by rw [Bd.returns] at h; cases h)
    refine ⟨_, _, pre26 _ ?_, hrun, hended, _, _, rfl, ?_, ⟨_, rfl⟩, hW, hsame.mono (by decide) (by decide)⟩
    · show Steps p.tables e below (T23.setTop (mkF m 19 #[.val (.ref o0)] [(.int (1 : Int32))])) _
      exact retN X23 hx (t := .boolean) Bd.returns (by simp) (hb hby d_prog_3_method_6_code_19) hr
    · show Q_rm_p Z o0 w_FUNCTION w_ERROR r h0 n0 _ T23.heap _
      rw [e23]
      exact ⟨by rw [← hres]; simp [ha4_25], N0, rfl⟩
  · obtain ⟨T27, X27, e27, st27⟩ := getS2 X23 hx hZ hown (host := "") (Or.inl (hw _ (List.mem_of_getElem? (i := 16) rfl))) Via.refl e23 S_ERROR (g := (mkF m 8 #[.val (.ref o0)] [(.ref o0)])) rfl (hb hby d_prog_3_method_6_code_8)
    have pre28 : ∀ t, Steps p.tables e below (T27.setTop (mkF m 11 #[.val (.ref o0)] [(.ref w_ERROR), (.ref o0)])) t → Steps p.tables e below (s₁.setTop (entryFrame m #[(.ref o0)] 1)) t := by
      intro t kt
      refine pre24 t ?_
      show Steps p.tables e below (T23.setTop (mkF m 4 #[.val (.ref o0)] [(.ref w_FUNCTION), (.ref o0)])) _
      refine Jvm.RoadKit.acmp (g := (mkF m 4 #[.val (.ref o0)] [(.ref w_FUNCTION), (.ref o0)])) X23 hx rfl rfl rfl (pc0 := 4) (pc' := 7) (same := false) rfl (hb hby d_prog_3_method_6_code_4) rfl (decide_eq_false fun q => ha4_25 (Value.ref.inj q)) (by decide) (by decide) ?_
      show Steps p.tables e below (T23.setTop (mkF m 7 #[.val (.ref o0)] [])) _
      refine XS.aloadN X23.here hx rfl (hb hby d_prog_3_method_6_code_7) rfl rfl ?_
      show Steps p.tables e below (T23.setTop (mkF m 8 #[.val (.ref o0)] [(.ref o0)])) _
      refine st27 _ ?_
      exact kt
    by_cases ha11_29 : o0 = w_ERROR
    · have pre30 : ∀ t, Steps p.tables e below (T27.setTop (mkF m 19 #[.val (.ref o0)] [(.int (1 : Int32))])) t → Steps p.tables e below (s₁.setTop (entryFrame m #[(.ref o0)] 1)) t := by
        intro t kt
        refine pre28 t ?_
        show Steps p.tables e below (T27.setTop (mkF m 11 #[.val (.ref o0)] [(.ref w_ERROR), (.ref o0)])) _
        refine Jvm.RoadKit.acmp (g := (mkF m 11 #[.val (.ref o0)] [(.ref w_ERROR), (.ref o0)])) X27 hx rfl rfl rfl (pc0 := 11) (pc' := 14) (same := true) rfl (hb hby d_prog_3_method_6_code_11) rfl (decide_eq_true (congrArg Value.ref ha11_29)) (by decide) (by decide) ?_
        show Steps p.tables e below (T27.setTop (mkF m 14 #[.val (.ref o0)] [])) _
        refine XS.iconst X27.here hx rfl (hb hby d_prog_3_method_6_code_14) ?_
        show Steps p.tables e below (T27.setTop (mkF m 15 #[.val (.ref o0)] [(.int (1 : Int32))])) _
        refine XS.goto X27.here hx rfl (pc0 := 15) (pc' := 19) rfl (hb hby d_prog_3_method_6_code_15) (by decide) (by decide) ?_
        exact kt
      obtain ⟨fs, hr, hrun, hended, hW, hsame⟩ := X27.leave (v := some (.int (1 : Int32))) (fun h => by rw [Bd.returns] at h; cases h)
      refine ⟨_, _, pre30 _ ?_, hrun, hended, _, _, rfl, ?_, ⟨_, rfl⟩, hW, hsame.mono (by decide) (by decide)⟩
      · show Steps p.tables e below (T27.setTop (mkF m 19 #[.val (.ref o0)] [(.int (1 : Int32))])) _
        exact retN X27 hx (t := .boolean) Bd.returns (by simp) (hb hby d_prog_3_method_6_code_19) hr
      · show Q_rm_p Z o0 w_FUNCTION w_ERROR r h0 n0 _ T27.heap _
        rw [e27]
        exact ⟨by rw [← hres]; simp [ha4_25, ha11_29], N0, rfl⟩
    · have pre31 : ∀ t, Steps p.tables e below (T27.setTop (mkF m 19 #[.val (.ref o0)] [(.int (0 : Int32))])) t → Steps p.tables e below (s₁.setTop (entryFrame m #[(.ref o0)] 1)) t := by
        intro t kt
        refine pre28 t ?_
        show Steps p.tables e below (T27.setTop (mkF m 11 #[.val (.ref o0)] [(.ref w_ERROR), (.ref o0)])) _
        refine Jvm.RoadKit.acmp (g := (mkF m 11 #[.val (.ref o0)] [(.ref w_ERROR), (.ref o0)])) X27 hx rfl rfl rfl (pc0 := 11) (pc' := 18) (same := false) rfl (hb hby d_prog_3_method_6_code_11) rfl (decide_eq_false fun q => ha11_29 (Value.ref.inj q)) (by decide) (by decide) ?_
        show Steps p.tables e below (T27.setTop (mkF m 18 #[.val (.ref o0)] [])) _
        refine XS.iconst X27.here hx rfl (hb hby d_prog_3_method_6_code_18) ?_
        exact kt
      obtain ⟨fs, hr, hrun, hended, hW, hsame⟩ := X27.leave (v := some (.int (0 : Int32))) (fun h => by rw [Bd.returns] at h; cases h)
      refine ⟨_, _, pre31 _ ?_, hrun, hended, _, _, rfl, ?_, ⟨_, rfl⟩, hW, hsame.mono (by decide) (by decide)⟩
      · show Steps p.tables e below (T27.setTop (mkF m 19 #[.val (.ref o0)] [(.int (0 : Int32))])) _
        exact retN X27 hx (t := .boolean) Bd.returns (by simp) (hb hby d_prog_3_method_6_code_19) hr
      · show Q_rm_p Z o0 w_FUNCTION w_ERROR r h0 n0 _ T27.heap _
        rw [e27]
        exact ⟨by rw [← hres]; simp [ha4_25, ha11_29], N0, rfl⟩
theorem ef_rm0 (m : MethodId) (p0 : Int32) : entryFrame m #[(.int p0)] maxLocals = mkF m 0 #[.val (.int p0), .unset, .unset, .unset] [] := by first | (simp [entryFrame, mkF, argsToLocals, Value.category, maxLocals]; done) | rfl
def Q_rm0 (Z : State) (p0 : Int32) (w_FUNCTION w_FALLBACK w_ERROR w_RECEIVE w_CONSTRUCTOR w_EVENT : Addr)  (h0 : Heap) (n0 : Nat) (v : Option Value) (h : Heap) (L : List Loc) : Prop := v = some (.int 1) ∧ Fr n0 L
theorem pd__I_Lcom_example_headtail_headtail_abi_AbiEntry_Kind_ : parseMethodDescriptor "(I)Lcom/example/headtail/headtail/abi/AbiEntry$Kind;" = some ⟨[.int], some (.object "com/example/headtail/headtail/abi/AbiEntry$Kind")⟩ := by decide +kernel
theorem pd___Z : parseMethodDescriptor "()Z" = some ⟨[], some .boolean⟩ := by decide +kernel
set_option maxRecDepth 65536 in
set_option maxHeartbeats 40000000 in
theorem rm0 (l : Launch) (Z : State) (a0 : Array Value) (hw : ∀ d ∈ tables_1, d.before a0 Z = true) (ws : List Jvm.Cond) (p0 : Int32) (w_FUNCTION w_FALLBACK w_ERROR w_RECEIVE w_CONSTRUCTOR w_EVENT : Addr)  (h0 : Heap) (n0 : Nat) (Z0 : n0 ≤ h0.size) (S_FUNCTION : Sta Z h0 "com/example/headtail/headtail/abi/AbiEntry$Kind" "FUNCTION" "Lcom/example/headtail/headtail/abi/AbiEntry$Kind;" (.ref w_FUNCTION)) (E_FUNCTION : Exa Z h0 w_FUNCTION "com/example/headtail/headtail/abi/AbiEntry$Kind") (S_FALLBACK : Sta Z h0 "com/example/headtail/headtail/abi/AbiEntry$Kind" "FALLBACK" "Lcom/example/headtail/headtail/abi/AbiEntry$Kind;" (.ref w_FALLBACK)) (E_FALLBACK : Exa Z h0 w_FALLBACK "com/example/headtail/headtail/abi/AbiEntry$Kind") (S_ERROR : Sta Z h0 "com/example/headtail/headtail/abi/AbiEntry$Kind" "ERROR" "Lcom/example/headtail/headtail/abi/AbiEntry$Kind;" (.ref w_ERROR)) (E_ERROR : Exa Z h0 w_ERROR "com/example/headtail/headtail/abi/AbiEntry$Kind") (S_RECEIVE : Sta Z h0 "com/example/headtail/headtail/abi/AbiEntry$Kind" "RECEIVE" "Lcom/example/headtail/headtail/abi/AbiEntry$Kind;" (.ref w_RECEIVE)) (E_RECEIVE : Exa Z h0 w_RECEIVE "com/example/headtail/headtail/abi/AbiEntry$Kind") (S_CONSTRUCTOR : Sta Z h0 "com/example/headtail/headtail/abi/AbiEntry$Kind" "CONSTRUCTOR" "Lcom/example/headtail/headtail/abi/AbiEntry$Kind;" (.ref w_CONSTRUCTOR)) (E_CONSTRUCTOR : Exa Z h0 w_CONSTRUCTOR "com/example/headtail/headtail/abi/AbiEntry$Kind") (S_EVENT : Sta Z h0 "com/example/headtail/headtail/abi/AbiEntry$Kind" "EVENT" "Lcom/example/headtail/headtail/abi/AbiEntry$Kind;" (.ref w_EVENT)) (E_EVENT : Exa Z h0 w_EVENT "com/example/headtail/headtail/abi/AbiEntry$Kind") (F_ordinal_FALLBACK : Fld Z h0 w_FALLBACK "java/lang/Enum" "ordinal" "I" (.int (3 : Int32))) (F_ordinal_FUNCTION : Fld Z h0 w_FUNCTION "java/lang/Enum" "ordinal" "I" (.int (0 : Int32))) (F_ordinal_ERROR : Fld Z h0 w_ERROR "java/lang/Enum" "ordinal" "I" (.int (5 : Int32))) (F_ordinal_RECEIVE : Fld Z h0 w_RECEIVE "java/lang/Enum" "ordinal" "I" (.int (2 : Int32))) (F_ordinal_CONSTRUCTOR : Fld Z h0 w_CONSTRUCTOR "java/lang/Enum" "ordinal" "I" (.int (1 : Int32))) (F_ordinal_EVENT : Fld Z h0 w_EVENT "java/lang/Enum" "ordinal" "I" (.int (4 : Int32))) :
    MetFree l x (head1 (Jvm.Cond.code x code maxLocals ret :: ws) room_1) (fun a U => a = #[(.int p0)] ∧ Z.Warmed39 U.vm ∧ U.heap = h0) (fun _ _ _ _ _ => True) (fun _ U o U' => ∃ v L, o = .returned v ∧ Q_rm0 Z p0 w_FUNCTION w_FALLBACK w_ERROR w_RECEIVE w_CONSTRUCTOR w_EVENT h0 n0 v U'.heap L ∧ FrameEnd U o U' L room_1.cells room_1.slots) := by
  refine MetFree.of_bodySF (plainFor_of_name pn_com_example_headtail_headtail_abi_KindHasSelectorPinLaw) hisR ?_
  intro p e s m args below meth c s₁ Bd hml0 hP hK
  obtain ⟨rfl, hZ, hh⟩ := hP
  have hx := Bd.exec
  have hby := Bd.bytes
  have hml : c.maxLocals = 4 := hml0
  have hown : s.vm.findClass "com/example/headtail/headtail/abi/KindHasSelectorPinLaw" = some m.cls := findClass_of_methodNamed Bd.named
  have hnm := (name_of_methodNamed Bd.named Bd.method).1
  have X0 : Stand p l e room_1 s m #[(.int p0)] below meth c s₁ [] 0 0 := Stand.of_body Bd
  have e0 : s₁.heap = h0 := by rw [← hh, Bd.state]; rfl
  have N0 := Fr.nil n0
  have pre0 : ∀ t, Steps p.tables e below (s₁.setTop (mkF m 0 #[.val (.int p0), .unset, .unset, .unset] [])) t → Steps p.tables e below (s₁.setTop (entryFrame m #[(.int p0)] maxLocals)) t := fun t k => castTop (ef_rm0 m p0) k
  have ne_FUNCTION_FALLBACK : w_FUNCTION ≠ w_FALLBACK := Fld.ne F_ordinal_FUNCTION F_ordinal_FALLBACK (fun q => absurd (Value.int.inj q) (by decide))
  have ne_FUNCTION_ERROR : w_FUNCTION ≠ w_ERROR := Fld.ne F_ordinal_FUNCTION F_ordinal_ERROR (fun q => absurd (Value.int.inj q) (by decide))
  have ne_FUNCTION_RECEIVE : w_FUNCTION ≠ w_RECEIVE := Fld.ne F_ordinal_FUNCTION F_ordinal_RECEIVE (fun q => absurd (Value.int.inj q) (by decide))
  have ne_FUNCTION_CONSTRUCTOR : w_FUNCTION ≠ w_CONSTRUCTOR := Fld.ne F_ordinal_FUNCTION F_ordinal_CONSTRUCTOR (fun q => absurd (Value.int.inj q) (by decide))
  have ne_FUNCTION_EVENT : w_FUNCTION ≠ w_EVENT := Fld.ne F_ordinal_FUNCTION F_ordinal_EVENT (fun q => absurd (Value.int.inj q) (by decide))
  have ne_FALLBACK_FUNCTION : w_FALLBACK ≠ w_FUNCTION := Fld.ne F_ordinal_FALLBACK F_ordinal_FUNCTION (fun q => absurd (Value.int.inj q) (by decide))
  have ne_FALLBACK_ERROR : w_FALLBACK ≠ w_ERROR := Fld.ne F_ordinal_FALLBACK F_ordinal_ERROR (fun q => absurd (Value.int.inj q) (by decide))
  have ne_FALLBACK_RECEIVE : w_FALLBACK ≠ w_RECEIVE := Fld.ne F_ordinal_FALLBACK F_ordinal_RECEIVE (fun q => absurd (Value.int.inj q) (by decide))
  have ne_FALLBACK_CONSTRUCTOR : w_FALLBACK ≠ w_CONSTRUCTOR := Fld.ne F_ordinal_FALLBACK F_ordinal_CONSTRUCTOR (fun q => absurd (Value.int.inj q) (by decide))
  have ne_FALLBACK_EVENT : w_FALLBACK ≠ w_EVENT := Fld.ne F_ordinal_FALLBACK F_ordinal_EVENT (fun q => absurd (Value.int.inj q) (by decide))
  have ne_ERROR_FUNCTION : w_ERROR ≠ w_FUNCTION := Fld.ne F_ordinal_ERROR F_ordinal_FUNCTION (fun q => absurd (Value.int.inj q) (by decide))
  have ne_ERROR_FALLBACK : w_ERROR ≠ w_FALLBACK := Fld.ne F_ordinal_ERROR F_ordinal_FALLBACK (fun q => absurd (Value.int.inj q) (by decide))
  have ne_ERROR_RECEIVE : w_ERROR ≠ w_RECEIVE := Fld.ne F_ordinal_ERROR F_ordinal_RECEIVE (fun q => absurd (Value.int.inj q) (by decide))
  have ne_ERROR_CONSTRUCTOR : w_ERROR ≠ w_CONSTRUCTOR := Fld.ne F_ordinal_ERROR F_ordinal_CONSTRUCTOR (fun q => absurd (Value.int.inj q) (by decide))
  have ne_ERROR_EVENT : w_ERROR ≠ w_EVENT := Fld.ne F_ordinal_ERROR F_ordinal_EVENT (fun q => absurd (Value.int.inj q) (by decide))
  have ne_RECEIVE_FUNCTION : w_RECEIVE ≠ w_FUNCTION := Fld.ne F_ordinal_RECEIVE F_ordinal_FUNCTION (fun q => absurd (Value.int.inj q) (by decide))
  have ne_RECEIVE_FALLBACK : w_RECEIVE ≠ w_FALLBACK := Fld.ne F_ordinal_RECEIVE F_ordinal_FALLBACK (fun q => absurd (Value.int.inj q) (by decide))
  have ne_RECEIVE_ERROR : w_RECEIVE ≠ w_ERROR := Fld.ne F_ordinal_RECEIVE F_ordinal_ERROR (fun q => absurd (Value.int.inj q) (by decide))
  have ne_RECEIVE_CONSTRUCTOR : w_RECEIVE ≠ w_CONSTRUCTOR := Fld.ne F_ordinal_RECEIVE F_ordinal_CONSTRUCTOR (fun q => absurd (Value.int.inj q) (by decide))
  have ne_RECEIVE_EVENT : w_RECEIVE ≠ w_EVENT := Fld.ne F_ordinal_RECEIVE F_ordinal_EVENT (fun q => absurd (Value.int.inj q) (by decide))
  have ne_CONSTRUCTOR_FUNCTION : w_CONSTRUCTOR ≠ w_FUNCTION := Fld.ne F_ordinal_CONSTRUCTOR F_ordinal_FUNCTION (fun q => absurd (Value.int.inj q) (by decide))
  have ne_CONSTRUCTOR_FALLBACK : w_CONSTRUCTOR ≠ w_FALLBACK := Fld.ne F_ordinal_CONSTRUCTOR F_ordinal_FALLBACK (fun q => absurd (Value.int.inj q) (by decide))
  have ne_CONSTRUCTOR_ERROR : w_CONSTRUCTOR ≠ w_ERROR := Fld.ne F_ordinal_CONSTRUCTOR F_ordinal_ERROR (fun q => absurd (Value.int.inj q) (by decide))
  have ne_CONSTRUCTOR_RECEIVE : w_CONSTRUCTOR ≠ w_RECEIVE := Fld.ne F_ordinal_CONSTRUCTOR F_ordinal_RECEIVE (fun q => absurd (Value.int.inj q) (by decide))
  have ne_CONSTRUCTOR_EVENT : w_CONSTRUCTOR ≠ w_EVENT := Fld.ne F_ordinal_CONSTRUCTOR F_ordinal_EVENT (fun q => absurd (Value.int.inj q) (by decide))
  have ne_EVENT_FUNCTION : w_EVENT ≠ w_FUNCTION := Fld.ne F_ordinal_EVENT F_ordinal_FUNCTION (fun q => absurd (Value.int.inj q) (by decide))
  have ne_EVENT_FALLBACK : w_EVENT ≠ w_FALLBACK := Fld.ne F_ordinal_EVENT F_ordinal_FALLBACK (fun q => absurd (Value.int.inj q) (by decide))
  have ne_EVENT_ERROR : w_EVENT ≠ w_ERROR := Fld.ne F_ordinal_EVENT F_ordinal_ERROR (fun q => absurd (Value.int.inj q) (by decide))
  have ne_EVENT_RECEIVE : w_EVENT ≠ w_RECEIVE := Fld.ne F_ordinal_EVENT F_ordinal_RECEIVE (fun q => absurd (Value.int.inj q) (by decide))
  have ne_EVENT_CONSTRUCTOR : w_EVENT ≠ w_CONSTRUCTOR := Fld.ne F_ordinal_EVENT F_ordinal_CONSTRUCTOR (fun q => absurd (Value.int.inj q) (by decide))
  have pre32 : ∀ t, Steps p.tables e below (s₁.setTop (mkF m 8 #[.val (.int p0), .val (.int ((p0 &&& (2147483647 : Int32)) % (6 : Int32))), .unset, .unset] [])) t → Steps p.tables e below (s₁.setTop (entryFrame m #[(.int p0)] maxLocals)) t := by
    intro t kt
    refine pre0 t ?_
    show Steps p.tables e below (s₁.setTop (mkF m 0 #[.val (.int p0), .unset, .unset, .unset] [])) _
    refine XS.iloadN X0.here hx rfl (hb hby at_0) rfl ?_
    show Steps p.tables e below (s₁.setTop (mkF m 1 #[.val (.int p0), .unset, .unset, .unset] [(.int p0)])) _
    refine X0.ldcInt hx hown (mvT hZ (hw _ (List.mem_of_getElem? (i := 0) rfl))) (g := (mkF m 1 #[.val (.int p0), .unset, .unset, .unset] [(.int p0)])) rfl (hb hby at_1) _ ?_
    show Steps p.tables e below (s₁.setTop (mkF m 3 #[.val (.int p0), .unset, .unset, .unset] [(.int (2147483647 : Int32)), (.int p0)])) _
    refine XS.iand X0.here hx rfl (hb hby at_3) rfl ?_
    show Steps p.tables e below (s₁.setTop (mkF m 4 #[.val (.int p0), .unset, .unset, .unset] [(.int (p0 &&& (2147483647 : Int32)))])) _
    refine XS.bipush X0.here hx rfl (hb hby at_4) ?_
    show Steps p.tables e below (s₁.setTop (mkF m 6 #[.val (.int p0), .unset, .unset, .unset] [(.int (6 : Int32)), (.int (p0 &&& (2147483647 : Int32)))])) _
    refine iremM X0 hx rfl (hb hby at_6) rfl (by decide) ?_
    show Steps p.tables e below (s₁.setTop (mkF m 7 #[.val (.int p0), .unset, .unset, .unset] [(.int ((p0 &&& (2147483647 : Int32)) % (6 : Int32)))])) _
    refine XS.istoreN X0.here hx rfl (hb hby at_7) rfl (l' := #[.val (.int p0), .val (.int ((p0 &&& (2147483647 : Int32)) % (6 : Int32))), .unset, .unset]) rfl ?_
    exact kt
  rcases own_cases6 (own_rem6 p0).1 (own_rem6 p0).2 with hk | hk | hk | hk | hk | hk
  · rw [hk] at pre32
    obtain ⟨_, _, ⟨T33, L33, k33, n33⟩, -, X33, ⟨Lc33, hQ33, l33, y33, z33⟩, st33⟩ := Jvm.LawKit.callS X0 hx (y := (⟨"com/example/headtail/headtail/abi/KindHasSelectorPinLaw", "kindOf", "(I)Lcom/example/headtail/headtail/abi/AbiEntry$Kind;"⟩ : MethodName)) hown (mvT hZ (hw _ (List.mem_of_getElem? (i := 1) rfl))) (mvT hZ (hw _ (List.mem_of_getElem? (i := 2) rfl))) (mvT hZ (hw _ (List.mem_of_getElem? (i := 3) rfl))) (mvT hZ (hw _ (List.mem_of_getElem? (i := 4) rfl))) (by decide) (backOf (W := 0) (rm_k l Z a0 hw [] (0 : Int32) w_FUNCTION w_CONSTRUCTOR w_RECEIVE w_FALLBACK w_EVENT w_ERROR w_FUNCTION h0 n0 Z0 S_FUNCTION S_CONSTRUCTOR S_RECEIVE S_FALLBACK S_EVENT S_ERROR (by simp +decide)) hZ (hw _ (List.mem_of_getElem? (i := 4) rfl)) (hw _ (List.mem_of_getElem? (i := 3) rfl)) (by decide) (by decide)) (g := (mkF m 9 #[.val (.int p0), .val (.int (0 : Int32)), .unset, .unset] [(.int (0 : Int32))])) rfl (by rw [hml]; rfl) (argsL := [(.int (0 : Int32))]) (rest := []) (lenOf pd__I_Lcom_example_headtail_headtail_abi_AbiEntry_Kind_ rfl) rfl (by show 2 * 0 + _ ≤ _; exact Nat.le_of_eq rfl) (hb hby at_9) (fun _ _ => ⟨rfl, e0, (by decide : 0 + 0 ≤ _), (by decide : 0 + 0 ≤ _)⟩)
    dsimp only [Pt.U, Pt.locs, Pt.cells, Pt.slots] at X33 l33 y33 z33 st33 hQ33
    subst l33 y33 z33
    obtain ⟨rfl, N33q, e33⟩ := hQ33
    have N33 := Fr.app N0 N33q
    obtain ⟨cq34, kq34, q34a, q34b, q34c⟩ := isOf hZ e33 E_FUNCTION
    obtain ⟨_, _, ⟨T34, L34, k34, n34⟩, -, X34, ⟨Lc34, hQ34, l34, y34, z34⟩, st34⟩ := X33.virtualBack hx (y := (⟨"com/example/headtail/headtail/abi/AbiEntry$Kind", "hasSelector", "()Z"⟩ : MethodName)) (z := (⟨"com/example/headtail/headtail/abi/AbiEntry$Kind", "hasSelector", "()Z"⟩ : MethodName)) hown (mvT hZ (hw _ (List.mem_of_getElem? (i := 8) rfl))) (mvT hZ (hw _ (List.mem_of_getElem? (i := 9) rfl))) (notFace_of_selects (args := #[]) (mvT hZ (hw _ (List.mem_of_getElem? (i := 11) rfl)))) (mvT hZ (hw _ (List.mem_of_getElem? (i := 11) rfl))) (mvT hZ (hw _ (List.mem_of_getElem? (i := 10) rfl))) (by decide) (backOf (W := 0) (rm_p l Z a0 hw [] w_FUNCTION w_FUNCTION w_ERROR (1 : Int32) h0 n0 Z0 S_FUNCTION S_ERROR (by simp [ne_FUNCTION_ERROR])) hZ (hw _ (List.mem_of_getElem? (i := 12) rfl)) (hw _ (List.mem_of_getElem? (i := 6) rfl)) (by decide) (by decide)) q34a q34c (g := (mkF m 29 #[.val (.int p0), .val (.int (0 : Int32)), .val (.ref w_FUNCTION), .val (.int (1 : Int32))] [(.ref w_FUNCTION)])) rfl (by rw [hml]; rfl) (Steps.refl _) (argsL := []) (rest := []) (lenOf pd___Z rfl) rfl (by show 2 * 0 + _ ≤ _; exact Nat.le_of_eq rfl) (hb hby at_29) (fun _ _ => ⟨rfl, e33, (by decide : 0 + 0 ≤ _), (by decide : 0 + 0 ≤ _)⟩)
    dsimp only [Pt.U, Pt.locs, Pt.cells, Pt.slots] at X34 l34 y34 z34 st34 hQ34
    subst l34 y34 z34
    obtain ⟨rfl, N34q, e34⟩ := hQ34
    have N34 := Fr.app N33 N34q
    have pre35 : ∀ t, Steps p.tables e below (T34.setTop (mkF m 41 #[.val (.int p0), .val (.int (0 : Int32)), .val (.ref w_FUNCTION), .val (.int (1 : Int32))] [(.int (1 : Int32))])) t → Steps p.tables e below (s₁.setTop (entryFrame m #[(.int p0)] maxLocals)) t := by
      intro t kt
      refine pre32 t ?_
      show Steps p.tables e below (s₁.setTop (mkF m 8 #[.val (.int p0), .val (.int (0 : Int32)), .unset, .unset] [])) _
      refine XS.iloadN X0.here hx rfl (hb hby at_8) rfl ?_
      show Steps p.tables e below (s₁.setTop (mkF m 9 #[.val (.int p0), .val (.int (0 : Int32)), .unset, .unset] [(.int (0 : Int32))])) _
      refine st33 _ ?_
      show Steps p.tables e below (T33.setTop (mkF m 12 #[.val (.int p0), .val (.int (0 : Int32)), .unset, .unset] [(.ref w_FUNCTION)])) _
      refine XS.astoreN X33.here hx rfl (hb hby at_12) rfl rfl (l' := #[.val (.int p0), .val (.int (0 : Int32)), .val (.ref w_FUNCTION), .unset]) rfl ?_
      show Steps p.tables e below (T33.setTop (mkF m 13 #[.val (.int p0), .val (.int (0 : Int32)), .val (.ref w_FUNCTION), .unset] [])) _
      refine XS.iloadN X33.here hx rfl (hb hby at_13) rfl ?_
      show Steps p.tables e below (T33.setTop (mkF m 14 #[.val (.int p0), .val (.int (0 : Int32)), .val (.ref w_FUNCTION), .unset] [(.int (0 : Int32))])) _
      refine XS.ifYes X33.here hx rfl (pc0 := 14) (pc' := 22) rfl (hb hby at_14) rfl ((if0 _ _).trans (teq (by decide : (0 : Int32) = (0 : Int32))).1) (by decide) (by decide) ?_
      show Steps p.tables e below (T33.setTop (mkF m 22 #[.val (.int p0), .val (.int (0 : Int32)), .val (.ref w_FUNCTION), .unset] [])) _
      refine XS.iconst X33.here hx rfl (hb hby at_22) ?_
      show Steps p.tables e below (T33.setTop (mkF m 23 #[.val (.int p0), .val (.int (0 : Int32)), .val (.ref w_FUNCTION), .unset] [(.int (1 : Int32))])) _
      refine XS.goto X33.here hx rfl (pc0 := 23) (pc' := 27) rfl (hb hby at_23) (by decide) (by decide) ?_
      show Steps p.tables e below (T33.setTop (mkF m 27 #[.val (.int p0), .val (.int (0 : Int32)), .val (.ref w_FUNCTION), .unset] [(.int (1 : Int32))])) _
      refine XS.istoreN X33.here hx rfl (hb hby at_27) rfl (l' := #[.val (.int p0), .val (.int (0 : Int32)), .val (.ref w_FUNCTION), .val (.int (1 : Int32))]) rfl ?_
      show Steps p.tables e below (T33.setTop (mkF m 28 #[.val (.int p0), .val (.int (0 : Int32)), .val (.ref w_FUNCTION), .val (.int (1 : Int32))] [])) _
      refine XS.aloadN X33.here hx rfl (hb hby at_28) rfl rfl ?_
      show Steps p.tables e below (T33.setTop (mkF m 29 #[.val (.int p0), .val (.int (0 : Int32)), .val (.ref w_FUNCTION), .val (.int (1 : Int32))] [(.ref w_FUNCTION)])) _
      refine st34.trans ?_
      show Steps p.tables e below (T34.setTop (mkF m 32 #[.val (.int p0), .val (.int (0 : Int32)), .val (.ref w_FUNCTION), .val (.int (1 : Int32))] [(.int (1 : Int32))])) _
      refine XS.iloadN X34.here hx rfl (hb hby at_32) rfl ?_
      show Steps p.tables e below (T34.setTop (mkF m 33 #[.val (.int p0), .val (.int (0 : Int32)), .val (.ref w_FUNCTION), .val (.int (1 : Int32))] [(.int (1 : Int32)), (.int (1 : Int32))])) _
      refine XS.icmpNo X34.here hx rfl (hb hby at_33) rfl (teq (by decide : (1 : Int32) = (1 : Int32))).2 ?_
      show Steps p.tables e below (T34.setTop (mkF m 36 #[.val (.int p0), .val (.int (0 : Int32)), .val (.ref w_FUNCTION), .val (.int (1 : Int32))] [])) _
      refine XS.iconst X34.here hx rfl (hb hby at_36) ?_
      show Steps p.tables e below (T34.setTop (mkF m 37 #[.val (.int p0), .val (.int (0 : Int32)), .val (.ref w_FUNCTION), .val (.int (1 : Int32))] [(.int (1 : Int32))])) _
      refine XS.goto X34.here hx rfl (pc0 := 37) (pc' := 41) rfl (hb hby at_37) (by decide) (by decide) ?_
      exact kt
    obtain ⟨fs, hr, hrun, hended, hW, hsame⟩ := X34.leave (v := some (.int (1 : Int32))) (fun h => by rw [Bd.returns] at h; cases h)
    refine ⟨_, _, pre35 _ ?_, hrun, hended, _, _, rfl, ?_, ⟨_, rfl⟩, hW, hsame.mono (by decide) (by decide)⟩
    · show Steps p.tables e below (T34.setTop (mkF m 41 #[.val (.int p0), .val (.int (0 : Int32)), .val (.ref w_FUNCTION), .val (.int (1 : Int32))] [(.int (1 : Int32))])) _
      exact retN X34 hx (t := .boolean) Bd.returns (by simp) (hb hby at_41) hr
    · show Q_rm0 Z p0 w_FUNCTION w_FALLBACK w_ERROR w_RECEIVE w_CONSTRUCTOR w_EVENT h0 n0 _ T34.heap _
      rw [e34]
      exact ⟨rfl, N34⟩
  · rw [hk] at pre32
    obtain ⟨_, _, ⟨T36, L36, k36, n36⟩, -, X36, ⟨Lc36, hQ36, l36, y36, z36⟩, st36⟩ := Jvm.LawKit.callS X0 hx (y := (⟨"com/example/headtail/headtail/abi/KindHasSelectorPinLaw", "kindOf", "(I)Lcom/example/headtail/headtail/abi/AbiEntry$Kind;"⟩ : MethodName)) hown (mvT hZ (hw _ (List.mem_of_getElem? (i := 1) rfl))) (mvT hZ (hw _ (List.mem_of_getElem? (i := 2) rfl))) (mvT hZ (hw _ (List.mem_of_getElem? (i := 3) rfl))) (mvT hZ (hw _ (List.mem_of_getElem? (i := 4) rfl))) (by decide) (backOf (W := 0) (rm_k l Z a0 hw [] (1 : Int32) w_FUNCTION w_CONSTRUCTOR w_RECEIVE w_FALLBACK w_EVENT w_ERROR w_CONSTRUCTOR h0 n0 Z0 S_FUNCTION S_CONSTRUCTOR S_RECEIVE S_FALLBACK S_EVENT S_ERROR (by simp +decide)) hZ (hw _ (List.mem_of_getElem? (i := 4) rfl)) (hw _ (List.mem_of_getElem? (i := 3) rfl)) (by decide) (by decide)) (g := (mkF m 9 #[.val (.int p0), .val (.int (1 : Int32)), .unset, .unset] [(.int (1 : Int32))])) rfl (by rw [hml]; rfl) (argsL := [(.int (1 : Int32))]) (rest := []) (lenOf pd__I_Lcom_example_headtail_headtail_abi_AbiEntry_Kind_ rfl) rfl (by show 2 * 0 + _ ≤ _; exact Nat.le_of_eq rfl) (hb hby at_9) (fun _ _ => ⟨rfl, e0, (by decide : 0 + 0 ≤ _), (by decide : 0 + 0 ≤ _)⟩)
    dsimp only [Pt.U, Pt.locs, Pt.cells, Pt.slots] at X36 l36 y36 z36 st36 hQ36
    subst l36 y36 z36
    obtain ⟨rfl, N36q, e36⟩ := hQ36
    have N36 := Fr.app N0 N36q
    obtain ⟨cq37, kq37, q37a, q37b, q37c⟩ := isOf hZ e36 E_CONSTRUCTOR
    obtain ⟨_, _, ⟨T37, L37, k37, n37⟩, -, X37, ⟨Lc37, hQ37, l37, y37, z37⟩, st37⟩ := X36.virtualBack hx (y := (⟨"com/example/headtail/headtail/abi/AbiEntry$Kind", "hasSelector", "()Z"⟩ : MethodName)) (z := (⟨"com/example/headtail/headtail/abi/AbiEntry$Kind", "hasSelector", "()Z"⟩ : MethodName)) hown (mvT hZ (hw _ (List.mem_of_getElem? (i := 8) rfl))) (mvT hZ (hw _ (List.mem_of_getElem? (i := 9) rfl))) (notFace_of_selects (args := #[]) (mvT hZ (hw _ (List.mem_of_getElem? (i := 11) rfl)))) (mvT hZ (hw _ (List.mem_of_getElem? (i := 11) rfl))) (mvT hZ (hw _ (List.mem_of_getElem? (i := 10) rfl))) (by decide) (backOf (W := 0) (rm_p l Z a0 hw [] w_CONSTRUCTOR w_FUNCTION w_ERROR (0 : Int32) h0 n0 Z0 S_FUNCTION S_ERROR (by simp [ne_CONSTRUCTOR_FUNCTION, ne_CONSTRUCTOR_ERROR])) hZ (hw _ (List.mem_of_getElem? (i := 12) rfl)) (hw _ (List.mem_of_getElem? (i := 6) rfl)) (by decide) (by decide)) q37a q37c (g := (mkF m 29 #[.val (.int p0), .val (.int (1 : Int32)), .val (.ref w_CONSTRUCTOR), .val (.int (0 : Int32))] [(.ref w_CONSTRUCTOR)])) rfl (by rw [hml]; rfl) (Steps.refl _) (argsL := []) (rest := []) (lenOf pd___Z rfl) rfl (by show 2 * 0 + _ ≤ _; exact Nat.le_of_eq rfl) (hb hby at_29) (fun _ _ => ⟨rfl, e36, (by decide : 0 + 0 ≤ _), (by decide : 0 + 0 ≤ _)⟩)
    dsimp only [Pt.U, Pt.locs, Pt.cells, Pt.slots] at X37 l37 y37 z37 st37 hQ37
    subst l37 y37 z37
    obtain ⟨rfl, N37q, e37⟩ := hQ37
    have N37 := Fr.app N36 N37q
    have pre38 : ∀ t, Steps p.tables e below (T37.setTop (mkF m 41 #[.val (.int p0), .val (.int (1 : Int32)), .val (.ref w_CONSTRUCTOR), .val (.int (0 : Int32))] [(.int (1 : Int32))])) t → Steps p.tables e below (s₁.setTop (entryFrame m #[(.int p0)] maxLocals)) t := by
      intro t kt
      refine pre32 t ?_
      show Steps p.tables e below (s₁.setTop (mkF m 8 #[.val (.int p0), .val (.int (1 : Int32)), .unset, .unset] [])) _
      refine XS.iloadN X0.here hx rfl (hb hby at_8) rfl ?_
      show Steps p.tables e below (s₁.setTop (mkF m 9 #[.val (.int p0), .val (.int (1 : Int32)), .unset, .unset] [(.int (1 : Int32))])) _
      refine st36 _ ?_
      show Steps p.tables e below (T36.setTop (mkF m 12 #[.val (.int p0), .val (.int (1 : Int32)), .unset, .unset] [(.ref w_CONSTRUCTOR)])) _
      refine XS.astoreN X36.here hx rfl (hb hby at_12) rfl rfl (l' := #[.val (.int p0), .val (.int (1 : Int32)), .val (.ref w_CONSTRUCTOR), .unset]) rfl ?_
      show Steps p.tables e below (T36.setTop (mkF m 13 #[.val (.int p0), .val (.int (1 : Int32)), .val (.ref w_CONSTRUCTOR), .unset] [])) _
      refine XS.iloadN X36.here hx rfl (hb hby at_13) rfl ?_
      show Steps p.tables e below (T36.setTop (mkF m 14 #[.val (.int p0), .val (.int (1 : Int32)), .val (.ref w_CONSTRUCTOR), .unset] [(.int (1 : Int32))])) _
      refine XS.ifNo X36.here hx rfl (hb hby at_14) rfl ((if0 _ _).trans (feq (by decide : ¬ ((1 : Int32) = (0 : Int32)))).1) ?_
      show Steps p.tables e below (T36.setTop (mkF m 17 #[.val (.int p0), .val (.int (1 : Int32)), .val (.ref w_CONSTRUCTOR), .unset] [])) _
      refine XS.iloadN X36.here hx rfl (hb hby at_17) rfl ?_
      show Steps p.tables e below (T36.setTop (mkF m 18 #[.val (.int p0), .val (.int (1 : Int32)), .val (.ref w_CONSTRUCTOR), .unset] [(.int (1 : Int32))])) _
      refine XS.iconst X36.here hx rfl (hb hby at_18) ?_
      show Steps p.tables e below (T36.setTop (mkF m 19 #[.val (.int p0), .val (.int (1 : Int32)), .val (.ref w_CONSTRUCTOR), .unset] [(.int (5 : Int32)), (.int (1 : Int32))])) _
      refine XS.icmpYes X36.here hx rfl (pc0 := 19) (pc' := 26) rfl (hb hby at_19) rfl (feq (by decide : ¬ ((1 : Int32) = (5 : Int32)))).2 (by decide) (by decide) ?_
      show Steps p.tables e below (T36.setTop (mkF m 26 #[.val (.int p0), .val (.int (1 : Int32)), .val (.ref w_CONSTRUCTOR), .unset] [])) _
      refine XS.iconst X36.here hx rfl (hb hby at_26) ?_
      show Steps p.tables e below (T36.setTop (mkF m 27 #[.val (.int p0), .val (.int (1 : Int32)), .val (.ref w_CONSTRUCTOR), .unset] [(.int (0 : Int32))])) _
      refine XS.istoreN X36.here hx rfl (hb hby at_27) rfl (l' := #[.val (.int p0), .val (.int (1 : Int32)), .val (.ref w_CONSTRUCTOR), .val (.int (0 : Int32))]) rfl ?_
      show Steps p.tables e below (T36.setTop (mkF m 28 #[.val (.int p0), .val (.int (1 : Int32)), .val (.ref w_CONSTRUCTOR), .val (.int (0 : Int32))] [])) _
      refine XS.aloadN X36.here hx rfl (hb hby at_28) rfl rfl ?_
      show Steps p.tables e below (T36.setTop (mkF m 29 #[.val (.int p0), .val (.int (1 : Int32)), .val (.ref w_CONSTRUCTOR), .val (.int (0 : Int32))] [(.ref w_CONSTRUCTOR)])) _
      refine st37.trans ?_
      show Steps p.tables e below (T37.setTop (mkF m 32 #[.val (.int p0), .val (.int (1 : Int32)), .val (.ref w_CONSTRUCTOR), .val (.int (0 : Int32))] [(.int (0 : Int32))])) _
      refine XS.iloadN X37.here hx rfl (hb hby at_32) rfl ?_
      show Steps p.tables e below (T37.setTop (mkF m 33 #[.val (.int p0), .val (.int (1 : Int32)), .val (.ref w_CONSTRUCTOR), .val (.int (0 : Int32))] [(.int (0 : Int32)), (.int (0 : Int32))])) _
      refine XS.icmpNo X37.here hx rfl (hb hby at_33) rfl (teq (by decide : (0 : Int32) = (0 : Int32))).2 ?_
      show Steps p.tables e below (T37.setTop (mkF m 36 #[.val (.int p0), .val (.int (1 : Int32)), .val (.ref w_CONSTRUCTOR), .val (.int (0 : Int32))] [])) _
      refine XS.iconst X37.here hx rfl (hb hby at_36) ?_
      show Steps p.tables e below (T37.setTop (mkF m 37 #[.val (.int p0), .val (.int (1 : Int32)), .val (.ref w_CONSTRUCTOR), .val (.int (0 : Int32))] [(.int (1 : Int32))])) _
      refine XS.goto X37.here hx rfl (pc0 := 37) (pc' := 41) rfl (hb hby at_37) (by decide) (by decide) ?_
      exact kt
    obtain ⟨fs, hr, hrun, hended, hW, hsame⟩ := X37.leave (v := some (.int (1 : Int32))) (fun h => by rw [Bd.returns] at h; cases h)
    refine ⟨_, _, pre38 _ ?_, hrun, hended, _, _, rfl, ?_, ⟨_, rfl⟩, hW, hsame.mono (by decide) (by decide)⟩
    · show Steps p.tables e below (T37.setTop (mkF m 41 #[.val (.int p0), .val (.int (1 : Int32)), .val (.ref w_CONSTRUCTOR), .val (.int (0 : Int32))] [(.int (1 : Int32))])) _
      exact retN X37 hx (t := .boolean) Bd.returns (by simp) (hb hby at_41) hr
    · show Q_rm0 Z p0 w_FUNCTION w_FALLBACK w_ERROR w_RECEIVE w_CONSTRUCTOR w_EVENT h0 n0 _ T37.heap _
      rw [e37]
      exact ⟨rfl, N37⟩
  · rw [hk] at pre32
    obtain ⟨_, _, ⟨T39, L39, k39, n39⟩, -, X39, ⟨Lc39, hQ39, l39, y39, z39⟩, st39⟩ := Jvm.LawKit.callS X0 hx (y := (⟨"com/example/headtail/headtail/abi/KindHasSelectorPinLaw", "kindOf", "(I)Lcom/example/headtail/headtail/abi/AbiEntry$Kind;"⟩ : MethodName)) hown (mvT hZ (hw _ (List.mem_of_getElem? (i := 1) rfl))) (mvT hZ (hw _ (List.mem_of_getElem? (i := 2) rfl))) (mvT hZ (hw _ (List.mem_of_getElem? (i := 3) rfl))) (mvT hZ (hw _ (List.mem_of_getElem? (i := 4) rfl))) (by decide) (backOf (W := 0) (rm_k l Z a0 hw [] (2 : Int32) w_FUNCTION w_CONSTRUCTOR w_RECEIVE w_FALLBACK w_EVENT w_ERROR w_RECEIVE h0 n0 Z0 S_FUNCTION S_CONSTRUCTOR S_RECEIVE S_FALLBACK S_EVENT S_ERROR (by simp +decide)) hZ (hw _ (List.mem_of_getElem? (i := 4) rfl)) (hw _ (List.mem_of_getElem? (i := 3) rfl)) (by decide) (by decide)) (g := (mkF m 9 #[.val (.int p0), .val (.int (2 : Int32)), .unset, .unset] [(.int (2 : Int32))])) rfl (by rw [hml]; rfl) (argsL := [(.int (2 : Int32))]) (rest := []) (lenOf pd__I_Lcom_example_headtail_headtail_abi_AbiEntry_Kind_ rfl) rfl (by show 2 * 0 + _ ≤ _; exact Nat.le_of_eq rfl) (hb hby at_9) (fun _ _ => ⟨rfl, e0, (by decide : 0 + 0 ≤ _), (by decide : 0 + 0 ≤ _)⟩)
    dsimp only [Pt.U, Pt.locs, Pt.cells, Pt.slots] at X39 l39 y39 z39 st39 hQ39
    subst l39 y39 z39
    obtain ⟨rfl, N39q, e39⟩ := hQ39
    have N39 := Fr.app N0 N39q
    obtain ⟨cq40, kq40, q40a, q40b, q40c⟩ := isOf hZ e39 E_RECEIVE
    obtain ⟨_, _, ⟨T40, L40, k40, n40⟩, -, X40, ⟨Lc40, hQ40, l40, y40, z40⟩, st40⟩ := X39.virtualBack hx (y := (⟨"com/example/headtail/headtail/abi/AbiEntry$Kind", "hasSelector", "()Z"⟩ : MethodName)) (z := (⟨"com/example/headtail/headtail/abi/AbiEntry$Kind", "hasSelector", "()Z"⟩ : MethodName)) hown (mvT hZ (hw _ (List.mem_of_getElem? (i := 8) rfl))) (mvT hZ (hw _ (List.mem_of_getElem? (i := 9) rfl))) (notFace_of_selects (args := #[]) (mvT hZ (hw _ (List.mem_of_getElem? (i := 11) rfl)))) (mvT hZ (hw _ (List.mem_of_getElem? (i := 11) rfl))) (mvT hZ (hw _ (List.mem_of_getElem? (i := 10) rfl))) (by decide) (backOf (W := 0) (rm_p l Z a0 hw [] w_RECEIVE w_FUNCTION w_ERROR (0 : Int32) h0 n0 Z0 S_FUNCTION S_ERROR (by simp [ne_RECEIVE_FUNCTION, ne_RECEIVE_ERROR])) hZ (hw _ (List.mem_of_getElem? (i := 12) rfl)) (hw _ (List.mem_of_getElem? (i := 6) rfl)) (by decide) (by decide)) q40a q40c (g := (mkF m 29 #[.val (.int p0), .val (.int (2 : Int32)), .val (.ref w_RECEIVE), .val (.int (0 : Int32))] [(.ref w_RECEIVE)])) rfl (by rw [hml]; rfl) (Steps.refl _) (argsL := []) (rest := []) (lenOf pd___Z rfl) rfl (by show 2 * 0 + _ ≤ _; exact Nat.le_of_eq rfl) (hb hby at_29) (fun _ _ => ⟨rfl, e39, (by decide : 0 + 0 ≤ _), (by decide : 0 + 0 ≤ _)⟩)
    dsimp only [Pt.U, Pt.locs, Pt.cells, Pt.slots] at X40 l40 y40 z40 st40 hQ40
    subst l40 y40 z40
    obtain ⟨rfl, N40q, e40⟩ := hQ40
    have N40 := Fr.app N39 N40q
    have pre41 : ∀ t, Steps p.tables e below (T40.setTop (mkF m 41 #[.val (.int p0), .val (.int (2 : Int32)), .val (.ref w_RECEIVE), .val (.int (0 : Int32))] [(.int (1 : Int32))])) t → Steps p.tables e below (s₁.setTop (entryFrame m #[(.int p0)] maxLocals)) t := by
      intro t kt
      refine pre32 t ?_
      show Steps p.tables e below (s₁.setTop (mkF m 8 #[.val (.int p0), .val (.int (2 : Int32)), .unset, .unset] [])) _
      refine XS.iloadN X0.here hx rfl (hb hby at_8) rfl ?_
      show Steps p.tables e below (s₁.setTop (mkF m 9 #[.val (.int p0), .val (.int (2 : Int32)), .unset, .unset] [(.int (2 : Int32))])) _
      refine st39 _ ?_
      show Steps p.tables e below (T39.setTop (mkF m 12 #[.val (.int p0), .val (.int (2 : Int32)), .unset, .unset] [(.ref w_RECEIVE)])) _
      refine XS.astoreN X39.here hx rfl (hb hby at_12) rfl rfl (l' := #[.val (.int p0), .val (.int (2 : Int32)), .val (.ref w_RECEIVE), .unset]) rfl ?_
      show Steps p.tables e below (T39.setTop (mkF m 13 #[.val (.int p0), .val (.int (2 : Int32)), .val (.ref w_RECEIVE), .unset] [])) _
      refine XS.iloadN X39.here hx rfl (hb hby at_13) rfl ?_
      show Steps p.tables e below (T39.setTop (mkF m 14 #[.val (.int p0), .val (.int (2 : Int32)), .val (.ref w_RECEIVE), .unset] [(.int (2 : Int32))])) _
      refine XS.ifNo X39.here hx rfl (hb hby at_14) rfl ((if0 _ _).trans (feq (by decide : ¬ ((2 : Int32) = (0 : Int32)))).1) ?_
      show Steps p.tables e below (T39.setTop (mkF m 17 #[.val (.int p0), .val (.int (2 : Int32)), .val (.ref w_RECEIVE), .unset] [])) _
      refine XS.iloadN X39.here hx rfl (hb hby at_17) rfl ?_
      show Steps p.tables e below (T39.setTop (mkF m 18 #[.val (.int p0), .val (.int (2 : Int32)), .val (.ref w_RECEIVE), .unset] [(.int (2 : Int32))])) _
      refine XS.iconst X39.here hx rfl (hb hby at_18) ?_
      show Steps p.tables e below (T39.setTop (mkF m 19 #[.val (.int p0), .val (.int (2 : Int32)), .val (.ref w_RECEIVE), .unset] [(.int (5 : Int32)), (.int (2 : Int32))])) _
      refine XS.icmpYes X39.here hx rfl (pc0 := 19) (pc' := 26) rfl (hb hby at_19) rfl (feq (by decide : ¬ ((2 : Int32) = (5 : Int32)))).2 (by decide) (by decide) ?_
      show Steps p.tables e below (T39.setTop (mkF m 26 #[.val (.int p0), .val (.int (2 : Int32)), .val (.ref w_RECEIVE), .unset] [])) _
      refine XS.iconst X39.here hx rfl (hb hby at_26) ?_
      show Steps p.tables e below (T39.setTop (mkF m 27 #[.val (.int p0), .val (.int (2 : Int32)), .val (.ref w_RECEIVE), .unset] [(.int (0 : Int32))])) _
      refine XS.istoreN X39.here hx rfl (hb hby at_27) rfl (l' := #[.val (.int p0), .val (.int (2 : Int32)), .val (.ref w_RECEIVE), .val (.int (0 : Int32))]) rfl ?_
      show Steps p.tables e below (T39.setTop (mkF m 28 #[.val (.int p0), .val (.int (2 : Int32)), .val (.ref w_RECEIVE), .val (.int (0 : Int32))] [])) _
      refine XS.aloadN X39.here hx rfl (hb hby at_28) rfl rfl ?_
      show Steps p.tables e below (T39.setTop (mkF m 29 #[.val (.int p0), .val (.int (2 : Int32)), .val (.ref w_RECEIVE), .val (.int (0 : Int32))] [(.ref w_RECEIVE)])) _
      refine st40.trans ?_
      show Steps p.tables e below (T40.setTop (mkF m 32 #[.val (.int p0), .val (.int (2 : Int32)), .val (.ref w_RECEIVE), .val (.int (0 : Int32))] [(.int (0 : Int32))])) _
      refine XS.iloadN X40.here hx rfl (hb hby at_32) rfl ?_
      show Steps p.tables e below (T40.setTop (mkF m 33 #[.val (.int p0), .val (.int (2 : Int32)), .val (.ref w_RECEIVE), .val (.int (0 : Int32))] [(.int (0 : Int32)), (.int (0 : Int32))])) _
      refine XS.icmpNo X40.here hx rfl (hb hby at_33) rfl (teq (by decide : (0 : Int32) = (0 : Int32))).2 ?_
      show Steps p.tables e below (T40.setTop (mkF m 36 #[.val (.int p0), .val (.int (2 : Int32)), .val (.ref w_RECEIVE), .val (.int (0 : Int32))] [])) _
      refine XS.iconst X40.here hx rfl (hb hby at_36) ?_
      show Steps p.tables e below (T40.setTop (mkF m 37 #[.val (.int p0), .val (.int (2 : Int32)), .val (.ref w_RECEIVE), .val (.int (0 : Int32))] [(.int (1 : Int32))])) _
      refine XS.goto X40.here hx rfl (pc0 := 37) (pc' := 41) rfl (hb hby at_37) (by decide) (by decide) ?_
      exact kt
    obtain ⟨fs, hr, hrun, hended, hW, hsame⟩ := X40.leave (v := some (.int (1 : Int32))) (fun h => by rw [Bd.returns] at h; cases h)
    refine ⟨_, _, pre41 _ ?_, hrun, hended, _, _, rfl, ?_, ⟨_, rfl⟩, hW, hsame.mono (by decide) (by decide)⟩
    · show Steps p.tables e below (T40.setTop (mkF m 41 #[.val (.int p0), .val (.int (2 : Int32)), .val (.ref w_RECEIVE), .val (.int (0 : Int32))] [(.int (1 : Int32))])) _
      exact retN X40 hx (t := .boolean) Bd.returns (by simp) (hb hby at_41) hr
    · show Q_rm0 Z p0 w_FUNCTION w_FALLBACK w_ERROR w_RECEIVE w_CONSTRUCTOR w_EVENT h0 n0 _ T40.heap _
      rw [e40]
      exact ⟨rfl, N40⟩
  · rw [hk] at pre32
    obtain ⟨_, _, ⟨T42, L42, k42, n42⟩, -, X42, ⟨Lc42, hQ42, l42, y42, z42⟩, st42⟩ := Jvm.LawKit.callS X0 hx (y := (⟨"com/example/headtail/headtail/abi/KindHasSelectorPinLaw", "kindOf", "(I)Lcom/example/headtail/headtail/abi/AbiEntry$Kind;"⟩ : MethodName)) hown (mvT hZ (hw _ (List.mem_of_getElem? (i := 1) rfl))) (mvT hZ (hw _ (List.mem_of_getElem? (i := 2) rfl))) (mvT hZ (hw _ (List.mem_of_getElem? (i := 3) rfl))) (mvT hZ (hw _ (List.mem_of_getElem? (i := 4) rfl))) (by decide) (backOf (W := 0) (rm_k l Z a0 hw [] (3 : Int32) w_FUNCTION w_CONSTRUCTOR w_RECEIVE w_FALLBACK w_EVENT w_ERROR w_FALLBACK h0 n0 Z0 S_FUNCTION S_CONSTRUCTOR S_RECEIVE S_FALLBACK S_EVENT S_ERROR (by simp +decide)) hZ (hw _ (List.mem_of_getElem? (i := 4) rfl)) (hw _ (List.mem_of_getElem? (i := 3) rfl)) (by decide) (by decide)) (g := (mkF m 9 #[.val (.int p0), .val (.int (3 : Int32)), .unset, .unset] [(.int (3 : Int32))])) rfl (by rw [hml]; rfl) (argsL := [(.int (3 : Int32))]) (rest := []) (lenOf pd__I_Lcom_example_headtail_headtail_abi_AbiEntry_Kind_ rfl) rfl (by show 2 * 0 + _ ≤ _; exact Nat.le_of_eq rfl) (hb hby at_9) (fun _ _ => ⟨rfl, e0, (by decide : 0 + 0 ≤ _), (by decide : 0 + 0 ≤ _)⟩)
    dsimp only [Pt.U, Pt.locs, Pt.cells, Pt.slots] at X42 l42 y42 z42 st42 hQ42
    subst l42 y42 z42
    obtain ⟨rfl, N42q, e42⟩ := hQ42
    have N42 := Fr.app N0 N42q
    obtain ⟨cq43, kq43, q43a, q43b, q43c⟩ := isOf hZ e42 E_FALLBACK
    obtain ⟨_, _, ⟨T43, L43, k43, n43⟩, -, X43, ⟨Lc43, hQ43, l43, y43, z43⟩, st43⟩ := X42.virtualBack hx (y := (⟨"com/example/headtail/headtail/abi/AbiEntry$Kind", "hasSelector", "()Z"⟩ : MethodName)) (z := (⟨"com/example/headtail/headtail/abi/AbiEntry$Kind", "hasSelector", "()Z"⟩ : MethodName)) hown (mvT hZ (hw _ (List.mem_of_getElem? (i := 8) rfl))) (mvT hZ (hw _ (List.mem_of_getElem? (i := 9) rfl))) (notFace_of_selects (args := #[]) (mvT hZ (hw _ (List.mem_of_getElem? (i := 11) rfl)))) (mvT hZ (hw _ (List.mem_of_getElem? (i := 11) rfl))) (mvT hZ (hw _ (List.mem_of_getElem? (i := 10) rfl))) (by decide) (backOf (W := 0) (rm_p l Z a0 hw [] w_FALLBACK w_FUNCTION w_ERROR (0 : Int32) h0 n0 Z0 S_FUNCTION S_ERROR (by simp [ne_FALLBACK_FUNCTION, ne_FALLBACK_ERROR])) hZ (hw _ (List.mem_of_getElem? (i := 12) rfl)) (hw _ (List.mem_of_getElem? (i := 6) rfl)) (by decide) (by decide)) q43a q43c (g := (mkF m 29 #[.val (.int p0), .val (.int (3 : Int32)), .val (.ref w_FALLBACK), .val (.int (0 : Int32))] [(.ref w_FALLBACK)])) rfl (by rw [hml]; rfl) (Steps.refl _) (argsL := []) (rest := []) (lenOf pd___Z rfl) rfl (by show 2 * 0 + _ ≤ _; exact Nat.le_of_eq rfl) (hb hby at_29) (fun _ _ => ⟨rfl, e42, (by decide : 0 + 0 ≤ _), (by decide : 0 + 0 ≤ _)⟩)
    dsimp only [Pt.U, Pt.locs, Pt.cells, Pt.slots] at X43 l43 y43 z43 st43 hQ43
    subst l43 y43 z43
    obtain ⟨rfl, N43q, e43⟩ := hQ43
    have N43 := Fr.app N42 N43q
    have pre44 : ∀ t, Steps p.tables e below (T43.setTop (mkF m 41 #[.val (.int p0), .val (.int (3 : Int32)), .val (.ref w_FALLBACK), .val (.int (0 : Int32))] [(.int (1 : Int32))])) t → Steps p.tables e below (s₁.setTop (entryFrame m #[(.int p0)] maxLocals)) t := by
      intro t kt
      refine pre32 t ?_
      show Steps p.tables e below (s₁.setTop (mkF m 8 #[.val (.int p0), .val (.int (3 : Int32)), .unset, .unset] [])) _
      refine XS.iloadN X0.here hx rfl (hb hby at_8) rfl ?_
      show Steps p.tables e below (s₁.setTop (mkF m 9 #[.val (.int p0), .val (.int (3 : Int32)), .unset, .unset] [(.int (3 : Int32))])) _
      refine st42 _ ?_
      show Steps p.tables e below (T42.setTop (mkF m 12 #[.val (.int p0), .val (.int (3 : Int32)), .unset, .unset] [(.ref w_FALLBACK)])) _
      refine XS.astoreN X42.here hx rfl (hb hby at_12) rfl rfl (l' := #[.val (.int p0), .val (.int (3 : Int32)), .val (.ref w_FALLBACK), .unset]) rfl ?_
      show Steps p.tables e below (T42.setTop (mkF m 13 #[.val (.int p0), .val (.int (3 : Int32)), .val (.ref w_FALLBACK), .unset] [])) _
      refine XS.iloadN X42.here hx rfl (hb hby at_13) rfl ?_
      show Steps p.tables e below (T42.setTop (mkF m 14 #[.val (.int p0), .val (.int (3 : Int32)), .val (.ref w_FALLBACK), .unset] [(.int (3 : Int32))])) _
      refine XS.ifNo X42.here hx rfl (hb hby at_14) rfl ((if0 _ _).trans (feq (by decide : ¬ ((3 : Int32) = (0 : Int32)))).1) ?_
      show Steps p.tables e below (T42.setTop (mkF m 17 #[.val (.int p0), .val (.int (3 : Int32)), .val (.ref w_FALLBACK), .unset] [])) _
      refine XS.iloadN X42.here hx rfl (hb hby at_17) rfl ?_
      show Steps p.tables e below (T42.setTop (mkF m 18 #[.val (.int p0), .val (.int (3 : Int32)), .val (.ref w_FALLBACK), .unset] [(.int (3 : Int32))])) _
      refine XS.iconst X42.here hx rfl (hb hby at_18) ?_
      show Steps p.tables e below (T42.setTop (mkF m 19 #[.val (.int p0), .val (.int (3 : Int32)), .val (.ref w_FALLBACK), .unset] [(.int (5 : Int32)), (.int (3 : Int32))])) _
      refine XS.icmpYes X42.here hx rfl (pc0 := 19) (pc' := 26) rfl (hb hby at_19) rfl (feq (by decide : ¬ ((3 : Int32) = (5 : Int32)))).2 (by decide) (by decide) ?_
      show Steps p.tables e below (T42.setTop (mkF m 26 #[.val (.int p0), .val (.int (3 : Int32)), .val (.ref w_FALLBACK), .unset] [])) _
      refine XS.iconst X42.here hx rfl (hb hby at_26) ?_
      show Steps p.tables e below (T42.setTop (mkF m 27 #[.val (.int p0), .val (.int (3 : Int32)), .val (.ref w_FALLBACK), .unset] [(.int (0 : Int32))])) _
      refine XS.istoreN X42.here hx rfl (hb hby at_27) rfl (l' := #[.val (.int p0), .val (.int (3 : Int32)), .val (.ref w_FALLBACK), .val (.int (0 : Int32))]) rfl ?_
      show Steps p.tables e below (T42.setTop (mkF m 28 #[.val (.int p0), .val (.int (3 : Int32)), .val (.ref w_FALLBACK), .val (.int (0 : Int32))] [])) _
      refine XS.aloadN X42.here hx rfl (hb hby at_28) rfl rfl ?_
      show Steps p.tables e below (T42.setTop (mkF m 29 #[.val (.int p0), .val (.int (3 : Int32)), .val (.ref w_FALLBACK), .val (.int (0 : Int32))] [(.ref w_FALLBACK)])) _
      refine st43.trans ?_
      show Steps p.tables e below (T43.setTop (mkF m 32 #[.val (.int p0), .val (.int (3 : Int32)), .val (.ref w_FALLBACK), .val (.int (0 : Int32))] [(.int (0 : Int32))])) _
      refine XS.iloadN X43.here hx rfl (hb hby at_32) rfl ?_
      show Steps p.tables e below (T43.setTop (mkF m 33 #[.val (.int p0), .val (.int (3 : Int32)), .val (.ref w_FALLBACK), .val (.int (0 : Int32))] [(.int (0 : Int32)), (.int (0 : Int32))])) _
      refine XS.icmpNo X43.here hx rfl (hb hby at_33) rfl (teq (by decide : (0 : Int32) = (0 : Int32))).2 ?_
      show Steps p.tables e below (T43.setTop (mkF m 36 #[.val (.int p0), .val (.int (3 : Int32)), .val (.ref w_FALLBACK), .val (.int (0 : Int32))] [])) _
      refine XS.iconst X43.here hx rfl (hb hby at_36) ?_
      show Steps p.tables e below (T43.setTop (mkF m 37 #[.val (.int p0), .val (.int (3 : Int32)), .val (.ref w_FALLBACK), .val (.int (0 : Int32))] [(.int (1 : Int32))])) _
      refine XS.goto X43.here hx rfl (pc0 := 37) (pc' := 41) rfl (hb hby at_37) (by decide) (by decide) ?_
      exact kt
    obtain ⟨fs, hr, hrun, hended, hW, hsame⟩ := X43.leave (v := some (.int (1 : Int32))) (fun h => by rw [Bd.returns] at h; cases h)
    refine ⟨_, _, pre44 _ ?_, hrun, hended, _, _, rfl, ?_, ⟨_, rfl⟩, hW, hsame.mono (by decide) (by decide)⟩
    · show Steps p.tables e below (T43.setTop (mkF m 41 #[.val (.int p0), .val (.int (3 : Int32)), .val (.ref w_FALLBACK), .val (.int (0 : Int32))] [(.int (1 : Int32))])) _
      exact retN X43 hx (t := .boolean) Bd.returns (by simp) (hb hby at_41) hr
    · show Q_rm0 Z p0 w_FUNCTION w_FALLBACK w_ERROR w_RECEIVE w_CONSTRUCTOR w_EVENT h0 n0 _ T43.heap _
      rw [e43]
      exact ⟨rfl, N43⟩
  · rw [hk] at pre32
    obtain ⟨_, _, ⟨T45, L45, k45, n45⟩, -, X45, ⟨Lc45, hQ45, l45, y45, z45⟩, st45⟩ := Jvm.LawKit.callS X0 hx (y := (⟨"com/example/headtail/headtail/abi/KindHasSelectorPinLaw", "kindOf", "(I)Lcom/example/headtail/headtail/abi/AbiEntry$Kind;"⟩ : MethodName)) hown (mvT hZ (hw _ (List.mem_of_getElem? (i := 1) rfl))) (mvT hZ (hw _ (List.mem_of_getElem? (i := 2) rfl))) (mvT hZ (hw _ (List.mem_of_getElem? (i := 3) rfl))) (mvT hZ (hw _ (List.mem_of_getElem? (i := 4) rfl))) (by decide) (backOf (W := 0) (rm_k l Z a0 hw [] (4 : Int32) w_FUNCTION w_CONSTRUCTOR w_RECEIVE w_FALLBACK w_EVENT w_ERROR w_EVENT h0 n0 Z0 S_FUNCTION S_CONSTRUCTOR S_RECEIVE S_FALLBACK S_EVENT S_ERROR (by simp +decide)) hZ (hw _ (List.mem_of_getElem? (i := 4) rfl)) (hw _ (List.mem_of_getElem? (i := 3) rfl)) (by decide) (by decide)) (g := (mkF m 9 #[.val (.int p0), .val (.int (4 : Int32)), .unset, .unset] [(.int (4 : Int32))])) rfl (by rw [hml]; rfl) (argsL := [(.int (4 : Int32))]) (rest := []) (lenOf pd__I_Lcom_example_headtail_headtail_abi_AbiEntry_Kind_ rfl) rfl (by show 2 * 0 + _ ≤ _; exact Nat.le_of_eq rfl) (hb hby at_9) (fun _ _ => ⟨rfl, e0, (by decide : 0 + 0 ≤ _), (by decide : 0 + 0 ≤ _)⟩)
    dsimp only [Pt.U, Pt.locs, Pt.cells, Pt.slots] at X45 l45 y45 z45 st45 hQ45
    subst l45 y45 z45
    obtain ⟨rfl, N45q, e45⟩ := hQ45
    have N45 := Fr.app N0 N45q
    obtain ⟨cq46, kq46, q46a, q46b, q46c⟩ := isOf hZ e45 E_EVENT
    obtain ⟨_, _, ⟨T46, L46, k46, n46⟩, -, X46, ⟨Lc46, hQ46, l46, y46, z46⟩, st46⟩ := X45.virtualBack hx (y := (⟨"com/example/headtail/headtail/abi/AbiEntry$Kind", "hasSelector", "()Z"⟩ : MethodName)) (z := (⟨"com/example/headtail/headtail/abi/AbiEntry$Kind", "hasSelector", "()Z"⟩ : MethodName)) hown (mvT hZ (hw _ (List.mem_of_getElem? (i := 8) rfl))) (mvT hZ (hw _ (List.mem_of_getElem? (i := 9) rfl))) (notFace_of_selects (args := #[]) (mvT hZ (hw _ (List.mem_of_getElem? (i := 11) rfl)))) (mvT hZ (hw _ (List.mem_of_getElem? (i := 11) rfl))) (mvT hZ (hw _ (List.mem_of_getElem? (i := 10) rfl))) (by decide) (backOf (W := 0) (rm_p l Z a0 hw [] w_EVENT w_FUNCTION w_ERROR (0 : Int32) h0 n0 Z0 S_FUNCTION S_ERROR (by simp [ne_EVENT_FUNCTION, ne_EVENT_ERROR])) hZ (hw _ (List.mem_of_getElem? (i := 12) rfl)) (hw _ (List.mem_of_getElem? (i := 6) rfl)) (by decide) (by decide)) q46a q46c (g := (mkF m 29 #[.val (.int p0), .val (.int (4 : Int32)), .val (.ref w_EVENT), .val (.int (0 : Int32))] [(.ref w_EVENT)])) rfl (by rw [hml]; rfl) (Steps.refl _) (argsL := []) (rest := []) (lenOf pd___Z rfl) rfl (by show 2 * 0 + _ ≤ _; exact Nat.le_of_eq rfl) (hb hby at_29) (fun _ _ => ⟨rfl, e45, (by decide : 0 + 0 ≤ _), (by decide : 0 + 0 ≤ _)⟩)
    dsimp only [Pt.U, Pt.locs, Pt.cells, Pt.slots] at X46 l46 y46 z46 st46 hQ46
    subst l46 y46 z46
    obtain ⟨rfl, N46q, e46⟩ := hQ46
    have N46 := Fr.app N45 N46q
    have pre47 : ∀ t, Steps p.tables e below (T46.setTop (mkF m 41 #[.val (.int p0), .val (.int (4 : Int32)), .val (.ref w_EVENT), .val (.int (0 : Int32))] [(.int (1 : Int32))])) t → Steps p.tables e below (s₁.setTop (entryFrame m #[(.int p0)] maxLocals)) t := by
      intro t kt
      refine pre32 t ?_
      show Steps p.tables e below (s₁.setTop (mkF m 8 #[.val (.int p0), .val (.int (4 : Int32)), .unset, .unset] [])) _
      refine XS.iloadN X0.here hx rfl (hb hby at_8) rfl ?_
      show Steps p.tables e below (s₁.setTop (mkF m 9 #[.val (.int p0), .val (.int (4 : Int32)), .unset, .unset] [(.int (4 : Int32))])) _
      refine st45 _ ?_
      show Steps p.tables e below (T45.setTop (mkF m 12 #[.val (.int p0), .val (.int (4 : Int32)), .unset, .unset] [(.ref w_EVENT)])) _
      refine XS.astoreN X45.here hx rfl (hb hby at_12) rfl rfl (l' := #[.val (.int p0), .val (.int (4 : Int32)), .val (.ref w_EVENT), .unset]) rfl ?_
      show Steps p.tables e below (T45.setTop (mkF m 13 #[.val (.int p0), .val (.int (4 : Int32)), .val (.ref w_EVENT), .unset] [])) _
      refine XS.iloadN X45.here hx rfl (hb hby at_13) rfl ?_
      show Steps p.tables e below (T45.setTop (mkF m 14 #[.val (.int p0), .val (.int (4 : Int32)), .val (.ref w_EVENT), .unset] [(.int (4 : Int32))])) _
      refine XS.ifNo X45.here hx rfl (hb hby at_14) rfl ((if0 _ _).trans (feq (by decide : ¬ ((4 : Int32) = (0 : Int32)))).1) ?_
      show Steps p.tables e below (T45.setTop (mkF m 17 #[.val (.int p0), .val (.int (4 : Int32)), .val (.ref w_EVENT), .unset] [])) _
      refine XS.iloadN X45.here hx rfl (hb hby at_17) rfl ?_
      show Steps p.tables e below (T45.setTop (mkF m 18 #[.val (.int p0), .val (.int (4 : Int32)), .val (.ref w_EVENT), .unset] [(.int (4 : Int32))])) _
      refine XS.iconst X45.here hx rfl (hb hby at_18) ?_
      show Steps p.tables e below (T45.setTop (mkF m 19 #[.val (.int p0), .val (.int (4 : Int32)), .val (.ref w_EVENT), .unset] [(.int (5 : Int32)), (.int (4 : Int32))])) _
      refine XS.icmpYes X45.here hx rfl (pc0 := 19) (pc' := 26) rfl (hb hby at_19) rfl (feq (by decide : ¬ ((4 : Int32) = (5 : Int32)))).2 (by decide) (by decide) ?_
      show Steps p.tables e below (T45.setTop (mkF m 26 #[.val (.int p0), .val (.int (4 : Int32)), .val (.ref w_EVENT), .unset] [])) _
      refine XS.iconst X45.here hx rfl (hb hby at_26) ?_
      show Steps p.tables e below (T45.setTop (mkF m 27 #[.val (.int p0), .val (.int (4 : Int32)), .val (.ref w_EVENT), .unset] [(.int (0 : Int32))])) _
      refine XS.istoreN X45.here hx rfl (hb hby at_27) rfl (l' := #[.val (.int p0), .val (.int (4 : Int32)), .val (.ref w_EVENT), .val (.int (0 : Int32))]) rfl ?_
      show Steps p.tables e below (T45.setTop (mkF m 28 #[.val (.int p0), .val (.int (4 : Int32)), .val (.ref w_EVENT), .val (.int (0 : Int32))] [])) _
      refine XS.aloadN X45.here hx rfl (hb hby at_28) rfl rfl ?_
      show Steps p.tables e below (T45.setTop (mkF m 29 #[.val (.int p0), .val (.int (4 : Int32)), .val (.ref w_EVENT), .val (.int (0 : Int32))] [(.ref w_EVENT)])) _
      refine st46.trans ?_
      show Steps p.tables e below (T46.setTop (mkF m 32 #[.val (.int p0), .val (.int (4 : Int32)), .val (.ref w_EVENT), .val (.int (0 : Int32))] [(.int (0 : Int32))])) _
      refine XS.iloadN X46.here hx rfl (hb hby at_32) rfl ?_
      show Steps p.tables e below (T46.setTop (mkF m 33 #[.val (.int p0), .val (.int (4 : Int32)), .val (.ref w_EVENT), .val (.int (0 : Int32))] [(.int (0 : Int32)), (.int (0 : Int32))])) _
      refine XS.icmpNo X46.here hx rfl (hb hby at_33) rfl (teq (by decide : (0 : Int32) = (0 : Int32))).2 ?_
      show Steps p.tables e below (T46.setTop (mkF m 36 #[.val (.int p0), .val (.int (4 : Int32)), .val (.ref w_EVENT), .val (.int (0 : Int32))] [])) _
      refine XS.iconst X46.here hx rfl (hb hby at_36) ?_
      show Steps p.tables e below (T46.setTop (mkF m 37 #[.val (.int p0), .val (.int (4 : Int32)), .val (.ref w_EVENT), .val (.int (0 : Int32))] [(.int (1 : Int32))])) _
      refine XS.goto X46.here hx rfl (pc0 := 37) (pc' := 41) rfl (hb hby at_37) (by decide) (by decide) ?_
      exact kt
    obtain ⟨fs, hr, hrun, hended, hW, hsame⟩ := X46.leave (v := some (.int (1 : Int32))) (fun h => by rw [Bd.returns] at h; cases h)
    refine ⟨_, _, pre47 _ ?_, hrun, hended, _, _, rfl, ?_, ⟨_, rfl⟩, hW, hsame.mono (by decide) (by decide)⟩
    · show Steps p.tables e below (T46.setTop (mkF m 41 #[.val (.int p0), .val (.int (4 : Int32)), .val (.ref w_EVENT), .val (.int (0 : Int32))] [(.int (1 : Int32))])) _
      exact retN X46 hx (t := .boolean) Bd.returns (by simp) (hb hby at_41) hr
    · show Q_rm0 Z p0 w_FUNCTION w_FALLBACK w_ERROR w_RECEIVE w_CONSTRUCTOR w_EVENT h0 n0 _ T46.heap _
      rw [e46]
      exact ⟨rfl, N46⟩
  · rw [hk] at pre32
    obtain ⟨_, _, ⟨T48, L48, k48, n48⟩, -, X48, ⟨Lc48, hQ48, l48, y48, z48⟩, st48⟩ := Jvm.LawKit.callS X0 hx (y := (⟨"com/example/headtail/headtail/abi/KindHasSelectorPinLaw", "kindOf", "(I)Lcom/example/headtail/headtail/abi/AbiEntry$Kind;"⟩ : MethodName)) hown (mvT hZ (hw _ (List.mem_of_getElem? (i := 1) rfl))) (mvT hZ (hw _ (List.mem_of_getElem? (i := 2) rfl))) (mvT hZ (hw _ (List.mem_of_getElem? (i := 3) rfl))) (mvT hZ (hw _ (List.mem_of_getElem? (i := 4) rfl))) (by decide) (backOf (W := 0) (rm_k l Z a0 hw [] (5 : Int32) w_FUNCTION w_CONSTRUCTOR w_RECEIVE w_FALLBACK w_EVENT w_ERROR w_ERROR h0 n0 Z0 S_FUNCTION S_CONSTRUCTOR S_RECEIVE S_FALLBACK S_EVENT S_ERROR (by simp +decide)) hZ (hw _ (List.mem_of_getElem? (i := 4) rfl)) (hw _ (List.mem_of_getElem? (i := 3) rfl)) (by decide) (by decide)) (g := (mkF m 9 #[.val (.int p0), .val (.int (5 : Int32)), .unset, .unset] [(.int (5 : Int32))])) rfl (by rw [hml]; rfl) (argsL := [(.int (5 : Int32))]) (rest := []) (lenOf pd__I_Lcom_example_headtail_headtail_abi_AbiEntry_Kind_ rfl) rfl (by show 2 * 0 + _ ≤ _; exact Nat.le_of_eq rfl) (hb hby at_9) (fun _ _ => ⟨rfl, e0, (by decide : 0 + 0 ≤ _), (by decide : 0 + 0 ≤ _)⟩)
    dsimp only [Pt.U, Pt.locs, Pt.cells, Pt.slots] at X48 l48 y48 z48 st48 hQ48
    subst l48 y48 z48
    obtain ⟨rfl, N48q, e48⟩ := hQ48
    have N48 := Fr.app N0 N48q
    obtain ⟨cq49, kq49, q49a, q49b, q49c⟩ := isOf hZ e48 E_ERROR
    obtain ⟨_, _, ⟨T49, L49, k49, n49⟩, -, X49, ⟨Lc49, hQ49, l49, y49, z49⟩, st49⟩ := X48.virtualBack hx (y := (⟨"com/example/headtail/headtail/abi/AbiEntry$Kind", "hasSelector", "()Z"⟩ : MethodName)) (z := (⟨"com/example/headtail/headtail/abi/AbiEntry$Kind", "hasSelector", "()Z"⟩ : MethodName)) hown (mvT hZ (hw _ (List.mem_of_getElem? (i := 8) rfl))) (mvT hZ (hw _ (List.mem_of_getElem? (i := 9) rfl))) (notFace_of_selects (args := #[]) (mvT hZ (hw _ (List.mem_of_getElem? (i := 11) rfl)))) (mvT hZ (hw _ (List.mem_of_getElem? (i := 11) rfl))) (mvT hZ (hw _ (List.mem_of_getElem? (i := 10) rfl))) (by decide) (backOf (W := 0) (rm_p l Z a0 hw [] w_ERROR w_FUNCTION w_ERROR (1 : Int32) h0 n0 Z0 S_FUNCTION S_ERROR (by simp [ne_ERROR_FUNCTION])) hZ (hw _ (List.mem_of_getElem? (i := 12) rfl)) (hw _ (List.mem_of_getElem? (i := 6) rfl)) (by decide) (by decide)) q49a q49c (g := (mkF m 29 #[.val (.int p0), .val (.int (5 : Int32)), .val (.ref w_ERROR), .val (.int (1 : Int32))] [(.ref w_ERROR)])) rfl (by rw [hml]; rfl) (Steps.refl _) (argsL := []) (rest := []) (lenOf pd___Z rfl) rfl (by show 2 * 0 + _ ≤ _; exact Nat.le_of_eq rfl) (hb hby at_29) (fun _ _ => ⟨rfl, e48, (by decide : 0 + 0 ≤ _), (by decide : 0 + 0 ≤ _)⟩)
    dsimp only [Pt.U, Pt.locs, Pt.cells, Pt.slots] at X49 l49 y49 z49 st49 hQ49
    subst l49 y49 z49
    obtain ⟨rfl, N49q, e49⟩ := hQ49
    have N49 := Fr.app N48 N49q
    have pre50 : ∀ t, Steps p.tables e below (T49.setTop (mkF m 41 #[.val (.int p0), .val (.int (5 : Int32)), .val (.ref w_ERROR), .val (.int (1 : Int32))] [(.int (1 : Int32))])) t → Steps p.tables e below (s₁.setTop (entryFrame m #[(.int p0)] maxLocals)) t := by
      intro t kt
      refine pre32 t ?_
      show Steps p.tables e below (s₁.setTop (mkF m 8 #[.val (.int p0), .val (.int (5 : Int32)), .unset, .unset] [])) _
      refine XS.iloadN X0.here hx rfl (hb hby at_8) rfl ?_
      show Steps p.tables e below (s₁.setTop (mkF m 9 #[.val (.int p0), .val (.int (5 : Int32)), .unset, .unset] [(.int (5 : Int32))])) _
      refine st48 _ ?_
      show Steps p.tables e below (T48.setTop (mkF m 12 #[.val (.int p0), .val (.int (5 : Int32)), .unset, .unset] [(.ref w_ERROR)])) _
      refine XS.astoreN X48.here hx rfl (hb hby at_12) rfl rfl (l' := #[.val (.int p0), .val (.int (5 : Int32)), .val (.ref w_ERROR), .unset]) rfl ?_
      show Steps p.tables e below (T48.setTop (mkF m 13 #[.val (.int p0), .val (.int (5 : Int32)), .val (.ref w_ERROR), .unset] [])) _
      refine XS.iloadN X48.here hx rfl (hb hby at_13) rfl ?_
      show Steps p.tables e below (T48.setTop (mkF m 14 #[.val (.int p0), .val (.int (5 : Int32)), .val (.ref w_ERROR), .unset] [(.int (5 : Int32))])) _
      refine XS.ifNo X48.here hx rfl (hb hby at_14) rfl ((if0 _ _).trans (feq (by decide : ¬ ((5 : Int32) = (0 : Int32)))).1) ?_
      show Steps p.tables e below (T48.setTop (mkF m 17 #[.val (.int p0), .val (.int (5 : Int32)), .val (.ref w_ERROR), .unset] [])) _
      refine XS.iloadN X48.here hx rfl (hb hby at_17) rfl ?_
      show Steps p.tables e below (T48.setTop (mkF m 18 #[.val (.int p0), .val (.int (5 : Int32)), .val (.ref w_ERROR), .unset] [(.int (5 : Int32))])) _
      refine XS.iconst X48.here hx rfl (hb hby at_18) ?_
      show Steps p.tables e below (T48.setTop (mkF m 19 #[.val (.int p0), .val (.int (5 : Int32)), .val (.ref w_ERROR), .unset] [(.int (5 : Int32)), (.int (5 : Int32))])) _
      refine XS.icmpNo X48.here hx rfl (hb hby at_19) rfl (teq (by decide : (5 : Int32) = (5 : Int32))).2 ?_
      show Steps p.tables e below (T48.setTop (mkF m 22 #[.val (.int p0), .val (.int (5 : Int32)), .val (.ref w_ERROR), .unset] [])) _
      refine XS.iconst X48.here hx rfl (hb hby at_22) ?_
      show Steps p.tables e below (T48.setTop (mkF m 23 #[.val (.int p0), .val (.int (5 : Int32)), .val (.ref w_ERROR), .unset] [(.int (1 : Int32))])) _
      refine XS.goto X48.here hx rfl (pc0 := 23) (pc' := 27) rfl (hb hby at_23) (by decide) (by decide) ?_
      show Steps p.tables e below (T48.setTop (mkF m 27 #[.val (.int p0), .val (.int (5 : Int32)), .val (.ref w_ERROR), .unset] [(.int (1 : Int32))])) _
      refine XS.istoreN X48.here hx rfl (hb hby at_27) rfl (l' := #[.val (.int p0), .val (.int (5 : Int32)), .val (.ref w_ERROR), .val (.int (1 : Int32))]) rfl ?_
      show Steps p.tables e below (T48.setTop (mkF m 28 #[.val (.int p0), .val (.int (5 : Int32)), .val (.ref w_ERROR), .val (.int (1 : Int32))] [])) _
      refine XS.aloadN X48.here hx rfl (hb hby at_28) rfl rfl ?_
      show Steps p.tables e below (T48.setTop (mkF m 29 #[.val (.int p0), .val (.int (5 : Int32)), .val (.ref w_ERROR), .val (.int (1 : Int32))] [(.ref w_ERROR)])) _
      refine st49.trans ?_
      show Steps p.tables e below (T49.setTop (mkF m 32 #[.val (.int p0), .val (.int (5 : Int32)), .val (.ref w_ERROR), .val (.int (1 : Int32))] [(.int (1 : Int32))])) _
      refine XS.iloadN X49.here hx rfl (hb hby at_32) rfl ?_
      show Steps p.tables e below (T49.setTop (mkF m 33 #[.val (.int p0), .val (.int (5 : Int32)), .val (.ref w_ERROR), .val (.int (1 : Int32))] [(.int (1 : Int32)), (.int (1 : Int32))])) _
      refine XS.icmpNo X49.here hx rfl (hb hby at_33) rfl (teq (by decide : (1 : Int32) = (1 : Int32))).2 ?_
      show Steps p.tables e below (T49.setTop (mkF m 36 #[.val (.int p0), .val (.int (5 : Int32)), .val (.ref w_ERROR), .val (.int (1 : Int32))] [])) _
      refine XS.iconst X49.here hx rfl (hb hby at_36) ?_
      show Steps p.tables e below (T49.setTop (mkF m 37 #[.val (.int p0), .val (.int (5 : Int32)), .val (.ref w_ERROR), .val (.int (1 : Int32))] [(.int (1 : Int32))])) _
      refine XS.goto X49.here hx rfl (pc0 := 37) (pc' := 41) rfl (hb hby at_37) (by decide) (by decide) ?_
      exact kt
    obtain ⟨fs, hr, hrun, hended, hW, hsame⟩ := X49.leave (v := some (.int (1 : Int32))) (fun h => by rw [Bd.returns] at h; cases h)
    refine ⟨_, _, pre50 _ ?_, hrun, hended, _, _, rfl, ?_, ⟨_, rfl⟩, hW, hsame.mono (by decide) (by decide)⟩
    · show Steps p.tables e below (T49.setTop (mkF m 41 #[.val (.int p0), .val (.int (5 : Int32)), .val (.ref w_ERROR), .val (.int (1 : Int32))] [(.int (1 : Int32))])) _
      exact retN X49 hx (t := .boolean) Bd.returns (by simp) (hb hby at_41) hr
    · show Q_rm0 Z p0 w_FUNCTION w_FALLBACK w_ERROR w_RECEIVE w_CONSTRUCTOR w_EVENT h0 n0 _ T49.heap _
      rw [e49]
      exact ⟨rfl, N49⟩
set_option maxRecDepth 65536 in
set_option maxHeartbeats 40000000 in
theorem comes_1 {Post : Tables → Env → Array Value → State → Outcome → State → Prop} (hpost : ∀ tb e args s v u, (limb_1_1.after args s (.returned v) u = true ∧ limb_1_2.after args s (.returned v) u = true ∧ True) → FrameEnd s (.returned v) u (Jvm.fieldLocs frame_1_writes args s ++ Jvm.arrayLocs frame_1_arrays args s ++ Jvm.staticLocs frame_1_statics s) 0 0 → Post tb e args s (.returned v) u) :
    ArmFor flags0 classFile x code maxLocals ret World_1 tables_1 room_1 Calls_1 rest_1 Pre_1 Post := by
  intro l hfl _ _ p e ha hc hk s m args below hf hA hF happ hP
  obtain ⟨hcalls, hrest, hpre⟩ := hP
  obtain ⟨-, -, -, hnamed, -, -, -, hat⟩ := (Spec.applies_iff hf).mp happ
  obtain ⟨hg, hn⟩ := and_e (Cond.before_iff.mp (show (Jvm.Cond.and given_1 narrow_1).before args s = true from hpre))
  have hw := fun d (hd : d ∈ tables_1) => atoms_spec (ws := Jvm.Cond.code x code maxLocals ret :: tables_1) hat d (List.mem_cons_of_mem _ hd)
  obtain ⟨g1, g2⟩ := and_e hg
  obtain ⟨g3, g4⟩ := and_e hn
  obtain ⟨g5, g6⟩ := and_e g4
  obtain ⟨g7, g8⟩ := and_e g6
  obtain ⟨g9, g10⟩ := and_e g8
  obtain ⟨g11, g12⟩ := and_e g10
  obtain ⟨g13, g14⟩ := and_e g12
  obtain ⟨g15, g16⟩ := and_e g14
  obtain ⟨g17, g18⟩ := and_e g16
  obtain ⟨g19, g20⟩ := and_e g18
  obtain ⟨g21, g22⟩ := and_e g20
  obtain ⟨g23, g24⟩ := and_e g22
  obtain ⟨w_FUNCTION, ev_FUNCTION⟩ := exa_v g3
  have S_FUNCTION : Sta s s.heap "com/example/headtail/headtail/abi/AbiEntry$Kind" "FUNCTION" "Lcom/example/headtail/headtail/abi/AbiEntry$Kind;" (.ref w_FUNCTION) := Sta.start ev_FUNCTION (Or.inr ⟨(hw _ (List.mem_of_getElem? (i := 6) rfl)), (hw _ (List.mem_of_getElem? (i := 7) rfl))⟩)
  have E_FUNCTION := Exa.start ev_FUNCTION g3
  obtain ⟨w_FALLBACK, ev_FALLBACK⟩ := exa_v g5
  have S_FALLBACK : Sta s s.heap "com/example/headtail/headtail/abi/AbiEntry$Kind" "FALLBACK" "Lcom/example/headtail/headtail/abi/AbiEntry$Kind;" (.ref w_FALLBACK) := Sta.start ev_FALLBACK (Or.inr ⟨(hw _ (List.mem_of_getElem? (i := 6) rfl)), (hw _ (List.mem_of_getElem? (i := 15) rfl))⟩)
  have E_FALLBACK := Exa.start ev_FALLBACK g5
  obtain ⟨w_ERROR, ev_ERROR⟩ := exa_v g11
  have S_ERROR : Sta s s.heap "com/example/headtail/headtail/abi/AbiEntry$Kind" "ERROR" "Lcom/example/headtail/headtail/abi/AbiEntry$Kind;" (.ref w_ERROR) := Sta.start ev_ERROR (Or.inr ⟨(hw _ (List.mem_of_getElem? (i := 6) rfl)), (hw _ (List.mem_of_getElem? (i := 17) rfl))⟩)
  have E_ERROR := Exa.start ev_ERROR g11
  obtain ⟨w_RECEIVE, ev_RECEIVE⟩ := exa_v g15
  have S_RECEIVE : Sta s s.heap "com/example/headtail/headtail/abi/AbiEntry$Kind" "RECEIVE" "Lcom/example/headtail/headtail/abi/AbiEntry$Kind;" (.ref w_RECEIVE) := Sta.start ev_RECEIVE (Or.inr ⟨(hw _ (List.mem_of_getElem? (i := 6) rfl)), (hw _ (List.mem_of_getElem? (i := 19) rfl))⟩)
  have E_RECEIVE := Exa.start ev_RECEIVE g15
  obtain ⟨w_CONSTRUCTOR, ev_CONSTRUCTOR⟩ := exa_v g19
  have S_CONSTRUCTOR : Sta s s.heap "com/example/headtail/headtail/abi/AbiEntry$Kind" "CONSTRUCTOR" "Lcom/example/headtail/headtail/abi/AbiEntry$Kind;" (.ref w_CONSTRUCTOR) := Sta.start ev_CONSTRUCTOR (Or.inr ⟨(hw _ (List.mem_of_getElem? (i := 6) rfl)), (hw _ (List.mem_of_getElem? (i := 21) rfl))⟩)
  have E_CONSTRUCTOR := Exa.start ev_CONSTRUCTOR g19
  obtain ⟨w_EVENT, ev_EVENT⟩ := exa_v g23
  have S_EVENT : Sta s s.heap "com/example/headtail/headtail/abi/AbiEntry$Kind" "EVENT" "Lcom/example/headtail/headtail/abi/AbiEntry$Kind;" (.ref w_EVENT) := Sta.start ev_EVENT (Or.inr ⟨(hw _ (List.mem_of_getElem? (i := 6) rfl)), (hw _ (List.mem_of_getElem? (i := 24) rfl))⟩)
  have E_EVENT := Exa.start ev_EVENT g23
  have F_ordinal_FALLBACK := own_fld ev_FALLBACK (v := .int (3 : Int32)) rfl g7
  have F_ordinal_FUNCTION := own_fld ev_FUNCTION (v := .int (0 : Int32)) rfl g9
  have F_ordinal_ERROR := own_fld ev_ERROR (v := .int (5 : Int32)) rfl g13
  have F_ordinal_RECEIVE := own_fld ev_RECEIVE (v := .int (2 : Int32)) rfl g17
  have F_ordinal_CONSTRUCTOR := own_fld ev_CONSTRUCTOR (v := .int (1 : Int32)) rfl g21
  have F_ordinal_EVENT := own_fld ev_EVENT (v := .int (4 : Int32)) rfl g24
  obtain ⟨v0, rfl⟩ : ∃ v0 : Value, args = #[v0] := by
    have hs : args.size = 1 := by simpa [Cond.value, given_1] using g1
    obtain ⟨L⟩ := args
    match L, hs with
    | [v0], _ => exact ⟨v0, rfl⟩
  have hfit : Fit s := fun {y c} hc i hi => by
    obtain ⟨ha, rfl⟩ := Array.getElem?_eq_some_iff.mp hc
    have q := List.all_eq_true.mp ((Array.all_eq_true_iff_forall_mem.mp hF) _ (Array.getElem_mem ha)) i (List.mem_range.mpr hi)
    simpa [Array.getElem?_eq_getElem hi] using q
  obtain ⟨i0, ei0⟩ := is_v g2
  obtain rfl : v0 = (.int i0) := Option.some.inj ei0
  obtain ⟨n, o, h1, h2, h3, _, L, rfl, ⟨rfl, N⟩, hq⟩ := rm0 l s _ hw tables_1 i0 w_FUNCTION w_FALLBACK w_ERROR w_RECEIVE w_CONSTRUCTOR w_EVENT  s.heap s.heap.size (Nat.le_refl _) S_FUNCTION E_FUNCTION S_FALLBACK E_FALLBACK S_ERROR E_ERROR S_RECEIVE E_RECEIVE S_CONSTRUCTOR E_CONSTRUCTOR S_EVENT E_EVENT F_ordinal_FALLBACK F_ordinal_FUNCTION F_ordinal_ERROR F_ordinal_RECEIVE F_ordinal_CONSTRUCTOR F_ordinal_EVENT p e ha hc hk s m _ below hf ((Spec.applies_iff_loose hf).mp happ).1 ⟨rfl, State.Warmed39.refl s, rfl⟩ trivial
  refine ⟨n, _, h1, h2, h3, hpost _ _ _ _ _ _ ⟨Cond.after_iff.mpr rfl, Cond.after_iff.mpr (eq_i res_at (Term.int_eval (1)) rfl), trivial⟩ ⟨hq.1, hq.2.1, (hq.2.2.sift fun y hy => Or.inr (N y hy)).mono (by decide) (by decide)⟩⟩
theorem main_1_1 : Claimed_1_1 := comes_1 fun _ _ _ _ _ _ h hF => ⟨h.1, hF⟩
theorem main_1_2 : Claimed_1_2 := comes_1 fun _ _ _ _ _ _ h hF => ⟨h.2.1, hF⟩
end Jvm.Pilot.@@N@@
namespace Jvm.Pilot.@@N@@
open Jvm Jvm.ClassFile Sem Op Lib Jvm.Free Jvm.Stand Jvm.Pilot.@@N@@.Jvm.D
/-! MADE BY PROGRAM (witnessworld.py) out of the Statement's table words and the real class files: 12 classes; the members and pool entries that the words name. The judged class is class 1, her method 2. -/
namespace start1
open Jvm.ClassFile
def u (s : String) : CpInfo := .utf8 (stringToUtf16 s)
/-- a pool by its gaps: so many unusable entries, then the entry; so many at the end -/
def gap : Nat → List CpInfo → List CpInfo
  | 0, r => r
  | n + 1, r => .unusable :: gap n r
def poolList (es : List (Nat × CpInfo)) (last : Nat) : List CpInfo := es.foldr (fun e r => gap e.1 (e.2 :: r)) (gap last [])
def pool (es : List (Nat × CpInfo)) (last : Nat) : Array CpInfo := ⟨poolList es last⟩
def fileOf (pool : Array CpInfo) (this : Nat) (attrs : Array Attribute := #[]) (ms : Array MethodInfo := #[]) (fl : Nat := 33) (sup : Nat := 0) (ifs : Array Nat := #[]) (fds : Array FieldInfo := #[]) : ClassFile where
  minorVersion := 0
  majorVersion := 65
  constantPool := pool
  accessFlags := fl
  thisClass := this
  superClass := sup
  interfaces := ifs
  fields := fds
  methods := ms
  attributes := attrs
def plain (name : String) (sup : Option ClassId) : Class where
  name := name
  kind := .ordinary
  loader := none
  accessFlags := 33
  super := sup
  interfaces := #[]
  cf := none
  fields := #[]
  methods := #[]
  instanceTypes := #[]
  staticTypes := #[]
  resolved := #[]
  callSites := []
  init := .initialized
  statics := none
  mirror := none

def pool0 : Array CpInfo := pool [(5, u "<init>"), (0, u "()V"), (1, .class_ 10), (1, u "java/lang/Object")] 113

def k0m0 : Method := { name := "<init>", desc := "()V", sig := { parameters := [], returnType := none }, accessFlags := 1, code := none }
/-- java/lang/Object -/
def k0 : Class := { plain "java/lang/Object" none with
  accessFlags := 33
  interfaces := #[]
  cf := some (fileOf pool0 8 #[] #[{ accessFlags := 1, nameIndex := 5, descriptorIndex := 6, attributes := #[] }] 33 0 #[] #[])
  fields := #[]
  methods := #[k0m0]
  instanceTypes := #[]
  staticTypes := #[]
  resolved := Array.replicate 124 none
  statics := none }

def pool1 : Array CpInfo := pool [(2, .class_ 4), (1, u "java/lang/Object"), (0, u "<init>"), (0, u "()V"), (0, .fieldref 8 9), (0, .class_ 10), (0, .nameAndType 11 12), (0, u "com/example/headtail/headtail/abi/AbiEntry$Kind"), (0, u "FUNCTION"), (0, u "Lcom/example/headtail/headtail/abi/AbiEntry$Kind;"), (0, .fieldref 8 14), (0, .nameAndType 15 12), (0, u "CONSTRUCTOR"), (0, .fieldref 8 17), (0, .nameAndType 18 12), (0, u "RECEIVE"), (0, .fieldref 8 20), (0, .nameAndType 21 12), (0, u "FALLBACK"), (0, .fieldref 8 23), (0, .nameAndType 24 12), (0, u "EVENT"), (0, .fieldref 8 26), (0, .nameAndType 27 12), (0, u "ERROR"), (0, .integer 2147483647), (0, .methodref 30 31), (0, .class_ 32), (0, .nameAndType 33 34), (0, u "com/example/headtail/headtail/abi/KindHasSelectorPinLaw"), (0, u "kindOf"), (0, u "(I)Lcom/example/headtail/headtail/abi/AbiEntry$Kind;"), (0, .methodref 8 36), (0, .nameAndType 37 38), (0, u "hasSelector"), (0, u "()Z"), (3, u "law"), (0, u "(I)Z")] 6

def k1m0 : Method := { name := "<init>", desc := "()V", sig := { parameters := [], returnType := none }, accessFlags := 1, code := none }
def k1c1 : Code := { maxStack := 2, maxLocals := 2, code := method_2_code, exceptionTable := #[], attributes := #[] }
def k1m1 : Method := { name := "kindOf", desc := "(I)Lcom/example/headtail/headtail/abi/AbiEntry$Kind;", sig := { parameters := [.int], returnType := some (.object "com/example/headtail/headtail/abi/AbiEntry$Kind") }, accessFlags := 10, code := some k1c1 }
def k1c2 : Code := { maxStack := 2, maxLocals := 4, code := code, exceptionTable := #[], attributes := #[] }
def k1m2 : Method := { name := "law", desc := "(I)Z", sig := { parameters := [.int], returnType := some .boolean }, accessFlags := 9, code := some k1c2 }
/-- com/example/headtail/headtail/abi/KindHasSelectorPinLaw -/
def k1 : Class := { plain "com/example/headtail/headtail/abi/KindHasSelectorPinLaw" (some 0) with
  accessFlags := 49
  interfaces := #[]
  cf := some (fileOf pool1 30 #[] #[{ accessFlags := 1, nameIndex := 5, descriptorIndex := 6, attributes := #[] }, { accessFlags := 10, nameIndex := 33, descriptorIndex := 34, attributes := #[] }, { accessFlags := 9, nameIndex := 42, descriptorIndex := 43, attributes := #[] }] 49 2 #[] #[])
  fields := #[]
  methods := #[k1m0, k1m1, k1m2]
  instanceTypes := #[]
  staticTypes := #[]
  resolved := Array.replicate 50 none
  statics := none }

def pool2 : Array CpInfo := pool [(1, .class_ 2), (0, u "java/lang/constant/Constable"), (0, .class_ 4), (0, u "java/lang/Object")] 6

/-- java/lang/constant/Constable -/
def k2 : Class := { plain "java/lang/constant/Constable" (some 0) with
  accessFlags := 1537
  interfaces := #[]
  cf := some (fileOf pool2 1 #[] #[] 1537 3 #[] #[])
  fields := #[]
  methods := #[]
  instanceTypes := #[]
  staticTypes := #[]
  resolved := Array.replicate 11 none
  statics := none }

def pool3 : Array CpInfo := pool [(1, .class_ 2), (0, u "java/lang/Comparable"), (0, .class_ 4), (0, u "java/lang/Object")] 7

/-- java/lang/Comparable -/
def k3 : Class := { plain "java/lang/Comparable" (some 0) with
  accessFlags := 1537
  interfaces := #[]
  cf := some (fileOf pool3 1 #[] #[] 1537 3 #[] #[])
  fields := #[]
  methods := #[]
  instanceTypes := #[]
  staticTypes := #[]
  resolved := Array.replicate 12 none
  statics := none }

def pool4 : Array CpInfo := pool [(1, .class_ 2), (0, u "java/io/Serializable"), (0, .class_ 4), (0, u "java/lang/Object")] 2

/-- java/io/Serializable -/
def k4 : Class := { plain "java/io/Serializable" (some 0) with
  accessFlags := 1537
  interfaces := #[]
  cf := some (fileOf pool4 1 #[] #[] 1537 3 #[] #[])
  fields := #[]
  methods := #[]
  instanceTypes := #[]
  staticTypes := #[]
  resolved := Array.replicate 7 none
  statics := none }

def pool5 : Array CpInfo := pool [(2, .class_ 4), (1, u "java/lang/Enum"), (0, u "name"), (0, u "Ljava/lang/String;"), (2, u "ordinal"), (0, u "I"), (1, .class_ 14), (1, u "java/lang/Object"), (4, u "hash"), (86, .class_ 108), (1, u "java/lang/Enum$EnumDesc"), (2, .class_ 112), (0, u "java/lang/constant/Constable"), (0, .class_ 114), (0, u "java/lang/Comparable"), (0, .class_ 116), (0, u "java/io/Serializable")] 87

/-- java/lang/Enum -/
def k5 : Class := { plain "java/lang/Enum" (some 0) with
  accessFlags := 1057
  interfaces := #[2, 3, 4]
  cf := some (fileOf pool5 2 #[.nestMembers #[106]] #[] 1057 12 #[111, 113, 115] #[{ accessFlags := 18, nameIndex := 5, descriptorIndex := 6, attributes := #[] }, { accessFlags := 18, nameIndex := 9, descriptorIndex := 10, attributes := #[] }, { accessFlags := 2, nameIndex := 19, descriptorIndex := 10, attributes := #[] }])
  fields := #[{ name := "name", type := (.object "java/lang/String"), accessFlags := 18, slot := 0, constantValue := 0 }, { name := "ordinal", type := .int, accessFlags := 18, slot := 1, constantValue := 0 }, { name := "hash", type := .int, accessFlags := 2, slot := 2, constantValue := 0 }]
  methods := #[]
  instanceTypes := #[(.object "java/lang/String"), .int, .int]
  staticTypes := #[]
  resolved := Array.replicate 204 none
  statics := none }

def pool6 : Array CpInfo := pool [(1, .class_ 2), (0, u "com/example/headtail/headtail/abi/AbiEntry$Kind"), (0, .fieldref 1 4), (0, .nameAndType 5 6), (0, u "FUNCTION"), (0, u "Lcom/example/headtail/headtail/abi/AbiEntry$Kind;"), (2, u "CONSTRUCTOR"), (2, u "RECEIVE"), (2, u "FALLBACK"), (2, u "EVENT"), (0, .fieldref 1 20), (0, .nameAndType 21 6), (0, u "ERROR"), (2, u "$VALUES"), (0, u "[Lcom/example/headtail/headtail/abi/AbiEntry$Kind;"), (6, .class_ 34), (1, u "java/lang/Enum"), (45, u "hasSelector"), (0, u "()Z"), (26, .class_ 109), (0, u "com/example/headtail/headtail/abi/AbiEntry")] 16

def k6c0 : Code := { maxStack := 2, maxLocals := 1, code := prog_3_method_6_code, exceptionTable := #[], attributes := #[] }
def k6m0 : Method := { name := "hasSelector", desc := "()Z", sig := { parameters := [], returnType := some .boolean }, accessFlags := 1, code := some k6c0 }
/-- com/example/headtail/headtail/abi/AbiEntry$Kind -/
def k6 : Class := { plain "com/example/headtail/headtail/abi/AbiEntry$Kind" (some 5) with
  accessFlags := 16433
  interfaces := #[]
  cf := some (fileOf pool6 1 #[.nestHost 108] #[{ accessFlags := 1, nameIndex := 80, descriptorIndex := 81, attributes := #[] }] 16433 32 #[] #[{ accessFlags := 16409, nameIndex := 5, descriptorIndex := 6, attributes := #[] }, { accessFlags := 16409, nameIndex := 9, descriptorIndex := 6, attributes := #[] }, { accessFlags := 16409, nameIndex := 12, descriptorIndex := 6, attributes := #[] }, { accessFlags := 16409, nameIndex := 15, descriptorIndex := 6, attributes := #[] }, { accessFlags := 16409, nameIndex := 18, descriptorIndex := 6, attributes := #[] }, { accessFlags := 16409, nameIndex := 21, descriptorIndex := 6, attributes := #[] }, { accessFlags := 4122, nameIndex := 24, descriptorIndex := 25, attributes := #[] }])
  fields := #[{ name := "FUNCTION", type := (.object "com/example/headtail/headtail/abi/AbiEntry$Kind"), accessFlags := 16409, slot := 0, constantValue := 0 }, { name := "CONSTRUCTOR", type := (.object "com/example/headtail/headtail/abi/AbiEntry$Kind"), accessFlags := 16409, slot := 1, constantValue := 0 }, { name := "RECEIVE", type := (.object "com/example/headtail/headtail/abi/AbiEntry$Kind"), accessFlags := 16409, slot := 2, constantValue := 0 }, { name := "FALLBACK", type := (.object "com/example/headtail/headtail/abi/AbiEntry$Kind"), accessFlags := 16409, slot := 3, constantValue := 0 }, { name := "EVENT", type := (.object "com/example/headtail/headtail/abi/AbiEntry$Kind"), accessFlags := 16409, slot := 4, constantValue := 0 }, { name := "ERROR", type := (.object "com/example/headtail/headtail/abi/AbiEntry$Kind"), accessFlags := 16409, slot := 5, constantValue := 0 }, { name := "$VALUES", type := (.array (.object "com/example/headtail/headtail/abi/AbiEntry$Kind")), accessFlags := 4122, slot := 6, constantValue := 0 }]
  methods := #[k6m0]
  instanceTypes := #[(.object "java/lang/String"), .int, .int]
  staticTypes := #[(.object "com/example/headtail/headtail/abi/AbiEntry$Kind"), (.object "com/example/headtail/headtail/abi/AbiEntry$Kind"), (.object "com/example/headtail/headtail/abi/AbiEntry$Kind"), (.object "com/example/headtail/headtail/abi/AbiEntry$Kind"), (.object "com/example/headtail/headtail/abi/AbiEntry$Kind"), (.object "com/example/headtail/headtail/abi/AbiEntry$Kind"), (.array (.object "com/example/headtail/headtail/abi/AbiEntry$Kind"))]
  resolved := Array.replicate 126 none
  statics := some 0 }

def pool7 : Array CpInfo := pool [(1, u "java/lang/Cloneable"), (0, .class_ 1), (0, u "java/lang/Object"), (0, .class_ 3)] 3

/-- java/lang/Cloneable -/
def k7 : Class := { plain "java/lang/Cloneable" (some 0) with
  accessFlags := 1537
  interfaces := #[]
  cf := some (fileOf pool7 2 #[] #[] 1537 4 #[] #[])
  fields := #[]
  methods := #[]
  instanceTypes := #[]
  staticTypes := #[]
  resolved := Array.replicate 8 none
  statics := none }

/-- the primitive byte -/
def k8 : Class := { plain "byte" none with kind := .primitive 'B', accessFlags := 0x411 }
/-- [B -/
def k9 : Class := { plain "[B" (some 0) with kind := .array 8 .byte, interfaces := #[7, 4], accessFlags := 1041 }

/-- the primitive int -/
def k10 : Class := { plain "int" none with kind := .primitive 'I', accessFlags := 0x411 }
/-- [I -/
def k11 : Class := { plain "[I" (some 0) with kind := .array 10 .int, interfaces := #[7, 4], accessFlags := 1041 }

def heap : Heap := #[{ cls := 6, slots := #[.ref 1, .ref 5, .ref 4, .ref 2, .ref 6, .ref 3, .null], vm := .statics 6 },
  { cls := 6, slots := #[.null, .int 0, .int 0], vm := .none },
  { cls := 6, slots := #[.null, .int 3, .int 0], vm := .none },
  { cls := 6, slots := #[.null, .int 5, .int 0], vm := .none },
  { cls := 6, slots := #[.null, .int 2, .int 0], vm := .none },
  { cls := 6, slots := #[.null, .int 1, .int 0], vm := .none },
  { cls := 6, slots := #[.null, .int 4, .int 0], vm := .none }]
def classes : Array Class := #[k0, k1, k2, k3, k4, k5, k6, k7, k8, k9, k10, k11]
def interned : List (Array UInt16 × Addr) := []
def slotsUsed : Nat := 25
def theMethod : MethodId := ⟨1, 2⟩
def args0 : Array Value := #[.int 5]
def aboutOver (below : List Frame) : State where
  vm := { classes := classes, interned := interned.toArray }
  heap := heap
  slotsUsed := slotsUsed
  threads := #[{ frames := .invoking theMethod args0 :: below }]
def below0 : List Frame := [.native { method := ⟨0, 0⟩, args := #[] }]
def about1 : State := aboutOver below0
def p0 : Program := .bare "" "" ""
def e0 : Env := launch0.env 0 0 0
theorem w_frames : about1.frames = Frame.invoking theMethod args0 :: below0 := rfl
set_option maxRecDepth 65536 in
theorem w_args : argsFit about1.vm theMethod args0 = true := by decide +kernel
set_option maxRecDepth 65536 in
theorem w_heap : heapFits about1 = true := by decide +kernel
set_option maxRecDepth 65536 in
theorem w_runnable : about1.curStatus? = some .runnable := by decide +kernel
set_option maxRecDepth 65536 in
theorem w_alone : about1.alone = true := by decide +kernel
set_option maxRecDepth 65536 in
theorem w_named : about1.methodNamed? x = some theMethod := by decide +kernel
set_option maxRecDepth 65536 in
theorem w_hears : about1.hears theMethod below0 = true := by decide +kernel
set_option maxRecDepth 65536 in
theorem w_ripe : about1.ripe theMethod args0 below0 = true := by decide +kernel
theorem w_running : about1.status = .running := rfl
set_option maxRecDepth 65536 in
theorem w_room : about1.hasRoom e0.platform room_1 = true :=
  launch0.hasRoom_least _ room_1 (by decide +kernel) (by decide +kernel) (by decide +kernel) (by decide +kernel) (by decide +kernel) (by decide +kernel)
theorem allAtoms_all (ts : List Jvm.Cond) (a : Array Jvm.Value) (st : Jvm.State) : (allAtoms ts).before a st = ts.all (fun c => c.before a st) := by
  induction ts with
  | nil => rfl
  | cons c t ih =>
    show (Jvm.Cond.and c (allAtoms t)).before a st = _
    rw [Jvm.Cond.before_and, ih, List.all_cons]
def words1 : List Jvm.Cond := Jvm.Cond.code x code maxLocals ret :: tables_1
/-- a 'code' word, met by the world's own term for the bytes: nothing is compared byte by byte -/
theorem code_word {y : MethodName} {bytes : ByteArray} {mx : Nat} {rt : Option FieldType} {a : Array Value} {s : State} {m : MethodId} {meth : Method} {c : Code} (h1 : s.methodNamed? y = some m) (h2 : s.vm.method? m = some meth) (h3 : meth.code = some c) (h4 : c.code = bytes)
    (h5 : (c.maxLocals == mx && c.exceptionTable.isEmpty && decide (c.maxStack ≤ mostOperands) && decide (meth.sig.returnType = rt) && !meth.locks && decide (parseMethodDescriptor y.desc = some meth.sig)) = true) : (Jvm.Cond.code y bytes mx rt).before a s = true := by
  simp only [Bool.and_eq_true, beq_iff_eq, Bool.not_eq_true', decide_eq_true_eq] at h5
  obtain ⟨⟨⟨⟨⟨g1, g2⟩, g3⟩, g4⟩, g5⟩, g6⟩ := h5
  simp [Cond.before, Cond.holds, Cond.value, h1, h2, h3, h4, g1, g2, g3, g4, g5, g6]
def isCode : Jvm.Cond → Bool
  | .code _ _ _ _ => true
  | _ => false
theorem all_split {L : List Jvm.Cond} {P : Jvm.Cond → Bool} (h1 : L.all (fun c => isCode c || P c) = true) (h2 : ∀ c ∈ L.filter isCode, P c = true) : L.all P = true := by
  refine List.all_eq_true.mpr fun c hc => ?_
  have h := List.all_eq_true.mp h1 c hc
  rcases Bool.eq_false_or_eq_true (isCode c) with hi | hi
  · exact h2 c (List.mem_filter.mpr ⟨hc, hi⟩)
  · simpa [hi] using h
set_option maxRecDepth 65536 in
theorem w_c0 : (Jvm.Cond.code x code maxLocals ret).before args0 about1 = true := code_word (m := ⟨1, 2⟩) (meth := k1m2) (c := k1c2) (by decide +kernel) rfl rfl rfl (by decide +kernel)
set_option maxRecDepth 65536 in
theorem w_c1 : (Jvm.Cond.code ({ cls := "com/example/headtail/headtail/abi/KindHasSelectorPinLaw", name := "kindOf", desc := "(I)Lcom/example/headtail/headtail/abi/AbiEntry$Kind;" } : Jvm.MethodName) method_2_code (2 : Nat) (Option.some (Jvm.ClassFile.FieldType.object "com/example/headtail/headtail/abi/AbiEntry$Kind"))).before args0 about1 = true := code_word (m := ⟨1, 1⟩) (meth := k1m1) (c := k1c1) (by decide +kernel) rfl rfl rfl (by decide +kernel)
set_option maxRecDepth 65536 in
theorem w_c2 : (Jvm.Cond.code ({ cls := "com/example/headtail/headtail/abi/AbiEntry$Kind", name := "hasSelector", desc := "()Z" } : Jvm.MethodName) prog_3_method_6_code (1 : Nat) (Option.some Jvm.ClassFile.FieldType.boolean)).before args0 about1 = true := code_word (m := ⟨6, 0⟩) (meth := k6m0) (c := k6c0) (by decide +kernel) rfl rfl rfl (by decide +kernel)
def codes1 : List Jvm.Cond := [Jvm.Cond.code x code maxLocals ret, Jvm.Cond.code ({ cls := "com/example/headtail/headtail/abi/KindHasSelectorPinLaw", name := "kindOf", desc := "(I)Lcom/example/headtail/headtail/abi/AbiEntry$Kind;" } : Jvm.MethodName) method_2_code (2 : Nat) (Option.some (Jvm.ClassFile.FieldType.object "com/example/headtail/headtail/abi/AbiEntry$Kind")), Jvm.Cond.code ({ cls := "com/example/headtail/headtail/abi/AbiEntry$Kind", name := "hasSelector", desc := "()Z" } : Jvm.MethodName) prog_3_method_6_code (1 : Nat) (Option.some Jvm.ClassFile.FieldType.boolean)]
set_option maxRecDepth 65536 in
theorem codes_eq : words1.filter isCode = codes1 := rfl
theorem w_codes : ∀ c ∈ words1.filter isCode, c.before args0 about1 = true := by
  rw [codes_eq]
  intro c hc
  simp only [codes1, List.mem_cons, List.not_mem_nil, or_false] at hc
  rcases hc with rfl | rfl | rfl
  · exact w_c0
  · exact w_c1
  · exact w_c2
set_option maxRecDepth 65536 in
theorem w_t1 : (words1.take 24).all (fun c => isCode c || c.before args0 about1) = true := by decide +kernel
set_option maxRecDepth 65536 in
theorem w_t2 : (words1.drop 24).all (fun c => isCode c || c.before args0 about1) = true := by decide +kernel
theorem w_tables : (allAtoms (Jvm.Cond.code x code maxLocals ret :: tables_1)).before args0 about1 = true := by
  rw [allAtoms_all]
  show words1.all (fun c => c.before args0 about1) = true
  refine all_split ?_ w_codes
  rw [← List.take_append_drop 24 words1, List.all_append, w_t1, w_t2]
  rfl
set_option maxRecDepth 65536 in
theorem w_case : (Jvm.Cond.and given_1 narrow_1).before args0 about1 = true := by decide +kernel
theorem w_applies : (headSpec (Jvm.Cond.code x code maxLocals ret :: tables_1) room_1).applies x e0.platform about1 = true :=
  (Spec.applies_iff w_frames).mpr ⟨w_running, w_runnable, w_alone, w_named, w_hears, w_ripe, w_room, w_tables⟩
theorem atStart : AtStart classFile x code maxLocals ret World_1 tables_1 room_1 Calls_1 rest_1 Pre_1 launch0 p0 e0 about1 theMethod args0 below0 :=
  ⟨lists_1, trivial, launch0.admits_env _ _ _, launch0.least_env, fairChoices_fair.cas, fairChoices_fair.clock, w_frames, w_args, w_heap, w_applies, trivial, trivial, w_case⟩
end start1
theorem witness_1 : WitnessClaimed_1 := ⟨start1.p0, start1.e0, start1.about1, start1.theMethod, start1.args0, start1.below0, start1.atStart⟩
end Jvm.Pilot.@@N@@
