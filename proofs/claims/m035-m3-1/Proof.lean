import JvmDerived
import JvmDerived.Pilot.@@N@@Statement
import JvmDerived.Pilot.@@N@@Code
set_option linter.unusedVariables false
set_option linter.unusedSimpArgs false
namespace Jvm.Pilot.@@N@@
open Jvm Jvm.ClassFile Sem Op Lib Jvm.Free Jvm.Stand Jvm.LawKit Jvm.RoadKit Bundle Jvm.Pilot.@@N@@.Jvm.D
theorem own_eq {args : Array Value} {first s : State} {o : Option Outcome} {idx : List Nat} {a b : Term} (h : (Jvm.Cond.eq a b).value args first o s idx = some true) : a.eval args first o idx s = b.eval args first o idx s := by
  obtain ⟨x, y, h1, h2, k1, k2⟩ := cmp_v (Or.inl h)
  rw [h1, h2]
  simp only [Jvm.Cond.value, h1, h2] at h
  cases x <;> cases y <;> simp_all
theorem own_fld {args : Array Value} {s : State} {t u : Term} {a : Addr} {C n d : String} {v : Value} (ev : t.eval args s none [] s = some (.ref a)) (eu : u.eval args s none [] s = some v) (h : (Jvm.Cond.eq (.field t C n d) u).value args s none s [] = some true) : Fld s s.heap a C n d v :=
  Fld.start ((fld_at ev).symm.trans ((own_eq h).trans eu))

theorem own_rem5 (x : Int32) : 0 ≤ ((x &&& (2147483647 : Int32)) % (5 : Int32)).toInt ∧ ((x &&& (2147483647 : Int32)) % (5 : Int32)).toInt < 5 := by
  have h1 := c_mask x (2147483647 : Int32) 31 (by decide) (by decide)
  have h2 := (c_irem (x &&& (2147483647 : Int32)) (5 : Int32) 5 (by decide)).1 (by omega)
  omega
theorem own_cases5 {z : Int32} (h0 : 0 ≤ z.toInt) (h1 : z.toInt < 5) : z = (0 : Int32) ∨ z = (1 : Int32) ∨ z = (2 : Int32) ∨ z = (3 : Int32) ∨ z = (4 : Int32) := by
  have h : z.toInt = 0 ∨ z.toInt = 1 ∨ z.toInt = 2 ∨ z.toInt = 3 ∨ z.toInt = 4 := by omega
  rcases h with h | h | h | h | h
  · exact Or.inl (Int32.toInt_inj.mp (h.trans (by decide)))
  · exact Or.inr (Or.inl (Int32.toInt_inj.mp (h.trans (by decide))))
  · exact Or.inr (Or.inr (Or.inl (Int32.toInt_inj.mp (h.trans (by decide)))))
  · exact Or.inr (Or.inr (Or.inr (Or.inl (Int32.toInt_inj.mp (h.trans (by decide))))))
  · exact Or.inr (Or.inr (Or.inr (Or.inr ((Int32.toInt_inj.mp (h.trans (by decide)))))))

theorem pn_com_example_headtail_headtail_abi_SimpleType : plainName "com/example/headtail/headtail/abi/SimpleType" = true := by first | (simp [plainName, overriddenIn]; done) | decide +kernel
theorem ef_rm_p (m : MethodId) (o0 : Addr) : entryFrame m #[(.ref o0)] 1 = mkF m 0 #[.val (.ref o0)] [] := by first | (simp [entryFrame, mkF, argsToLocals, Value.category]; done) | rfl
def Q_rm_p (Z : State) (o0 : Addr) (w_BYTES w_STRING : Addr) (r : Int32) (h0 : Heap) (n0 : Nat) (v : Option Value) (h : Heap) (L : List Loc) : Prop := v = some (.int r) ∧ Fr n0 L ∧ h = h0
theorem d_prog_13_method_4_code_0 : decode prog_13_method_4_code 0 = .ok (.aload_n 0, 1) := by decide +kernel
theorem d_prog_13_method_4_code_1 : decode prog_13_method_4_code 1 = .ok (.getstatic 13, 3) := by decide +kernel
theorem d_prog_13_method_4_code_4 : decode prog_13_method_4_code 4 = .ok (.if_acmp .eq 10, 3) := by decide +kernel
theorem d_prog_13_method_4_code_14 : decode prog_13_method_4_code 14 = .ok (.iconst 1, 1) := by decide +kernel
theorem d_prog_13_method_4_code_15 : decode prog_13_method_4_code 15 = .ok (.goto 4, 3) := by decide +kernel
theorem d_prog_13_method_4_code_19 : decode prog_13_method_4_code 19 = .ok (.ireturn, 1) := by decide +kernel
theorem d_prog_13_method_4_code_7 : decode prog_13_method_4_code 7 = .ok (.aload_n 0, 1) := by decide +kernel
theorem d_prog_13_method_4_code_8 : decode prog_13_method_4_code 8 = .ok (.getstatic 16, 3) := by decide +kernel
theorem d_prog_13_method_4_code_11 : decode prog_13_method_4_code 11 = .ok (.if_acmp .ne 7, 3) := by decide +kernel
theorem d_prog_13_method_4_code_18 : decode prog_13_method_4_code 18 = .ok (.iconst 0, 1) := by decide +kernel
set_option maxRecDepth 65536 in
set_option maxHeartbeats 40000000 in
theorem rm_p (l : Launch) (Z : State) (a0 : Array Value) (hw : ∀ d ∈ tables_1, d.before a0 Z = true) (ws : List Jvm.Cond) (o0 : Addr) (w_BYTES w_STRING : Addr) (r : Int32) (h0 : Heap) (n0 : Nat) (Z0 : n0 ≤ h0.size) (S_BYTES : Sta Z h0 "com/example/headtail/headtail/abi/SimpleType" "BYTES" "Lcom/example/headtail/headtail/abi/SimpleType;" (.ref w_BYTES)) (S_STRING : Sta Z h0 "com/example/headtail/headtail/abi/SimpleType" "STRING" "Lcom/example/headtail/headtail/abi/SimpleType;" (.ref w_STRING)) (hres : (if o0 = w_BYTES then (1 : Int32) else (if o0 = w_STRING then (1 : Int32) else (0 : Int32))) = r) :
    MetFree l (⟨"com/example/headtail/headtail/abi/SimpleType", "isDynamic", "()Z"⟩ : MethodName) (head1 (Jvm.Cond.code (⟨"com/example/headtail/headtail/abi/SimpleType", "isDynamic", "()Z"⟩ : MethodName) prog_13_method_4_code 1 (some .boolean) :: ws) ({ frames := 0, cells := 0, slots := 0, locals := 0 } : Room)) (fun a U => a = #[(.ref o0)] ∧ Z.Warmed39 U.vm ∧ U.heap = h0) (fun _ _ _ _ _ => True) (fun _ U o U' => ∃ v L, o = .returned v ∧ Q_rm_p Z o0 w_BYTES w_STRING r h0 n0 v U'.heap L ∧ FrameEnd U o U' L ({ frames := 0, cells := 0, slots := 0, locals := 0 } : Room).cells ({ frames := 0, cells := 0, slots := 0, locals := 0 } : Room).slots) := by
  refine MetFree.of_bodySF (plainFor_of_name pn_com_example_headtail_headtail_abi_SimpleType) hisR ?_
  intro p e s m args below meth c s₁ Bd hml0 hP hK
  obtain ⟨rfl, hZ, hh⟩ := hP
  have hx := Bd.exec
  have hby := Bd.bytes
  have hml : c.maxLocals = 1 := hml0
  have hown : s.vm.findClass "com/example/headtail/headtail/abi/SimpleType" = some m.cls := findClass_of_methodNamed Bd.named
  have hnm := (name_of_methodNamed Bd.named Bd.method).1
  have X0 : Stand p l e ({ frames := 0, cells := 0, slots := 0, locals := 0 } : Room) s m #[(.ref o0)] below meth c s₁ [] 0 0 := Stand.of_body Bd
  have e0 : s₁.heap = h0 := by rw [← hh, Bd.state]; rfl
  have N0 := Fr.nil n0
  have pre0 : ∀ t, Steps p.tables e below (s₁.setTop (mkF m 0 #[.val (.ref o0)] [])) t → Steps p.tables e below (s₁.setTop (entryFrame m #[(.ref o0)] 1)) t := fun t k => castTop (ef_rm_p m o0) k
  obtain ⟨T1, X1, e1, st1⟩ := getS2 X0 hx hZ hown (host := "") (Or.inl (hw _ (List.mem_of_getElem? (i := 9) rfl))) Via.refl e0 S_BYTES (g := (mkF m 1 #[.val (.ref o0)] [(.ref o0)])) rfl (hb hby d_prog_13_method_4_code_1)
  have pre2 : ∀ t, Steps p.tables e below (T1.setTop (mkF m 4 #[.val (.ref o0)] [(.ref w_BYTES), (.ref o0)])) t → Steps p.tables e below (s₁.setTop (entryFrame m #[(.ref o0)] 1)) t := by
    intro t kt
    refine pre0 t ?_
    show Steps p.tables e below (s₁.setTop (mkF m 0 #[.val (.ref o0)] [])) _
    refine XS.aloadN X0.here hx rfl (hb hby d_prog_13_method_4_code_0) rfl rfl ?_
    show Steps p.tables e below (s₁.setTop (mkF m 1 #[.val (.ref o0)] [(.ref o0)])) _
    refine st1 _ ?_
    exact kt
  by_cases ha4_3 : o0 = w_BYTES
  · have pre4 : ∀ t, Steps p.tables e below (T1.setTop (mkF m 19 #[.val (.ref o0)] [(.int (1 : Int32))])) t → Steps p.tables e below (s₁.setTop (entryFrame m #[(.ref o0)] 1)) t := by
      intro t kt
      refine pre2 t ?_
      show Steps p.tables e below (T1.setTop (mkF m 4 #[.val (.ref o0)] [(.ref w_BYTES), (.ref o0)])) _
      refine Jvm.RoadKit.acmp (g := (mkF m 4 #[.val (.ref o0)] [(.ref w_BYTES), (.ref o0)])) X1 hx rfl rfl rfl (pc0 := 4) (pc' := 14) (same := true) rfl (hb hby d_prog_13_method_4_code_4) rfl (decide_eq_true (congrArg Value.ref ha4_3)) (by decide) (by decide) ?_
      show Steps p.tables e below (T1.setTop (mkF m 14 #[.val (.ref o0)] [])) _
      refine XS.iconst X1.here hx rfl (hb hby d_prog_13_method_4_code_14) ?_
      show Steps p.tables e below (T1.setTop (mkF m 15 #[.val (.ref o0)] [(.int (1 : Int32))])) _
      refine XS.goto X1.here hx rfl (pc0 := 15) (pc' := 19) rfl (hb hby d_prog_13_method_4_code_15) (by decide) (by decide) ?_
      exact kt
    obtain ⟨fs, hr, hrun, hended, hW, hsame⟩ := X1.leave (v := some (.int (1 : Int32))) (fun h => by rw [Bd.returns] at h; cases h)
    refine ⟨_, _, pre4 _ ?_, hrun, hended, _, _, rfl, ?_, ⟨_, rfl⟩, hW, hsame.mono (by decide) (by decide)⟩
    · show Steps p.tables e below (T1.setTop (mkF m 19 #[.val (.ref o0)] [(.int (1 : Int32))])) _
      exact retN X1 hx (t := .boolean) Bd.returns (by simp) (hb hby d_prog_13_method_4_code_19) hr
    · show Q_rm_p Z o0 w_BYTES w_STRING r h0 n0 _ T1.heap _
      rw [e1]
      exact ⟨by rw [← hres]; simp [ha4_3], N0, rfl⟩
  · obtain ⟨T5, X5, e5, st5⟩ := getS2 X1 hx hZ hown (host := "") (Or.inl (hw _ (List.mem_of_getElem? (i := 11) rfl))) Via.refl e1 S_STRING (g := (mkF m 8 #[.val (.ref o0)] [(.ref o0)])) rfl (hb hby d_prog_13_method_4_code_8)
    have pre6 : ∀ t, Steps p.tables e below (T5.setTop (mkF m 11 #[.val (.ref o0)] [(.ref w_STRING), (.ref o0)])) t → Steps p.tables e below (s₁.setTop (entryFrame m #[(.ref o0)] 1)) t := by
      intro t kt
      refine pre2 t ?_
      show Steps p.tables e below (T1.setTop (mkF m 4 #[.val (.ref o0)] [(.ref w_BYTES), (.ref o0)])) _
      refine Jvm.RoadKit.acmp (g := (mkF m 4 #[.val (.ref o0)] [(.ref w_BYTES), (.ref o0)])) X1 hx rfl rfl rfl (pc0 := 4) (pc' := 7) (same := false) rfl (hb hby d_prog_13_method_4_code_4) rfl (decide_eq_false fun q => ha4_3 (Value.ref.inj q)) (by decide) (by decide) ?_
      show Steps p.tables e below (T1.setTop (mkF m 7 #[.val (.ref o0)] [])) _
      refine XS.aloadN X1.here hx rfl (hb hby d_prog_13_method_4_code_7) rfl rfl ?_
      show Steps p.tables e below (T1.setTop (mkF m 8 #[.val (.ref o0)] [(.ref o0)])) _
      refine st5 _ ?_
      exact kt
    by_cases ha11_7 : o0 = w_STRING
    · have pre8 : ∀ t, Steps p.tables e below (T5.setTop (mkF m 19 #[.val (.ref o0)] [(.int (1 : Int32))])) t → Steps p.tables e below (s₁.setTop (entryFrame m #[(.ref o0)] 1)) t := by
        intro t kt
        refine pre6 t ?_
        show Steps p.tables e below (T5.setTop (mkF m 11 #[.val (.ref o0)] [(.ref w_STRING), (.ref o0)])) _
        refine Jvm.RoadKit.acmp (g := (mkF m 11 #[.val (.ref o0)] [(.ref w_STRING), (.ref o0)])) X5 hx rfl rfl rfl (pc0 := 11) (pc' := 14) (same := true) rfl (hb hby d_prog_13_method_4_code_11) rfl (decide_eq_true (congrArg Value.ref ha11_7)) (by decide) (by decide) ?_
        show Steps p.tables e below (T5.setTop (mkF m 14 #[.val (.ref o0)] [])) _
        refine XS.iconst X5.here hx rfl (hb hby d_prog_13_method_4_code_14) ?_
        show Steps p.tables e below (T5.setTop (mkF m 15 #[.val (.ref o0)] [(.int (1 : Int32))])) _
        refine XS.goto X5.here hx rfl (pc0 := 15) (pc' := 19) rfl (hb hby d_prog_13_method_4_code_15) (by decide) (by decide) ?_
        exact kt
      obtain ⟨fs, hr, hrun, hended, hW, hsame⟩ := X5.leave (v := some (.int (1 : Int32))) (fun h => by rw [Bd.returns] at h; cases h)
      refine ⟨_, _, pre8 _ ?_, hrun, hended, _, _, rfl, ?_, ⟨_, rfl⟩, hW, hsame.mono (by decide) (by decide)⟩
      · show Steps p.tables e below (T5.setTop (mkF m 19 #[.val (.ref o0)] [(.int (1 : Int32))])) _
        exact retN X5 hx (t := .boolean) Bd.returns (by simp) (hb hby d_prog_13_method_4_code_19) hr
      · show Q_rm_p Z o0 w_BYTES w_STRING r h0 n0 _ T5.heap _
        rw [e5]
        exact ⟨by rw [← hres]; simp [ha4_3, ha11_7], N0, rfl⟩
    · have pre9 : ∀ t, Steps p.tables e below (T5.setTop (mkF m 19 #[.val (.ref o0)] [(.int (0 : Int32))])) t → Steps p.tables e below (s₁.setTop (entryFrame m #[(.ref o0)] 1)) t := by
        intro t kt
        refine pre6 t ?_
        show Steps p.tables e below (T5.setTop (mkF m 11 #[.val (.ref o0)] [(.ref w_STRING), (.ref o0)])) _
        refine Jvm.RoadKit.acmp (g := (mkF m 11 #[.val (.ref o0)] [(.ref w_STRING), (.ref o0)])) X5 hx rfl rfl rfl (pc0 := 11) (pc' := 18) (same := false) rfl (hb hby d_prog_13_method_4_code_11) rfl (decide_eq_false fun q => ha11_7 (Value.ref.inj q)) (by decide) (by decide) ?_
        show Steps p.tables e below (T5.setTop (mkF m 18 #[.val (.ref o0)] [])) _
        refine XS.iconst X5.here hx rfl (hb hby d_prog_13_method_4_code_18) ?_
        exact kt
      obtain ⟨fs, hr, hrun, hended, hW, hsame⟩ := X5.leave (v := some (.int (0 : Int32))) (fun h => by rw [Bd.returns] at h; cases h)
      refine ⟨_, _, pre9 _ ?_, hrun, hended, _, _, rfl, ?_, ⟨_, rfl⟩, hW, hsame.mono (by decide) (by decide)⟩
      · show Steps p.tables e below (T5.setTop (mkF m 19 #[.val (.ref o0)] [(.int (0 : Int32))])) _
        exact retN X5 hx (t := .boolean) Bd.returns (by simp) (hb hby d_prog_13_method_4_code_19) hr
      · show Q_rm_p Z o0 w_BYTES w_STRING r h0 n0 _ T5.heap _
        rw [e5]
        exact ⟨by rw [← hres]; simp [ha4_3, ha11_7], N0, rfl⟩
theorem pn_com_example_headtail_headtail_abi_SimpleTypeIsDynamicPinLaw : plainName "com/example/headtail/headtail/abi/SimpleTypeIsDynamicPinLaw" = true := by first | (simp [plainName, overriddenIn]; done) | decide +kernel
theorem ef_rm0 (m : MethodId) (p0 : Int32) : entryFrame m #[(.int p0)] maxLocals = mkF m 0 #[.val (.int p0), .unset, .unset, .unset] [] := by first | (simp [entryFrame, mkF, argsToLocals, Value.category, maxLocals]; done) | rfl
def Q_rm0 (Z : State) (p0 : Int32) (w_ADDRESS w_BYTES w_STRING w_BOOL w_FUNCTION : Addr)  (h0 : Heap) (n0 : Nat) (v : Option Value) (h : Heap) (L : List Loc) : Prop := v = some (.int 1) ∧ Fr n0 L
theorem pd___Z : parseMethodDescriptor "()Z" = some ⟨[], some .boolean⟩ := by decide +kernel
set_option maxRecDepth 65536 in
set_option maxHeartbeats 40000000 in
theorem rm0 (l : Launch) (Z : State) (a0 : Array Value) (hw : ∀ d ∈ tables_1, d.before a0 Z = true) (ws : List Jvm.Cond) (p0 : Int32) (w_ADDRESS w_BYTES w_STRING w_BOOL w_FUNCTION : Addr)  (h0 : Heap) (n0 : Nat) (Z0 : n0 ≤ h0.size) (S_ADDRESS : Sta Z h0 "com/example/headtail/headtail/abi/SimpleType" "ADDRESS" "Lcom/example/headtail/headtail/abi/SimpleType;" (.ref w_ADDRESS)) (E_ADDRESS : Exa Z h0 w_ADDRESS "com/example/headtail/headtail/abi/SimpleType") (S_BYTES : Sta Z h0 "com/example/headtail/headtail/abi/SimpleType" "BYTES" "Lcom/example/headtail/headtail/abi/SimpleType;" (.ref w_BYTES)) (E_BYTES : Exa Z h0 w_BYTES "com/example/headtail/headtail/abi/SimpleType") (S_STRING : Sta Z h0 "com/example/headtail/headtail/abi/SimpleType" "STRING" "Lcom/example/headtail/headtail/abi/SimpleType;" (.ref w_STRING)) (E_STRING : Exa Z h0 w_STRING "com/example/headtail/headtail/abi/SimpleType") (S_BOOL : Sta Z h0 "com/example/headtail/headtail/abi/SimpleType" "BOOL" "Lcom/example/headtail/headtail/abi/SimpleType;" (.ref w_BOOL)) (E_BOOL : Exa Z h0 w_BOOL "com/example/headtail/headtail/abi/SimpleType") (S_FUNCTION : Sta Z h0 "com/example/headtail/headtail/abi/SimpleType" "FUNCTION" "Lcom/example/headtail/headtail/abi/SimpleType;" (.ref w_FUNCTION)) (E_FUNCTION : Exa Z h0 w_FUNCTION "com/example/headtail/headtail/abi/SimpleType") (F_ordinal_ADDRESS : Fld Z h0 w_ADDRESS "java/lang/Enum" "ordinal" "I" (.int (0 : Int32))) (F_ordinal_BYTES : Fld Z h0 w_BYTES "java/lang/Enum" "ordinal" "I" (.int (3 : Int32))) (F_ordinal_STRING : Fld Z h0 w_STRING "java/lang/Enum" "ordinal" "I" (.int (4 : Int32))) (F_ordinal_BOOL : Fld Z h0 w_BOOL "java/lang/Enum" "ordinal" "I" (.int (1 : Int32))) (F_ordinal_FUNCTION : Fld Z h0 w_FUNCTION "java/lang/Enum" "ordinal" "I" (.int (2 : Int32))) :
    MetFree l x (head1 (Jvm.Cond.code x code maxLocals ret :: ws) room_1) (fun a U => a = #[(.int p0)] ∧ Z.Warmed39 U.vm ∧ U.heap = h0) (fun _ _ _ _ _ => True) (fun _ U o U' => ∃ v L, o = .returned v ∧ Q_rm0 Z p0 w_ADDRESS w_BYTES w_STRING w_BOOL w_FUNCTION h0 n0 v U'.heap L ∧ FrameEnd U o U' L room_1.cells room_1.slots) := by
  refine MetFree.of_bodySF (plainFor_of_name pn_com_example_headtail_headtail_abi_SimpleTypeIsDynamicPinLaw) hisR ?_
  intro p e s m args below meth c s₁ Bd hml0 hP hK
  obtain ⟨rfl, hZ, hh⟩ := hP
  have hx := Bd.exec
  have hby := Bd.bytes
  have hml : c.maxLocals = 4 := hml0
  have hown : s.vm.findClass "com/example/headtail/headtail/abi/SimpleTypeIsDynamicPinLaw" = some m.cls := findClass_of_methodNamed Bd.named
  have hnm := (name_of_methodNamed Bd.named Bd.method).1
  have X0 : Stand p l e room_1 s m #[(.int p0)] below meth c s₁ [] 0 0 := Stand.of_body Bd
  have e0 : s₁.heap = h0 := by rw [← hh, Bd.state]; rfl
  have N0 := Fr.nil n0
  have pre0 : ∀ t, Steps p.tables e below (s₁.setTop (mkF m 0 #[.val (.int p0), .unset, .unset, .unset] [])) t → Steps p.tables e below (s₁.setTop (entryFrame m #[(.int p0)] maxLocals)) t := fun t k => castTop (ef_rm0 m p0) k
  have ne_ADDRESS_BYTES : w_ADDRESS ≠ w_BYTES := Fld.ne F_ordinal_ADDRESS F_ordinal_BYTES (fun q => absurd (Value.int.inj q) (by decide))
  have ne_ADDRESS_STRING : w_ADDRESS ≠ w_STRING := Fld.ne F_ordinal_ADDRESS F_ordinal_STRING (fun q => absurd (Value.int.inj q) (by decide))
  have ne_ADDRESS_BOOL : w_ADDRESS ≠ w_BOOL := Fld.ne F_ordinal_ADDRESS F_ordinal_BOOL (fun q => absurd (Value.int.inj q) (by decide))
  have ne_ADDRESS_FUNCTION : w_ADDRESS ≠ w_FUNCTION := Fld.ne F_ordinal_ADDRESS F_ordinal_FUNCTION (fun q => absurd (Value.int.inj q) (by decide))
  have ne_BYTES_ADDRESS : w_BYTES ≠ w_ADDRESS := Fld.ne F_ordinal_BYTES F_ordinal_ADDRESS (fun q => absurd (Value.int.inj q) (by decide))
  have ne_BYTES_STRING : w_BYTES ≠ w_STRING := Fld.ne F_ordinal_BYTES F_ordinal_STRING (fun q => absurd (Value.int.inj q) (by decide))
  have ne_BYTES_BOOL : w_BYTES ≠ w_BOOL := Fld.ne F_ordinal_BYTES F_ordinal_BOOL (fun q => absurd (Value.int.inj q) (by decide))
  have ne_BYTES_FUNCTION : w_BYTES ≠ w_FUNCTION := Fld.ne F_ordinal_BYTES F_ordinal_FUNCTION (fun q => absurd (Value.int.inj q) (by decide))
  have ne_STRING_ADDRESS : w_STRING ≠ w_ADDRESS := Fld.ne F_ordinal_STRING F_ordinal_ADDRESS (fun q => absurd (Value.int.inj q) (by decide))
  have ne_STRING_BYTES : w_STRING ≠ w_BYTES := Fld.ne F_ordinal_STRING F_ordinal_BYTES (fun q => absurd (Value.int.inj q) (by decide))
  have ne_STRING_BOOL : w_STRING ≠ w_BOOL := Fld.ne F_ordinal_STRING F_ordinal_BOOL (fun q => absurd (Value.int.inj q) (by decide))
  have ne_STRING_FUNCTION : w_STRING ≠ w_FUNCTION := Fld.ne F_ordinal_STRING F_ordinal_FUNCTION (fun q => absurd (Value.int.inj q) (by decide))
  have ne_BOOL_ADDRESS : w_BOOL ≠ w_ADDRESS := Fld.ne F_ordinal_BOOL F_ordinal_ADDRESS (fun q => absurd (Value.int.inj q) (by decide))
  have ne_BOOL_BYTES : w_BOOL ≠ w_BYTES := Fld.ne F_ordinal_BOOL F_ordinal_BYTES (fun q => absurd (Value.int.inj q) (by decide))
  have ne_BOOL_STRING : w_BOOL ≠ w_STRING := Fld.ne F_ordinal_BOOL F_ordinal_STRING (fun q => absurd (Value.int.inj q) (by decide))
  have ne_BOOL_FUNCTION : w_BOOL ≠ w_FUNCTION := Fld.ne F_ordinal_BOOL F_ordinal_FUNCTION (fun q => absurd (Value.int.inj q) (by decide))
  have ne_FUNCTION_ADDRESS : w_FUNCTION ≠ w_ADDRESS := Fld.ne F_ordinal_FUNCTION F_ordinal_ADDRESS (fun q => absurd (Value.int.inj q) (by decide))
  have ne_FUNCTION_BYTES : w_FUNCTION ≠ w_BYTES := Fld.ne F_ordinal_FUNCTION F_ordinal_BYTES (fun q => absurd (Value.int.inj q) (by decide))
  have ne_FUNCTION_STRING : w_FUNCTION ≠ w_STRING := Fld.ne F_ordinal_FUNCTION F_ordinal_STRING (fun q => absurd (Value.int.inj q) (by decide))
  have ne_FUNCTION_BOOL : w_FUNCTION ≠ w_BOOL := Fld.ne F_ordinal_FUNCTION F_ordinal_BOOL (fun q => absurd (Value.int.inj q) (by decide))
  have pre10 : ∀ t, Steps p.tables e below (s₁.setTop (mkF m 7 #[.val (.int p0), .val (.int ((p0 &&& (2147483647 : Int32)) % (5 : Int32))), .unset, .unset] [])) t → Steps p.tables e below (s₁.setTop (entryFrame m #[(.int p0)] maxLocals)) t := by
    intro t kt
    refine pre0 t ?_
    show Steps p.tables e below (s₁.setTop (mkF m 0 #[.val (.int p0), .unset, .unset, .unset] [])) _
    refine XS.iloadN X0.here hx rfl (hb hby at_0) rfl ?_
    show Steps p.tables e below (s₁.setTop (mkF m 1 #[.val (.int p0), .unset, .unset, .unset] [(.int p0)])) _
    refine X0.ldcInt hx hown (mvT hZ (hw _ (List.mem_of_getElem? (i := 0) rfl))) (g := (mkF m 1 #[.val (.int p0), .unset, .unset, .unset] [(.int p0)])) rfl (hb hby at_1) _ ?_
    show Steps p.tables e below (s₁.setTop (mkF m 3 #[.val (.int p0), .unset, .unset, .unset] [(.int (2147483647 : Int32)), (.int p0)])) _
    refine XS.iand X0.here hx rfl (hb hby at_3) rfl ?_
    show Steps p.tables e below (s₁.setTop (mkF m 4 #[.val (.int p0), .unset, .unset, .unset] [(.int (p0 &&& (2147483647 : Int32)))])) _
    refine XS.iconst X0.here hx rfl (hb hby at_4) ?_
    show Steps p.tables e below (s₁.setTop (mkF m 5 #[.val (.int p0), .unset, .unset, .unset] [(.int (5 : Int32)), (.int (p0 &&& (2147483647 : Int32)))])) _
    refine iremM X0 hx rfl (hb hby at_5) rfl (by decide) ?_
    show Steps p.tables e below (s₁.setTop (mkF m 6 #[.val (.int p0), .unset, .unset, .unset] [(.int ((p0 &&& (2147483647 : Int32)) % (5 : Int32)))])) _
    refine XS.istoreN X0.here hx rfl (hb hby at_6) rfl (l' := #[.val (.int p0), .val (.int ((p0 &&& (2147483647 : Int32)) % (5 : Int32))), .unset, .unset]) rfl ?_
    exact kt
  rcases own_cases5 (own_rem5 p0).1 (own_rem5 p0).2 with hk | hk | hk | hk | hk
  · rw [hk] at pre10
    obtain ⟨T11, X11, e11, st11⟩ := getS2 X0 hx hZ hown (host := "") (Or.inl (hw _ (List.mem_of_getElem? (i := 1) rfl))) Via.refl e0 S_ADDRESS (g := (mkF m 11 #[.val (.int p0), .val (.int (0 : Int32)), .unset, .unset] [])) rfl (hb hby at_11)
    obtain ⟨cq12, kq12, q12a, q12b, q12c⟩ := isOf hZ e11 E_ADDRESS
    obtain ⟨_, _, ⟨T12, L12, k12, n12⟩, -, X12, ⟨Lc12, hQ12, l12, y12, z12⟩, st12⟩ := X11.virtualBack hx (y := (⟨"com/example/headtail/headtail/abi/SimpleType", "isDynamic", "()Z"⟩ : MethodName)) (z := (⟨"com/example/headtail/headtail/abi/SimpleType", "isDynamic", "()Z"⟩ : MethodName)) hown (mvT hZ (hw _ (List.mem_of_getElem? (i := 4) rfl))) (mvT hZ (hw _ (List.mem_of_getElem? (i := 5) rfl))) (notFace_of_selects (args := #[]) (mvT hZ (hw _ (List.mem_of_getElem? (i := 7) rfl)))) (mvT hZ (hw _ (List.mem_of_getElem? (i := 7) rfl))) (mvT hZ (hw _ (List.mem_of_getElem? (i := 6) rfl))) (by decide) (backOf (W := 0) (rm_p l Z a0 hw [] w_ADDRESS w_BYTES w_STRING (0 : Int32) h0 n0 Z0 S_BYTES S_STRING (by simp [ne_ADDRESS_BYTES, ne_ADDRESS_STRING])) hZ (hw _ (List.mem_of_getElem? (i := 8) rfl)) (hw _ (List.mem_of_getElem? (i := 2) rfl)) (by decide) (by decide)) q12a q12c (g := (mkF m 69 #[.val (.int p0), .val (.int (0 : Int32)), .val (.ref w_ADDRESS), .val (.int (0 : Int32))] [(.ref w_ADDRESS)])) rfl (by rw [hml]; rfl) (Steps.refl _) (argsL := []) (rest := []) (lenOf pd___Z rfl) rfl (by show 2 * 0 + _ ≤ _; exact Nat.le_of_eq rfl) (hb hby at_69) (fun _ _ => ⟨rfl, e11, (by decide : 0 + 0 ≤ _), (by decide : 0 + 0 ≤ _)⟩)
    dsimp only [Pt.U, Pt.locs, Pt.cells, Pt.slots] at X12 l12 y12 z12 st12 hQ12
    subst l12 y12 z12
    obtain ⟨rfl, N12q, e12⟩ := hQ12
    have N12 := Fr.app N0 N12q
    have pre13 : ∀ t, Steps p.tables e below (T12.setTop (mkF m 81 #[.val (.int p0), .val (.int (0 : Int32)), .val (.ref w_ADDRESS), .val (.int (0 : Int32))] [(.int (1 : Int32))])) t → Steps p.tables e below (s₁.setTop (entryFrame m #[(.int p0)] maxLocals)) t := by
      intro t kt
      refine pre10 t ?_
      show Steps p.tables e below (s₁.setTop (mkF m 7 #[.val (.int p0), .val (.int (0 : Int32)), .unset, .unset] [])) _
      refine XS.iloadN X0.here hx rfl (hb hby at_7) rfl ?_
      show Steps p.tables e below (s₁.setTop (mkF m 8 #[.val (.int p0), .val (.int (0 : Int32)), .unset, .unset] [(.int (0 : Int32))])) _
      refine XS.ifNo X0.here hx rfl (hb hby at_8) rfl ((if0 _ _).trans (teq (by decide : (0 : Int32) = (0 : Int32))).2) ?_
      show Steps p.tables e below (s₁.setTop (mkF m 11 #[.val (.int p0), .val (.int (0 : Int32)), .unset, .unset] [])) _
      refine st11 _ ?_
      show Steps p.tables e below (T11.setTop (mkF m 14 #[.val (.int p0), .val (.int (0 : Int32)), .unset, .unset] [(.ref w_ADDRESS)])) _
      refine XS.astoreN X11.here hx rfl (hb hby at_14) rfl rfl (l' := #[.val (.int p0), .val (.int (0 : Int32)), .val (.ref w_ADDRESS), .unset]) rfl ?_
      show Steps p.tables e below (T11.setTop (mkF m 15 #[.val (.int p0), .val (.int (0 : Int32)), .val (.ref w_ADDRESS), .unset] [])) _
      refine XS.iconst X11.here hx rfl (hb hby at_15) ?_
      show Steps p.tables e below (T11.setTop (mkF m 16 #[.val (.int p0), .val (.int (0 : Int32)), .val (.ref w_ADDRESS), .unset] [(.int (0 : Int32))])) _
      refine XS.istoreN X11.here hx rfl (hb hby at_16) rfl (l' := #[.val (.int p0), .val (.int (0 : Int32)), .val (.ref w_ADDRESS), .val (.int (0 : Int32))]) rfl ?_
      show Steps p.tables e below (T11.setTop (mkF m 17 #[.val (.int p0), .val (.int (0 : Int32)), .val (.ref w_ADDRESS), .val (.int (0 : Int32))] [])) _
      refine XS.goto X11.here hx rfl (pc0 := 17) (pc' := 68) rfl (hb hby at_17) (by decide) (by decide) ?_
      show Steps p.tables e below (T11.setTop (mkF m 68 #[.val (.int p0), .val (.int (0 : Int32)), .val (.ref w_ADDRESS), .val (.int (0 : Int32))] [])) _
      refine XS.aloadN X11.here hx rfl (hb hby at_68) rfl rfl ?_
      show Steps p.tables e below (T11.setTop (mkF m 69 #[.val (.int p0), .val (.int (0 : Int32)), .val (.ref w_ADDRESS), .val (.int (0 : Int32))] [(.ref w_ADDRESS)])) _
      refine st12.trans ?_
      show Steps p.tables e below (T12.setTop (mkF m 72 #[.val (.int p0), .val (.int (0 : Int32)), .val (.ref w_ADDRESS), .val (.int (0 : Int32))] [(.int (0 : Int32))])) _
      refine XS.iloadN X12.here hx rfl (hb hby at_72) rfl ?_
      show Steps p.tables e below (T12.setTop (mkF m 73 #[.val (.int p0), .val (.int (0 : Int32)), .val (.ref w_ADDRESS), .val (.int (0 : Int32))] [(.int (0 : Int32)), (.int (0 : Int32))])) _
      refine XS.icmpNo X12.here hx rfl (hb hby at_73) rfl (teq (by decide : (0 : Int32) = (0 : Int32))).2 ?_
      show Steps p.tables e below (T12.setTop (mkF m 76 #[.val (.int p0), .val (.int (0 : Int32)), .val (.ref w_ADDRESS), .val (.int (0 : Int32))] [])) _
      refine XS.iconst X12.here hx rfl (hb hby at_76) ?_
      show Steps p.tables e below (T12.setTop (mkF m 77 #[.val (.int p0), .val (.int (0 : Int32)), .val (.ref w_ADDRESS), .val (.int (0 : Int32))] [(.int (1 : Int32))])) _
      refine XS.goto X12.here hx rfl (pc0 := 77) (pc' := 81) rfl (hb hby at_77) (by decide) (by decide) ?_
      exact kt
    obtain ⟨fs, hr, hrun, hended, hW, hsame⟩ := X12.leave (v := some (.int (1 : Int32))) (fun h => by rw [Bd.returns] at h; cases h)
    refine ⟨_, _, pre13 _ ?_, hrun, hended, _, _, rfl, ?_, ⟨_, rfl⟩, hW, hsame.mono (by decide) (by decide)⟩
    · show Steps p.tables e below (T12.setTop (mkF m 81 #[.val (.int p0), .val (.int (0 : Int32)), .val (.ref w_ADDRESS), .val (.int (0 : Int32))] [(.int (1 : Int32))])) _
      exact retN X12 hx (t := .boolean) Bd.returns (by simp) (hb hby at_81) hr
    · show Q_rm0 Z p0 w_ADDRESS w_BYTES w_STRING w_BOOL w_FUNCTION h0 n0 _ T12.heap _
      rw [e12]
      exact ⟨rfl, N12⟩
  · rw [hk] at pre10
    obtain ⟨T14, X14, e14, st14⟩ := getS2 X0 hx hZ hown (host := "") (Or.inl (hw _ (List.mem_of_getElem? (i := 14) rfl))) Via.refl e0 S_BOOL (g := (mkF m 25 #[.val (.int p0), .val (.int (1 : Int32)), .unset, .unset] [])) rfl (hb hby at_25)
    obtain ⟨cq15, kq15, q15a, q15b, q15c⟩ := isOf hZ e14 E_BOOL
    obtain ⟨_, _, ⟨T15, L15, k15, n15⟩, -, X15, ⟨Lc15, hQ15, l15, y15, z15⟩, st15⟩ := X14.virtualBack hx (y := (⟨"com/example/headtail/headtail/abi/SimpleType", "isDynamic", "()Z"⟩ : MethodName)) (z := (⟨"com/example/headtail/headtail/abi/SimpleType", "isDynamic", "()Z"⟩ : MethodName)) hown (mvT hZ (hw _ (List.mem_of_getElem? (i := 4) rfl))) (mvT hZ (hw _ (List.mem_of_getElem? (i := 5) rfl))) (notFace_of_selects (args := #[]) (mvT hZ (hw _ (List.mem_of_getElem? (i := 7) rfl)))) (mvT hZ (hw _ (List.mem_of_getElem? (i := 7) rfl))) (mvT hZ (hw _ (List.mem_of_getElem? (i := 6) rfl))) (by decide) (backOf (W := 0) (rm_p l Z a0 hw [] w_BOOL w_BYTES w_STRING (0 : Int32) h0 n0 Z0 S_BYTES S_STRING (by simp [ne_BOOL_BYTES, ne_BOOL_STRING])) hZ (hw _ (List.mem_of_getElem? (i := 8) rfl)) (hw _ (List.mem_of_getElem? (i := 2) rfl)) (by decide) (by decide)) q15a q15c (g := (mkF m 69 #[.val (.int p0), .val (.int (1 : Int32)), .val (.ref w_BOOL), .val (.int (0 : Int32))] [(.ref w_BOOL)])) rfl (by rw [hml]; rfl) (Steps.refl _) (argsL := []) (rest := []) (lenOf pd___Z rfl) rfl (by show 2 * 0 + _ ≤ _; exact Nat.le_of_eq rfl) (hb hby at_69) (fun _ _ => ⟨rfl, e14, (by decide : 0 + 0 ≤ _), (by decide : 0 + 0 ≤ _)⟩)
    dsimp only [Pt.U, Pt.locs, Pt.cells, Pt.slots] at X15 l15 y15 z15 st15 hQ15
    subst l15 y15 z15
    obtain ⟨rfl, N15q, e15⟩ := hQ15
    have N15 := Fr.app N0 N15q
    have pre16 : ∀ t, Steps p.tables e below (T15.setTop (mkF m 81 #[.val (.int p0), .val (.int (1 : Int32)), .val (.ref w_BOOL), .val (.int (0 : Int32))] [(.int (1 : Int32))])) t → Steps p.tables e below (s₁.setTop (entryFrame m #[(.int p0)] maxLocals)) t := by
      intro t kt
      refine pre10 t ?_
      show Steps p.tables e below (s₁.setTop (mkF m 7 #[.val (.int p0), .val (.int (1 : Int32)), .unset, .unset] [])) _
      refine XS.iloadN X0.here hx rfl (hb hby at_7) rfl ?_
      show Steps p.tables e below (s₁.setTop (mkF m 8 #[.val (.int p0), .val (.int (1 : Int32)), .unset, .unset] [(.int (1 : Int32))])) _
      refine XS.ifYes X0.here hx rfl (pc0 := 8) (pc' := 20) rfl (hb hby at_8) rfl ((if0 _ _).trans (feq (by decide : ¬ ((1 : Int32) = (0 : Int32)))).2) (by decide) (by decide) ?_
      show Steps p.tables e below (s₁.setTop (mkF m 20 #[.val (.int p0), .val (.int (1 : Int32)), .unset, .unset] [])) _
      refine XS.iloadN X0.here hx rfl (hb hby at_20) rfl ?_
      show Steps p.tables e below (s₁.setTop (mkF m 21 #[.val (.int p0), .val (.int (1 : Int32)), .unset, .unset] [(.int (1 : Int32))])) _
      refine XS.iconst X0.here hx rfl (hb hby at_21) ?_
      show Steps p.tables e below (s₁.setTop (mkF m 22 #[.val (.int p0), .val (.int (1 : Int32)), .unset, .unset] [(.int (1 : Int32)), (.int (1 : Int32))])) _
      refine XS.icmpNo X0.here hx rfl (hb hby at_22) rfl (teq (by decide : (1 : Int32) = (1 : Int32))).2 ?_
      show Steps p.tables e below (s₁.setTop (mkF m 25 #[.val (.int p0), .val (.int (1 : Int32)), .unset, .unset] [])) _
      refine st14 _ ?_
      show Steps p.tables e below (T14.setTop (mkF m 28 #[.val (.int p0), .val (.int (1 : Int32)), .unset, .unset] [(.ref w_BOOL)])) _
      refine XS.astoreN X14.here hx rfl (hb hby at_28) rfl rfl (l' := #[.val (.int p0), .val (.int (1 : Int32)), .val (.ref w_BOOL), .unset]) rfl ?_
      show Steps p.tables e below (T14.setTop (mkF m 29 #[.val (.int p0), .val (.int (1 : Int32)), .val (.ref w_BOOL), .unset] [])) _
      refine XS.iconst X14.here hx rfl (hb hby at_29) ?_
      show Steps p.tables e below (T14.setTop (mkF m 30 #[.val (.int p0), .val (.int (1 : Int32)), .val (.ref w_BOOL), .unset] [(.int (0 : Int32))])) _
      refine XS.istoreN X14.here hx rfl (hb hby at_30) rfl (l' := #[.val (.int p0), .val (.int (1 : Int32)), .val (.ref w_BOOL), .val (.int (0 : Int32))]) rfl ?_
      show Steps p.tables e below (T14.setTop (mkF m 31 #[.val (.int p0), .val (.int (1 : Int32)), .val (.ref w_BOOL), .val (.int (0 : Int32))] [])) _
      refine XS.goto X14.here hx rfl (pc0 := 31) (pc' := 68) rfl (hb hby at_31) (by decide) (by decide) ?_
      show Steps p.tables e below (T14.setTop (mkF m 68 #[.val (.int p0), .val (.int (1 : Int32)), .val (.ref w_BOOL), .val (.int (0 : Int32))] [])) _
      refine XS.aloadN X14.here hx rfl (hb hby at_68) rfl rfl ?_
      show Steps p.tables e below (T14.setTop (mkF m 69 #[.val (.int p0), .val (.int (1 : Int32)), .val (.ref w_BOOL), .val (.int (0 : Int32))] [(.ref w_BOOL)])) _
      refine st15.trans ?_
      show Steps p.tables e below (T15.setTop (mkF m 72 #[.val (.int p0), .val (.int (1 : Int32)), .val (.ref w_BOOL), .val (.int (0 : Int32))] [(.int (0 : Int32))])) _
      refine XS.iloadN X15.here hx rfl (hb hby at_72) rfl ?_
      show Steps p.tables e below (T15.setTop (mkF m 73 #[.val (.int p0), .val (.int (1 : Int32)), .val (.ref w_BOOL), .val (.int (0 : Int32))] [(.int (0 : Int32)), (.int (0 : Int32))])) _
      refine XS.icmpNo X15.here hx rfl (hb hby at_73) rfl (teq (by decide : (0 : Int32) = (0 : Int32))).2 ?_
      show Steps p.tables e below (T15.setTop (mkF m 76 #[.val (.int p0), .val (.int (1 : Int32)), .val (.ref w_BOOL), .val (.int (0 : Int32))] [])) _
      refine XS.iconst X15.here hx rfl (hb hby at_76) ?_
      show Steps p.tables e below (T15.setTop (mkF m 77 #[.val (.int p0), .val (.int (1 : Int32)), .val (.ref w_BOOL), .val (.int (0 : Int32))] [(.int (1 : Int32))])) _
      refine XS.goto X15.here hx rfl (pc0 := 77) (pc' := 81) rfl (hb hby at_77) (by decide) (by decide) ?_
      exact kt
    obtain ⟨fs, hr, hrun, hended, hW, hsame⟩ := X15.leave (v := some (.int (1 : Int32))) (fun h => by rw [Bd.returns] at h; cases h)
    refine ⟨_, _, pre16 _ ?_, hrun, hended, _, _, rfl, ?_, ⟨_, rfl⟩, hW, hsame.mono (by decide) (by decide)⟩
    · show Steps p.tables e below (T15.setTop (mkF m 81 #[.val (.int p0), .val (.int (1 : Int32)), .val (.ref w_BOOL), .val (.int (0 : Int32))] [(.int (1 : Int32))])) _
      exact retN X15 hx (t := .boolean) Bd.returns (by simp) (hb hby at_81) hr
    · show Q_rm0 Z p0 w_ADDRESS w_BYTES w_STRING w_BOOL w_FUNCTION h0 n0 _ T15.heap _
      rw [e15]
      exact ⟨rfl, N15⟩
  · rw [hk] at pre10
    obtain ⟨T17, X17, e17, st17⟩ := getS2 X0 hx hZ hown (host := "") (Or.inl (hw _ (List.mem_of_getElem? (i := 17) rfl))) Via.refl e0 S_FUNCTION (g := (mkF m 39 #[.val (.int p0), .val (.int (2 : Int32)), .unset, .unset] [])) rfl (hb hby at_39)
    obtain ⟨cq18, kq18, q18a, q18b, q18c⟩ := isOf hZ e17 E_FUNCTION
    obtain ⟨_, _, ⟨T18, L18, k18, n18⟩, -, X18, ⟨Lc18, hQ18, l18, y18, z18⟩, st18⟩ := X17.virtualBack hx (y := (⟨"com/example/headtail/headtail/abi/SimpleType", "isDynamic", "()Z"⟩ : MethodName)) (z := (⟨"com/example/headtail/headtail/abi/SimpleType", "isDynamic", "()Z"⟩ : MethodName)) hown (mvT hZ (hw _ (List.mem_of_getElem? (i := 4) rfl))) (mvT hZ (hw _ (List.mem_of_getElem? (i := 5) rfl))) (notFace_of_selects (args := #[]) (mvT hZ (hw _ (List.mem_of_getElem? (i := 7) rfl)))) (mvT hZ (hw _ (List.mem_of_getElem? (i := 7) rfl))) (mvT hZ (hw _ (List.mem_of_getElem? (i := 6) rfl))) (by decide) (backOf (W := 0) (rm_p l Z a0 hw [] w_FUNCTION w_BYTES w_STRING (0 : Int32) h0 n0 Z0 S_BYTES S_STRING (by simp [ne_FUNCTION_BYTES, ne_FUNCTION_STRING])) hZ (hw _ (List.mem_of_getElem? (i := 8) rfl)) (hw _ (List.mem_of_getElem? (i := 2) rfl)) (by decide) (by decide)) q18a q18c (g := (mkF m 69 #[.val (.int p0), .val (.int (2 : Int32)), .val (.ref w_FUNCTION), .val (.int (0 : Int32))] [(.ref w_FUNCTION)])) rfl (by rw [hml]; rfl) (Steps.refl _) (argsL := []) (rest := []) (lenOf pd___Z rfl) rfl (by show 2 * 0 + _ ≤ _; exact Nat.le_of_eq rfl) (hb hby at_69) (fun _ _ => ⟨rfl, e17, (by decide : 0 + 0 ≤ _), (by decide : 0 + 0 ≤ _)⟩)
    dsimp only [Pt.U, Pt.locs, Pt.cells, Pt.slots] at X18 l18 y18 z18 st18 hQ18
    subst l18 y18 z18
    obtain ⟨rfl, N18q, e18⟩ := hQ18
    have N18 := Fr.app N0 N18q
    have pre19 : ∀ t, Steps p.tables e below (T18.setTop (mkF m 81 #[.val (.int p0), .val (.int (2 : Int32)), .val (.ref w_FUNCTION), .val (.int (0 : Int32))] [(.int (1 : Int32))])) t → Steps p.tables e below (s₁.setTop (entryFrame m #[(.int p0)] maxLocals)) t := by
      intro t kt
      refine pre10 t ?_
      show Steps p.tables e below (s₁.setTop (mkF m 7 #[.val (.int p0), .val (.int (2 : Int32)), .unset, .unset] [])) _
      refine XS.iloadN X0.here hx rfl (hb hby at_7) rfl ?_
      show Steps p.tables e below (s₁.setTop (mkF m 8 #[.val (.int p0), .val (.int (2 : Int32)), .unset, .unset] [(.int (2 : Int32))])) _
      refine XS.ifYes X0.here hx rfl (pc0 := 8) (pc' := 20) rfl (hb hby at_8) rfl ((if0 _ _).trans (feq (by decide : ¬ ((2 : Int32) = (0 : Int32)))).2) (by decide) (by decide) ?_
      show Steps p.tables e below (s₁.setTop (mkF m 20 #[.val (.int p0), .val (.int (2 : Int32)), .unset, .unset] [])) _
      refine XS.iloadN X0.here hx rfl (hb hby at_20) rfl ?_
      show Steps p.tables e below (s₁.setTop (mkF m 21 #[.val (.int p0), .val (.int (2 : Int32)), .unset, .unset] [(.int (2 : Int32))])) _
      refine XS.iconst X0.here hx rfl (hb hby at_21) ?_
      show Steps p.tables e below (s₁.setTop (mkF m 22 #[.val (.int p0), .val (.int (2 : Int32)), .unset, .unset] [(.int (1 : Int32)), (.int (2 : Int32))])) _
      refine XS.icmpYes X0.here hx rfl (pc0 := 22) (pc' := 34) rfl (hb hby at_22) rfl (feq (by decide : ¬ ((2 : Int32) = (1 : Int32)))).2 (by decide) (by decide) ?_
      show Steps p.tables e below (s₁.setTop (mkF m 34 #[.val (.int p0), .val (.int (2 : Int32)), .unset, .unset] [])) _
      refine XS.iloadN X0.here hx rfl (hb hby at_34) rfl ?_
      show Steps p.tables e below (s₁.setTop (mkF m 35 #[.val (.int p0), .val (.int (2 : Int32)), .unset, .unset] [(.int (2 : Int32))])) _
      refine XS.iconst X0.here hx rfl (hb hby at_35) ?_
      show Steps p.tables e below (s₁.setTop (mkF m 36 #[.val (.int p0), .val (.int (2 : Int32)), .unset, .unset] [(.int (2 : Int32)), (.int (2 : Int32))])) _
      refine XS.icmpNo X0.here hx rfl (hb hby at_36) rfl (teq (by decide : (2 : Int32) = (2 : Int32))).2 ?_
      show Steps p.tables e below (s₁.setTop (mkF m 39 #[.val (.int p0), .val (.int (2 : Int32)), .unset, .unset] [])) _
      refine st17 _ ?_
      show Steps p.tables e below (T17.setTop (mkF m 42 #[.val (.int p0), .val (.int (2 : Int32)), .unset, .unset] [(.ref w_FUNCTION)])) _
      refine XS.astoreN X17.here hx rfl (hb hby at_42) rfl rfl (l' := #[.val (.int p0), .val (.int (2 : Int32)), .val (.ref w_FUNCTION), .unset]) rfl ?_
      show Steps p.tables e below (T17.setTop (mkF m 43 #[.val (.int p0), .val (.int (2 : Int32)), .val (.ref w_FUNCTION), .unset] [])) _
      refine XS.iconst X17.here hx rfl (hb hby at_43) ?_
      show Steps p.tables e below (T17.setTop (mkF m 44 #[.val (.int p0), .val (.int (2 : Int32)), .val (.ref w_FUNCTION), .unset] [(.int (0 : Int32))])) _
      refine XS.istoreN X17.here hx rfl (hb hby at_44) rfl (l' := #[.val (.int p0), .val (.int (2 : Int32)), .val (.ref w_FUNCTION), .val (.int (0 : Int32))]) rfl ?_
      show Steps p.tables e below (T17.setTop (mkF m 45 #[.val (.int p0), .val (.int (2 : Int32)), .val (.ref w_FUNCTION), .val (.int (0 : Int32))] [])) _
      refine XS.goto X17.here hx rfl (pc0 := 45) (pc' := 68) rfl (hb hby at_45) (by decide) (by decide) ?_
      show Steps p.tables e below (T17.setTop (mkF m 68 #[.val (.int p0), .val (.int (2 : Int32)), .val (.ref w_FUNCTION), .val (.int (0 : Int32))] [])) _
      refine XS.aloadN X17.here hx rfl (hb hby at_68) rfl rfl ?_
      show Steps p.tables e below (T17.setTop (mkF m 69 #[.val (.int p0), .val (.int (2 : Int32)), .val (.ref w_FUNCTION), .val (.int (0 : Int32))] [(.ref w_FUNCTION)])) _
      refine st18.trans ?_
      show Steps p.tables e below (T18.setTop (mkF m 72 #[.val (.int p0), .val (.int (2 : Int32)), .val (.ref w_FUNCTION), .val (.int (0 : Int32))] [(.int (0 : Int32))])) _
      refine XS.iloadN X18.here hx rfl (hb hby at_72) rfl ?_
      show Steps p.tables e below (T18.setTop (mkF m 73 #[.val (.int p0), .val (.int (2 : Int32)), .val (.ref w_FUNCTION), .val (.int (0 : Int32))] [(.int (0 : Int32)), (.int (0 : Int32))])) _
      refine XS.icmpNo X18.here hx rfl (hb hby at_73) rfl (teq (by decide : (0 : Int32) = (0 : Int32))).2 ?_
      show Steps p.tables e below (T18.setTop (mkF m 76 #[.val (.int p0), .val (.int (2 : Int32)), .val (.ref w_FUNCTION), .val (.int (0 : Int32))] [])) _
      refine XS.iconst X18.here hx rfl (hb hby at_76) ?_
      show Steps p.tables e below (T18.setTop (mkF m 77 #[.val (.int p0), .val (.int (2 : Int32)), .val (.ref w_FUNCTION), .val (.int (0 : Int32))] [(.int (1 : Int32))])) _
      refine XS.goto X18.here hx rfl (pc0 := 77) (pc' := 81) rfl (hb hby at_77) (by decide) (by decide) ?_
      exact kt
    obtain ⟨fs, hr, hrun, hended, hW, hsame⟩ := X18.leave (v := some (.int (1 : Int32))) (fun h => by rw [Bd.returns] at h; cases h)
    refine ⟨_, _, pre19 _ ?_, hrun, hended, _, _, rfl, ?_, ⟨_, rfl⟩, hW, hsame.mono (by decide) (by decide)⟩
    · show Steps p.tables e below (T18.setTop (mkF m 81 #[.val (.int p0), .val (.int (2 : Int32)), .val (.ref w_FUNCTION), .val (.int (0 : Int32))] [(.int (1 : Int32))])) _
      exact retN X18 hx (t := .boolean) Bd.returns (by simp) (hb hby at_81) hr
    · show Q_rm0 Z p0 w_ADDRESS w_BYTES w_STRING w_BOOL w_FUNCTION h0 n0 _ T18.heap _
      rw [e18]
      exact ⟨rfl, N18⟩
  · rw [hk] at pre10
    obtain ⟨T20, X20, e20, st20⟩ := getS2 X0 hx hZ hown (host := "") (Or.inl (hw _ (List.mem_of_getElem? (i := 13) rfl))) Via.refl e0 S_BYTES (g := (mkF m 53 #[.val (.int p0), .val (.int (3 : Int32)), .unset, .unset] [])) rfl (hb hby at_53)
    obtain ⟨cq21, kq21, q21a, q21b, q21c⟩ := isOf hZ e20 E_BYTES
    obtain ⟨_, _, ⟨T21, L21, k21, n21⟩, -, X21, ⟨Lc21, hQ21, l21, y21, z21⟩, st21⟩ := X20.virtualBack hx (y := (⟨"com/example/headtail/headtail/abi/SimpleType", "isDynamic", "()Z"⟩ : MethodName)) (z := (⟨"com/example/headtail/headtail/abi/SimpleType", "isDynamic", "()Z"⟩ : MethodName)) hown (mvT hZ (hw _ (List.mem_of_getElem? (i := 4) rfl))) (mvT hZ (hw _ (List.mem_of_getElem? (i := 5) rfl))) (notFace_of_selects (args := #[]) (mvT hZ (hw _ (List.mem_of_getElem? (i := 7) rfl)))) (mvT hZ (hw _ (List.mem_of_getElem? (i := 7) rfl))) (mvT hZ (hw _ (List.mem_of_getElem? (i := 6) rfl))) (by decide) (backOf (W := 0) (rm_p l Z a0 hw [] w_BYTES w_BYTES w_STRING (1 : Int32) h0 n0 Z0 S_BYTES S_STRING (by simp [ne_BYTES_STRING])) hZ (hw _ (List.mem_of_getElem? (i := 8) rfl)) (hw _ (List.mem_of_getElem? (i := 2) rfl)) (by decide) (by decide)) q21a q21c (g := (mkF m 69 #[.val (.int p0), .val (.int (3 : Int32)), .val (.ref w_BYTES), .val (.int (1 : Int32))] [(.ref w_BYTES)])) rfl (by rw [hml]; rfl) (Steps.refl _) (argsL := []) (rest := []) (lenOf pd___Z rfl) rfl (by show 2 * 0 + _ ≤ _; exact Nat.le_of_eq rfl) (hb hby at_69) (fun _ _ => ⟨rfl, e20, (by decide : 0 + 0 ≤ _), (by decide : 0 + 0 ≤ _)⟩)
    dsimp only [Pt.U, Pt.locs, Pt.cells, Pt.slots] at X21 l21 y21 z21 st21 hQ21
    subst l21 y21 z21
    obtain ⟨rfl, N21q, e21⟩ := hQ21
    have N21 := Fr.app N0 N21q
    have pre22 : ∀ t, Steps p.tables e below (T21.setTop (mkF m 81 #[.val (.int p0), .val (.int (3 : Int32)), .val (.ref w_BYTES), .val (.int (1 : Int32))] [(.int (1 : Int32))])) t → Steps p.tables e below (s₁.setTop (entryFrame m #[(.int p0)] maxLocals)) t := by
      intro t kt
      refine pre10 t ?_
      show Steps p.tables e below (s₁.setTop (mkF m 7 #[.val (.int p0), .val (.int (3 : Int32)), .unset, .unset] [])) _
      refine XS.iloadN X0.here hx rfl (hb hby at_7) rfl ?_
      show Steps p.tables e below (s₁.setTop (mkF m 8 #[.val (.int p0), .val (.int (3 : Int32)), .unset, .unset] [(.int (3 : Int32))])) _
      refine XS.ifYes X0.here hx rfl (pc0 := 8) (pc' := 20) rfl (hb hby at_8) rfl ((if0 _ _).trans (feq (by decide : ¬ ((3 : Int32) = (0 : Int32)))).2) (by decide) (by decide) ?_
      show Steps p.tables e below (s₁.setTop (mkF m 20 #[.val (.int p0), .val (.int (3 : Int32)), .unset, .unset] [])) _
      refine XS.iloadN X0.here hx rfl (hb hby at_20) rfl ?_
      show Steps p.tables e below (s₁.setTop (mkF m 21 #[.val (.int p0), .val (.int (3 : Int32)), .unset, .unset] [(.int (3 : Int32))])) _
      refine XS.iconst X0.here hx rfl (hb hby at_21) ?_
      show Steps p.tables e below (s₁.setTop (mkF m 22 #[.val (.int p0), .val (.int (3 : Int32)), .unset, .unset] [(.int (1 : Int32)), (.int (3 : Int32))])) _
      refine XS.icmpYes X0.here hx rfl (pc0 := 22) (pc' := 34) rfl (hb hby at_22) rfl (feq (by decide : ¬ ((3 : Int32) = (1 : Int32)))).2 (by decide) (by decide) ?_
      show Steps p.tables e below (s₁.setTop (mkF m 34 #[.val (.int p0), .val (.int (3 : Int32)), .unset, .unset] [])) _
      refine XS.iloadN X0.here hx rfl (hb hby at_34) rfl ?_
      show Steps p.tables e below (s₁.setTop (mkF m 35 #[.val (.int p0), .val (.int (3 : Int32)), .unset, .unset] [(.int (3 : Int32))])) _
      refine XS.iconst X0.here hx rfl (hb hby at_35) ?_
      show Steps p.tables e below (s₁.setTop (mkF m 36 #[.val (.int p0), .val (.int (3 : Int32)), .unset, .unset] [(.int (2 : Int32)), (.int (3 : Int32))])) _
      refine XS.icmpYes X0.here hx rfl (pc0 := 36) (pc' := 48) rfl (hb hby at_36) rfl (feq (by decide : ¬ ((3 : Int32) = (2 : Int32)))).2 (by decide) (by decide) ?_
      show Steps p.tables e below (s₁.setTop (mkF m 48 #[.val (.int p0), .val (.int (3 : Int32)), .unset, .unset] [])) _
      refine XS.iloadN X0.here hx rfl (hb hby at_48) rfl ?_
      show Steps p.tables e below (s₁.setTop (mkF m 49 #[.val (.int p0), .val (.int (3 : Int32)), .unset, .unset] [(.int (3 : Int32))])) _
      refine XS.iconst X0.here hx rfl (hb hby at_49) ?_
      show Steps p.tables e below (s₁.setTop (mkF m 50 #[.val (.int p0), .val (.int (3 : Int32)), .unset, .unset] [(.int (3 : Int32)), (.int (3 : Int32))])) _
      refine XS.icmpNo X0.here hx rfl (hb hby at_50) rfl (teq (by decide : (3 : Int32) = (3 : Int32))).2 ?_
      show Steps p.tables e below (s₁.setTop (mkF m 53 #[.val (.int p0), .val (.int (3 : Int32)), .unset, .unset] [])) _
      refine st20 _ ?_
      show Steps p.tables e below (T20.setTop (mkF m 56 #[.val (.int p0), .val (.int (3 : Int32)), .unset, .unset] [(.ref w_BYTES)])) _
      refine XS.astoreN X20.here hx rfl (hb hby at_56) rfl rfl (l' := #[.val (.int p0), .val (.int (3 : Int32)), .val (.ref w_BYTES), .unset]) rfl ?_
      show Steps p.tables e below (T20.setTop (mkF m 57 #[.val (.int p0), .val (.int (3 : Int32)), .val (.ref w_BYTES), .unset] [])) _
      refine XS.iconst X20.here hx rfl (hb hby at_57) ?_
      show Steps p.tables e below (T20.setTop (mkF m 58 #[.val (.int p0), .val (.int (3 : Int32)), .val (.ref w_BYTES), .unset] [(.int (1 : Int32))])) _
      refine XS.istoreN X20.here hx rfl (hb hby at_58) rfl (l' := #[.val (.int p0), .val (.int (3 : Int32)), .val (.ref w_BYTES), .val (.int (1 : Int32))]) rfl ?_
      show Steps p.tables e below (T20.setTop (mkF m 59 #[.val (.int p0), .val (.int (3 : Int32)), .val (.ref w_BYTES), .val (.int (1 : Int32))] [])) _
      refine XS.goto X20.here hx rfl (pc0 := 59) (pc' := 68) rfl (hb hby at_59) (by decide) (by decide) ?_
      show Steps p.tables e below (T20.setTop (mkF m 68 #[.val (.int p0), .val (.int (3 : Int32)), .val (.ref w_BYTES), .val (.int (1 : Int32))] [])) _
      refine XS.aloadN X20.here hx rfl (hb hby at_68) rfl rfl ?_
      show Steps p.tables e below (T20.setTop (mkF m 69 #[.val (.int p0), .val (.int (3 : Int32)), .val (.ref w_BYTES), .val (.int (1 : Int32))] [(.ref w_BYTES)])) _
      refine st21.trans ?_
      show Steps p.tables e below (T21.setTop (mkF m 72 #[.val (.int p0), .val (.int (3 : Int32)), .val (.ref w_BYTES), .val (.int (1 : Int32))] [(.int (1 : Int32))])) _
      refine XS.iloadN X21.here hx rfl (hb hby at_72) rfl ?_
      show Steps p.tables e below (T21.setTop (mkF m 73 #[.val (.int p0), .val (.int (3 : Int32)), .val (.ref w_BYTES), .val (.int (1 : Int32))] [(.int (1 : Int32)), (.int (1 : Int32))])) _
      refine XS.icmpNo X21.here hx rfl (hb hby at_73) rfl (teq (by decide : (1 : Int32) = (1 : Int32))).2 ?_
      show Steps p.tables e below (T21.setTop (mkF m 76 #[.val (.int p0), .val (.int (3 : Int32)), .val (.ref w_BYTES), .val (.int (1 : Int32))] [])) _
      refine XS.iconst X21.here hx rfl (hb hby at_76) ?_
      show Steps p.tables e below (T21.setTop (mkF m 77 #[.val (.int p0), .val (.int (3 : Int32)), .val (.ref w_BYTES), .val (.int (1 : Int32))] [(.int (1 : Int32))])) _
      refine XS.goto X21.here hx rfl (pc0 := 77) (pc' := 81) rfl (hb hby at_77) (by decide) (by decide) ?_
      exact kt
    obtain ⟨fs, hr, hrun, hended, hW, hsame⟩ := X21.leave (v := some (.int (1 : Int32))) (fun h => by rw [Bd.returns] at h; cases h)
    refine ⟨_, _, pre22 _ ?_, hrun, hended, _, _, rfl, ?_, ⟨_, rfl⟩, hW, hsame.mono (by decide) (by decide)⟩
    · show Steps p.tables e below (T21.setTop (mkF m 81 #[.val (.int p0), .val (.int (3 : Int32)), .val (.ref w_BYTES), .val (.int (1 : Int32))] [(.int (1 : Int32))])) _
      exact retN X21 hx (t := .boolean) Bd.returns (by simp) (hb hby at_81) hr
    · show Q_rm0 Z p0 w_ADDRESS w_BYTES w_STRING w_BOOL w_FUNCTION h0 n0 _ T21.heap _
      rw [e21]
      exact ⟨rfl, N21⟩
  · rw [hk] at pre10
    obtain ⟨T23, X23, e23, st23⟩ := getS2 X0 hx hZ hown (host := "") (Or.inl (hw _ (List.mem_of_getElem? (i := 16) rfl))) Via.refl e0 S_STRING (g := (mkF m 62 #[.val (.int p0), .val (.int (4 : Int32)), .unset, .unset] [])) rfl (hb hby at_62)
    obtain ⟨cq24, kq24, q24a, q24b, q24c⟩ := isOf hZ e23 E_STRING
    obtain ⟨_, _, ⟨T24, L24, k24, n24⟩, -, X24, ⟨Lc24, hQ24, l24, y24, z24⟩, st24⟩ := X23.virtualBack hx (y := (⟨"com/example/headtail/headtail/abi/SimpleType", "isDynamic", "()Z"⟩ : MethodName)) (z := (⟨"com/example/headtail/headtail/abi/SimpleType", "isDynamic", "()Z"⟩ : MethodName)) hown (mvT hZ (hw _ (List.mem_of_getElem? (i := 4) rfl))) (mvT hZ (hw _ (List.mem_of_getElem? (i := 5) rfl))) (notFace_of_selects (args := #[]) (mvT hZ (hw _ (List.mem_of_getElem? (i := 7) rfl)))) (mvT hZ (hw _ (List.mem_of_getElem? (i := 7) rfl))) (mvT hZ (hw _ (List.mem_of_getElem? (i := 6) rfl))) (by decide) (backOf (W := 0) (rm_p l Z a0 hw [] w_STRING w_BYTES w_STRING (1 : Int32) h0 n0 Z0 S_BYTES S_STRING (by simp [ne_STRING_BYTES])) hZ (hw _ (List.mem_of_getElem? (i := 8) rfl)) (hw _ (List.mem_of_getElem? (i := 2) rfl)) (by decide) (by decide)) q24a q24c (g := (mkF m 69 #[.val (.int p0), .val (.int (4 : Int32)), .val (.ref w_STRING), .val (.int (1 : Int32))] [(.ref w_STRING)])) rfl (by rw [hml]; rfl) (Steps.refl _) (argsL := []) (rest := []) (lenOf pd___Z rfl) rfl (by show 2 * 0 + _ ≤ _; exact Nat.le_of_eq rfl) (hb hby at_69) (fun _ _ => ⟨rfl, e23, (by decide : 0 + 0 ≤ _), (by decide : 0 + 0 ≤ _)⟩)
    dsimp only [Pt.U, Pt.locs, Pt.cells, Pt.slots] at X24 l24 y24 z24 st24 hQ24
    subst l24 y24 z24
    obtain ⟨rfl, N24q, e24⟩ := hQ24
    have N24 := Fr.app N0 N24q
    have pre25 : ∀ t, Steps p.tables e below (T24.setTop (mkF m 81 #[.val (.int p0), .val (.int (4 : Int32)), .val (.ref w_STRING), .val (.int (1 : Int32))] [(.int (1 : Int32))])) t → Steps p.tables e below (s₁.setTop (entryFrame m #[(.int p0)] maxLocals)) t := by
      intro t kt
      refine pre10 t ?_
      show Steps p.tables e below (s₁.setTop (mkF m 7 #[.val (.int p0), .val (.int (4 : Int32)), .unset, .unset] [])) _
      refine XS.iloadN X0.here hx rfl (hb hby at_7) rfl ?_
      show Steps p.tables e below (s₁.setTop (mkF m 8 #[.val (.int p0), .val (.int (4 : Int32)), .unset, .unset] [(.int (4 : Int32))])) _
      refine XS.ifYes X0.here hx rfl (pc0 := 8) (pc' := 20) rfl (hb hby at_8) rfl ((if0 _ _).trans (feq (by decide : ¬ ((4 : Int32) = (0 : Int32)))).2) (by decide) (by decide) ?_
      show Steps p.tables e below (s₁.setTop (mkF m 20 #[.val (.int p0), .val (.int (4 : Int32)), .unset, .unset] [])) _
      refine XS.iloadN X0.here hx rfl (hb hby at_20) rfl ?_
      show Steps p.tables e below (s₁.setTop (mkF m 21 #[.val (.int p0), .val (.int (4 : Int32)), .unset, .unset] [(.int (4 : Int32))])) _
      refine XS.iconst X0.here hx rfl (hb hby at_21) ?_
      show Steps p.tables e below (s₁.setTop (mkF m 22 #[.val (.int p0), .val (.int (4 : Int32)), .unset, .unset] [(.int (1 : Int32)), (.int (4 : Int32))])) _
      refine XS.icmpYes X0.here hx rfl (pc0 := 22) (pc' := 34) rfl (hb hby at_22) rfl (feq (by decide : ¬ ((4 : Int32) = (1 : Int32)))).2 (by decide) (by decide) ?_
      show Steps p.tables e below (s₁.setTop (mkF m 34 #[.val (.int p0), .val (.int (4 : Int32)), .unset, .unset] [])) _
      refine XS.iloadN X0.here hx rfl (hb hby at_34) rfl ?_
      show Steps p.tables e below (s₁.setTop (mkF m 35 #[.val (.int p0), .val (.int (4 : Int32)), .unset, .unset] [(.int (4 : Int32))])) _
      refine XS.iconst X0.here hx rfl (hb hby at_35) ?_
      show Steps p.tables e below (s₁.setTop (mkF m 36 #[.val (.int p0), .val (.int (4 : Int32)), .unset, .unset] [(.int (2 : Int32)), (.int (4 : Int32))])) _
      refine XS.icmpYes X0.here hx rfl (pc0 := 36) (pc' := 48) rfl (hb hby at_36) rfl (feq (by decide : ¬ ((4 : Int32) = (2 : Int32)))).2 (by decide) (by decide) ?_
      show Steps p.tables e below (s₁.setTop (mkF m 48 #[.val (.int p0), .val (.int (4 : Int32)), .unset, .unset] [])) _
      refine XS.iloadN X0.here hx rfl (hb hby at_48) rfl ?_
      show Steps p.tables e below (s₁.setTop (mkF m 49 #[.val (.int p0), .val (.int (4 : Int32)), .unset, .unset] [(.int (4 : Int32))])) _
      refine XS.iconst X0.here hx rfl (hb hby at_49) ?_
      show Steps p.tables e below (s₁.setTop (mkF m 50 #[.val (.int p0), .val (.int (4 : Int32)), .unset, .unset] [(.int (3 : Int32)), (.int (4 : Int32))])) _
      refine XS.icmpYes X0.here hx rfl (pc0 := 50) (pc' := 62) rfl (hb hby at_50) rfl (feq (by decide : ¬ ((4 : Int32) = (3 : Int32)))).2 (by decide) (by decide) ?_
      show Steps p.tables e below (s₁.setTop (mkF m 62 #[.val (.int p0), .val (.int (4 : Int32)), .unset, .unset] [])) _
      refine st23 _ ?_
      show Steps p.tables e below (T23.setTop (mkF m 65 #[.val (.int p0), .val (.int (4 : Int32)), .unset, .unset] [(.ref w_STRING)])) _
      refine XS.astoreN X23.here hx rfl (hb hby at_65) rfl rfl (l' := #[.val (.int p0), .val (.int (4 : Int32)), .val (.ref w_STRING), .unset]) rfl ?_
      show Steps p.tables e below (T23.setTop (mkF m 66 #[.val (.int p0), .val (.int (4 : Int32)), .val (.ref w_STRING), .unset] [])) _
      refine XS.iconst X23.here hx rfl (hb hby at_66) ?_
      show Steps p.tables e below (T23.setTop (mkF m 67 #[.val (.int p0), .val (.int (4 : Int32)), .val (.ref w_STRING), .unset] [(.int (1 : Int32))])) _
      refine XS.istoreN X23.here hx rfl (hb hby at_67) rfl (l' := #[.val (.int p0), .val (.int (4 : Int32)), .val (.ref w_STRING), .val (.int (1 : Int32))]) rfl ?_
      show Steps p.tables e below (T23.setTop (mkF m 68 #[.val (.int p0), .val (.int (4 : Int32)), .val (.ref w_STRING), .val (.int (1 : Int32))] [])) _
      refine XS.aloadN X23.here hx rfl (hb hby at_68) rfl rfl ?_
      show Steps p.tables e below (T23.setTop (mkF m 69 #[.val (.int p0), .val (.int (4 : Int32)), .val (.ref w_STRING), .val (.int (1 : Int32))] [(.ref w_STRING)])) _
      refine st24.trans ?_
      show Steps p.tables e below (T24.setTop (mkF m 72 #[.val (.int p0), .val (.int (4 : Int32)), .val (.ref w_STRING), .val (.int (1 : Int32))] [(.int (1 : Int32))])) _
      refine XS.iloadN X24.here hx rfl (hb hby at_72) rfl ?_
      show Steps p.tables e below (T24.setTop (mkF m 73 #[.val (.int p0), .val (.int (4 : Int32)), .val (.ref w_STRING), .val (.int (1 : Int32))] [(.int (1 : Int32)), (.int (1 : Int32))])) _
      refine XS.icmpNo X24.here hx rfl (hb hby at_73) rfl (teq (by decide : (1 : Int32) = (1 : Int32))).2 ?_
      show Steps p.tables e below (T24.setTop (mkF m 76 #[.val (.int p0), .val (.int (4 : Int32)), .val (.ref w_STRING), .val (.int (1 : Int32))] [])) _
      refine XS.iconst X24.here hx rfl (hb hby at_76) ?_
      show Steps p.tables e below (T24.setTop (mkF m 77 #[.val (.int p0), .val (.int (4 : Int32)), .val (.ref w_STRING), .val (.int (1 : Int32))] [(.int (1 : Int32))])) _
      refine XS.goto X24.here hx rfl (pc0 := 77) (pc' := 81) rfl (hb hby at_77) (by decide) (by decide) ?_
      exact kt
    obtain ⟨fs, hr, hrun, hended, hW, hsame⟩ := X24.leave (v := some (.int (1 : Int32))) (fun h => by rw [Bd.returns] at h; cases h)
    refine ⟨_, _, pre25 _ ?_, hrun, hended, _, _, rfl, ?_, ⟨_, rfl⟩, hW, hsame.mono (by decide) (by decide)⟩
    · show Steps p.tables e below (T24.setTop (mkF m 81 #[.val (.int p0), .val (.int (4 : Int32)), .val (.ref w_STRING), .val (.int (1 : Int32))] [(.int (1 : Int32))])) _
      exact retN X24 hx (t := .boolean) Bd.returns (by simp) (hb hby at_81) hr
    · show Q_rm0 Z p0 w_ADDRESS w_BYTES w_STRING w_BOOL w_FUNCTION h0 n0 _ T24.heap _
      rw [e24]
      exact ⟨rfl, N24⟩
set_option maxRecDepth 65536 in
set_option maxHeartbeats 40000000 in
theorem comes_1 {Post : Tables → Env → Array Value → State → Outcome → State → Prop} (hpost : ∀ tb e args s v u, (limb_1_1.after args s (.returned v) u = true ∧ limb_1_2.after args s (.returned v) u = true ∧ True) → FrameEnd s (.returned v) u (Jvm.fieldLocs frame_1_writes args s ++ Jvm.arrayLocs frame_1_arrays args s ++ Jvm.staticLocs frame_1_statics s) 0 0 → Post tb e args s (.returned v) u) :
    ArmFor flags0 classFile x code maxLocals ret World_1 tables_1 room_1 Calls_1 rest_1 Pre_1 Post := by
  intro l hfl _ _ p e ha hc hk s m args below hf hA hF happ hP
  obtain ⟨hcalls, hrest, hpre⟩ := hP
  obtain ⟨-, -, -, hnamed, -, -, -, hat⟩ := (Spec.applies_iff hf).mp happ
  obtain ⟨hg, hn⟩ := and_e (Cond.before_iff.mp (show (Jvm.Cond.and given_1 narrow_1).before args s = true from hpre))
  have hw := fun d (hd : d ∈ tables_1) => atoms_spec (ws := Jvm.Cond.code x code maxLocals ret :: tables_1) hat d (List.mem_cons_of_mem _ hd)
  obtain ⟨g1, g2⟩ := and_e hg
  obtain ⟨g3, g4⟩ := and_e hn
  obtain ⟨g5, g6⟩ := and_e g4
  obtain ⟨g7, g8⟩ := and_e g6
  obtain ⟨g9, g10⟩ := and_e g8
  obtain ⟨g11, g12⟩ := and_e g10
  obtain ⟨g13, g14⟩ := and_e g12
  obtain ⟨g15, g16⟩ := and_e g14
  obtain ⟨g17, g18⟩ := and_e g16
  obtain ⟨g19, g20⟩ := and_e g18
  obtain ⟨w_ADDRESS, ev_ADDRESS⟩ := exa_v g3
  have S_ADDRESS : Sta s s.heap "com/example/headtail/headtail/abi/SimpleType" "ADDRESS" "Lcom/example/headtail/headtail/abi/SimpleType;" (.ref w_ADDRESS) := Sta.start ev_ADDRESS (Or.inr ⟨(hw _ (List.mem_of_getElem? (i := 2) rfl)), (hw _ (List.mem_of_getElem? (i := 3) rfl))⟩)
  have E_ADDRESS := Exa.start ev_ADDRESS g3
  obtain ⟨w_BYTES, ev_BYTES⟩ := exa_v g5
  have S_BYTES : Sta s s.heap "com/example/headtail/headtail/abi/SimpleType" "BYTES" "Lcom/example/headtail/headtail/abi/SimpleType;" (.ref w_BYTES) := Sta.start ev_BYTES (Or.inr ⟨(hw _ (List.mem_of_getElem? (i := 2) rfl)), (hw _ (List.mem_of_getElem? (i := 10) rfl))⟩)
  have E_BYTES := Exa.start ev_BYTES g5
  obtain ⟨w_STRING, ev_STRING⟩ := exa_v g11
  have S_STRING : Sta s s.heap "com/example/headtail/headtail/abi/SimpleType" "STRING" "Lcom/example/headtail/headtail/abi/SimpleType;" (.ref w_STRING) := Sta.start ev_STRING (Or.inr ⟨(hw _ (List.mem_of_getElem? (i := 2) rfl)), (hw _ (List.mem_of_getElem? (i := 12) rfl))⟩)
  have E_STRING := Exa.start ev_STRING g11
  obtain ⟨w_BOOL, ev_BOOL⟩ := exa_v g15
  have S_BOOL : Sta s s.heap "com/example/headtail/headtail/abi/SimpleType" "BOOL" "Lcom/example/headtail/headtail/abi/SimpleType;" (.ref w_BOOL) := Sta.start ev_BOOL (Or.inr ⟨(hw _ (List.mem_of_getElem? (i := 2) rfl)), (hw _ (List.mem_of_getElem? (i := 15) rfl))⟩)
  have E_BOOL := Exa.start ev_BOOL g15
  obtain ⟨w_FUNCTION, ev_FUNCTION⟩ := exa_v g19
  have S_FUNCTION : Sta s s.heap "com/example/headtail/headtail/abi/SimpleType" "FUNCTION" "Lcom/example/headtail/headtail/abi/SimpleType;" (.ref w_FUNCTION) := Sta.start ev_FUNCTION (Or.inr ⟨(hw _ (List.mem_of_getElem? (i := 2) rfl)), (hw _ (List.mem_of_getElem? (i := 18) rfl))⟩)
  have E_FUNCTION := Exa.start ev_FUNCTION g19
  have F_ordinal_ADDRESS := own_fld ev_ADDRESS (v := .int (0 : Int32)) rfl g7
  have F_ordinal_BYTES := own_fld ev_BYTES (v := .int (3 : Int32)) rfl g9
  have F_ordinal_STRING := own_fld ev_STRING (v := .int (4 : Int32)) rfl g13
  have F_ordinal_BOOL := own_fld ev_BOOL (v := .int (1 : Int32)) rfl g17
  have F_ordinal_FUNCTION := own_fld ev_FUNCTION (v := .int (2 : Int32)) rfl g20
  obtain ⟨v0, rfl⟩ : ∃ v0 : Value, args = #[v0] := by
    have hs : args.size = 1 := by simpa [Cond.value, given_1] using g1
    obtain ⟨L⟩ := args
    match L, hs with
    | [v0], _ => exact ⟨v0, rfl⟩
  have hfit : Fit s := fun {y c} hc i hi => by
    obtain ⟨ha, rfl⟩ := Array.getElem?_eq_some_iff.mp hc
    have q := List.all_eq_true.mp ((Array.all_eq_true_iff_forall_mem.mp hF) _ (Array.getElem_mem ha)) i (List.mem_range.mpr hi)
    simpa [Array.getElem?_eq_getElem hi] using q
  obtain ⟨i0, ei0⟩ := is_v g2
  obtain rfl : v0 = (.int i0) := Option.some.inj ei0
  obtain ⟨n, o, h1, h2, h3, _, L, rfl, ⟨rfl, N⟩, hq⟩ := rm0 l s _ hw tables_1 i0 w_ADDRESS w_BYTES w_STRING w_BOOL w_FUNCTION  s.heap s.heap.size (Nat.le_refl _) S_ADDRESS E_ADDRESS S_BYTES E_BYTES S_STRING E_STRING S_BOOL E_BOOL S_FUNCTION E_FUNCTION F_ordinal_ADDRESS F_ordinal_BYTES F_ordinal_STRING F_ordinal_BOOL F_ordinal_FUNCTION p e ha hc hk s m _ below hf ((Spec.applies_iff_loose hf).mp happ).1 ⟨rfl, State.Warmed39.refl s, rfl⟩ trivial
  refine ⟨n, _, h1, h2, h3, hpost _ _ _ _ _ _ ⟨Cond.after_iff.mpr rfl, Cond.after_iff.mpr (eq_i res_at (Term.int_eval (1)) rfl), trivial⟩ ⟨hq.1, hq.2.1, (hq.2.2.sift fun y hy => Or.inr (N y hy)).mono (by decide) (by decide)⟩⟩
theorem main_1_1 : Claimed_1_1 := comes_1 fun _ _ _ _ _ _ h hF => ⟨h.1, hF⟩
theorem main_1_2 : Claimed_1_2 := comes_1 fun _ _ _ _ _ _ h hF => ⟨h.2.1, hF⟩
end Jvm.Pilot.@@N@@
namespace Jvm.Pilot.@@N@@
open Jvm Jvm.ClassFile Sem Op Lib Jvm.Free Jvm.Stand Jvm.Pilot.@@N@@.Jvm.D
/-! MADE BY PROGRAM (witnessworld.py) out of the Statement's table words and the real class files: 13 classes; the members and pool entries that the words name. The judged class is class 1, her method 1. -/
namespace start1
open Jvm.ClassFile
def u (s : String) : CpInfo := .utf8 (stringToUtf16 s)
/-- a pool by its gaps: so many unusable entries, then the entry; so many at the end -/
def gap : Nat → List CpInfo → List CpInfo
  | 0, r => r
  | n + 1, r => .unusable :: gap n r
def poolList (es : List (Nat × CpInfo)) (last : Nat) : List CpInfo := es.foldr (fun e r => gap e.1 (e.2 :: r)) (gap last [])
def pool (es : List (Nat × CpInfo)) (last : Nat) : Array CpInfo := ⟨poolList es last⟩
def fileOf (pool : Array CpInfo) (this : Nat) (attrs : Array Attribute := #[]) (ms : Array MethodInfo := #[]) (fl : Nat := 33) (sup : Nat := 0) (ifs : Array Nat := #[]) (fds : Array FieldInfo := #[]) : ClassFile where
  minorVersion := 0
  majorVersion := 65
  constantPool := pool
  accessFlags := fl
  thisClass := this
  superClass := sup
  interfaces := ifs
  fields := fds
  methods := ms
  attributes := attrs
def plain (name : String) (sup : Option ClassId) : Class where
  name := name
  kind := .ordinary
  loader := none
  accessFlags := 33
  super := sup
  interfaces := #[]
  cf := none
  fields := #[]
  methods := #[]
  instanceTypes := #[]
  staticTypes := #[]
  resolved := #[]
  callSites := []
  init := .initialized
  statics := none
  mirror := none

def pool0 : Array CpInfo := pool [(5, u "<init>"), (0, u "()V"), (1, .class_ 10), (1, u "java/lang/Object")] 113

def k0m0 : Method := { name := "<init>", desc := "()V", sig := { parameters := [], returnType := none }, accessFlags := 1, code := none }
/-- java/lang/Object -/
def k0 : Class := { plain "java/lang/Object" none with
  accessFlags := 33
  interfaces := #[]
  cf := some (fileOf pool0 8 #[] #[{ accessFlags := 1, nameIndex := 5, descriptorIndex := 6, attributes := #[] }] 33 0 #[] #[])
  fields := #[]
  methods := #[k0m0]
  instanceTypes := #[]
  staticTypes := #[]
  resolved := Array.replicate 124 none
  statics := none }

def pool1 : Array CpInfo := pool [(2, .class_ 4), (1, u "java/lang/Object"), (0, u "<init>"), (0, u "()V"), (0, .integer 2147483647), (0, .fieldref 9 10), (0, .class_ 11), (0, .nameAndType 12 13), (0, u "com/example/headtail/headtail/abi/SimpleType"), (0, u "ADDRESS"), (0, u "Lcom/example/headtail/headtail/abi/SimpleType;"), (0, .fieldref 9 15), (0, .nameAndType 16 13), (0, u "BOOL"), (0, .fieldref 9 18), (0, .nameAndType 19 13), (0, u "FUNCTION"), (0, .fieldref 9 21), (0, .nameAndType 22 13), (0, u "BYTES"), (0, .fieldref 9 24), (0, .nameAndType 25 13), (0, u "STRING"), (0, .methodref 9 27), (0, .nameAndType 28 29), (0, u "isDynamic"), (0, u "()Z"), (0, .class_ 31), (0, u "com/example/headtail/headtail/abi/SimpleTypeIsDynamicPinLaw"), (2, u "law"), (0, u "(I)Z")] 3

def k1m0 : Method := { name := "<init>", desc := "()V", sig := { parameters := [], returnType := none }, accessFlags := 1, code := none }
def k1c1 : Code := { maxStack := 2, maxLocals := 4, code := code, exceptionTable := #[], attributes := #[] }
def k1m1 : Method := { name := "law", desc := "(I)Z", sig := { parameters := [.int], returnType := some .boolean }, accessFlags := 9, code := some k1c1 }
/-- com/example/headtail/headtail/abi/SimpleTypeIsDynamicPinLaw -/
def k1 : Class := { plain "com/example/headtail/headtail/abi/SimpleTypeIsDynamicPinLaw" (some 0) with
  accessFlags := 49
  interfaces := #[]
  cf := some (fileOf pool1 30 #[] #[{ accessFlags := 1, nameIndex := 5, descriptorIndex := 6, attributes := #[] }, { accessFlags := 9, nameIndex := 34, descriptorIndex := 35, attributes := #[] }] 49 2 #[] #[])
  fields := #[]
  methods := #[k1m0, k1m1]
  instanceTypes := #[]
  staticTypes := #[]
  resolved := Array.replicate 39 none
  statics := none }

def pool2 : Array CpInfo := pool [(1, .class_ 2), (0, u "java/lang/constant/Constable"), (0, .class_ 4), (0, u "java/lang/Object")] 6

/-- java/lang/constant/Constable -/
def k2 : Class := { plain "java/lang/constant/Constable" (some 0) with
  accessFlags := 1537
  interfaces := #[]
  cf := some (fileOf pool2 1 #[] #[] 1537 3 #[] #[])
  fields := #[]
  methods := #[]
  instanceTypes := #[]
  staticTypes := #[]
  resolved := Array.replicate 11 none
  statics := none }

def pool3 : Array CpInfo := pool [(1, .class_ 2), (0, u "java/lang/Comparable"), (0, .class_ 4), (0, u "java/lang/Object")] 7

/-- java/lang/Comparable -/
def k3 : Class := { plain "java/lang/Comparable" (some 0) with
  accessFlags := 1537
  interfaces := #[]
  cf := some (fileOf pool3 1 #[] #[] 1537 3 #[] #[])
  fields := #[]
  methods := #[]
  instanceTypes := #[]
  staticTypes := #[]
  resolved := Array.replicate 12 none
  statics := none }

def pool4 : Array CpInfo := pool [(1, .class_ 2), (0, u "java/io/Serializable"), (0, .class_ 4), (0, u "java/lang/Object")] 2

/-- java/io/Serializable -/
def k4 : Class := { plain "java/io/Serializable" (some 0) with
  accessFlags := 1537
  interfaces := #[]
  cf := some (fileOf pool4 1 #[] #[] 1537 3 #[] #[])
  fields := #[]
  methods := #[]
  instanceTypes := #[]
  staticTypes := #[]
  resolved := Array.replicate 7 none
  statics := none }

def pool5 : Array CpInfo := pool [(2, .class_ 4), (1, u "java/lang/Enum"), (0, u "name"), (0, u "Ljava/lang/String;"), (2, u "ordinal"), (0, u "I"), (1, .class_ 14), (1, u "java/lang/Object"), (4, u "hash"), (86, .class_ 108), (1, u "java/lang/Enum$EnumDesc"), (2, .class_ 112), (0, u "java/lang/constant/Constable"), (0, .class_ 114), (0, u "java/lang/Comparable"), (0, .class_ 116), (0, u "java/io/Serializable")] 87

/-- java/lang/Enum -/
def k5 : Class := { plain "java/lang/Enum" (some 0) with
  accessFlags := 1057
  interfaces := #[2, 3, 4]
  cf := some (fileOf pool5 2 #[.nestMembers #[106]] #[] 1057 12 #[111, 113, 115] #[{ accessFlags := 18, nameIndex := 5, descriptorIndex := 6, attributes := #[] }, { accessFlags := 18, nameIndex := 9, descriptorIndex := 10, attributes := #[] }, { accessFlags := 2, nameIndex := 19, descriptorIndex := 10, attributes := #[] }])
  fields := #[{ name := "name", type := (.object "java/lang/String"), accessFlags := 18, slot := 0, constantValue := 0 }, { name := "ordinal", type := .int, accessFlags := 18, slot := 1, constantValue := 0 }, { name := "hash", type := .int, accessFlags := 2, slot := 2, constantValue := 0 }]
  methods := #[]
  instanceTypes := #[(.object "java/lang/String"), .int, .int]
  staticTypes := #[]
  resolved := Array.replicate 204 none
  statics := none }

def pool6 : Array CpInfo := pool [(1, .class_ 2), (0, u "com/example/headtail/headtail/abi/AbiType"), (8, .class_ 12), (0, u "java/lang/Object"), (0, u "MAX_NESTING"), (0, u "I"), (2, u "NESTS_TOO_DEEPLY"), (0, u "Ljava/lang/String;"), (2, u "WORD")] 25

/-- com/example/headtail/headtail/abi/AbiType -/
def k6 : Class := { plain "com/example/headtail/headtail/abi/AbiType" (some 0) with
  accessFlags := 1537
  interfaces := #[]
  cf := some (fileOf pool6 1 #[] #[] 1537 11 #[] #[{ accessFlags := 25, nameIndex := 13, descriptorIndex := 14, attributes := #[] }, { accessFlags := 25, nameIndex := 17, descriptorIndex := 18, attributes := #[] }, { accessFlags := 25, nameIndex := 21, descriptorIndex := 14, attributes := #[] }])
  fields := #[{ name := "MAX_NESTING", type := .int, accessFlags := 25, slot := 0, constantValue := 0 }, { name := "NESTS_TOO_DEEPLY", type := (.object "java/lang/String"), accessFlags := 25, slot := 1, constantValue := 0 }, { name := "WORD", type := .int, accessFlags := 25, slot := 2, constantValue := 0 }]
  methods := #[]
  instanceTypes := #[]
  staticTypes := #[.int, (.object "java/lang/String"), .int]
  resolved := Array.replicate 47 none
  statics := none }

def pool7 : Array CpInfo := pool [(1, .class_ 2), (0, u "com/example/headtail/headtail/abi/SimpleType"), (2, u "ADDRESS"), (0, u "Lcom/example/headtail/headtail/abi/SimpleType;"), (2, u "BOOL"), (2, u "FUNCTION"), (0, .fieldref 1 14), (0, .nameAndType 15 6), (0, u "BYTES"), (0, .fieldref 1 17), (0, .nameAndType 18 6), (0, u "STRING"), (2, u "$VALUES"), (0, u "[Lcom/example/headtail/headtail/abi/SimpleType;"), (6, .class_ 31), (1, u "java/lang/Enum"), (24, u "canonical"), (0, u "Ljava/lang/String;"), (10, .class_ 69), (0, u "com/example/headtail/headtail/abi/AbiType"), (0, u "ADDRESS_LENGTH"), (0, u "I"), (2, u "FUNCTION_LENGTH"), (8, u "isDynamic"), (0, u "()Z")] 5

def k7c0 : Code := { maxStack := 2, maxLocals := 1, code := prog_13_method_4_code, exceptionTable := #[], attributes := #[] }
def k7m0 : Method := { name := "isDynamic", desc := "()Z", sig := { parameters := [], returnType := some .boolean }, accessFlags := 1, code := some k7c0 }
/-- com/example/headtail/headtail/abi/SimpleType -/
def k7 : Class := { plain "com/example/headtail/headtail/abi/SimpleType" (some 5) with
  accessFlags := 16433
  interfaces := #[6]
  cf := some (fileOf pool7 1 #[] #[{ accessFlags := 1, nameIndex := 83, descriptorIndex := 84, attributes := #[] }] 16433 29 #[68] #[{ accessFlags := 16409, nameIndex := 5, descriptorIndex := 6, attributes := #[] }, { accessFlags := 16409, nameIndex := 9, descriptorIndex := 6, attributes := #[] }, { accessFlags := 16409, nameIndex := 12, descriptorIndex := 6, attributes := #[] }, { accessFlags := 16409, nameIndex := 15, descriptorIndex := 6, attributes := #[] }, { accessFlags := 16409, nameIndex := 18, descriptorIndex := 6, attributes := #[] }, { accessFlags := 25, nameIndex := 70, descriptorIndex := 71, attributes := #[] }, { accessFlags := 25, nameIndex := 74, descriptorIndex := 71, attributes := #[] }, { accessFlags := 18, nameIndex := 56, descriptorIndex := 57, attributes := #[] }, { accessFlags := 4122, nameIndex := 21, descriptorIndex := 22, attributes := #[] }])
  fields := #[{ name := "ADDRESS", type := (.object "com/example/headtail/headtail/abi/SimpleType"), accessFlags := 16409, slot := 0, constantValue := 0 }, { name := "BOOL", type := (.object "com/example/headtail/headtail/abi/SimpleType"), accessFlags := 16409, slot := 1, constantValue := 0 }, { name := "FUNCTION", type := (.object "com/example/headtail/headtail/abi/SimpleType"), accessFlags := 16409, slot := 2, constantValue := 0 }, { name := "BYTES", type := (.object "com/example/headtail/headtail/abi/SimpleType"), accessFlags := 16409, slot := 3, constantValue := 0 }, { name := "STRING", type := (.object "com/example/headtail/headtail/abi/SimpleType"), accessFlags := 16409, slot := 4, constantValue := 0 }, { name := "ADDRESS_LENGTH", type := .int, accessFlags := 25, slot := 5, constantValue := 0 }, { name := "FUNCTION_LENGTH", type := .int, accessFlags := 25, slot := 6, constantValue := 0 }, { name := "canonical", type := (.object "java/lang/String"), accessFlags := 18, slot := 3, constantValue := 0 }, { name := "$VALUES", type := (.array (.object "com/example/headtail/headtail/abi/SimpleType")), accessFlags := 4122, slot := 7, constantValue := 0 }]
  methods := #[k7m0]
  instanceTypes := #[(.object "java/lang/String"), .int, .int, (.object "java/lang/String")]
  staticTypes := #[(.object "com/example/headtail/headtail/abi/SimpleType"), (.object "com/example/headtail/headtail/abi/SimpleType"), (.object "com/example/headtail/headtail/abi/SimpleType"), (.object "com/example/headtail/headtail/abi/SimpleType"), (.object "com/example/headtail/headtail/abi/SimpleType"), .int, .int, (.array (.object "com/example/headtail/headtail/abi/SimpleType"))]
  resolved := Array.replicate 90 none
  statics := some 0 }

def pool8 : Array CpInfo := pool [(1, u "java/lang/Cloneable"), (0, .class_ 1), (0, u "java/lang/Object"), (0, .class_ 3)] 3

/-- java/lang/Cloneable -/
def k8 : Class := { plain "java/lang/Cloneable" (some 0) with
  accessFlags := 1537
  interfaces := #[]
  cf := some (fileOf pool8 2 #[] #[] 1537 4 #[] #[])
  fields := #[]
  methods := #[]
  instanceTypes := #[]
  staticTypes := #[]
  resolved := Array.replicate 8 none
  statics := none }

/-- the primitive byte -/
def k9 : Class := { plain "byte" none with kind := .primitive 'B', accessFlags := 0x411 }
/-- [B -/
def k10 : Class := { plain "[B" (some 0) with kind := .array 9 .byte, interfaces := #[8, 4], accessFlags := 1041 }

/-- the primitive int -/
def k11 : Class := { plain "int" none with kind := .primitive 'I', accessFlags := 0x411 }
/-- [I -/
def k12 : Class := { plain "[I" (some 0) with kind := .array 11 .int, interfaces := #[8, 4], accessFlags := 1041 }

def heap : Heap := #[{ cls := 7, slots := #[.ref 1, .ref 4, .ref 5, .ref 2, .ref 3, .int 0, .int 0, .null], vm := .statics 7 },
  { cls := 7, slots := #[.null, .int 0, .int 0, .null], vm := .none },
  { cls := 7, slots := #[.null, .int 3, .int 0, .null], vm := .none },
  { cls := 7, slots := #[.null, .int 4, .int 0, .null], vm := .none },
  { cls := 7, slots := #[.null, .int 1, .int 0, .null], vm := .none },
  { cls := 7, slots := #[.null, .int 2, .int 0, .null], vm := .none }]
def classes : Array Class := #[k0, k1, k2, k3, k4, k5, k6, k7, k8, k9, k10, k11, k12]
def interned : List (Array UInt16 × Addr) := []
def slotsUsed : Nat := 28
def theMethod : MethodId := ⟨1, 1⟩
def args0 : Array Value := #[.int 5]
def aboutOver (below : List Frame) : State where
  vm := { classes := classes, interned := interned.toArray }
  heap := heap
  slotsUsed := slotsUsed
  threads := #[{ frames := .invoking theMethod args0 :: below }]
def below0 : List Frame := [.native { method := ⟨0, 0⟩, args := #[] }]
def about1 : State := aboutOver below0
def p0 : Program := .bare "" "" ""
def e0 : Env := launch0.env 0 0 0
theorem w_frames : about1.frames = Frame.invoking theMethod args0 :: below0 := rfl
set_option maxRecDepth 65536 in
theorem w_args : argsFit about1.vm theMethod args0 = true := by decide +kernel
set_option maxRecDepth 65536 in
theorem w_heap : heapFits about1 = true := by decide +kernel
set_option maxRecDepth 65536 in
theorem w_runnable : about1.curStatus? = some .runnable := by decide +kernel
set_option maxRecDepth 65536 in
theorem w_alone : about1.alone = true := by decide +kernel
set_option maxRecDepth 65536 in
theorem w_named : about1.methodNamed? x = some theMethod := by decide +kernel
set_option maxRecDepth 65536 in
theorem w_hears : about1.hears theMethod below0 = true := by decide +kernel
set_option maxRecDepth 65536 in
theorem w_ripe : about1.ripe theMethod args0 below0 = true := by decide +kernel
theorem w_running : about1.status = .running := rfl
set_option maxRecDepth 65536 in
theorem w_room : about1.hasRoom e0.platform room_1 = true :=
  launch0.hasRoom_least _ room_1 (by decide +kernel) (by decide +kernel) (by decide +kernel) (by decide +kernel) (by decide +kernel) (by decide +kernel)
theorem allAtoms_all (ts : List Jvm.Cond) (a : Array Jvm.Value) (st : Jvm.State) : (allAtoms ts).before a st = ts.all (fun c => c.before a st) := by
  induction ts with
  | nil => rfl
  | cons c t ih =>
    show (Jvm.Cond.and c (allAtoms t)).before a st = _
    rw [Jvm.Cond.before_and, ih, List.all_cons]
def words1 : List Jvm.Cond := Jvm.Cond.code x code maxLocals ret :: tables_1
/-- a 'code' word, met by the world's own term for the bytes: nothing is compared byte by byte -/
theorem code_word {y : MethodName} {bytes : ByteArray} {mx : Nat} {rt : Option FieldType} {a : Array Value} {s : State} {m : MethodId} {meth : Method} {c : Code} (h1 : s.methodNamed? y = some m) (h2 : s.vm.method? m = some meth) (h3 : meth.code = some c) (h4 : c.code = bytes)
    (h5 : (c.maxLocals == mx && c.exceptionTable.isEmpty && decide (c.maxStack ≤ mostOperands) && decide (meth.sig.returnType = rt) && !meth.locks && decide (parseMethodDescriptor y.desc = some meth.sig)) = true) : (Jvm.Cond.code y bytes mx rt).before a s = true := by
  simp only [Bool.and_eq_true, beq_iff_eq, Bool.not_eq_true', decide_eq_true_eq] at h5
  obtain ⟨⟨⟨⟨⟨g1, g2⟩, g3⟩, g4⟩, g5⟩, g6⟩ := h5
  simp [Cond.before, Cond.holds, Cond.value, h1, h2, h3, h4, g1, g2, g3, g4, g5, g6]
def isCode : Jvm.Cond → Bool
  | .code _ _ _ _ => true
  | _ => false
theorem all_split {L : List Jvm.Cond} {P : Jvm.Cond → Bool} (h1 : L.all (fun c => isCode c || P c) = true) (h2 : ∀ c ∈ L.filter isCode, P c = true) : L.all P = true := by
  refine List.all_eq_true.mpr fun c hc => ?_
  have h := List.all_eq_true.mp h1 c hc
  rcases Bool.eq_false_or_eq_true (isCode c) with hi | hi
  · exact h2 c (List.mem_filter.mpr ⟨hc, hi⟩)
  · simpa [hi] using h
set_option maxRecDepth 65536 in
theorem w_c0 : (Jvm.Cond.code x code maxLocals ret).before args0 about1 = true := code_word (m := ⟨1, 1⟩) (meth := k1m1) (c := k1c1) (by decide +kernel) rfl rfl rfl (by decide +kernel)
set_option maxRecDepth 65536 in
theorem w_c1 : (Jvm.Cond.code ({ cls := "com/example/headtail/headtail/abi/SimpleType", name := "isDynamic", desc := "()Z" } : Jvm.MethodName) prog_13_method_4_code (1 : Nat) (Option.some Jvm.ClassFile.FieldType.boolean)).before args0 about1 = true := code_word (m := ⟨7, 0⟩) (meth := k7m0) (c := k7c0) (by decide +kernel) rfl rfl rfl (by decide +kernel)
def codes1 : List Jvm.Cond := [Jvm.Cond.code x code maxLocals ret, Jvm.Cond.code ({ cls := "com/example/headtail/headtail/abi/SimpleType", name := "isDynamic", desc := "()Z" } : Jvm.MethodName) prog_13_method_4_code (1 : Nat) (Option.some Jvm.ClassFile.FieldType.boolean)]
set_option maxRecDepth 65536 in
theorem codes_eq : words1.filter isCode = codes1 := rfl
theorem w_codes : ∀ c ∈ words1.filter isCode, c.before args0 about1 = true := by
  rw [codes_eq]
  intro c hc
  simp only [codes1, List.mem_cons, List.not_mem_nil, or_false] at hc
  rcases hc with rfl | rfl
  · exact w_c0
  · exact w_c1
set_option maxRecDepth 65536 in
theorem w_t1 : words1.all (fun c => isCode c || c.before args0 about1) = true := by decide +kernel
theorem w_tables : (allAtoms (Jvm.Cond.code x code maxLocals ret :: tables_1)).before args0 about1 = true := by
  rw [allAtoms_all]
  show words1.all (fun c => c.before args0 about1) = true
  refine all_split ?_ w_codes
  rw [w_t1]
set_option maxRecDepth 65536 in
theorem w_case : (Jvm.Cond.and given_1 narrow_1).before args0 about1 = true := by decide +kernel
theorem w_applies : (headSpec (Jvm.Cond.code x code maxLocals ret :: tables_1) room_1).applies x e0.platform about1 = true :=
  (Spec.applies_iff w_frames).mpr ⟨w_running, w_runnable, w_alone, w_named, w_hears, w_ripe, w_room, w_tables⟩
theorem atStart : AtStart classFile x code maxLocals ret World_1 tables_1 room_1 Calls_1 rest_1 Pre_1 launch0 p0 e0 about1 theMethod args0 below0 :=
  ⟨lists_1, trivial, launch0.admits_env _ _ _, launch0.least_env, fairChoices_fair.cas, fairChoices_fair.clock, w_frames, w_args, w_heap, w_applies, trivial, trivial, w_case⟩
end start1
theorem witness_1 : WitnessClaimed_1 := ⟨start1.p0, start1.e0, start1.about1, start1.theMethod, start1.args0, start1.below0, start1.atStart⟩
end Jvm.Pilot.@@N@@
