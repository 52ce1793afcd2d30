import JvmDerived
import JvmDerived.Pilot.@@N@@Statement
import JvmDerived.Pilot.@@N@@Code
set_option linter.unusedVariables false
set_option linter.unusedSimpArgs false
namespace Jvm.Pilot.@@N@@
open Jvm Jvm.ClassFile Sem Op Lib Jvm.Free Jvm.Stand Jvm.LawKit Jvm.RoadKit Bundle Jvm.Pilot.@@N@@.Jvm.D
theorem own_eq {args : Array Value} {first s : State} {o : Option Outcome} {idx : List Nat} {a b : Term} (h : (Jvm.Cond.eq a b).value args first o s idx = some true) : a.eval args first o idx s = b.eval args first o idx s := by
  obtain ⟨x, y, h1, h2, k1, k2⟩ := cmp_v (Or.inl h)
  rw [h1, h2]
  simp only [Jvm.Cond.value, h1, h2] at h
  cases x <;> cases y <;> simp_all
theorem own_fld {args : Array Value} {s : State} {t u : Term} {a : Addr} {C n d : String} {v : Value} (ev : t.eval args s none [] s = some (.ref a)) (eu : u.eval args s none [] s = some v) (h : (Jvm.Cond.eq (.field t C n d) u).value args s none s [] = some true) : Fld s s.heap a C n d v :=
  Fld.start ((fld_at ev).symm.trans ((own_eq h).trans eu))
theorem own_z {Z : State} {n0 : Nat} {h : Heap} (O : Old Z n0 h) : n0 ≤ h.size := O.1 ▸ O.2.1
theorem own_len {args : Array Value} {s : State} {t : Term} {a : Addr} {cl : Cell} {ty : FieldType} {n : Int32} (ev : t.eval args s none [] s = some (.ref a)) (A : Arr s s.heap a cl ty) (h : (Term.length t).eval args s none [] s = some (.int n)) : cl.slots.size.toInt32 = n ∧ cl.slots.size < 2 ^ 31 := by
  have hA : s.arrayAt? a = some cl := A.fin (Vm.Alike.refl _)
  simp only [Term.eval, ev, hA, Option.bind_eq_bind, Option.bind_some] at h
  split at h
  · rename_i q
    simp only [Option.pure_def, Option.some.injEq, Value.int.injEq] at h
    exact ⟨h, q⟩
  · cases h
theorem d_prog_15_method_1_code_0 : decode prog_15_method_1_code 0 = .ok (.getstatic 10, 3) := by decide +kernel
theorem d_prog_15_method_1_code_3 : decode prog_15_method_1_code 3 = .ok (.invokevirtual 14, 3) := by decide +kernel
theorem d_prog_15_method_1_code_6 : decode prog_15_method_1_code 6 = .ok (.checkcast 15, 3) := by decide +kernel
theorem d_prog_15_method_1_code_9 : decode prog_15_method_1_code 9 = .ok (.areturn, 1) := by decide +kernel
theorem pn_com_example_wend_wend_MessageKind : plainName "com/example/wend/wend/MessageKind" = true := by first | (simp [plainName, overriddenIn]; done) | decide +kernel
theorem ef_rm_values_2 (m : MethodId)  : entryFrame m #[] 0 = mkF m 0 #[] [] := by first | (simp [entryFrame, mkF, argsToLocals, Value.category]; done) | rfl
def Q_rm_values_2 (Z : State) (w__VALUES : Addr) (w_ONE_WAY : Addr) (w_REQUEST : Addr) (k__VALUES : ClassId) (h0 : Heap) (n0 : Nat) (v : Option Value) (h : Heap) (L : List Loc) : Prop := ∃ (b6 : Addr), v = some (.ref b6) ∧ Fr n0 L ∧ Keep h0 h [] ∧ Arv Z h b6 k__VALUES (.object "com/example/wend/wend/MessageKind") (2 : Int32) [(.ref w_REQUEST), (.ref w_ONE_WAY)] .null ∧ Exa Z h b6 "[Lcom/example/wend/wend/MessageKind;" ∧ n0 ≤ b6 ∧ h0.size ≤ b6
set_option maxRecDepth 65536 in
set_option maxHeartbeats 40000000 in
theorem rm_values_2 (l : Launch) (Z : State) (a0 : Array Value) (hw : ∀ d ∈ tables_1, d.before a0 Z = true) (ws : List Jvm.Cond) (w__VALUES : Addr) (w_ONE_WAY : Addr) (w_REQUEST : Addr) (k__VALUES : ClassId) (h0 : Heap) (n0 : Nat) (O0 : Old Z n0 h0)  (S__VALUES : Sta Z Z.heap "com/example/wend/wend/MessageKind" "$VALUES" "[Lcom/example/wend/wend/MessageKind;" (.ref w__VALUES)) (V__VALUES : Arv Z Z.heap w__VALUES k__VALUES (.object "com/example/wend/wend/MessageKind") (2 : Int32) [(.ref w_REQUEST), (.ref w_ONE_WAY)] .null) (E__VALUES : Exa Z Z.heap w__VALUES "[Lcom/example/wend/wend/MessageKind;") :
    MetFree l (⟨"com/example/wend/wend/MessageKind", "values", "()[Lcom/example/wend/wend/MessageKind;"⟩ : MethodName) (head1 (Jvm.Cond.code (⟨"com/example/wend/wend/MessageKind", "values", "()[Lcom/example/wend/wend/MessageKind;"⟩ : MethodName) prog_15_method_1_code 0 (some (.array (.object "com/example/wend/wend/MessageKind"))) :: ws) ({ frames := 1, cells := 1, slots := 2, locals := 14 } : Room)) (fun a U => a = #[] ∧ Z.Warmed39 U.vm ∧ U.heap = h0) (fun _ _ _ _ _ => True) (fun _ U o U' => ∃ v L, o = .returned v ∧ Q_rm_values_2 Z w__VALUES w_ONE_WAY w_REQUEST k__VALUES h0 n0 v U'.heap L ∧ FrameEnd U o U' L ({ frames := 1, cells := 1, slots := 2, locals := 14 } : Room).cells ({ frames := 1, cells := 1, slots := 2, locals := 14 } : Room).slots) := by
  refine MetFree.of_bodySF (plainFor_of_name pn_com_example_wend_wend_MessageKind) hisR ?_
  intro p e s m args below meth c s₁ Bd hml0 hP hK
  obtain ⟨rfl, hZ, hh⟩ := hP
  have hx := Bd.exec
  have hby := Bd.bytes
  have hml : c.maxLocals = 0 := hml0
  have hown : s.vm.findClass "com/example/wend/wend/MessageKind" = some m.cls := findClass_of_methodNamed Bd.named
  have hnm := (name_of_methodNamed Bd.named Bd.method).1
  have X0 : Stand p l e ({ frames := 1, cells := 1, slots := 2, locals := 14 } : Room) s m #[] below meth c s₁ [] 0 0 := Stand.of_body Bd
  have e0 : s₁.heap = h0 := by rw [← hh, Bd.state]; rfl
  have N0 := Fr.nil n0
  have pre0 : ∀ t, Steps p.tables e below (s₁.setTop (mkF m 0 #[] [])) t → Steps p.tables e below (s₁.setTop (entryFrame m #[] 0)) t := fun t k => castTop (ef_rm_values_2 m ) k
  have K0 := Keep.refl h0 []
  obtain ⟨T5, X5, e5, st5⟩ := getS2 X0 hx hZ hown (host := "") (Or.inl (hw _ (List.mem_of_getElem? (i := 7) rfl))) Via.refl e0 (S__VALUES.ext O0.2) (g := (mkF m 0 #[] [])) rfl (hb hby d_prog_15_method_1_code_0)
  obtain ⟨T6, h6, X6, e6, E6, A6, B6, st6⟩ := cloneH X5 hx hZ hown (hw _ (List.mem_of_getElem? (i := 9) rfl)) (hw _ (List.mem_of_getElem? (i := 10) rfl)) (hw _ (List.mem_of_getElem? (i := 14) rfl)) (hw _ (List.mem_of_getElem? (i := 12) rfl)) (hw _ (List.mem_of_getElem? (i := 13) rfl)) (hw _ (List.mem_of_getElem? (i := 15) rfl)) e5 (V__VALUES.ext O0.2).arh (E__VALUES.ext O0.2) (g := (mkF m 3 #[] [(.ref w__VALUES)])) rfl (by rw [hml]; rfl) rfl (hb hby d_prog_15_method_1_code_3) (by decide) (W := 0) (cap := 2) (by show 2 * 0 + _ ≤ _; exact Nat.le_of_eq rfl) (by decide) (by decide) (by decide) (by decide)
  obtain ⟨b6, g6⟩ : ∃ z, z = h0.size := ⟨_, rfl⟩
  have ge_b6 : n0 ≤ b6 := Nat.le_trans (own_z O0) (Nat.le_of_eq g6.symm)
  have sz_b6 : h0.size ≤ b6 := Nat.le_trans K0.1 (Nat.le_of_eq g6.symm)
  rw [← g6] at A6 B6 st6
  have O6 := O0.ext E6
  have K6 := K0.ext E6
  have V_b6 : Arv Z h6 b6 k__VALUES (.object "com/example/wend/wend/MessageKind") (2 : Int32) [(.ref w_REQUEST), (.ref w_ONE_WAY)] .null := A6
  have E_b6 := B6
  obtain ⟨T7, X7, e7, st7⟩ := castY X6 hx hZ hown (hw _ (List.mem_of_getElem? (i := 19) rfl)) e6 (Ins.self E_b6) (g := (mkF m 6 #[] [(.ref b6)])) rfl rfl (hb hby d_prog_15_method_1_code_6)
  have pre8 : ∀ t, Steps p.tables e below (T7.setTop (mkF m 9 #[] [(.ref b6)])) t → Steps p.tables e below (s₁.setTop (entryFrame m #[] 0)) t := by
    intro t kt
    refine pre0 t ?_
    show Steps p.tables e below (s₁.setTop (mkF m 0 #[] [])) _
    refine st5 _ ?_
    show Steps p.tables e below (T5.setTop (mkF m 3 #[] [(.ref w__VALUES)])) _
    refine st6 _ ?_
    show Steps p.tables e below (T6.setTop (mkF m 6 #[] [(.ref b6)])) _
    refine st7 _ ?_
    exact kt
  obtain ⟨fs, hr, hrun, hended, hW, hsame⟩ := X7.leave (v := some (.ref b6)) (fun h => by rw [Bd.returns] at h; cases h)
  refine ⟨_, _, pre8 _ ?_, hrun, hended, _, _, rfl, ?_, ⟨_, rfl⟩, hW, hsame.mono (by decide) (by decide)⟩
  · show Steps p.tables e below (T7.setTop (mkF m 9 #[] [(.ref b6)])) _
    jvm_step X7.here [X7.here.top, hx, (hb hby d_prog_15_method_1_code_9), X7.method', Bd.returns, Value.isRef, FieldType.isReference]
    first | (intro acts; rw [hr _ acts rfl rfl rfl]) | rw [hr _ _ rfl rfl rfl]
    exact Steps.refl _
  · show Q_rm_values_2 Z w__VALUES w_ONE_WAY w_REQUEST k__VALUES h0 n0 _ T7.heap _
    rw [e7]
    exact ⟨b6, rfl, N0, K6, V_b6, E_b6, ge_b6, sz_b6⟩
theorem d_prog_15_method_4_code_0 : decode prog_15_method_4_code 0 = .ok (.aconst_null, 1) := by decide +kernel
theorem d_prog_15_method_4_code_1 : decode prog_15_method_4_code 1 = .ok (.astore_n 1, 1) := by decide +kernel
theorem d_prog_15_method_4_code_2 : decode prog_15_method_4_code 2 = .ok (.invokestatic 37, 3) := by decide +kernel
theorem pd____Lcom_example_wend_wend_MessageKind_ : parseMethodDescriptor "()[Lcom/example/wend/wend/MessageKind;" = some ⟨[], some (.array (.object "com/example/wend/wend/MessageKind"))⟩ := by decide +kernel
theorem d_prog_15_method_4_code_5 : decode prog_15_method_4_code 5 = .ok (.astore_n 2, 1) := by decide +kernel
theorem d_prog_15_method_4_code_6 : decode prog_15_method_4_code 6 = .ok (.aload_n 2, 1) := by decide +kernel
theorem d_prog_15_method_4_code_7 : decode prog_15_method_4_code 7 = .ok (.arraylength, 1) := by decide +kernel
theorem d_prog_15_method_4_code_8 : decode prog_15_method_4_code 8 = .ok (.istore_n 3, 1) := by decide +kernel
theorem d_prog_15_method_4_code_9 : decode prog_15_method_4_code 9 = .ok (.iconst 0, 1) := by decide +kernel
theorem d_prog_15_method_4_code_10 : decode prog_15_method_4_code 10 = .ok (.istore 4, 2) := by decide +kernel
theorem d_prog_15_method_4_code_12 : decode prog_15_method_4_code 12 = .ok (.iload 4, 2) := by decide +kernel
theorem d_prog_15_method_4_code_14 : decode prog_15_method_4_code 14 = .ok (.iload_n 3, 1) := by decide +kernel
theorem d_prog_15_method_4_code_15 : decode prog_15_method_4_code 15 = .ok (.if_icmp .ge 27, 3) := by decide +kernel
theorem d_prog_15_method_4_code_18 : decode prog_15_method_4_code 18 = .ok (.aload_n 2, 1) := by decide +kernel
theorem d_prog_15_method_4_code_19 : decode prog_15_method_4_code 19 = .ok (.iload 4, 2) := by decide +kernel
theorem d_prog_15_method_4_code_21 : decode prog_15_method_4_code 21 = .ok (.aaload, 1) := by decide +kernel
theorem d_prog_15_method_4_code_22 : decode prog_15_method_4_code 22 = .ok (.astore 5, 2) := by decide +kernel
theorem d_prog_15_method_4_code_24 : decode prog_15_method_4_code 24 = .ok (.aload 5, 2) := by decide +kernel
theorem d_prog_15_method_4_code_26 : decode prog_15_method_4_code 26 = .ok (.getfield 29, 3) := by decide +kernel
theorem d_prog_15_method_4_code_29 : decode prog_15_method_4_code 29 = .ok (.iload_n 0, 1) := by decide +kernel
theorem d_prog_15_method_4_code_30 : decode prog_15_method_4_code 30 = .ok (.if_icmp .ne 6, 3) := by decide +kernel
theorem d_prog_15_method_4_code_33 : decode prog_15_method_4_code 33 = .ok (.aload 5, 2) := by decide +kernel
theorem d_prog_15_method_4_code_35 : decode prog_15_method_4_code 35 = .ok (.astore_n 1, 1) := by decide +kernel
theorem d_prog_15_method_4_code_36 : decode prog_15_method_4_code 36 = .ok (.iinc 4 1, 3) := by decide +kernel
theorem d_prog_15_method_4_code_39 : decode prog_15_method_4_code 39 = .ok (.goto (-27), 3) := by decide +kernel
theorem d_prog_15_method_4_code_42 : decode prog_15_method_4_code 42 = .ok (.aload_n 1, 1) := by decide +kernel
theorem d_prog_15_method_4_code_43 : decode prog_15_method_4_code 43 = .ok (.areturn, 1) := by decide +kernel
theorem ef_rm_of_1 (m : MethodId)  : entryFrame m #[(.int (1 : Int32))] 6 = mkF m 0 #[.val (.int (1 : Int32)), .unset, .unset, .unset, .unset, .unset] [] := by first | (simp [entryFrame, mkF, argsToLocals, Value.category]; done) | rfl
def Q_rm_of_1 (Z : State) (w__VALUES : Addr) (w_ONE_WAY : Addr) (w_REQUEST : Addr) (k__VALUES : ClassId) (h0 : Heap) (n0 : Nat) (v : Option Value) (h : Heap) (L : List Loc) : Prop := v = some (.ref w_REQUEST) ∧ Fr n0 L ∧ Keep h0 h []
set_option maxRecDepth 65536 in
set_option maxHeartbeats 40000000 in
theorem rm_of_1 (l : Launch) (Z : State) (a0 : Array Value) (hw : ∀ d ∈ tables_1, d.before a0 Z = true) (ws : List Jvm.Cond) (w__VALUES : Addr) (w_ONE_WAY : Addr) (w_REQUEST : Addr) (k__VALUES : ClassId) (h0 : Heap) (n0 : Nat) (O0 : Old Z n0 h0)  (S__VALUES : Sta Z Z.heap "com/example/wend/wend/MessageKind" "$VALUES" "[Lcom/example/wend/wend/MessageKind;" (.ref w__VALUES)) (V__VALUES : Arv Z Z.heap w__VALUES k__VALUES (.object "com/example/wend/wend/MessageKind") (2 : Int32) [(.ref w_REQUEST), (.ref w_ONE_WAY)] .null) (E__VALUES : Exa Z Z.heap w__VALUES "[Lcom/example/wend/wend/MessageKind;") (F_code_REQUEST : Fld Z Z.heap w_REQUEST "com/example/wend/wend/MessageKind" "code" "I" (.int (1 : Int32))) (F_code_ONE_WAY : Fld Z Z.heap w_ONE_WAY "com/example/wend/wend/MessageKind" "code" "I" (.int (2 : Int32))) :
    MetFree l (⟨"com/example/wend/wend/MessageKind", "of", "(I)Lcom/example/wend/wend/MessageKind;"⟩ : MethodName) (head1 (Jvm.Cond.code (⟨"com/example/wend/wend/MessageKind", "of", "(I)Lcom/example/wend/wend/MessageKind;"⟩ : MethodName) prog_15_method_4_code 6 (some (.object "com/example/wend/wend/MessageKind")) :: ws) ({ frames := 2, cells := 1, slots := 2, locals := 25 } : Room)) (fun a U => a = #[(.int (1 : Int32))] ∧ Z.Warmed39 U.vm ∧ U.heap = h0) (fun _ _ _ _ _ => True) (fun _ U o U' => ∃ v L, o = .returned v ∧ Q_rm_of_1 Z w__VALUES w_ONE_WAY w_REQUEST k__VALUES h0 n0 v U'.heap L ∧ FrameEnd U o U' L ({ frames := 2, cells := 1, slots := 2, locals := 25 } : Room).cells ({ frames := 2, cells := 1, slots := 2, locals := 25 } : Room).slots) := by
  refine MetFree.of_bodySF (plainFor_of_name pn_com_example_wend_wend_MessageKind) hisR ?_
  intro p e s m args below meth c s₁ Bd hml0 hP hK
  obtain ⟨rfl, hZ, hh⟩ := hP
  have hx := Bd.exec
  have hby := Bd.bytes
  have hml : c.maxLocals = 6 := hml0
  have hown : s.vm.findClass "com/example/wend/wend/MessageKind" = some m.cls := findClass_of_methodNamed Bd.named
  have hnm := (name_of_methodNamed Bd.named Bd.method).1
  have X0 : Stand p l e ({ frames := 2, cells := 1, slots := 2, locals := 25 } : Room) s m #[(.int (1 : Int32))] below meth c s₁ [] 0 0 := Stand.of_body Bd
  have e0 : s₁.heap = h0 := by rw [← hh, Bd.state]; rfl
  have N0 := Fr.nil n0
  have pre0 : ∀ t, Steps p.tables e below (s₁.setTop (mkF m 0 #[.val (.int (1 : Int32)), .unset, .unset, .unset, .unset, .unset] [])) t → Steps p.tables e below (s₁.setTop (entryFrame m #[(.int (1 : Int32))] 6)) t := fun t k => castTop (ef_rm_of_1 m ) k
  have K0 := Keep.refl h0 []
  obtain ⟨_, _, ⟨T4, L4, k4, n4⟩, -, X4, ⟨Lc4, hQ4, l4, y4, z4⟩, st4⟩ := Jvm.LawKit.callS X0 hx (y := (⟨"com/example/wend/wend/MessageKind", "values", "()[Lcom/example/wend/wend/MessageKind;"⟩ : MethodName)) hown (mvT hZ (hw _ (List.mem_of_getElem? (i := 4) rfl))) (mvT hZ (hw _ (List.mem_of_getElem? (i := 5) rfl))) (mvT hZ (hw _ (List.mem_of_getElem? (i := 2) rfl))) (mvT hZ (hw _ (List.mem_of_getElem? (i := 6) rfl))) (by decide) (backOf (W := 0) (rm_values_2 l Z a0 hw [] w__VALUES w_ONE_WAY w_REQUEST k__VALUES h0 n0 O0  S__VALUES V__VALUES E__VALUES) hZ (hw _ (List.mem_of_getElem? (i := 6) rfl)) (hw _ (List.mem_of_getElem? (i := 2) rfl)) (by decide) (by decide)) (g := (mkF m 2 #[.val (.int (1 : Int32)), .val .null, .unset, .unset, .unset, .unset] [])) rfl (by rw [hml]; rfl) (argsL := []) (rest := []) (lenOf pd____Lcom_example_wend_wend_MessageKind_ rfl) rfl (by show 2 * 0 + _ ≤ _; exact Nat.le_of_eq rfl) (hb hby d_prog_15_method_4_code_2) (fun _ _ => ⟨rfl, e0, (by decide : 0 + 1 ≤ _), (by decide : 0 + 2 ≤ _)⟩)
  dsimp only [Pt.U, Pt.locs, Pt.cells, Pt.slots] at X4 l4 y4 z4 st4 hQ4
  subst l4 y4 z4
  obtain ⟨b4_b6, rfl, N4q, Kc4, u4_0, u4_1, u4_2, u4_3⟩ := hQ4
  have N4 := Fr.app N0 N4q
  have sz_b4_b6 : h0.size ≤ b4_b6 := Nat.le_trans K0.1 u4_3
  have O4 := O0.keep Kc4 all0
  have K4 := K0.trans Kc4 all0
  have vt9 := u4_0
  obtain ⟨cl9, Ar9, q9, S9, Ng9, Ha9, G9⟩ := vt9
  have vt11 := u4_0
  obtain ⟨cl11, Ar11, q11, S11, Ng11, Ha11, G11⟩ := vt11
  have hin11 : ¬ ((0 : Int32) < 0 ∨ cl11.slots.size ≤ ((0 : Int32)).toNatClampNeg) := inb_of S11 ⟨by decide, by decide⟩
  have hat11 : cl11.slots[((0 : Int32)).toNatClampNeg]? = some (.ref w_REQUEST) := Ha11.at hin11 rfl
  obtain ⟨T12, X12, e12, st12⟩ := getF X4 hx hZ hown (host := "") (Or.inl (hw _ (List.mem_of_getElem? (i := 21) rfl))) Via.refl rfl (F_code_REQUEST.ext O4.2) (g := (mkF m 26 #[.val (.int (1 : Int32)), .val .null, .val (.ref b4_b6), .val (.int (2 : Int32)), .val (.int (0 : Int32)), .val (.ref w_REQUEST)] [(.ref w_REQUEST)])) rfl rfl (hb hby d_prog_15_method_4_code_26)
  have pre14 : ∀ t, Steps p.tables e below (T12.setTop (mkF m 39 #[.val (.int (1 : Int32)), .val (.ref w_REQUEST), .val (.ref b4_b6), .val (.int (2 : Int32)), .val (.int ((0 : Int32) + (1 : Int32))), .val (.ref w_REQUEST)] [])) t → Steps p.tables e below (s₁.setTop (entryFrame m #[(.int (1 : Int32))] 6)) t := by
    intro t kt
    refine pre0 t ?_
    show Steps p.tables e below (s₁.setTop (mkF m 0 #[.val (.int (1 : Int32)), .unset, .unset, .unset, .unset, .unset] [])) _
    refine XS.aconstNull X0.here hx rfl (hb hby d_prog_15_method_4_code_0) ?_
    show Steps p.tables e below (s₁.setTop (mkF m 1 #[.val (.int (1 : Int32)), .unset, .unset, .unset, .unset, .unset] [.null])) _
    refine XS.astoreN X0.here hx rfl (hb hby d_prog_15_method_4_code_1) rfl rfl (l' := #[.val (.int (1 : Int32)), .val .null, .unset, .unset, .unset, .unset]) rfl ?_
    show Steps p.tables e below (s₁.setTop (mkF m 2 #[.val (.int (1 : Int32)), .val .null, .unset, .unset, .unset, .unset] [])) _
    refine st4 _ ?_
    show Steps p.tables e below (T4.setTop (mkF m 5 #[.val (.int (1 : Int32)), .val .null, .unset, .unset, .unset, .unset] [(.ref b4_b6)])) _
    refine XS.astoreN X4.here hx rfl (hb hby d_prog_15_method_4_code_5) rfl rfl (l' := #[.val (.int (1 : Int32)), .val .null, .val (.ref b4_b6), .unset, .unset, .unset]) rfl ?_
    show Steps p.tables e below (T4.setTop (mkF m 6 #[.val (.int (1 : Int32)), .val .null, .val (.ref b4_b6), .unset, .unset, .unset] [])) _
    refine XS.aloadN X4.here hx rfl (hb hby d_prog_15_method_4_code_6) rfl rfl ?_
    show Steps p.tables e below (T4.setTop (mkF m 7 #[.val (.int (1 : Int32)), .val .null, .val (.ref b4_b6), .unset, .unset, .unset] [(.ref b4_b6)])) _
    refine X4.arraylength hx Ar9.1 (State.isArrayOf_alike hZ.alike Ar9.2.1) (g := (mkF m 7 #[.val (.int (1 : Int32)), .val .null, .val (.ref b4_b6), .unset, .unset, .unset] [(.ref b4_b6)])) rfl rfl (hb hby d_prog_15_method_4_code_7) _ ?_
    rw [len_of S9 Ng9]
    show Steps p.tables e below (T4.setTop (mkF m 8 #[.val (.int (1 : Int32)), .val .null, .val (.ref b4_b6), .unset, .unset, .unset] [(.int (2 : Int32))])) _
    refine XS.istoreN X4.here hx rfl (hb hby d_prog_15_method_4_code_8) rfl (l' := #[.val (.int (1 : Int32)), .val .null, .val (.ref b4_b6), .val (.int (2 : Int32)), .unset, .unset]) rfl ?_
    show Steps p.tables e below (T4.setTop (mkF m 9 #[.val (.int (1 : Int32)), .val .null, .val (.ref b4_b6), .val (.int (2 : Int32)), .unset, .unset] [])) _
    refine XS.iconst X4.here hx rfl (hb hby d_prog_15_method_4_code_9) ?_
    show Steps p.tables e below (T4.setTop (mkF m 10 #[.val (.int (1 : Int32)), .val .null, .val (.ref b4_b6), .val (.int (2 : Int32)), .unset, .unset] [(.int (0 : Int32))])) _
    refine XS.istore X4.here hx rfl (hb hby d_prog_15_method_4_code_10) rfl (l' := #[.val (.int (1 : Int32)), .val .null, .val (.ref b4_b6), .val (.int (2 : Int32)), .val (.int (0 : Int32)), .unset]) rfl ?_
    show Steps p.tables e below (T4.setTop (mkF m 12 #[.val (.int (1 : Int32)), .val .null, .val (.ref b4_b6), .val (.int (2 : Int32)), .val (.int (0 : Int32)), .unset] [])) _
    refine XS.iload X4.here hx rfl (hb hby d_prog_15_method_4_code_12) rfl ?_
    show Steps p.tables e below (T4.setTop (mkF m 14 #[.val (.int (1 : Int32)), .val .null, .val (.ref b4_b6), .val (.int (2 : Int32)), .val (.int (0 : Int32)), .unset] [(.int (0 : Int32))])) _
    refine XS.iloadN X4.here hx rfl (hb hby d_prog_15_method_4_code_14) rfl ?_
    show Steps p.tables e below (T4.setTop (mkF m 15 #[.val (.int (1 : Int32)), .val .null, .val (.ref b4_b6), .val (.int (2 : Int32)), .val (.int (0 : Int32)), .unset] [(.int (2 : Int32)), (.int (0 : Int32))])) _
    refine XS.icmpNo X4.here hx rfl (hb hby d_prog_15_method_4_code_15) rfl (tlt (by decide : (0 : Int32) < (2 : Int32))).2.1 ?_
    show Steps p.tables e below (T4.setTop (mkF m 18 #[.val (.int (1 : Int32)), .val .null, .val (.ref b4_b6), .val (.int (2 : Int32)), .val (.int (0 : Int32)), .unset] [])) _
    refine XS.aloadN X4.here hx rfl (hb hby d_prog_15_method_4_code_18) rfl rfl ?_
    show Steps p.tables e below (T4.setTop (mkF m 19 #[.val (.int (1 : Int32)), .val .null, .val (.ref b4_b6), .val (.int (2 : Int32)), .val (.int (0 : Int32)), .unset] [(.ref b4_b6)])) _
    refine XS.iload X4.here hx rfl (hb hby d_prog_15_method_4_code_19) rfl ?_
    show Steps p.tables e below (T4.setTop (mkF m 21 #[.val (.int (1 : Int32)), .val .null, .val (.ref b4_b6), .val (.int (2 : Int32)), .val (.int (0 : Int32)), .unset] [(.int (0 : Int32)), (.ref b4_b6)])) _
    refine X4.aaload hx (j := (0 : Int32)) (v := (.ref w_REQUEST)) Ar11.1 (State.isArrayOf_alike hZ.alike Ar11.2.1) rfl Ar11.2.2 hin11 hat11 (g := (mkF m 21 #[.val (.int (1 : Int32)), .val .null, .val (.ref b4_b6), .val (.int (2 : Int32)), .val (.int (0 : Int32)), .unset] [(.int (0 : Int32)), (.ref b4_b6)])) rfl rfl (hb hby d_prog_15_method_4_code_21) _ ?_
    show Steps p.tables e below (T4.setTop (mkF m 22 #[.val (.int (1 : Int32)), .val .null, .val (.ref b4_b6), .val (.int (2 : Int32)), .val (.int (0 : Int32)), .unset] [(.ref w_REQUEST)])) _
    refine XS.astore X4.here hx rfl (hb hby d_prog_15_method_4_code_22) rfl rfl (l' := #[.val (.int (1 : Int32)), .val .null, .val (.ref b4_b6), .val (.int (2 : Int32)), .val (.int (0 : Int32)), .val (.ref w_REQUEST)]) rfl ?_
    show Steps p.tables e below (T4.setTop (mkF m 24 #[.val (.int (1 : Int32)), .val .null, .val (.ref b4_b6), .val (.int (2 : Int32)), .val (.int (0 : Int32)), .val (.ref w_REQUEST)] [])) _
    refine XS.aload X4.here hx rfl (hb hby d_prog_15_method_4_code_24) rfl rfl ?_
    show Steps p.tables e below (T4.setTop (mkF m 26 #[.val (.int (1 : Int32)), .val .null, .val (.ref b4_b6), .val (.int (2 : Int32)), .val (.int (0 : Int32)), .val (.ref w_REQUEST)] [(.ref w_REQUEST)])) _
    refine st12 _ ?_
    show Steps p.tables e below (T12.setTop (mkF m 29 #[.val (.int (1 : Int32)), .val .null, .val (.ref b4_b6), .val (.int (2 : Int32)), .val (.int (0 : Int32)), .val (.ref w_REQUEST)] [(.int (1 : Int32))])) _
    refine XS.iloadN X12.here hx rfl (hb hby d_prog_15_method_4_code_29) rfl ?_
    show Steps p.tables e below (T12.setTop (mkF m 30 #[.val (.int (1 : Int32)), .val .null, .val (.ref b4_b6), .val (.int (2 : Int32)), .val (.int (0 : Int32)), .val (.ref w_REQUEST)] [(.int (1 : Int32)), (.int (1 : Int32))])) _
    refine XS.icmpNo X12.here hx rfl (hb hby d_prog_15_method_4_code_30) rfl (teq (by decide : (1 : Int32) = (1 : Int32))).2 ?_
    show Steps p.tables e below (T12.setTop (mkF m 33 #[.val (.int (1 : Int32)), .val .null, .val (.ref b4_b6), .val (.int (2 : Int32)), .val (.int (0 : Int32)), .val (.ref w_REQUEST)] [])) _
    refine XS.aload X12.here hx rfl (hb hby d_prog_15_method_4_code_33) rfl rfl ?_
    show Steps p.tables e below (T12.setTop (mkF m 35 #[.val (.int (1 : Int32)), .val .null, .val (.ref b4_b6), .val (.int (2 : Int32)), .val (.int (0 : Int32)), .val (.ref w_REQUEST)] [(.ref w_REQUEST)])) _
    refine XS.astoreN X12.here hx rfl (hb hby d_prog_15_method_4_code_35) rfl rfl (l' := #[.val (.int (1 : Int32)), .val (.ref w_REQUEST), .val (.ref b4_b6), .val (.int (2 : Int32)), .val (.int (0 : Int32)), .val (.ref w_REQUEST)]) rfl ?_
    show Steps p.tables e below (T12.setTop (mkF m 36 #[.val (.int (1 : Int32)), .val (.ref w_REQUEST), .val (.ref b4_b6), .val (.int (2 : Int32)), .val (.int (0 : Int32)), .val (.ref w_REQUEST)] [])) _
    refine XS.iinc X12.here hx rfl (hb hby d_prog_15_method_4_code_36) rfl (l' := #[.val (.int (1 : Int32)), .val (.ref w_REQUEST), .val (.ref b4_b6), .val (.int (2 : Int32)), .val (.int ((0 : Int32) + (1 : Int32))), .val (.ref w_REQUEST)]) rfl ?_
    exact kt
  rw [show ((0 : Int32) + (1 : Int32)) = (1 : Int32) from by decide] at pre14
  have vt16 := u4_0
  obtain ⟨cl16, Ar16, q16, S16, Ng16, Ha16, G16⟩ := vt16
  have hin16 : ¬ ((1 : Int32) < 0 ∨ cl16.slots.size ≤ ((1 : Int32)).toNatClampNeg) := inb_of S16 ⟨by decide, by decide⟩
  have hat16 : cl16.slots[((1 : Int32)).toNatClampNeg]? = some (.ref w_ONE_WAY) := Ha16.at hin16 rfl
  obtain ⟨T17, X17, e17, st17⟩ := getF X12 hx hZ hown (host := "") (Or.inl (hw _ (List.mem_of_getElem? (i := 21) rfl))) Via.refl e12 (F_code_ONE_WAY.ext O4.2) (g := (mkF m 26 #[.val (.int (1 : Int32)), .val (.ref w_REQUEST), .val (.ref b4_b6), .val (.int (2 : Int32)), .val (.int (1 : Int32)), .val (.ref w_ONE_WAY)] [(.ref w_ONE_WAY)])) rfl rfl (hb hby d_prog_15_method_4_code_26)
  have pre19 : ∀ t, Steps p.tables e below (T17.setTop (mkF m 39 #[.val (.int (1 : Int32)), .val (.ref w_REQUEST), .val (.ref b4_b6), .val (.int (2 : Int32)), .val (.int ((1 : Int32) + (1 : Int32))), .val (.ref w_ONE_WAY)] [])) t → Steps p.tables e below (s₁.setTop (entryFrame m #[(.int (1 : Int32))] 6)) t := by
    intro t kt
    refine pre14 t ?_
    show Steps p.tables e below (T12.setTop (mkF m 39 #[.val (.int (1 : Int32)), .val (.ref w_REQUEST), .val (.ref b4_b6), .val (.int (2 : Int32)), .val (.int (1 : Int32)), .val (.ref w_REQUEST)] [])) _
    refine XS.goto X12.here hx rfl (pc0 := 39) (pc' := 12) rfl (hb hby d_prog_15_method_4_code_39) (by decide) (by decide) ?_
    show Steps p.tables e below (T12.setTop (mkF m 12 #[.val (.int (1 : Int32)), .val (.ref w_REQUEST), .val (.ref b4_b6), .val (.int (2 : Int32)), .val (.int (1 : Int32)), .val (.ref w_REQUEST)] [])) _
    refine XS.iload X12.here hx rfl (hb hby d_prog_15_method_4_code_12) rfl ?_
    show Steps p.tables e below (T12.setTop (mkF m 14 #[.val (.int (1 : Int32)), .val (.ref w_REQUEST), .val (.ref b4_b6), .val (.int (2 : Int32)), .val (.int (1 : Int32)), .val (.ref w_REQUEST)] [(.int (1 : Int32))])) _
    refine XS.iloadN X12.here hx rfl (hb hby d_prog_15_method_4_code_14) rfl ?_
    show Steps p.tables e below (T12.setTop (mkF m 15 #[.val (.int (1 : Int32)), .val (.ref w_REQUEST), .val (.ref b4_b6), .val (.int (2 : Int32)), .val (.int (1 : Int32)), .val (.ref w_REQUEST)] [(.int (2 : Int32)), (.int (1 : Int32))])) _
    refine XS.icmpNo X12.here hx rfl (hb hby d_prog_15_method_4_code_15) rfl (tlt (by decide : (1 : Int32) < (2 : Int32))).2.1 ?_
    show Steps p.tables e below (T12.setTop (mkF m 18 #[.val (.int (1 : Int32)), .val (.ref w_REQUEST), .val (.ref b4_b6), .val (.int (2 : Int32)), .val (.int (1 : Int32)), .val (.ref w_REQUEST)] [])) _
    refine XS.aloadN X12.here hx rfl (hb hby d_prog_15_method_4_code_18) rfl rfl ?_
    show Steps p.tables e below (T12.setTop (mkF m 19 #[.val (.int (1 : Int32)), .val (.ref w_REQUEST), .val (.ref b4_b6), .val (.int (2 : Int32)), .val (.int (1 : Int32)), .val (.ref w_REQUEST)] [(.ref b4_b6)])) _
    refine XS.iload X12.here hx rfl (hb hby d_prog_15_method_4_code_19) rfl ?_
    show Steps p.tables e below (T12.setTop (mkF m 21 #[.val (.int (1 : Int32)), .val (.ref w_REQUEST), .val (.ref b4_b6), .val (.int (2 : Int32)), .val (.int (1 : Int32)), .val (.ref w_REQUEST)] [(.int (1 : Int32)), (.ref b4_b6)])) _
    refine X12.aaload hx (j := (1 : Int32)) (v := (.ref w_ONE_WAY)) (by rw [e12]; exact Ar16.1) (State.isArrayOf_alike hZ.alike Ar16.2.1) rfl Ar16.2.2 hin16 hat16 (g := (mkF m 21 #[.val (.int (1 : Int32)), .val (.ref w_REQUEST), .val (.ref b4_b6), .val (.int (2 : Int32)), .val (.int (1 : Int32)), .val (.ref w_REQUEST)] [(.int (1 : Int32)), (.ref b4_b6)])) rfl rfl (hb hby d_prog_15_method_4_code_21) _ ?_
    show Steps p.tables e below (T12.setTop (mkF m 22 #[.val (.int (1 : Int32)), .val (.ref w_REQUEST), .val (.ref b4_b6), .val (.int (2 : Int32)), .val (.int (1 : Int32)), .val (.ref w_REQUEST)] [(.ref w_ONE_WAY)])) _
    refine XS.astore X12.here hx rfl (hb hby d_prog_15_method_4_code_22) rfl rfl (l' := #[.val (.int (1 : Int32)), .val (.ref w_REQUEST), .val (.ref b4_b6), .val (.int (2 : Int32)), .val (.int (1 : Int32)), .val (.ref w_ONE_WAY)]) rfl ?_
    show Steps p.tables e below (T12.setTop (mkF m 24 #[.val (.int (1 : Int32)), .val (.ref w_REQUEST), .val (.ref b4_b6), .val (.int (2 : Int32)), .val (.int (1 : Int32)), .val (.ref w_ONE_WAY)] [])) _
    refine XS.aload X12.here hx rfl (hb hby d_prog_15_method_4_code_24) rfl rfl ?_
    show Steps p.tables e below (T12.setTop (mkF m 26 #[.val (.int (1 : Int32)), .val (.ref w_REQUEST), .val (.ref b4_b6), .val (.int (2 : Int32)), .val (.int (1 : Int32)), .val (.ref w_ONE_WAY)] [(.ref w_ONE_WAY)])) _
    refine st17 _ ?_
    show Steps p.tables e below (T17.setTop (mkF m 29 #[.val (.int (1 : Int32)), .val (.ref w_REQUEST), .val (.ref b4_b6), .val (.int (2 : Int32)), .val (.int (1 : Int32)), .val (.ref w_ONE_WAY)] [(.int (2 : Int32))])) _
    refine XS.iloadN X17.here hx rfl (hb hby d_prog_15_method_4_code_29) rfl ?_
    show Steps p.tables e below (T17.setTop (mkF m 30 #[.val (.int (1 : Int32)), .val (.ref w_REQUEST), .val (.ref b4_b6), .val (.int (2 : Int32)), .val (.int (1 : Int32)), .val (.ref w_ONE_WAY)] [(.int (1 : Int32)), (.int (2 : Int32))])) _
    refine XS.icmpYes X17.here hx rfl (pc0 := 30) (pc' := 36) rfl (hb hby d_prog_15_method_4_code_30) rfl (feq (by decide : ¬ ((2 : Int32) = (1 : Int32)))).2 (by decide) (by decide) ?_
    show Steps p.tables e below (T17.setTop (mkF m 36 #[.val (.int (1 : Int32)), .val (.ref w_REQUEST), .val (.ref b4_b6), .val (.int (2 : Int32)), .val (.int (1 : Int32)), .val (.ref w_ONE_WAY)] [])) _
    refine XS.iinc X17.here hx rfl (hb hby d_prog_15_method_4_code_36) rfl (l' := #[.val (.int (1 : Int32)), .val (.ref w_REQUEST), .val (.ref b4_b6), .val (.int (2 : Int32)), .val (.int ((1 : Int32) + (1 : Int32))), .val (.ref w_ONE_WAY)]) rfl ?_
    exact kt
  rw [show ((1 : Int32) + (1 : Int32)) = (2 : Int32) from by decide] at pre19
  have pre21 : ∀ t, Steps p.tables e below (T17.setTop (mkF m 43 #[.val (.int (1 : Int32)), .val (.ref w_REQUEST), .val (.ref b4_b6), .val (.int (2 : Int32)), .val (.int (2 : Int32)), .val (.ref w_ONE_WAY)] [(.ref w_REQUEST)])) t → Steps p.tables e below (s₁.setTop (entryFrame m #[(.int (1 : Int32))] 6)) t := by
    intro t kt
    refine pre19 t ?_
    show Steps p.tables e below (T17.setTop (mkF m 39 #[.val (.int (1 : Int32)), .val (.ref w_REQUEST), .val (.ref b4_b6), .val (.int (2 : Int32)), .val (.int (2 : Int32)), .val (.ref w_ONE_WAY)] [])) _
    refine XS.goto X17.here hx rfl (pc0 := 39) (pc' := 12) rfl (hb hby d_prog_15_method_4_code_39) (by decide) (by decide) ?_
    show Steps p.tables e below (T17.setTop (mkF m 12 #[.val (.int (1 : Int32)), .val (.ref w_REQUEST), .val (.ref b4_b6), .val (.int (2 : Int32)), .val (.int (2 : Int32)), .val (.ref w_ONE_WAY)] [])) _
    refine XS.iload X17.here hx rfl (hb hby d_prog_15_method_4_code_12) rfl ?_
    show Steps p.tables e below (T17.setTop (mkF m 14 #[.val (.int (1 : Int32)), .val (.ref w_REQUEST), .val (.ref b4_b6), .val (.int (2 : Int32)), .val (.int (2 : Int32)), .val (.ref w_ONE_WAY)] [(.int (2 : Int32))])) _
    refine XS.iloadN X17.here hx rfl (hb hby d_prog_15_method_4_code_14) rfl ?_
    show Steps p.tables e below (T17.setTop (mkF m 15 #[.val (.int (1 : Int32)), .val (.ref w_REQUEST), .val (.ref b4_b6), .val (.int (2 : Int32)), .val (.int (2 : Int32)), .val (.ref w_ONE_WAY)] [(.int (2 : Int32)), (.int (2 : Int32))])) _
    refine XS.icmpYes X17.here hx rfl (pc0 := 15) (pc' := 42) rfl (hb hby d_prog_15_method_4_code_15) rfl (flt (by decide : ¬ ((2 : Int32) < (2 : Int32)))).2.1 (by decide) (by decide) ?_
    show Steps p.tables e below (T17.setTop (mkF m 42 #[.val (.int (1 : Int32)), .val (.ref w_REQUEST), .val (.ref b4_b6), .val (.int (2 : Int32)), .val (.int (2 : Int32)), .val (.ref w_ONE_WAY)] [])) _
    refine XS.aloadN X17.here hx rfl (hb hby d_prog_15_method_4_code_42) rfl rfl ?_
    exact kt
  obtain ⟨fs, hr, hrun, hended, hW, hsame⟩ := X17.leave (v := some (.ref w_REQUEST)) (fun h => by rw [Bd.returns] at h; cases h)
  refine ⟨_, _, pre21 _ ?_, hrun, hended, _, _, rfl, ?_, ⟨_, rfl⟩, hW, hsame.mono (by decide) (by decide)⟩
  · show Steps p.tables e below (T17.setTop (mkF m 43 #[.val (.int (1 : Int32)), .val (.ref w_REQUEST), .val (.ref b4_b6), .val (.int (2 : Int32)), .val (.int (2 : Int32)), .val (.ref w_ONE_WAY)] [(.ref w_REQUEST)])) _
    jvm_step X17.here [X17.here.top, hx, (hb hby d_prog_15_method_4_code_43), X17.method', Bd.returns, Value.isRef, FieldType.isReference]
    first | (intro acts; rw [hr _ acts rfl rfl rfl]) | rw [hr _ _ rfl rfl rfl]
    exact Steps.refl _
  · show Q_rm_of_1 Z w__VALUES w_ONE_WAY w_REQUEST k__VALUES h0 n0 _ T17.heap _
    rw [e17]
    exact ⟨rfl, N4, K4⟩
theorem ef_rm_of_3 (m : MethodId)  : entryFrame m #[(.int (2 : Int32))] 6 = mkF m 0 #[.val (.int (2 : Int32)), .unset, .unset, .unset, .unset, .unset] [] := by first | (simp [entryFrame, mkF, argsToLocals, Value.category]; done) | rfl
def Q_rm_of_3 (Z : State) (w__VALUES : Addr) (w_ONE_WAY : Addr) (w_REQUEST : Addr) (k__VALUES : ClassId) (h0 : Heap) (n0 : Nat) (v : Option Value) (h : Heap) (L : List Loc) : Prop := v = some (.ref w_ONE_WAY) ∧ Fr n0 L ∧ Keep h0 h []
set_option maxRecDepth 65536 in
set_option maxHeartbeats 40000000 in
theorem rm_of_3 (l : Launch) (Z : State) (a0 : Array Value) (hw : ∀ d ∈ tables_1, d.before a0 Z = true) (ws : List Jvm.Cond) (w__VALUES : Addr) (w_ONE_WAY : Addr) (w_REQUEST : Addr) (k__VALUES : ClassId) (h0 : Heap) (n0 : Nat) (O0 : Old Z n0 h0)  (S__VALUES : Sta Z Z.heap "com/example/wend/wend/MessageKind" "$VALUES" "[Lcom/example/wend/wend/MessageKind;" (.ref w__VALUES)) (V__VALUES : Arv Z Z.heap w__VALUES k__VALUES (.object "com/example/wend/wend/MessageKind") (2 : Int32) [(.ref w_REQUEST), (.ref w_ONE_WAY)] .null) (E__VALUES : Exa Z Z.heap w__VALUES "[Lcom/example/wend/wend/MessageKind;") (F_code_REQUEST : Fld Z Z.heap w_REQUEST "com/example/wend/wend/MessageKind" "code" "I" (.int (1 : Int32))) (F_code_ONE_WAY : Fld Z Z.heap w_ONE_WAY "com/example/wend/wend/MessageKind" "code" "I" (.int (2 : Int32))) :
    MetFree l (⟨"com/example/wend/wend/MessageKind", "of", "(I)Lcom/example/wend/wend/MessageKind;"⟩ : MethodName) (head1 (Jvm.Cond.code (⟨"com/example/wend/wend/MessageKind", "of", "(I)Lcom/example/wend/wend/MessageKind;"⟩ : MethodName) prog_15_method_4_code 6 (some (.object "com/example/wend/wend/MessageKind")) :: ws) ({ frames := 2, cells := 1, slots := 2, locals := 25 } : Room)) (fun a U => a = #[(.int (2 : Int32))] ∧ Z.Warmed39 U.vm ∧ U.heap = h0) (fun _ _ _ _ _ => True) (fun _ U o U' => ∃ v L, o = .returned v ∧ Q_rm_of_3 Z w__VALUES w_ONE_WAY w_REQUEST k__VALUES h0 n0 v U'.heap L ∧ FrameEnd U o U' L ({ frames := 2, cells := 1, slots := 2, locals := 25 } : Room).cells ({ frames := 2, cells := 1, slots := 2, locals := 25 } : Room).slots) := by
  refine MetFree.of_bodySF (plainFor_of_name pn_com_example_wend_wend_MessageKind) hisR ?_
  intro p e s m args below meth c s₁ Bd hml0 hP hK
  obtain ⟨rfl, hZ, hh⟩ := hP
  have hx := Bd.exec
  have hby := Bd.bytes
  have hml : c.maxLocals = 6 := hml0
  have hown : s.vm.findClass "com/example/wend/wend/MessageKind" = some m.cls := findClass_of_methodNamed Bd.named
  have hnm := (name_of_methodNamed Bd.named Bd.method).1
  have X0 : Stand p l e ({ frames := 2, cells := 1, slots := 2, locals := 25 } : Room) s m #[(.int (2 : Int32))] below meth c s₁ [] 0 0 := Stand.of_body Bd
  have e0 : s₁.heap = h0 := by rw [← hh, Bd.state]; rfl
  have N0 := Fr.nil n0
  have pre0 : ∀ t, Steps p.tables e below (s₁.setTop (mkF m 0 #[.val (.int (2 : Int32)), .unset, .unset, .unset, .unset, .unset] [])) t → Steps p.tables e below (s₁.setTop (entryFrame m #[(.int (2 : Int32))] 6)) t := fun t k => castTop (ef_rm_of_3 m ) k
  have K0 := Keep.refl h0 []
  obtain ⟨_, _, ⟨T28, L28, k28, n28⟩, -, X28, ⟨Lc28, hQ28, l28, y28, z28⟩, st28⟩ := Jvm.LawKit.callS X0 hx (y := (⟨"com/example/wend/wend/MessageKind", "values", "()[Lcom/example/wend/wend/MessageKind;"⟩ : MethodName)) hown (mvT hZ (hw _ (List.mem_of_getElem? (i := 4) rfl))) (mvT hZ (hw _ (List.mem_of_getElem? (i := 5) rfl))) (mvT hZ (hw _ (List.mem_of_getElem? (i := 2) rfl))) (mvT hZ (hw _ (List.mem_of_getElem? (i := 6) rfl))) (by decide) (backOf (W := 0) (rm_values_2 l Z a0 hw [] w__VALUES w_ONE_WAY w_REQUEST k__VALUES h0 n0 O0  S__VALUES V__VALUES E__VALUES) hZ (hw _ (List.mem_of_getElem? (i := 6) rfl)) (hw _ (List.mem_of_getElem? (i := 2) rfl)) (by decide) (by decide)) (g := (mkF m 2 #[.val (.int (2 : Int32)), .val .null, .unset, .unset, .unset, .unset] [])) rfl (by rw [hml]; rfl) (argsL := []) (rest := []) (lenOf pd____Lcom_example_wend_wend_MessageKind_ rfl) rfl (by show 2 * 0 + _ ≤ _; exact Nat.le_of_eq rfl) (hb hby d_prog_15_method_4_code_2) (fun _ _ => ⟨rfl, e0, (by decide : 0 + 1 ≤ _), (by decide : 0 + 2 ≤ _)⟩)
  dsimp only [Pt.U, Pt.locs, Pt.cells, Pt.slots] at X28 l28 y28 z28 st28 hQ28
  subst l28 y28 z28
  obtain ⟨b28_b6, rfl, N28q, Kc28, u28_0, u28_1, u28_2, u28_3⟩ := hQ28
  have N28 := Fr.app N0 N28q
  have sz_b28_b6 : h0.size ≤ b28_b6 := Nat.le_trans K0.1 u28_3
  have O28 := O0.keep Kc28 all0
  have K28 := K0.trans Kc28 all0
  have vt29 := u28_0
  obtain ⟨cl29, Ar29, q29, S29, Ng29, Ha29, G29⟩ := vt29
  have vt31 := u28_0
  obtain ⟨cl31, Ar31, q31, S31, Ng31, Ha31, G31⟩ := vt31
  have hin31 : ¬ ((0 : Int32) < 0 ∨ cl31.slots.size ≤ ((0 : Int32)).toNatClampNeg) := inb_of S31 ⟨by decide, by decide⟩
  have hat31 : cl31.slots[((0 : Int32)).toNatClampNeg]? = some (.ref w_REQUEST) := Ha31.at hin31 rfl
  obtain ⟨T32, X32, e32, st32⟩ := getF X28 hx hZ hown (host := "") (Or.inl (hw _ (List.mem_of_getElem? (i := 21) rfl))) Via.refl rfl (F_code_REQUEST.ext O28.2) (g := (mkF m 26 #[.val (.int (2 : Int32)), .val .null, .val (.ref b28_b6), .val (.int (2 : Int32)), .val (.int (0 : Int32)), .val (.ref w_REQUEST)] [(.ref w_REQUEST)])) rfl rfl (hb hby d_prog_15_method_4_code_26)
  have pre34 : ∀ t, Steps p.tables e below (T32.setTop (mkF m 39 #[.val (.int (2 : Int32)), .val .null, .val (.ref b28_b6), .val (.int (2 : Int32)), .val (.int ((0 : Int32) + (1 : Int32))), .val (.ref w_REQUEST)] [])) t → Steps p.tables e below (s₁.setTop (entryFrame m #[(.int (2 : Int32))] 6)) t := by
    intro t kt
    refine pre0 t ?_
    show Steps p.tables e below (s₁.setTop (mkF m 0 #[.val (.int (2 : Int32)), .unset, .unset, .unset, .unset, .unset] [])) _
    refine XS.aconstNull X0.here hx rfl (hb hby d_prog_15_method_4_code_0) ?_
    show Steps p.tables e below (s₁.setTop (mkF m 1 #[.val (.int (2 : Int32)), .unset, .unset, .unset, .unset, .unset] [.null])) _
    refine XS.astoreN X0.here hx rfl (hb hby d_prog_15_method_4_code_1) rfl rfl (l' := #[.val (.int (2 : Int32)), .val .null, .unset, .unset, .unset, .unset]) rfl ?_
    show Steps p.tables e below (s₁.setTop (mkF m 2 #[.val (.int (2 : Int32)), .val .null, .unset, .unset, .unset, .unset] [])) _
    refine st28 _ ?_
    show Steps p.tables e below (T28.setTop (mkF m 5 #[.val (.int (2 : Int32)), .val .null, .unset, .unset, .unset, .unset] [(.ref b28_b6)])) _
    refine XS.astoreN X28.here hx rfl (hb hby d_prog_15_method_4_code_5) rfl rfl (l' := #[.val (.int (2 : Int32)), .val .null, .val (.ref b28_b6), .unset, .unset, .unset]) rfl ?_
    show Steps p.tables e below (T28.setTop (mkF m 6 #[.val (.int (2 : Int32)), .val .null, .val (.ref b28_b6), .unset, .unset, .unset] [])) _
    refine XS.aloadN X28.here hx rfl (hb hby d_prog_15_method_4_code_6) rfl rfl ?_
    show Steps p.tables e below (T28.setTop (mkF m 7 #[.val (.int (2 : Int32)), .val .null, .val (.ref b28_b6), .unset, .unset, .unset] [(.ref b28_b6)])) _
    refine X28.arraylength hx Ar29.1 (State.isArrayOf_alike hZ.alike Ar29.2.1) (g := (mkF m 7 #[.val (.int (2 : Int32)), .val .null, .val (.ref b28_b6), .unset, .unset, .unset] [(.ref b28_b6)])) rfl rfl (hb hby d_prog_15_method_4_code_7) _ ?_
    rw [len_of S29 Ng29]
    show Steps p.tables e below (T28.setTop (mkF m 8 #[.val (.int (2 : Int32)), .val .null, .val (.ref b28_b6), .unset, .unset, .unset] [(.int (2 : Int32))])) _
    refine XS.istoreN X28.here hx rfl (hb hby d_prog_15_method_4_code_8) rfl (l' := #[.val (.int (2 : Int32)), .val .null, .val (.ref b28_b6), .val (.int (2 : Int32)), .unset, .unset]) rfl ?_
    show Steps p.tables e below (T28.setTop (mkF m 9 #[.val (.int (2 : Int32)), .val .null, .val (.ref b28_b6), .val (.int (2 : Int32)), .unset, .unset] [])) _
    refine XS.iconst X28.here hx rfl (hb hby d_prog_15_method_4_code_9) ?_
    show Steps p.tables e below (T28.setTop (mkF m 10 #[.val (.int (2 : Int32)), .val .null, .val (.ref b28_b6), .val (.int (2 : Int32)), .unset, .unset] [(.int (0 : Int32))])) _
    refine XS.istore X28.here hx rfl (hb hby d_prog_15_method_4_code_10) rfl (l' := #[.val (.int (2 : Int32)), .val .null, .val (.ref b28_b6), .val (.int (2 : Int32)), .val (.int (0 : Int32)), .unset]) rfl ?_
    show Steps p.tables e below (T28.setTop (mkF m 12 #[.val (.int (2 : Int32)), .val .null, .val (.ref b28_b6), .val (.int (2 : Int32)), .val (.int (0 : Int32)), .unset] [])) _
    refine XS.iload X28.here hx rfl (hb hby d_prog_15_method_4_code_12) rfl ?_
    show Steps p.tables e below (T28.setTop (mkF m 14 #[.val (.int (2 : Int32)), .val .null, .val (.ref b28_b6), .val (.int (2 : Int32)), .val (.int (0 : Int32)), .unset] [(.int (0 : Int32))])) _
    refine XS.iloadN X28.here hx rfl (hb hby d_prog_15_method_4_code_14) rfl ?_
    show Steps p.tables e below (T28.setTop (mkF m 15 #[.val (.int (2 : Int32)), .val .null, .val (.ref b28_b6), .val (.int (2 : Int32)), .val (.int (0 : Int32)), .unset] [(.int (2 : Int32)), (.int (0 : Int32))])) _
    refine XS.icmpNo X28.here hx rfl (hb hby d_prog_15_method_4_code_15) rfl (tlt (by decide : (0 : Int32) < (2 : Int32))).2.1 ?_
    show Steps p.tables e below (T28.setTop (mkF m 18 #[.val (.int (2 : Int32)), .val .null, .val (.ref b28_b6), .val (.int (2 : Int32)), .val (.int (0 : Int32)), .unset] [])) _
    refine XS.aloadN X28.here hx rfl (hb hby d_prog_15_method_4_code_18) rfl rfl ?_
    show Steps p.tables e below (T28.setTop (mkF m 19 #[.val (.int (2 : Int32)), .val .null, .val (.ref b28_b6), .val (.int (2 : Int32)), .val (.int (0 : Int32)), .unset] [(.ref b28_b6)])) _
    refine XS.iload X28.here hx rfl (hb hby d_prog_15_method_4_code_19) rfl ?_
    show Steps p.tables e below (T28.setTop (mkF m 21 #[.val (.int (2 : Int32)), .val .null, .val (.ref b28_b6), .val (.int (2 : Int32)), .val (.int (0 : Int32)), .unset] [(.int (0 : Int32)), (.ref b28_b6)])) _
    refine X28.aaload hx (j := (0 : Int32)) (v := (.ref w_REQUEST)) Ar31.1 (State.isArrayOf_alike hZ.alike Ar31.2.1) rfl Ar31.2.2 hin31 hat31 (g := (mkF m 21 #[.val (.int (2 : Int32)), .val .null, .val (.ref b28_b6), .val (.int (2 : Int32)), .val (.int (0 : Int32)), .unset] [(.int (0 : Int32)), (.ref b28_b6)])) rfl rfl (hb hby d_prog_15_method_4_code_21) _ ?_
    show Steps p.tables e below (T28.setTop (mkF m 22 #[.val (.int (2 : Int32)), .val .null, .val (.ref b28_b6), .val (.int (2 : Int32)), .val (.int (0 : Int32)), .unset] [(.ref w_REQUEST)])) _
    refine XS.astore X28.here hx rfl (hb hby d_prog_15_method_4_code_22) rfl rfl (l' := #[.val (.int (2 : Int32)), .val .null, .val (.ref b28_b6), .val (.int (2 : Int32)), .val (.int (0 : Int32)), .val (.ref w_REQUEST)]) rfl ?_
    show Steps p.tables e below (T28.setTop (mkF m 24 #[.val (.int (2 : Int32)), .val .null, .val (.ref b28_b6), .val (.int (2 : Int32)), .val (.int (0 : Int32)), .val (.ref w_REQUEST)] [])) _
    refine XS.aload X28.here hx rfl (hb hby d_prog_15_method_4_code_24) rfl rfl ?_
    show Steps p.tables e below (T28.setTop (mkF m 26 #[.val (.int (2 : Int32)), .val .null, .val (.ref b28_b6), .val (.int (2 : Int32)), .val (.int (0 : Int32)), .val (.ref w_REQUEST)] [(.ref w_REQUEST)])) _
    refine st32 _ ?_
    show Steps p.tables e below (T32.setTop (mkF m 29 #[.val (.int (2 : Int32)), .val .null, .val (.ref b28_b6), .val (.int (2 : Int32)), .val (.int (0 : Int32)), .val (.ref w_REQUEST)] [(.int (1 : Int32))])) _
    refine XS.iloadN X32.here hx rfl (hb hby d_prog_15_method_4_code_29) rfl ?_
    show Steps p.tables e below (T32.setTop (mkF m 30 #[.val (.int (2 : Int32)), .val .null, .val (.ref b28_b6), .val (.int (2 : Int32)), .val (.int (0 : Int32)), .val (.ref w_REQUEST)] [(.int (2 : Int32)), (.int (1 : Int32))])) _
    refine XS.icmpYes X32.here hx rfl (pc0 := 30) (pc' := 36) rfl (hb hby d_prog_15_method_4_code_30) rfl (feq (by decide : ¬ ((1 : Int32) = (2 : Int32)))).2 (by decide) (by decide) ?_
    show Steps p.tables e below (T32.setTop (mkF m 36 #[.val (.int (2 : Int32)), .val .null, .val (.ref b28_b6), .val (.int (2 : Int32)), .val (.int (0 : Int32)), .val (.ref w_REQUEST)] [])) _
    refine XS.iinc X32.here hx rfl (hb hby d_prog_15_method_4_code_36) rfl (l' := #[.val (.int (2 : Int32)), .val .null, .val (.ref b28_b6), .val (.int (2 : Int32)), .val (.int ((0 : Int32) + (1 : Int32))), .val (.ref w_REQUEST)]) rfl ?_
    exact kt
  rw [show ((0 : Int32) + (1 : Int32)) = (1 : Int32) from by decide] at pre34
  have vt36 := u28_0
  obtain ⟨cl36, Ar36, q36, S36, Ng36, Ha36, G36⟩ := vt36
  have hin36 : ¬ ((1 : Int32) < 0 ∨ cl36.slots.size ≤ ((1 : Int32)).toNatClampNeg) := inb_of S36 ⟨by decide, by decide⟩
  have hat36 : cl36.slots[((1 : Int32)).toNatClampNeg]? = some (.ref w_ONE_WAY) := Ha36.at hin36 rfl
  obtain ⟨T37, X37, e37, st37⟩ := getF X32 hx hZ hown (host := "") (Or.inl (hw _ (List.mem_of_getElem? (i := 21) rfl))) Via.refl e32 (F_code_ONE_WAY.ext O28.2) (g := (mkF m 26 #[.val (.int (2 : Int32)), .val .null, .val (.ref b28_b6), .val (.int (2 : Int32)), .val (.int (1 : Int32)), .val (.ref w_ONE_WAY)] [(.ref w_ONE_WAY)])) rfl rfl (hb hby d_prog_15_method_4_code_26)
  have pre39 : ∀ t, Steps p.tables e below (T37.setTop (mkF m 39 #[.val (.int (2 : Int32)), .val (.ref w_ONE_WAY), .val (.ref b28_b6), .val (.int (2 : Int32)), .val (.int ((1 : Int32) + (1 : Int32))), .val (.ref w_ONE_WAY)] [])) t → Steps p.tables e below (s₁.setTop (entryFrame m #[(.int (2 : Int32))] 6)) t := by
    intro t kt
    refine pre34 t ?_
    show Steps p.tables e below (T32.setTop (mkF m 39 #[.val (.int (2 : Int32)), .val .null, .val (.ref b28_b6), .val (.int (2 : Int32)), .val (.int (1 : Int32)), .val (.ref w_REQUEST)] [])) _
    refine XS.goto X32.here hx rfl (pc0 := 39) (pc' := 12) rfl (hb hby d_prog_15_method_4_code_39) (by decide) (by decide) ?_
    show Steps p.tables e below (T32.setTop (mkF m 12 #[.val (.int (2 : Int32)), .val .null, .val (.ref b28_b6), .val (.int (2 : Int32)), .val (.int (1 : Int32)), .val (.ref w_REQUEST)] [])) _
    refine XS.iload X32.here hx rfl (hb hby d_prog_15_method_4_code_12) rfl ?_
    show Steps p.tables e below (T32.setTop (mkF m 14 #[.val (.int (2 : Int32)), .val .null, .val (.ref b28_b6), .val (.int (2 : Int32)), .val (.int (1 : Int32)), .val (.ref w_REQUEST)] [(.int (1 : Int32))])) _
    refine XS.iloadN X32.here hx rfl (hb hby d_prog_15_method_4_code_14) rfl ?_
    show Steps p.tables e below (T32.setTop (mkF m 15 #[.val (.int (2 : Int32)), .val .null, .val (.ref b28_b6), .val (.int (2 : Int32)), .val (.int (1 : Int32)), .val (.ref w_REQUEST)] [(.int (2 : Int32)), (.int (1 : Int32))])) _
    refine XS.icmpNo X32.here hx rfl (hb hby d_prog_15_method_4_code_15) rfl (tlt (by decide : (1 : Int32) < (2 : Int32))).2.1 ?_
    show Steps p.tables e below (T32.setTop (mkF m 18 #[.val (.int (2 : Int32)), .val .null, .val (.ref b28_b6), .val (.int (2 : Int32)), .val (.int (1 : Int32)), .val (.ref w_REQUEST)] [])) _
    refine XS.aloadN X32.here hx rfl (hb hby d_prog_15_method_4_code_18) rfl rfl ?_
    show Steps p.tables e below (T32.setTop (mkF m 19 #[.val (.int (2 : Int32)), .val .null, .val (.ref b28_b6), .val (.int (2 : Int32)), .val (.int (1 : Int32)), .val (.ref w_REQUEST)] [(.ref b28_b6)])) _
    refine XS.iload X32.here hx rfl (hb hby d_prog_15_method_4_code_19) rfl ?_
    show Steps p.tables e below (T32.setTop (mkF m 21 #[.val (.int (2 : Int32)), .val .null, .val (.ref b28_b6), .val (.int (2 : Int32)), .val (.int (1 : Int32)), .val (.ref w_REQUEST)] [(.int (1 : Int32)), (.ref b28_b6)])) _
    refine X32.aaload hx (j := (1 : Int32)) (v := (.ref w_ONE_WAY)) (by rw [e32]; exact Ar36.1) (State.isArrayOf_alike hZ.alike Ar36.2.1) rfl Ar36.2.2 hin36 hat36 (g := (mkF m 21 #[.val (.int (2 : Int32)), .val .null, .val (.ref b28_b6), .val (.int (2 : Int32)), .val (.int (1 : Int32)), .val (.ref w_REQUEST)] [(.int (1 : Int32)), (.ref b28_b6)])) rfl rfl (hb hby d_prog_15_method_4_code_21) _ ?_
    show Steps p.tables e below (T32.setTop (mkF m 22 #[.val (.int (2 : Int32)), .val .null, .val (.ref b28_b6), .val (.int (2 : Int32)), .val (.int (1 : Int32)), .val (.ref w_REQUEST)] [(.ref w_ONE_WAY)])) _
    refine XS.astore X32.here hx rfl (hb hby d_prog_15_method_4_code_22) rfl rfl (l' := #[.val (.int (2 : Int32)), .val .null, .val (.ref b28_b6), .val (.int (2 : Int32)), .val (.int (1 : Int32)), .val (.ref w_ONE_WAY)]) rfl ?_
    show Steps p.tables e below (T32.setTop (mkF m 24 #[.val (.int (2 : Int32)), .val .null, .val (.ref b28_b6), .val (.int (2 : Int32)), .val (.int (1 : Int32)), .val (.ref w_ONE_WAY)] [])) _
    refine XS.aload X32.here hx rfl (hb hby d_prog_15_method_4_code_24) rfl rfl ?_
    show Steps p.tables e below (T32.setTop (mkF m 26 #[.val (.int (2 : Int32)), .val .null, .val (.ref b28_b6), .val (.int (2 : Int32)), .val (.int (1 : Int32)), .val (.ref w_ONE_WAY)] [(.ref w_ONE_WAY)])) _
    refine st37 _ ?_
    show Steps p.tables e below (T37.setTop (mkF m 29 #[.val (.int (2 : Int32)), .val .null, .val (.ref b28_b6), .val (.int (2 : Int32)), .val (.int (1 : Int32)), .val (.ref w_ONE_WAY)] [(.int (2 : Int32))])) _
    refine XS.iloadN X37.here hx rfl (hb hby d_prog_15_method_4_code_29) rfl ?_
    show Steps p.tables e below (T37.setTop (mkF m 30 #[.val (.int (2 : Int32)), .val .null, .val (.ref b28_b6), .val (.int (2 : Int32)), .val (.int (1 : Int32)), .val (.ref w_ONE_WAY)] [(.int (2 : Int32)), (.int (2 : Int32))])) _
    refine XS.icmpNo X37.here hx rfl (hb hby d_prog_15_method_4_code_30) rfl (teq (by decide : (2 : Int32) = (2 : Int32))).2 ?_
    show Steps p.tables e below (T37.setTop (mkF m 33 #[.val (.int (2 : Int32)), .val .null, .val (.ref b28_b6), .val (.int (2 : Int32)), .val (.int (1 : Int32)), .val (.ref w_ONE_WAY)] [])) _
    refine XS.aload X37.here hx rfl (hb hby d_prog_15_method_4_code_33) rfl rfl ?_
    show Steps p.tables e below (T37.setTop (mkF m 35 #[.val (.int (2 : Int32)), .val .null, .val (.ref b28_b6), .val (.int (2 : Int32)), .val (.int (1 : Int32)), .val (.ref w_ONE_WAY)] [(.ref w_ONE_WAY)])) _
    refine XS.astoreN X37.here hx rfl (hb hby d_prog_15_method_4_code_35) rfl rfl (l' := #[.val (.int (2 : Int32)), .val (.ref w_ONE_WAY), .val (.ref b28_b6), .val (.int (2 : Int32)), .val (.int (1 : Int32)), .val (.ref w_ONE_WAY)]) rfl ?_
    show Steps p.tables e below (T37.setTop (mkF m 36 #[.val (.int (2 : Int32)), .val (.ref w_ONE_WAY), .val (.ref b28_b6), .val (.int (2 : Int32)), .val (.int (1 : Int32)), .val (.ref w_ONE_WAY)] [])) _
    refine XS.iinc X37.here hx rfl (hb hby d_prog_15_method_4_code_36) rfl (l' := #[.val (.int (2 : Int32)), .val (.ref w_ONE_WAY), .val (.ref b28_b6), .val (.int (2 : Int32)), .val (.int ((1 : Int32) + (1 : Int32))), .val (.ref w_ONE_WAY)]) rfl ?_
    exact kt
  rw [show ((1 : Int32) + (1 : Int32)) = (2 : Int32) from by decide] at pre39
  have pre41 : ∀ t, Steps p.tables e below (T37.setTop (mkF m 43 #[.val (.int (2 : Int32)), .val (.ref w_ONE_WAY), .val (.ref b28_b6), .val (.int (2 : Int32)), .val (.int (2 : Int32)), .val (.ref w_ONE_WAY)] [(.ref w_ONE_WAY)])) t → Steps p.tables e below (s₁.setTop (entryFrame m #[(.int (2 : Int32))] 6)) t := by
    intro t kt
    refine pre39 t ?_
    show Steps p.tables e below (T37.setTop (mkF m 39 #[.val (.int (2 : Int32)), .val (.ref w_ONE_WAY), .val (.ref b28_b6), .val (.int (2 : Int32)), .val (.int (2 : Int32)), .val (.ref w_ONE_WAY)] [])) _
    refine XS.goto X37.here hx rfl (pc0 := 39) (pc' := 12) rfl (hb hby d_prog_15_method_4_code_39) (by decide) (by decide) ?_
    show Steps p.tables e below (T37.setTop (mkF m 12 #[.val (.int (2 : Int32)), .val (.ref w_ONE_WAY), .val (.ref b28_b6), .val (.int (2 : Int32)), .val (.int (2 : Int32)), .val (.ref w_ONE_WAY)] [])) _
    refine XS.iload X37.here hx rfl (hb hby d_prog_15_method_4_code_12) rfl ?_
    show Steps p.tables e below (T37.setTop (mkF m 14 #[.val (.int (2 : Int32)), .val (.ref w_ONE_WAY), .val (.ref b28_b6), .val (.int (2 : Int32)), .val (.int (2 : Int32)), .val (.ref w_ONE_WAY)] [(.int (2 : Int32))])) _
    refine XS.iloadN X37.here hx rfl (hb hby d_prog_15_method_4_code_14) rfl ?_
    show Steps p.tables e below (T37.setTop (mkF m 15 #[.val (.int (2 : Int32)), .val (.ref w_ONE_WAY), .val (.ref b28_b6), .val (.int (2 : Int32)), .val (.int (2 : Int32)), .val (.ref w_ONE_WAY)] [(.int (2 : Int32)), (.int (2 : Int32))])) _
    refine XS.icmpYes X37.here hx rfl (pc0 := 15) (pc' := 42) rfl (hb hby d_prog_15_method_4_code_15) rfl (flt (by decide : ¬ ((2 : Int32) < (2 : Int32)))).2.1 (by decide) (by decide) ?_
    show Steps p.tables e below (T37.setTop (mkF m 42 #[.val (.int (2 : Int32)), .val (.ref w_ONE_WAY), .val (.ref b28_b6), .val (.int (2 : Int32)), .val (.int (2 : Int32)), .val (.ref w_ONE_WAY)] [])) _
    refine XS.aloadN X37.here hx rfl (hb hby d_prog_15_method_4_code_42) rfl rfl ?_
    exact kt
  obtain ⟨fs, hr, hrun, hended, hW, hsame⟩ := X37.leave (v := some (.ref w_ONE_WAY)) (fun h => by rw [Bd.returns] at h; cases h)
  refine ⟨_, _, pre41 _ ?_, hrun, hended, _, _, rfl, ?_, ⟨_, rfl⟩, hW, hsame.mono (by decide) (by decide)⟩
  · show Steps p.tables e below (T37.setTop (mkF m 43 #[.val (.int (2 : Int32)), .val (.ref w_ONE_WAY), .val (.ref b28_b6), .val (.int (2 : Int32)), .val (.int (2 : Int32)), .val (.ref w_ONE_WAY)] [(.ref w_ONE_WAY)])) _
    jvm_step X37.here [X37.here.top, hx, (hb hby d_prog_15_method_4_code_43), X37.method', Bd.returns, Value.isRef, FieldType.isReference]
    first | (intro acts; rw [hr _ acts rfl rfl rfl]) | rw [hr _ _ rfl rfl rfl]
    exact Steps.refl _
  · show Q_rm_of_3 Z w__VALUES w_ONE_WAY w_REQUEST k__VALUES h0 n0 _ T37.heap _
    rw [e37]
    exact ⟨rfl, N28, K28⟩
theorem ef_rm_of_4 (m : MethodId) (y0 : Int32) : entryFrame m #[(.int y0)] 6 = mkF m 0 #[.val (.int y0), .unset, .unset, .unset, .unset, .unset] [] := by first | (simp [entryFrame, mkF, argsToLocals, Value.category]; done) | rfl
def Q_rm_of_4 (Z : State) (y0 : Int32) (w__VALUES : Addr) (w_ONE_WAY : Addr) (w_REQUEST : Addr) (k__VALUES : ClassId) (h0 : Heap) (n0 : Nat) (v : Option Value) (h : Heap) (L : List Loc) : Prop := v = some (.ref w_REQUEST) ∧ Fr n0 L ∧ Keep h0 h []
set_option maxRecDepth 65536 in
set_option maxHeartbeats 40000000 in
theorem rm_of_4 (l : Launch) (Z : State) (a0 : Array Value) (hw : ∀ d ∈ tables_1, d.before a0 Z = true) (ws : List Jvm.Cond) (y0 : Int32) (w__VALUES : Addr) (w_ONE_WAY : Addr) (w_REQUEST : Addr) (k__VALUES : ClassId) (h0 : Heap) (n0 : Nat) (O0 : Old Z n0 h0) (hp0 : y0 = (1 : Int32)) (hp1 : (1 : Int32) = y0) (hp2 : ¬ (y0 = (2 : Int32))) (hp3 : ¬ ((2 : Int32) = y0)) (S__VALUES : Sta Z Z.heap "com/example/wend/wend/MessageKind" "$VALUES" "[Lcom/example/wend/wend/MessageKind;" (.ref w__VALUES)) (V__VALUES : Arv Z Z.heap w__VALUES k__VALUES (.object "com/example/wend/wend/MessageKind") (2 : Int32) [(.ref w_REQUEST), (.ref w_ONE_WAY)] .null) (E__VALUES : Exa Z Z.heap w__VALUES "[Lcom/example/wend/wend/MessageKind;") (F_code_REQUEST : Fld Z Z.heap w_REQUEST "com/example/wend/wend/MessageKind" "code" "I" (.int (1 : Int32))) (F_code_ONE_WAY : Fld Z Z.heap w_ONE_WAY "com/example/wend/wend/MessageKind" "code" "I" (.int (2 : Int32))) :
    MetFree l (⟨"com/example/wend/wend/MessageKind", "of", "(I)Lcom/example/wend/wend/MessageKind;"⟩ : MethodName) (head1 (Jvm.Cond.code (⟨"com/example/wend/wend/MessageKind", "of", "(I)Lcom/example/wend/wend/MessageKind;"⟩ : MethodName) prog_15_method_4_code 6 (some (.object "com/example/wend/wend/MessageKind")) :: ws) ({ frames := 2, cells := 1, slots := 2, locals := 25 } : Room)) (fun a U => a = #[(.int y0)] ∧ Z.Warmed39 U.vm ∧ U.heap = h0) (fun _ _ _ _ _ => True) (fun _ U o U' => ∃ v L, o = .returned v ∧ Q_rm_of_4 Z y0 w__VALUES w_ONE_WAY w_REQUEST k__VALUES h0 n0 v U'.heap L ∧ FrameEnd U o U' L ({ frames := 2, cells := 1, slots := 2, locals := 25 } : Room).cells ({ frames := 2, cells := 1, slots := 2, locals := 25 } : Room).slots) := by
  refine MetFree.of_bodySF (plainFor_of_name pn_com_example_wend_wend_MessageKind) hisR ?_
  intro p e s m args below meth c s₁ Bd hml0 hP hK
  obtain ⟨rfl, hZ, hh⟩ := hP
  have hx := Bd.exec
  have hby := Bd.bytes
  have hml : c.maxLocals = 6 := hml0
  have hown : s.vm.findClass "com/example/wend/wend/MessageKind" = some m.cls := findClass_of_methodNamed Bd.named
  have hnm := (name_of_methodNamed Bd.named Bd.method).1
  have X0 : Stand p l e ({ frames := 2, cells := 1, slots := 2, locals := 25 } : Room) s m #[(.int y0)] below meth c s₁ [] 0 0 := Stand.of_body Bd
  have e0 : s₁.heap = h0 := by rw [← hh, Bd.state]; rfl
  have N0 := Fr.nil n0
  have pre0 : ∀ t, Steps p.tables e below (s₁.setTop (mkF m 0 #[.val (.int y0), .unset, .unset, .unset, .unset, .unset] [])) t → Steps p.tables e below (s₁.setTop (entryFrame m #[(.int y0)] 6)) t := fun t k => castTop (ef_rm_of_4 m y0) k
  have K0 := Keep.refl h0 []
  obtain ⟨_, _, ⟨T49, L49, k49, n49⟩, -, X49, ⟨Lc49, hQ49, l49, y49, z49⟩, st49⟩ := Jvm.LawKit.callS X0 hx (y := (⟨"com/example/wend/wend/MessageKind", "values", "()[Lcom/example/wend/wend/MessageKind;"⟩ : MethodName)) hown (mvT hZ (hw _ (List.mem_of_getElem? (i := 4) rfl))) (mvT hZ (hw _ (List.mem_of_getElem? (i := 5) rfl))) (mvT hZ (hw _ (List.mem_of_getElem? (i := 2) rfl))) (mvT hZ (hw _ (List.mem_of_getElem? (i := 6) rfl))) (by decide) (backOf (W := 0) (rm_values_2 l Z a0 hw [] w__VALUES w_ONE_WAY w_REQUEST k__VALUES h0 n0 O0  S__VALUES V__VALUES E__VALUES) hZ (hw _ (List.mem_of_getElem? (i := 6) rfl)) (hw _ (List.mem_of_getElem? (i := 2) rfl)) (by decide) (by decide)) (g := (mkF m 2 #[.val (.int y0), .val .null, .unset, .unset, .unset, .unset] [])) rfl (by rw [hml]; rfl) (argsL := []) (rest := []) (lenOf pd____Lcom_example_wend_wend_MessageKind_ rfl) rfl (by show 2 * 0 + _ ≤ _; exact Nat.le_of_eq rfl) (hb hby d_prog_15_method_4_code_2) (fun _ _ => ⟨rfl, e0, (by decide : 0 + 1 ≤ _), (by decide : 0 + 2 ≤ _)⟩)
  dsimp only [Pt.U, Pt.locs, Pt.cells, Pt.slots] at X49 l49 y49 z49 st49 hQ49
  subst l49 y49 z49
  obtain ⟨b49_b6, rfl, N49q, Kc49, u49_0, u49_1, u49_2, u49_3⟩ := hQ49
  have N49 := Fr.app N0 N49q
  have sz_b49_b6 : h0.size ≤ b49_b6 := Nat.le_trans K0.1 u49_3
  have O49 := O0.keep Kc49 all0
  have K49 := K0.trans Kc49 all0
  have vt50 := u49_0
  obtain ⟨cl50, Ar50, q50, S50, Ng50, Ha50, G50⟩ := vt50
  have vt52 := u49_0
  obtain ⟨cl52, Ar52, q52, S52, Ng52, Ha52, G52⟩ := vt52
  have hin52 : ¬ ((0 : Int32) < 0 ∨ cl52.slots.size ≤ ((0 : Int32)).toNatClampNeg) := inb_of S52 ⟨by decide, by decide⟩
  have hat52 : cl52.slots[((0 : Int32)).toNatClampNeg]? = some (.ref w_REQUEST) := Ha52.at hin52 rfl
  obtain ⟨T53, X53, e53, st53⟩ := getF X49 hx hZ hown (host := "") (Or.inl (hw _ (List.mem_of_getElem? (i := 21) rfl))) Via.refl rfl (F_code_REQUEST.ext O49.2) (g := (mkF m 26 #[.val (.int y0), .val .null, .val (.ref b49_b6), .val (.int (2 : Int32)), .val (.int (0 : Int32)), .val (.ref w_REQUEST)] [(.ref w_REQUEST)])) rfl rfl (hb hby d_prog_15_method_4_code_26)
  have pre54 : ∀ t, Steps p.tables e below (T53.setTop (mkF m 39 #[.val (.int y0), .val (.ref w_REQUEST), .val (.ref b49_b6), .val (.int (2 : Int32)), .val (.int ((0 : Int32) + (1 : Int32))), .val (.ref w_REQUEST)] [])) t → Steps p.tables e below (s₁.setTop (entryFrame m #[(.int y0)] 6)) t := by
    intro t kt
    refine pre0 t ?_
    show Steps p.tables e below (s₁.setTop (mkF m 0 #[.val (.int y0), .unset, .unset, .unset, .unset, .unset] [])) _
    refine XS.aconstNull X0.here hx rfl (hb hby d_prog_15_method_4_code_0) ?_
    show Steps p.tables e below (s₁.setTop (mkF m 1 #[.val (.int y0), .unset, .unset, .unset, .unset, .unset] [.null])) _
    refine XS.astoreN X0.here hx rfl (hb hby d_prog_15_method_4_code_1) rfl rfl (l' := #[.val (.int y0), .val .null, .unset, .unset, .unset, .unset]) rfl ?_
    show Steps p.tables e below (s₁.setTop (mkF m 2 #[.val (.int y0), .val .null, .unset, .unset, .unset, .unset] [])) _
    refine st49 _ ?_
    show Steps p.tables e below (T49.setTop (mkF m 5 #[.val (.int y0), .val .null, .unset, .unset, .unset, .unset] [(.ref b49_b6)])) _
    refine XS.astoreN X49.here hx rfl (hb hby d_prog_15_method_4_code_5) rfl rfl (l' := #[.val (.int y0), .val .null, .val (.ref b49_b6), .unset, .unset, .unset]) rfl ?_
    show Steps p.tables e below (T49.setTop (mkF m 6 #[.val (.int y0), .val .null, .val (.ref b49_b6), .unset, .unset, .unset] [])) _
    refine XS.aloadN X49.here hx rfl (hb hby d_prog_15_method_4_code_6) rfl rfl ?_
    show Steps p.tables e below (T49.setTop (mkF m 7 #[.val (.int y0), .val .null, .val (.ref b49_b6), .unset, .unset, .unset] [(.ref b49_b6)])) _
    refine X49.arraylength hx Ar50.1 (State.isArrayOf_alike hZ.alike Ar50.2.1) (g := (mkF m 7 #[.val (.int y0), .val .null, .val (.ref b49_b6), .unset, .unset, .unset] [(.ref b49_b6)])) rfl rfl (hb hby d_prog_15_method_4_code_7) _ ?_
    rw [len_of S50 Ng50]
    show Steps p.tables e below (T49.setTop (mkF m 8 #[.val (.int y0), .val .null, .val (.ref b49_b6), .unset, .unset, .unset] [(.int (2 : Int32))])) _
    refine XS.istoreN X49.here hx rfl (hb hby d_prog_15_method_4_code_8) rfl (l' := #[.val (.int y0), .val .null, .val (.ref b49_b6), .val (.int (2 : Int32)), .unset, .unset]) rfl ?_
    show Steps p.tables e below (T49.setTop (mkF m 9 #[.val (.int y0), .val .null, .val (.ref b49_b6), .val (.int (2 : Int32)), .unset, .unset] [])) _
    refine XS.iconst X49.here hx rfl (hb hby d_prog_15_method_4_code_9) ?_
    show Steps p.tables e below (T49.setTop (mkF m 10 #[.val (.int y0), .val .null, .val (.ref b49_b6), .val (.int (2 : Int32)), .unset, .unset] [(.int (0 : Int32))])) _
    refine XS.istore X49.here hx rfl (hb hby d_prog_15_method_4_code_10) rfl (l' := #[.val (.int y0), .val .null, .val (.ref b49_b6), .val (.int (2 : Int32)), .val (.int (0 : Int32)), .unset]) rfl ?_
    show Steps p.tables e below (T49.setTop (mkF m 12 #[.val (.int y0), .val .null, .val (.ref b49_b6), .val (.int (2 : Int32)), .val (.int (0 : Int32)), .unset] [])) _
    refine XS.iload X49.here hx rfl (hb hby d_prog_15_method_4_code_12) rfl ?_
    show Steps p.tables e below (T49.setTop (mkF m 14 #[.val (.int y0), .val .null, .val (.ref b49_b6), .val (.int (2 : Int32)), .val (.int (0 : Int32)), .unset] [(.int (0 : Int32))])) _
    refine XS.iloadN X49.here hx rfl (hb hby d_prog_15_method_4_code_14) rfl ?_
    show Steps p.tables e below (T49.setTop (mkF m 15 #[.val (.int y0), .val .null, .val (.ref b49_b6), .val (.int (2 : Int32)), .val (.int (0 : Int32)), .unset] [(.int (2 : Int32)), (.int (0 : Int32))])) _
    refine XS.icmpNo X49.here hx rfl (hb hby d_prog_15_method_4_code_15) rfl (tlt (by decide : (0 : Int32) < (2 : Int32))).2.1 ?_
    show Steps p.tables e below (T49.setTop (mkF m 18 #[.val (.int y0), .val .null, .val (.ref b49_b6), .val (.int (2 : Int32)), .val (.int (0 : Int32)), .unset] [])) _
    refine XS.aloadN X49.here hx rfl (hb hby d_prog_15_method_4_code_18) rfl rfl ?_
    show Steps p.tables e below (T49.setTop (mkF m 19 #[.val (.int y0), .val .null, .val (.ref b49_b6), .val (.int (2 : Int32)), .val (.int (0 : Int32)), .unset] [(.ref b49_b6)])) _
    refine XS.iload X49.here hx rfl (hb hby d_prog_15_method_4_code_19) rfl ?_
    show Steps p.tables e below (T49.setTop (mkF m 21 #[.val (.int y0), .val .null, .val (.ref b49_b6), .val (.int (2 : Int32)), .val (.int (0 : Int32)), .unset] [(.int (0 : Int32)), (.ref b49_b6)])) _
    refine X49.aaload hx (j := (0 : Int32)) (v := (.ref w_REQUEST)) Ar52.1 (State.isArrayOf_alike hZ.alike Ar52.2.1) rfl Ar52.2.2 hin52 hat52 (g := (mkF m 21 #[.val (.int y0), .val .null, .val (.ref b49_b6), .val (.int (2 : Int32)), .val (.int (0 : Int32)), .unset] [(.int (0 : Int32)), (.ref b49_b6)])) rfl rfl (hb hby d_prog_15_method_4_code_21) _ ?_
    show Steps p.tables e below (T49.setTop (mkF m 22 #[.val (.int y0), .val .null, .val (.ref b49_b6), .val (.int (2 : Int32)), .val (.int (0 : Int32)), .unset] [(.ref w_REQUEST)])) _
    refine XS.astore X49.here hx rfl (hb hby d_prog_15_method_4_code_22) rfl rfl (l' := #[.val (.int y0), .val .null, .val (.ref b49_b6), .val (.int (2 : Int32)), .val (.int (0 : Int32)), .val (.ref w_REQUEST)]) rfl ?_
    show Steps p.tables e below (T49.setTop (mkF m 24 #[.val (.int y0), .val .null, .val (.ref b49_b6), .val (.int (2 : Int32)), .val (.int (0 : Int32)), .val (.ref w_REQUEST)] [])) _
    refine XS.aload X49.here hx rfl (hb hby d_prog_15_method_4_code_24) rfl rfl ?_
    show Steps p.tables e below (T49.setTop (mkF m 26 #[.val (.int y0), .val .null, .val (.ref b49_b6), .val (.int (2 : Int32)), .val (.int (0 : Int32)), .val (.ref w_REQUEST)] [(.ref w_REQUEST)])) _
    refine st53 _ ?_
    show Steps p.tables e below (T53.setTop (mkF m 29 #[.val (.int y0), .val .null, .val (.ref b49_b6), .val (.int (2 : Int32)), .val (.int (0 : Int32)), .val (.ref w_REQUEST)] [(.int (1 : Int32))])) _
    refine XS.iloadN X53.here hx rfl (hb hby d_prog_15_method_4_code_29) rfl ?_
    show Steps p.tables e below (T53.setTop (mkF m 30 #[.val (.int y0), .val .null, .val (.ref b49_b6), .val (.int (2 : Int32)), .val (.int (0 : Int32)), .val (.ref w_REQUEST)] [(.int y0), (.int (1 : Int32))])) _
    refine XS.icmpNo X53.here hx rfl (hb hby d_prog_15_method_4_code_30) rfl (teq hp1).2 ?_
    show Steps p.tables e below (T53.setTop (mkF m 33 #[.val (.int y0), .val .null, .val (.ref b49_b6), .val (.int (2 : Int32)), .val (.int (0 : Int32)), .val (.ref w_REQUEST)] [])) _
    refine XS.aload X53.here hx rfl (hb hby d_prog_15_method_4_code_33) rfl rfl ?_
    show Steps p.tables e below (T53.setTop (mkF m 35 #[.val (.int y0), .val .null, .val (.ref b49_b6), .val (.int (2 : Int32)), .val (.int (0 : Int32)), .val (.ref w_REQUEST)] [(.ref w_REQUEST)])) _
    refine XS.astoreN X53.here hx rfl (hb hby d_prog_15_method_4_code_35) rfl rfl (l' := #[.val (.int y0), .val (.ref w_REQUEST), .val (.ref b49_b6), .val (.int (2 : Int32)), .val (.int (0 : Int32)), .val (.ref w_REQUEST)]) rfl ?_
    show Steps p.tables e below (T53.setTop (mkF m 36 #[.val (.int y0), .val (.ref w_REQUEST), .val (.ref b49_b6), .val (.int (2 : Int32)), .val (.int (0 : Int32)), .val (.ref w_REQUEST)] [])) _
    refine XS.iinc X53.here hx rfl (hb hby d_prog_15_method_4_code_36) rfl (l' := #[.val (.int y0), .val (.ref w_REQUEST), .val (.ref b49_b6), .val (.int (2 : Int32)), .val (.int ((0 : Int32) + (1 : Int32))), .val (.ref w_REQUEST)]) rfl ?_
    exact kt
  rw [show ((0 : Int32) + (1 : Int32)) = (1 : Int32) from by decide] at pre54
  have vt56 := u49_0
  obtain ⟨cl56, Ar56, q56, S56, Ng56, Ha56, G56⟩ := vt56
  have hin56 : ¬ ((1 : Int32) < 0 ∨ cl56.slots.size ≤ ((1 : Int32)).toNatClampNeg) := inb_of S56 ⟨by decide, by decide⟩
  have hat56 : cl56.slots[((1 : Int32)).toNatClampNeg]? = some (.ref w_ONE_WAY) := Ha56.at hin56 rfl
  obtain ⟨T57, X57, e57, st57⟩ := getF X53 hx hZ hown (host := "") (Or.inl (hw _ (List.mem_of_getElem? (i := 21) rfl))) Via.refl e53 (F_code_ONE_WAY.ext O49.2) (g := (mkF m 26 #[.val (.int y0), .val (.ref w_REQUEST), .val (.ref b49_b6), .val (.int (2 : Int32)), .val (.int (1 : Int32)), .val (.ref w_ONE_WAY)] [(.ref w_ONE_WAY)])) rfl rfl (hb hby d_prog_15_method_4_code_26)
  have pre58 : ∀ t, Steps p.tables e below (T57.setTop (mkF m 39 #[.val (.int y0), .val (.ref w_REQUEST), .val (.ref b49_b6), .val (.int (2 : Int32)), .val (.int ((1 : Int32) + (1 : Int32))), .val (.ref w_ONE_WAY)] [])) t → Steps p.tables e below (s₁.setTop (entryFrame m #[(.int y0)] 6)) t := by
    intro t kt
    refine pre54 t ?_
    show Steps p.tables e below (T53.setTop (mkF m 39 #[.val (.int y0), .val (.ref w_REQUEST), .val (.ref b49_b6), .val (.int (2 : Int32)), .val (.int (1 : Int32)), .val (.ref w_REQUEST)] [])) _
    refine XS.goto X53.here hx rfl (pc0 := 39) (pc' := 12) rfl (hb hby d_prog_15_method_4_code_39) (by decide) (by decide) ?_
    show Steps p.tables e below (T53.setTop (mkF m 12 #[.val (.int y0), .val (.ref w_REQUEST), .val (.ref b49_b6), .val (.int (2 : Int32)), .val (.int (1 : Int32)), .val (.ref w_REQUEST)] [])) _
    refine XS.iload X53.here hx rfl (hb hby d_prog_15_method_4_code_12) rfl ?_
    show Steps p.tables e below (T53.setTop (mkF m 14 #[.val (.int y0), .val (.ref w_REQUEST), .val (.ref b49_b6), .val (.int (2 : Int32)), .val (.int (1 : Int32)), .val (.ref w_REQUEST)] [(.int (1 : Int32))])) _
    refine XS.iloadN X53.here hx rfl (hb hby d_prog_15_method_4_code_14) rfl ?_
    show Steps p.tables e below (T53.setTop (mkF m 15 #[.val (.int y0), .val (.ref w_REQUEST), .val (.ref b49_b6), .val (.int (2 : Int32)), .val (.int (1 : Int32)), .val (.ref w_REQUEST)] [(.int (2 : Int32)), (.int (1 : Int32))])) _
    refine XS.icmpNo X53.here hx rfl (hb hby d_prog_15_method_4_code_15) rfl (tlt (by decide : (1 : Int32) < (2 : Int32))).2.1 ?_
    show Steps p.tables e below (T53.setTop (mkF m 18 #[.val (.int y0), .val (.ref w_REQUEST), .val (.ref b49_b6), .val (.int (2 : Int32)), .val (.int (1 : Int32)), .val (.ref w_REQUEST)] [])) _
    refine XS.aloadN X53.here hx rfl (hb hby d_prog_15_method_4_code_18) rfl rfl ?_
    show Steps p.tables e below (T53.setTop (mkF m 19 #[.val (.int y0), .val (.ref w_REQUEST), .val (.ref b49_b6), .val (.int (2 : Int32)), .val (.int (1 : Int32)), .val (.ref w_REQUEST)] [(.ref b49_b6)])) _
    refine XS.iload X53.here hx rfl (hb hby d_prog_15_method_4_code_19) rfl ?_
    show Steps p.tables e below (T53.setTop (mkF m 21 #[.val (.int y0), .val (.ref w_REQUEST), .val (.ref b49_b6), .val (.int (2 : Int32)), .val (.int (1 : Int32)), .val (.ref w_REQUEST)] [(.int (1 : Int32)), (.ref b49_b6)])) _
    refine X53.aaload hx (j := (1 : Int32)) (v := (.ref w_ONE_WAY)) (by rw [e53]; exact Ar56.1) (State.isArrayOf_alike hZ.alike Ar56.2.1) rfl Ar56.2.2 hin56 hat56 (g := (mkF m 21 #[.val (.int y0), .val (.ref w_REQUEST), .val (.ref b49_b6), .val (.int (2 : Int32)), .val (.int (1 : Int32)), .val (.ref w_REQUEST)] [(.int (1 : Int32)), (.ref b49_b6)])) rfl rfl (hb hby d_prog_15_method_4_code_21) _ ?_
    show Steps p.tables e below (T53.setTop (mkF m 22 #[.val (.int y0), .val (.ref w_REQUEST), .val (.ref b49_b6), .val (.int (2 : Int32)), .val (.int (1 : Int32)), .val (.ref w_REQUEST)] [(.ref w_ONE_WAY)])) _
    refine XS.astore X53.here hx rfl (hb hby d_prog_15_method_4_code_22) rfl rfl (l' := #[.val (.int y0), .val (.ref w_REQUEST), .val (.ref b49_b6), .val (.int (2 : Int32)), .val (.int (1 : Int32)), .val (.ref w_ONE_WAY)]) rfl ?_
    show Steps p.tables e below (T53.setTop (mkF m 24 #[.val (.int y0), .val (.ref w_REQUEST), .val (.ref b49_b6), .val (.int (2 : Int32)), .val (.int (1 : Int32)), .val (.ref w_ONE_WAY)] [])) _
    refine XS.aload X53.here hx rfl (hb hby d_prog_15_method_4_code_24) rfl rfl ?_
    show Steps p.tables e below (T53.setTop (mkF m 26 #[.val (.int y0), .val (.ref w_REQUEST), .val (.ref b49_b6), .val (.int (2 : Int32)), .val (.int (1 : Int32)), .val (.ref w_ONE_WAY)] [(.ref w_ONE_WAY)])) _
    refine st57 _ ?_
    show Steps p.tables e below (T57.setTop (mkF m 29 #[.val (.int y0), .val (.ref w_REQUEST), .val (.ref b49_b6), .val (.int (2 : Int32)), .val (.int (1 : Int32)), .val (.ref w_ONE_WAY)] [(.int (2 : Int32))])) _
    refine XS.iloadN X57.here hx rfl (hb hby d_prog_15_method_4_code_29) rfl ?_
    show Steps p.tables e below (T57.setTop (mkF m 30 #[.val (.int y0), .val (.ref w_REQUEST), .val (.ref b49_b6), .val (.int (2 : Int32)), .val (.int (1 : Int32)), .val (.ref w_ONE_WAY)] [(.int y0), (.int (2 : Int32))])) _
    refine XS.icmpYes X57.here hx rfl (pc0 := 30) (pc' := 36) rfl (hb hby d_prog_15_method_4_code_30) rfl (feq hp3).2 (by decide) (by decide) ?_
    show Steps p.tables e below (T57.setTop (mkF m 36 #[.val (.int y0), .val (.ref w_REQUEST), .val (.ref b49_b6), .val (.int (2 : Int32)), .val (.int (1 : Int32)), .val (.ref w_ONE_WAY)] [])) _
    refine XS.iinc X57.here hx rfl (hb hby d_prog_15_method_4_code_36) rfl (l' := #[.val (.int y0), .val (.ref w_REQUEST), .val (.ref b49_b6), .val (.int (2 : Int32)), .val (.int ((1 : Int32) + (1 : Int32))), .val (.ref w_ONE_WAY)]) rfl ?_
    exact kt
  rw [show ((1 : Int32) + (1 : Int32)) = (2 : Int32) from by decide] at pre58
  have pre60 : ∀ t, Steps p.tables e below (T57.setTop (mkF m 43 #[.val (.int y0), .val (.ref w_REQUEST), .val (.ref b49_b6), .val (.int (2 : Int32)), .val (.int (2 : Int32)), .val (.ref w_ONE_WAY)] [(.ref w_REQUEST)])) t → Steps p.tables e below (s₁.setTop (entryFrame m #[(.int y0)] 6)) t := by
    intro t kt
    refine pre58 t ?_
    show Steps p.tables e below (T57.setTop (mkF m 39 #[.val (.int y0), .val (.ref w_REQUEST), .val (.ref b49_b6), .val (.int (2 : Int32)), .val (.int (2 : Int32)), .val (.ref w_ONE_WAY)] [])) _
    refine XS.goto X57.here hx rfl (pc0 := 39) (pc' := 12) rfl (hb hby d_prog_15_method_4_code_39) (by decide) (by decide) ?_
    show Steps p.tables e below (T57.setTop (mkF m 12 #[.val (.int y0), .val (.ref w_REQUEST), .val (.ref b49_b6), .val (.int (2 : Int32)), .val (.int (2 : Int32)), .val (.ref w_ONE_WAY)] [])) _
    refine XS.iload X57.here hx rfl (hb hby d_prog_15_method_4_code_12) rfl ?_
    show Steps p.tables e below (T57.setTop (mkF m 14 #[.val (.int y0), .val (.ref w_REQUEST), .val (.ref b49_b6), .val (.int (2 : Int32)), .val (.int (2 : Int32)), .val (.ref w_ONE_WAY)] [(.int (2 : Int32))])) _
    refine XS.iloadN X57.here hx rfl (hb hby d_prog_15_method_4_code_14) rfl ?_
    show Steps p.tables e below (T57.setTop (mkF m 15 #[.val (.int y0), .val (.ref w_REQUEST), .val (.ref b49_b6), .val (.int (2 : Int32)), .val (.int (2 : Int32)), .val (.ref w_ONE_WAY)] [(.int (2 : Int32)), (.int (2 : Int32))])) _
    refine XS.icmpYes X57.here hx rfl (pc0 := 15) (pc' := 42) rfl (hb hby d_prog_15_method_4_code_15) rfl (flt (by decide : ¬ ((2 : Int32) < (2 : Int32)))).2.1 (by decide) (by decide) ?_
    show Steps p.tables e below (T57.setTop (mkF m 42 #[.val (.int y0), .val (.ref w_REQUEST), .val (.ref b49_b6), .val (.int (2 : Int32)), .val (.int (2 : Int32)), .val (.ref w_ONE_WAY)] [])) _
    refine XS.aloadN X57.here hx rfl (hb hby d_prog_15_method_4_code_42) rfl rfl ?_
    exact kt
  obtain ⟨fs, hr, hrun, hended, hW, hsame⟩ := X57.leave (v := some (.ref w_REQUEST)) (fun h => by rw [Bd.returns] at h; cases h)
  refine ⟨_, _, pre60 _ ?_, hrun, hended, _, _, rfl, ?_, ⟨_, rfl⟩, hW, hsame.mono (by decide) (by decide)⟩
  · show Steps p.tables e below (T57.setTop (mkF m 43 #[.val (.int y0), .val (.ref w_REQUEST), .val (.ref b49_b6), .val (.int (2 : Int32)), .val (.int (2 : Int32)), .val (.ref w_ONE_WAY)] [(.ref w_REQUEST)])) _
    jvm_step X57.here [X57.here.top, hx, (hb hby d_prog_15_method_4_code_43), X57.method', Bd.returns, Value.isRef, FieldType.isReference]
    first | (intro acts; rw [hr _ acts rfl rfl rfl]) | rw [hr _ _ rfl rfl rfl]
    exact Steps.refl _
  · show Q_rm_of_4 Z y0 w__VALUES w_ONE_WAY w_REQUEST k__VALUES h0 n0 _ T57.heap _
    rw [e57]
    exact ⟨rfl, N49, K49⟩
theorem ef_rm_of_5 (m : MethodId) (y0 : Int32) : entryFrame m #[(.int y0)] 6 = mkF m 0 #[.val (.int y0), .unset, .unset, .unset, .unset, .unset] [] := by first | (simp [entryFrame, mkF, argsToLocals, Value.category]; done) | rfl
def Q_rm_of_5 (Z : State) (y0 : Int32) (w__VALUES : Addr) (w_ONE_WAY : Addr) (w_REQUEST : Addr) (k__VALUES : ClassId) (h0 : Heap) (n0 : Nat) (v : Option Value) (h : Heap) (L : List Loc) : Prop := v = some (.ref w_ONE_WAY) ∧ Fr n0 L ∧ Keep h0 h []
set_option maxRecDepth 65536 in
set_option maxHeartbeats 40000000 in
theorem rm_of_5 (l : Launch) (Z : State) (a0 : Array Value) (hw : ∀ d ∈ tables_1, d.before a0 Z = true) (ws : List Jvm.Cond) (y0 : Int32) (w__VALUES : Addr) (w_ONE_WAY : Addr) (w_REQUEST : Addr) (k__VALUES : ClassId) (h0 : Heap) (n0 : Nat) (O0 : Old Z n0 h0) (hp0 : ¬ (y0 = (1 : Int32))) (hp1 : ¬ ((1 : Int32) = y0)) (hp2 : y0 = (2 : Int32)) (hp3 : (2 : Int32) = y0) (S__VALUES : Sta Z Z.heap "com/example/wend/wend/MessageKind" "$VALUES" "[Lcom/example/wend/wend/MessageKind;" (.ref w__VALUES)) (V__VALUES : Arv Z Z.heap w__VALUES k__VALUES (.object "com/example/wend/wend/MessageKind") (2 : Int32) [(.ref w_REQUEST), (.ref w_ONE_WAY)] .null) (E__VALUES : Exa Z Z.heap w__VALUES "[Lcom/example/wend/wend/MessageKind;") (F_code_REQUEST : Fld Z Z.heap w_REQUEST "com/example/wend/wend/MessageKind" "code" "I" (.int (1 : Int32))) (F_code_ONE_WAY : Fld Z Z.heap w_ONE_WAY "com/example/wend/wend/MessageKind" "code" "I" (.int (2 : Int32))) :
    MetFree l (⟨"com/example/wend/wend/MessageKind", "of", "(I)Lcom/example/wend/wend/MessageKind;"⟩ : MethodName) (head1 (Jvm.Cond.code (⟨"com/example/wend/wend/MessageKind", "of", "(I)Lcom/example/wend/wend/MessageKind;"⟩ : MethodName) prog_15_method_4_code 6 (some (.object "com/example/wend/wend/MessageKind")) :: ws) ({ frames := 2, cells := 1, slots := 2, locals := 25 } : Room)) (fun a U => a = #[(.int y0)] ∧ Z.Warmed39 U.vm ∧ U.heap = h0) (fun _ _ _ _ _ => True) (fun _ U o U' => ∃ v L, o = .returned v ∧ Q_rm_of_5 Z y0 w__VALUES w_ONE_WAY w_REQUEST k__VALUES h0 n0 v U'.heap L ∧ FrameEnd U o U' L ({ frames := 2, cells := 1, slots := 2, locals := 25 } : Room).cells ({ frames := 2, cells := 1, slots := 2, locals := 25 } : Room).slots) := by
  refine MetFree.of_bodySF (plainFor_of_name pn_com_example_wend_wend_MessageKind) hisR ?_
  intro p e s m args below meth c s₁ Bd hml0 hP hK
  obtain ⟨rfl, hZ, hh⟩ := hP
  have hx := Bd.exec
  have hby := Bd.bytes
  have hml : c.maxLocals = 6 := hml0
  have hown : s.vm.findClass "com/example/wend/wend/MessageKind" = some m.cls := findClass_of_methodNamed Bd.named
  have hnm := (name_of_methodNamed Bd.named Bd.method).1
  have X0 : Stand p l e ({ frames := 2, cells := 1, slots := 2, locals := 25 } : Room) s m #[(.int y0)] below meth c s₁ [] 0 0 := Stand.of_body Bd
  have e0 : s₁.heap = h0 := by rw [← hh, Bd.state]; rfl
  have N0 := Fr.nil n0
  have pre0 : ∀ t, Steps p.tables e below (s₁.setTop (mkF m 0 #[.val (.int y0), .unset, .unset, .unset, .unset, .unset] [])) t → Steps p.tables e below (s₁.setTop (entryFrame m #[(.int y0)] 6)) t := fun t k => castTop (ef_rm_of_5 m y0) k
  have K0 := Keep.refl h0 []
  obtain ⟨_, _, ⟨T65, L65, k65, n65⟩, -, X65, ⟨Lc65, hQ65, l65, y65, z65⟩, st65⟩ := Jvm.LawKit.callS X0 hx (y := (⟨"com/example/wend/wend/MessageKind", "values", "()[Lcom/example/wend/wend/MessageKind;"⟩ : MethodName)) hown (mvT hZ (hw _ (List.mem_of_getElem? (i := 4) rfl))) (mvT hZ (hw _ (List.mem_of_getElem? (i := 5) rfl))) (mvT hZ (hw _ (List.mem_of_getElem? (i := 2) rfl))) (mvT hZ (hw _ (List.mem_of_getElem? (i := 6) rfl))) (by decide) (backOf (W := 0) (rm_values_2 l Z a0 hw [] w__VALUES w_ONE_WAY w_REQUEST k__VALUES h0 n0 O0  S__VALUES V__VALUES E__VALUES) hZ (hw _ (List.mem_of_getElem? (i := 6) rfl)) (hw _ (List.mem_of_getElem? (i := 2) rfl)) (by decide) (by decide)) (g := (mkF m 2 #[.val (.int y0), .val .null, .unset, .unset, .unset, .unset] [])) rfl (by rw [hml]; rfl) (argsL := []) (rest := []) (lenOf pd____Lcom_example_wend_wend_MessageKind_ rfl) rfl (by show 2 * 0 + _ ≤ _; exact Nat.le_of_eq rfl) (hb hby d_prog_15_method_4_code_2) (fun _ _ => ⟨rfl, e0, (by decide : 0 + 1 ≤ _), (by decide : 0 + 2 ≤ _)⟩)
  dsimp only [Pt.U, Pt.locs, Pt.cells, Pt.slots] at X65 l65 y65 z65 st65 hQ65
  subst l65 y65 z65
  obtain ⟨b65_b6, rfl, N65q, Kc65, u65_0, u65_1, u65_2, u65_3⟩ := hQ65
  have N65 := Fr.app N0 N65q
  have sz_b65_b6 : h0.size ≤ b65_b6 := Nat.le_trans K0.1 u65_3
  have O65 := O0.keep Kc65 all0
  have K65 := K0.trans Kc65 all0
  have vt66 := u65_0
  obtain ⟨cl66, Ar66, q66, S66, Ng66, Ha66, G66⟩ := vt66
  have vt68 := u65_0
  obtain ⟨cl68, Ar68, q68, S68, Ng68, Ha68, G68⟩ := vt68
  have hin68 : ¬ ((0 : Int32) < 0 ∨ cl68.slots.size ≤ ((0 : Int32)).toNatClampNeg) := inb_of S68 ⟨by decide, by decide⟩
  have hat68 : cl68.slots[((0 : Int32)).toNatClampNeg]? = some (.ref w_REQUEST) := Ha68.at hin68 rfl
  obtain ⟨T69, X69, e69, st69⟩ := getF X65 hx hZ hown (host := "") (Or.inl (hw _ (List.mem_of_getElem? (i := 21) rfl))) Via.refl rfl (F_code_REQUEST.ext O65.2) (g := (mkF m 26 #[.val (.int y0), .val .null, .val (.ref b65_b6), .val (.int (2 : Int32)), .val (.int (0 : Int32)), .val (.ref w_REQUEST)] [(.ref w_REQUEST)])) rfl rfl (hb hby d_prog_15_method_4_code_26)
  have pre70 : ∀ t, Steps p.tables e below (T69.setTop (mkF m 39 #[.val (.int y0), .val .null, .val (.ref b65_b6), .val (.int (2 : Int32)), .val (.int ((0 : Int32) + (1 : Int32))), .val (.ref w_REQUEST)] [])) t → Steps p.tables e below (s₁.setTop (entryFrame m #[(.int y0)] 6)) t := by
    intro t kt
    refine pre0 t ?_
    show Steps p.tables e below (s₁.setTop (mkF m 0 #[.val (.int y0), .unset, .unset, .unset, .unset, .unset] [])) _
    refine XS.aconstNull X0.here hx rfl (hb hby d_prog_15_method_4_code_0) ?_
    show Steps p.tables e below (s₁.setTop (mkF m 1 #[.val (.int y0), .unset, .unset, .unset, .unset, .unset] [.null])) _
    refine XS.astoreN X0.here hx rfl (hb hby d_prog_15_method_4_code_1) rfl rfl (l' := #[.val (.int y0), .val .null, .unset, .unset, .unset, .unset]) rfl ?_
    show Steps p.tables e below (s₁.setTop (mkF m 2 #[.val (.int y0), .val .null, .unset, .unset, .unset, .unset] [])) _
    refine st65 _ ?_
    show Steps p.tables e below (T65.setTop (mkF m 5 #[.val (.int y0), .val .null, .unset, .unset, .unset, .unset] [(.ref b65_b6)])) _
    refine XS.astoreN X65.here hx rfl (hb hby d_prog_15_method_4_code_5) rfl rfl (l' := #[.val (.int y0), .val .null, .val (.ref b65_b6), .unset, .unset, .unset]) rfl ?_
    show Steps p.tables e below (T65.setTop (mkF m 6 #[.val (.int y0), .val .null, .val (.ref b65_b6), .unset, .unset, .unset] [])) _
    refine XS.aloadN X65.here hx rfl (hb hby d_prog_15_method_4_code_6) rfl rfl ?_
    show Steps p.tables e below (T65.setTop (mkF m 7 #[.val (.int y0), .val .null, .val (.ref b65_b6), .unset, .unset, .unset] [(.ref b65_b6)])) _
    refine X65.arraylength hx Ar66.1 (State.isArrayOf_alike hZ.alike Ar66.2.1) (g := (mkF m 7 #[.val (.int y0), .val .null, .val (.ref b65_b6), .unset, .unset, .unset] [(.ref b65_b6)])) rfl rfl (hb hby d_prog_15_method_4_code_7) _ ?_
    rw [len_of S66 Ng66]
    show Steps p.tables e below (T65.setTop (mkF m 8 #[.val (.int y0), .val .null, .val (.ref b65_b6), .unset, .unset, .unset] [(.int (2 : Int32))])) _
    refine XS.istoreN X65.here hx rfl (hb hby d_prog_15_method_4_code_8) rfl (l' := #[.val (.int y0), .val .null, .val (.ref b65_b6), .val (.int (2 : Int32)), .unset, .unset]) rfl ?_
    show Steps p.tables e below (T65.setTop (mkF m 9 #[.val (.int y0), .val .null, .val (.ref b65_b6), .val (.int (2 : Int32)), .unset, .unset] [])) _
    refine XS.iconst X65.here hx rfl (hb hby d_prog_15_method_4_code_9) ?_
    show Steps p.tables e below (T65.setTop (mkF m 10 #[.val (.int y0), .val .null, .val (.ref b65_b6), .val (.int (2 : Int32)), .unset, .unset] [(.int (0 : Int32))])) _
    refine XS.istore X65.here hx rfl (hb hby d_prog_15_method_4_code_10) rfl (l' := #[.val (.int y0), .val .null, .val (.ref b65_b6), .val (.int (2 : Int32)), .val (.int (0 : Int32)), .unset]) rfl ?_
    show Steps p.tables e below (T65.setTop (mkF m 12 #[.val (.int y0), .val .null, .val (.ref b65_b6), .val (.int (2 : Int32)), .val (.int (0 : Int32)), .unset] [])) _
    refine XS.iload X65.here hx rfl (hb hby d_prog_15_method_4_code_12) rfl ?_
    show Steps p.tables e below (T65.setTop (mkF m 14 #[.val (.int y0), .val .null, .val (.ref b65_b6), .val (.int (2 : Int32)), .val (.int (0 : Int32)), .unset] [(.int (0 : Int32))])) _
    refine XS.iloadN X65.here hx rfl (hb hby d_prog_15_method_4_code_14) rfl ?_
    show Steps p.tables e below (T65.setTop (mkF m 15 #[.val (.int y0), .val .null, .val (.ref b65_b6), .val (.int (2 : Int32)), .val (.int (0 : Int32)), .unset] [(.int (2 : Int32)), (.int (0 : Int32))])) _
    refine XS.icmpNo X65.here hx rfl (hb hby d_prog_15_method_4_code_15) rfl (tlt (by decide : (0 : Int32) < (2 : Int32))).2.1 ?_
    show Steps p.tables e below (T65.setTop (mkF m 18 #[.val (.int y0), .val .null, .val (.ref b65_b6), .val (.int (2 : Int32)), .val (.int (0 : Int32)), .unset] [])) _
    refine XS.aloadN X65.here hx rfl (hb hby d_prog_15_method_4_code_18) rfl rfl ?_
    show Steps p.tables e below (T65.setTop (mkF m 19 #[.val (.int y0), .val .null, .val (.ref b65_b6), .val (.int (2 : Int32)), .val (.int (0 : Int32)), .unset] [(.ref b65_b6)])) _
    refine XS.iload X65.here hx rfl (hb hby d_prog_15_method_4_code_19) rfl ?_
    show Steps p.tables e below (T65.setTop (mkF m 21 #[.val (.int y0), .val .null, .val (.ref b65_b6), .val (.int (2 : Int32)), .val (.int (0 : Int32)), .unset] [(.int (0 : Int32)), (.ref b65_b6)])) _
    refine X65.aaload hx (j := (0 : Int32)) (v := (.ref w_REQUEST)) Ar68.1 (State.isArrayOf_alike hZ.alike Ar68.2.1) rfl Ar68.2.2 hin68 hat68 (g := (mkF m 21 #[.val (.int y0), .val .null, .val (.ref b65_b6), .val (.int (2 : Int32)), .val (.int (0 : Int32)), .unset] [(.int (0 : Int32)), (.ref b65_b6)])) rfl rfl (hb hby d_prog_15_method_4_code_21) _ ?_
    show Steps p.tables e below (T65.setTop (mkF m 22 #[.val (.int y0), .val .null, .val (.ref b65_b6), .val (.int (2 : Int32)), .val (.int (0 : Int32)), .unset] [(.ref w_REQUEST)])) _
    refine XS.astore X65.here hx rfl (hb hby d_prog_15_method_4_code_22) rfl rfl (l' := #[.val (.int y0), .val .null, .val (.ref b65_b6), .val (.int (2 : Int32)), .val (.int (0 : Int32)), .val (.ref w_REQUEST)]) rfl ?_
    show Steps p.tables e below (T65.setTop (mkF m 24 #[.val (.int y0), .val .null, .val (.ref b65_b6), .val (.int (2 : Int32)), .val (.int (0 : Int32)), .val (.ref w_REQUEST)] [])) _
    refine XS.aload X65.here hx rfl (hb hby d_prog_15_method_4_code_24) rfl rfl ?_
    show Steps p.tables e below (T65.setTop (mkF m 26 #[.val (.int y0), .val .null, .val (.ref b65_b6), .val (.int (2 : Int32)), .val (.int (0 : Int32)), .val (.ref w_REQUEST)] [(.ref w_REQUEST)])) _
    refine st69 _ ?_
    show Steps p.tables e below (T69.setTop (mkF m 29 #[.val (.int y0), .val .null, .val (.ref b65_b6), .val (.int (2 : Int32)), .val (.int (0 : Int32)), .val (.ref w_REQUEST)] [(.int (1 : Int32))])) _
    refine XS.iloadN X69.here hx rfl (hb hby d_prog_15_method_4_code_29) rfl ?_
    show Steps p.tables e below (T69.setTop (mkF m 30 #[.val (.int y0), .val .null, .val (.ref b65_b6), .val (.int (2 : Int32)), .val (.int (0 : Int32)), .val (.ref w_REQUEST)] [(.int y0), (.int (1 : Int32))])) _
    refine XS.icmpYes X69.here hx rfl (pc0 := 30) (pc' := 36) rfl (hb hby d_prog_15_method_4_code_30) rfl (feq hp1).2 (by decide) (by decide) ?_
    show Steps p.tables e below (T69.setTop (mkF m 36 #[.val (.int y0), .val .null, .val (.ref b65_b6), .val (.int (2 : Int32)), .val (.int (0 : Int32)), .val (.ref w_REQUEST)] [])) _
    refine XS.iinc X69.here hx rfl (hb hby d_prog_15_method_4_code_36) rfl (l' := #[.val (.int y0), .val .null, .val (.ref b65_b6), .val (.int (2 : Int32)), .val (.int ((0 : Int32) + (1 : Int32))), .val (.ref w_REQUEST)]) rfl ?_
    exact kt
  rw [show ((0 : Int32) + (1 : Int32)) = (1 : Int32) from by decide] at pre70
  have vt72 := u65_0
  obtain ⟨cl72, Ar72, q72, S72, Ng72, Ha72, G72⟩ := vt72
  have hin72 : ¬ ((1 : Int32) < 0 ∨ cl72.slots.size ≤ ((1 : Int32)).toNatClampNeg) := inb_of S72 ⟨by decide, by decide⟩
  have hat72 : cl72.slots[((1 : Int32)).toNatClampNeg]? = some (.ref w_ONE_WAY) := Ha72.at hin72 rfl
  obtain ⟨T73, X73, e73, st73⟩ := getF X69 hx hZ hown (host := "") (Or.inl (hw _ (List.mem_of_getElem? (i := 21) rfl))) Via.refl e69 (F_code_ONE_WAY.ext O65.2) (g := (mkF m 26 #[.val (.int y0), .val .null, .val (.ref b65_b6), .val (.int (2 : Int32)), .val (.int (1 : Int32)), .val (.ref w_ONE_WAY)] [(.ref w_ONE_WAY)])) rfl rfl (hb hby d_prog_15_method_4_code_26)
  have pre74 : ∀ t, Steps p.tables e below (T73.setTop (mkF m 39 #[.val (.int y0), .val (.ref w_ONE_WAY), .val (.ref b65_b6), .val (.int (2 : Int32)), .val (.int ((1 : Int32) + (1 : Int32))), .val (.ref w_ONE_WAY)] [])) t → Steps p.tables e below (s₁.setTop (entryFrame m #[(.int y0)] 6)) t := by
    intro t kt
    refine pre70 t ?_
    show Steps p.tables e below (T69.setTop (mkF m 39 #[.val (.int y0), .val .null, .val (.ref b65_b6), .val (.int (2 : Int32)), .val (.int (1 : Int32)), .val (.ref w_REQUEST)] [])) _
    refine XS.goto X69.here hx rfl (pc0 := 39) (pc' := 12) rfl (hb hby d_prog_15_method_4_code_39) (by decide) (by decide) ?_
    show Steps p.tables e below (T69.setTop (mkF m 12 #[.val (.int y0), .val .null, .val (.ref b65_b6), .val (.int (2 : Int32)), .val (.int (1 : Int32)), .val (.ref w_REQUEST)] [])) _
    refine XS.iload X69.here hx rfl (hb hby d_prog_15_method_4_code_12) rfl ?_
    show Steps p.tables e below (T69.setTop (mkF m 14 #[.val (.int y0), .val .null, .val (.ref b65_b6), .val (.int (2 : Int32)), .val (.int (1 : Int32)), .val (.ref w_REQUEST)] [(.int (1 : Int32))])) _
    refine XS.iloadN X69.here hx rfl (hb hby d_prog_15_method_4_code_14) rfl ?_
    show Steps p.tables e below (T69.setTop (mkF m 15 #[.val (.int y0), .val .null, .val (.ref b65_b6), .val (.int (2 : Int32)), .val (.int (1 : Int32)), .val (.ref w_REQUEST)] [(.int (2 : Int32)), (.int (1 : Int32))])) _
    refine XS.icmpNo X69.here hx rfl (hb hby d_prog_15_method_4_code_15) rfl (tlt (by decide : (1 : Int32) < (2 : Int32))).2.1 ?_
    show Steps p.tables e below (T69.setTop (mkF m 18 #[.val (.int y0), .val .null, .val (.ref b65_b6), .val (.int (2 : Int32)), .val (.int (1 : Int32)), .val (.ref w_REQUEST)] [])) _
    refine XS.aloadN X69.here hx rfl (hb hby d_prog_15_method_4_code_18) rfl rfl ?_
    show Steps p.tables e below (T69.setTop (mkF m 19 #[.val (.int y0), .val .null, .val (.ref b65_b6), .val (.int (2 : Int32)), .val (.int (1 : Int32)), .val (.ref w_REQUEST)] [(.ref b65_b6)])) _
    refine XS.iload X69.here hx rfl (hb hby d_prog_15_method_4_code_19) rfl ?_
    show Steps p.tables e below (T69.setTop (mkF m 21 #[.val (.int y0), .val .null, .val (.ref b65_b6), .val (.int (2 : Int32)), .val (.int (1 : Int32)), .val (.ref w_REQUEST)] [(.int (1 : Int32)), (.ref b65_b6)])) _
    refine X69.aaload hx (j := (1 : Int32)) (v := (.ref w_ONE_WAY)) (by rw [e69]; exact Ar72.1) (State.isArrayOf_alike hZ.alike Ar72.2.1) rfl Ar72.2.2 hin72 hat72 (g := (mkF m 21 #[.val (.int y0), .val .null, .val (.ref b65_b6), .val (.int (2 : Int32)), .val (.int (1 : Int32)), .val (.ref w_REQUEST)] [(.int (1 : Int32)), (.ref b65_b6)])) rfl rfl (hb hby d_prog_15_method_4_code_21) _ ?_
    show Steps p.tables e below (T69.setTop (mkF m 22 #[.val (.int y0), .val .null, .val (.ref b65_b6), .val (.int (2 : Int32)), .val (.int (1 : Int32)), .val (.ref w_REQUEST)] [(.ref w_ONE_WAY)])) _
    refine XS.astore X69.here hx rfl (hb hby d_prog_15_method_4_code_22) rfl rfl (l' := #[.val (.int y0), .val .null, .val (.ref b65_b6), .val (.int (2 : Int32)), .val (.int (1 : Int32)), .val (.ref w_ONE_WAY)]) rfl ?_
    show Steps p.tables e below (T69.setTop (mkF m 24 #[.val (.int y0), .val .null, .val (.ref b65_b6), .val (.int (2 : Int32)), .val (.int (1 : Int32)), .val (.ref w_ONE_WAY)] [])) _
    refine XS.aload X69.here hx rfl (hb hby d_prog_15_method_4_code_24) rfl rfl ?_
    show Steps p.tables e below (T69.setTop (mkF m 26 #[.val (.int y0), .val .null, .val (.ref b65_b6), .val (.int (2 : Int32)), .val (.int (1 : Int32)), .val (.ref w_ONE_WAY)] [(.ref w_ONE_WAY)])) _
    refine st73 _ ?_
    show Steps p.tables e below (T73.setTop (mkF m 29 #[.val (.int y0), .val .null, .val (.ref b65_b6), .val (.int (2 : Int32)), .val (.int (1 : Int32)), .val (.ref w_ONE_WAY)] [(.int (2 : Int32))])) _
    refine XS.iloadN X73.here hx rfl (hb hby d_prog_15_method_4_code_29) rfl ?_
    show Steps p.tables e below (T73.setTop (mkF m 30 #[.val (.int y0), .val .null, .val (.ref b65_b6), .val (.int (2 : Int32)), .val (.int (1 : Int32)), .val (.ref w_ONE_WAY)] [(.int y0), (.int (2 : Int32))])) _
    refine XS.icmpNo X73.here hx rfl (hb hby d_prog_15_method_4_code_30) rfl (teq hp3).2 ?_
    show Steps p.tables e below (T73.setTop (mkF m 33 #[.val (.int y0), .val .null, .val (.ref b65_b6), .val (.int (2 : Int32)), .val (.int (1 : Int32)), .val (.ref w_ONE_WAY)] [])) _
    refine XS.aload X73.here hx rfl (hb hby d_prog_15_method_4_code_33) rfl rfl ?_
    show Steps p.tables e below (T73.setTop (mkF m 35 #[.val (.int y0), .val .null, .val (.ref b65_b6), .val (.int (2 : Int32)), .val (.int (1 : Int32)), .val (.ref w_ONE_WAY)] [(.ref w_ONE_WAY)])) _
    refine XS.astoreN X73.here hx rfl (hb hby d_prog_15_method_4_code_35) rfl rfl (l' := #[.val (.int y0), .val (.ref w_ONE_WAY), .val (.ref b65_b6), .val (.int (2 : Int32)), .val (.int (1 : Int32)), .val (.ref w_ONE_WAY)]) rfl ?_
    show Steps p.tables e below (T73.setTop (mkF m 36 #[.val (.int y0), .val (.ref w_ONE_WAY), .val (.ref b65_b6), .val (.int (2 : Int32)), .val (.int (1 : Int32)), .val (.ref w_ONE_WAY)] [])) _
    refine XS.iinc X73.here hx rfl (hb hby d_prog_15_method_4_code_36) rfl (l' := #[.val (.int y0), .val (.ref w_ONE_WAY), .val (.ref b65_b6), .val (.int (2 : Int32)), .val (.int ((1 : Int32) + (1 : Int32))), .val (.ref w_ONE_WAY)]) rfl ?_
    exact kt
  rw [show ((1 : Int32) + (1 : Int32)) = (2 : Int32) from by decide] at pre74
  have pre76 : ∀ t, Steps p.tables e below (T73.setTop (mkF m 43 #[.val (.int y0), .val (.ref w_ONE_WAY), .val (.ref b65_b6), .val (.int (2 : Int32)), .val (.int (2 : Int32)), .val (.ref w_ONE_WAY)] [(.ref w_ONE_WAY)])) t → Steps p.tables e below (s₁.setTop (entryFrame m #[(.int y0)] 6)) t := by
    intro t kt
    refine pre74 t ?_
    show Steps p.tables e below (T73.setTop (mkF m 39 #[.val (.int y0), .val (.ref w_ONE_WAY), .val (.ref b65_b6), .val (.int (2 : Int32)), .val (.int (2 : Int32)), .val (.ref w_ONE_WAY)] [])) _
    refine XS.goto X73.here hx rfl (pc0 := 39) (pc' := 12) rfl (hb hby d_prog_15_method_4_code_39) (by decide) (by decide) ?_
    show Steps p.tables e below (T73.setTop (mkF m 12 #[.val (.int y0), .val (.ref w_ONE_WAY), .val (.ref b65_b6), .val (.int (2 : Int32)), .val (.int (2 : Int32)), .val (.ref w_ONE_WAY)] [])) _
    refine XS.iload X73.here hx rfl (hb hby d_prog_15_method_4_code_12) rfl ?_
    show Steps p.tables e below (T73.setTop (mkF m 14 #[.val (.int y0), .val (.ref w_ONE_WAY), .val (.ref b65_b6), .val (.int (2 : Int32)), .val (.int (2 : Int32)), .val (.ref w_ONE_WAY)] [(.int (2 : Int32))])) _
    refine XS.iloadN X73.here hx rfl (hb hby d_prog_15_method_4_code_14) rfl ?_
    show Steps p.tables e below (T73.setTop (mkF m 15 #[.val (.int y0), .val (.ref w_ONE_WAY), .val (.ref b65_b6), .val (.int (2 : Int32)), .val (.int (2 : Int32)), .val (.ref w_ONE_WAY)] [(.int (2 : Int32)), (.int (2 : Int32))])) _
    refine XS.icmpYes X73.here hx rfl (pc0 := 15) (pc' := 42) rfl (hb hby d_prog_15_method_4_code_15) rfl (flt (by decide : ¬ ((2 : Int32) < (2 : Int32)))).2.1 (by decide) (by decide) ?_
    show Steps p.tables e below (T73.setTop (mkF m 42 #[.val (.int y0), .val (.ref w_ONE_WAY), .val (.ref b65_b6), .val (.int (2 : Int32)), .val (.int (2 : Int32)), .val (.ref w_ONE_WAY)] [])) _
    refine XS.aloadN X73.here hx rfl (hb hby d_prog_15_method_4_code_42) rfl rfl ?_
    exact kt
  obtain ⟨fs, hr, hrun, hended, hW, hsame⟩ := X73.leave (v := some (.ref w_ONE_WAY)) (fun h => by rw [Bd.returns] at h; cases h)
  refine ⟨_, _, pre76 _ ?_, hrun, hended, _, _, rfl, ?_, ⟨_, rfl⟩, hW, hsame.mono (by decide) (by decide)⟩
  · show Steps p.tables e below (T73.setTop (mkF m 43 #[.val (.int y0), .val (.ref w_ONE_WAY), .val (.ref b65_b6), .val (.int (2 : Int32)), .val (.int (2 : Int32)), .val (.ref w_ONE_WAY)] [(.ref w_ONE_WAY)])) _
    jvm_step X73.here [X73.here.top, hx, (hb hby d_prog_15_method_4_code_43), X73.method', Bd.returns, Value.isRef, FieldType.isReference]
    first | (intro acts; rw [hr _ acts rfl rfl rfl]) | rw [hr _ _ rfl rfl rfl]
    exact Steps.refl _
  · show Q_rm_of_5 Z y0 w__VALUES w_ONE_WAY w_REQUEST k__VALUES h0 n0 _ T73.heap _
    rw [e73]
    exact ⟨rfl, N65, K65⟩
theorem ef_rm_of_6 (m : MethodId) (y0 : Int32) : entryFrame m #[(.int y0)] 6 = mkF m 0 #[.val (.int y0), .unset, .unset, .unset, .unset, .unset] [] := by first | (simp [entryFrame, mkF, argsToLocals, Value.category]; done) | rfl
def Q_rm_of_6 (Z : State) (y0 : Int32) (w__VALUES : Addr) (w_ONE_WAY : Addr) (w_REQUEST : Addr) (k__VALUES : ClassId) (h0 : Heap) (n0 : Nat) (v : Option Value) (h : Heap) (L : List Loc) : Prop := v = some .null ∧ Fr n0 L ∧ Keep h0 h []
set_option maxRecDepth 65536 in
set_option maxHeartbeats 40000000 in
theorem rm_of_6 (l : Launch) (Z : State) (a0 : Array Value) (hw : ∀ d ∈ tables_1, d.before a0 Z = true) (ws : List Jvm.Cond) (y0 : Int32) (w__VALUES : Addr) (w_ONE_WAY : Addr) (w_REQUEST : Addr) (k__VALUES : ClassId) (h0 : Heap) (n0 : Nat) (O0 : Old Z n0 h0) (hp0 : ¬ (y0 = (1 : Int32))) (hp1 : ¬ ((1 : Int32) = y0)) (hp2 : ¬ (y0 = (2 : Int32))) (hp3 : ¬ ((2 : Int32) = y0)) (S__VALUES : Sta Z Z.heap "com/example/wend/wend/MessageKind" "$VALUES" "[Lcom/example/wend/wend/MessageKind;" (.ref w__VALUES)) (V__VALUES : Arv Z Z.heap w__VALUES k__VALUES (.object "com/example/wend/wend/MessageKind") (2 : Int32) [(.ref w_REQUEST), (.ref w_ONE_WAY)] .null) (E__VALUES : Exa Z Z.heap w__VALUES "[Lcom/example/wend/wend/MessageKind;") (F_code_REQUEST : Fld Z Z.heap w_REQUEST "com/example/wend/wend/MessageKind" "code" "I" (.int (1 : Int32))) (F_code_ONE_WAY : Fld Z Z.heap w_ONE_WAY "com/example/wend/wend/MessageKind" "code" "I" (.int (2 : Int32))) :
    MetFree l (⟨"com/example/wend/wend/MessageKind", "of", "(I)Lcom/example/wend/wend/MessageKind;"⟩ : MethodName) (head1 (Jvm.Cond.code (⟨"com/example/wend/wend/MessageKind", "of", "(I)Lcom/example/wend/wend/MessageKind;"⟩ : MethodName) prog_15_method_4_code 6 (some (.object "com/example/wend/wend/MessageKind")) :: ws) ({ frames := 2, cells := 1, slots := 2, locals := 25 } : Room)) (fun a U => a = #[(.int y0)] ∧ Z.Warmed39 U.vm ∧ U.heap = h0) (fun _ _ _ _ _ => True) (fun _ U o U' => ∃ v L, o = .returned v ∧ Q_rm_of_6 Z y0 w__VALUES w_ONE_WAY w_REQUEST k__VALUES h0 n0 v U'.heap L ∧ FrameEnd U o U' L ({ frames := 2, cells := 1, slots := 2, locals := 25 } : Room).cells ({ frames := 2, cells := 1, slots := 2, locals := 25 } : Room).slots) := by
  refine MetFree.of_bodySF (plainFor_of_name pn_com_example_wend_wend_MessageKind) hisR ?_
  intro p e s m args below meth c s₁ Bd hml0 hP hK
  obtain ⟨rfl, hZ, hh⟩ := hP
  have hx := Bd.exec
  have hby := Bd.bytes
  have hml : c.maxLocals = 6 := hml0
  have hown : s.vm.findClass "com/example/wend/wend/MessageKind" = some m.cls := findClass_of_methodNamed Bd.named
  have hnm := (name_of_methodNamed Bd.named Bd.method).1
  have X0 : Stand p l e ({ frames := 2, cells := 1, slots := 2, locals := 25 } : Room) s m #[(.int y0)] below meth c s₁ [] 0 0 := Stand.of_body Bd
  have e0 : s₁.heap = h0 := by rw [← hh, Bd.state]; rfl
  have N0 := Fr.nil n0
  have pre0 : ∀ t, Steps p.tables e below (s₁.setTop (mkF m 0 #[.val (.int y0), .unset, .unset, .unset, .unset, .unset] [])) t → Steps p.tables e below (s₁.setTop (entryFrame m #[(.int y0)] 6)) t := fun t k => castTop (ef_rm_of_6 m y0) k
  have K0 := Keep.refl h0 []
  obtain ⟨_, _, ⟨T80, L80, k80, n80⟩, -, X80, ⟨Lc80, hQ80, l80, y80, z80⟩, st80⟩ := Jvm.LawKit.callS X0 hx (y := (⟨"com/example/wend/wend/MessageKind", "values", "()[Lcom/example/wend/wend/MessageKind;"⟩ : MethodName)) hown (mvT hZ (hw _ (List.mem_of_getElem? (i := 4) rfl))) (mvT hZ (hw _ (List.mem_of_getElem? (i := 5) rfl))) (mvT hZ (hw _ (List.mem_of_getElem? (i := 2) rfl))) (mvT hZ (hw _ (List.mem_of_getElem? (i := 6) rfl))) (by decide) (backOf (W := 0) (rm_values_2 l Z a0 hw [] w__VALUES w_ONE_WAY w_REQUEST k__VALUES h0 n0 O0  S__VALUES V__VALUES E__VALUES) hZ (hw _ (List.mem_of_getElem? (i := 6) rfl)) (hw _ (List.mem_of_getElem? (i := 2) rfl)) (by decide) (by decide)) (g := (mkF m 2 #[.val (.int y0), .val .null, .unset, .unset, .unset, .unset] [])) rfl (by rw [hml]; rfl) (argsL := []) (rest := []) (lenOf pd____Lcom_example_wend_wend_MessageKind_ rfl) rfl (by show 2 * 0 + _ ≤ _; exact Nat.le_of_eq rfl) (hb hby d_prog_15_method_4_code_2) (fun _ _ => ⟨rfl, e0, (by decide : 0 + 1 ≤ _), (by decide : 0 + 2 ≤ _)⟩)
  dsimp only [Pt.U, Pt.locs, Pt.cells, Pt.slots] at X80 l80 y80 z80 st80 hQ80
  subst l80 y80 z80
  obtain ⟨b80_b6, rfl, N80q, Kc80, u80_0, u80_1, u80_2, u80_3⟩ := hQ80
  have N80 := Fr.app N0 N80q
  have sz_b80_b6 : h0.size ≤ b80_b6 := Nat.le_trans K0.1 u80_3
  have O80 := O0.keep Kc80 all0
  have K80 := K0.trans Kc80 all0
  have vt81 := u80_0
  obtain ⟨cl81, Ar81, q81, S81, Ng81, Ha81, G81⟩ := vt81
  have vt83 := u80_0
  obtain ⟨cl83, Ar83, q83, S83, Ng83, Ha83, G83⟩ := vt83
  have hin83 : ¬ ((0 : Int32) < 0 ∨ cl83.slots.size ≤ ((0 : Int32)).toNatClampNeg) := inb_of S83 ⟨by decide, by decide⟩
  have hat83 : cl83.slots[((0 : Int32)).toNatClampNeg]? = some (.ref w_REQUEST) := Ha83.at hin83 rfl
  obtain ⟨T84, X84, e84, st84⟩ := getF X80 hx hZ hown (host := "") (Or.inl (hw _ (List.mem_of_getElem? (i := 21) rfl))) Via.refl rfl (F_code_REQUEST.ext O80.2) (g := (mkF m 26 #[.val (.int y0), .val .null, .val (.ref b80_b6), .val (.int (2 : Int32)), .val (.int (0 : Int32)), .val (.ref w_REQUEST)] [(.ref w_REQUEST)])) rfl rfl (hb hby d_prog_15_method_4_code_26)
  have pre85 : ∀ t, Steps p.tables e below (T84.setTop (mkF m 39 #[.val (.int y0), .val .null, .val (.ref b80_b6), .val (.int (2 : Int32)), .val (.int ((0 : Int32) + (1 : Int32))), .val (.ref w_REQUEST)] [])) t → Steps p.tables e below (s₁.setTop (entryFrame m #[(.int y0)] 6)) t := by
    intro t kt
    refine pre0 t ?_
    show Steps p.tables e below (s₁.setTop (mkF m 0 #[.val (.int y0), .unset, .unset, .unset, .unset, .unset] [])) _
    refine XS.aconstNull X0.here hx rfl (hb hby d_prog_15_method_4_code_0) ?_
    show Steps p.tables e below (s₁.setTop (mkF m 1 #[.val (.int y0), .unset, .unset, .unset, .unset, .unset] [.null])) _
    refine XS.astoreN X0.here hx rfl (hb hby d_prog_15_method_4_code_1) rfl rfl (l' := #[.val (.int y0), .val .null, .unset, .unset, .unset, .unset]) rfl ?_
    show Steps p.tables e below (s₁.setTop (mkF m 2 #[.val (.int y0), .val .null, .unset, .unset, .unset, .unset] [])) _
    refine st80 _ ?_
    show Steps p.tables e below (T80.setTop (mkF m 5 #[.val (.int y0), .val .null, .unset, .unset, .unset, .unset] [(.ref b80_b6)])) _
    refine XS.astoreN X80.here hx rfl (hb hby d_prog_15_method_4_code_5) rfl rfl (l' := #[.val (.int y0), .val .null, .val (.ref b80_b6), .unset, .unset, .unset]) rfl ?_
    show Steps p.tables e below (T80.setTop (mkF m 6 #[.val (.int y0), .val .null, .val (.ref b80_b6), .unset, .unset, .unset] [])) _
    refine XS.aloadN X80.here hx rfl (hb hby d_prog_15_method_4_code_6) rfl rfl ?_
    show Steps p.tables e below (T80.setTop (mkF m 7 #[.val (.int y0), .val .null, .val (.ref b80_b6), .unset, .unset, .unset] [(.ref b80_b6)])) _
    refine X80.arraylength hx Ar81.1 (State.isArrayOf_alike hZ.alike Ar81.2.1) (g := (mkF m 7 #[.val (.int y0), .val .null, .val (.ref b80_b6), .unset, .unset, .unset] [(.ref b80_b6)])) rfl rfl (hb hby d_prog_15_method_4_code_7) _ ?_
    rw [len_of S81 Ng81]
    show Steps p.tables e below (T80.setTop (mkF m 8 #[.val (.int y0), .val .null, .val (.ref b80_b6), .unset, .unset, .unset] [(.int (2 : Int32))])) _
    refine XS.istoreN X80.here hx rfl (hb hby d_prog_15_method_4_code_8) rfl (l' := #[.val (.int y0), .val .null, .val (.ref b80_b6), .val (.int (2 : Int32)), .unset, .unset]) rfl ?_
    show Steps p.tables e below (T80.setTop (mkF m 9 #[.val (.int y0), .val .null, .val (.ref b80_b6), .val (.int (2 : Int32)), .unset, .unset] [])) _
    refine XS.iconst X80.here hx rfl (hb hby d_prog_15_method_4_code_9) ?_
    show Steps p.tables e below (T80.setTop (mkF m 10 #[.val (.int y0), .val .null, .val (.ref b80_b6), .val (.int (2 : Int32)), .unset, .unset] [(.int (0 : Int32))])) _
    refine XS.istore X80.here hx rfl (hb hby d_prog_15_method_4_code_10) rfl (l' := #[.val (.int y0), .val .null, .val (.ref b80_b6), .val (.int (2 : Int32)), .val (.int (0 : Int32)), .unset]) rfl ?_
    show Steps p.tables e below (T80.setTop (mkF m 12 #[.val (.int y0), .val .null, .val (.ref b80_b6), .val (.int (2 : Int32)), .val (.int (0 : Int32)), .unset] [])) _
    refine XS.iload X80.here hx rfl (hb hby d_prog_15_method_4_code_12) rfl ?_
    show Steps p.tables e below (T80.setTop (mkF m 14 #[.val (.int y0), .val .null, .val (.ref b80_b6), .val (.int (2 : Int32)), .val (.int (0 : Int32)), .unset] [(.int (0 : Int32))])) _
    refine XS.iloadN X80.here hx rfl (hb hby d_prog_15_method_4_code_14) rfl ?_
    show Steps p.tables e below (T80.setTop (mkF m 15 #[.val (.int y0), .val .null, .val (.ref b80_b6), .val (.int (2 : Int32)), .val (.int (0 : Int32)), .unset] [(.int (2 : Int32)), (.int (0 : Int32))])) _
    refine XS.icmpNo X80.here hx rfl (hb hby d_prog_15_method_4_code_15) rfl (tlt (by decide : (0 : Int32) < (2 : Int32))).2.1 ?_
    show Steps p.tables e below (T80.setTop (mkF m 18 #[.val (.int y0), .val .null, .val (.ref b80_b6), .val (.int (2 : Int32)), .val (.int (0 : Int32)), .unset] [])) _
    refine XS.aloadN X80.here hx rfl (hb hby d_prog_15_method_4_code_18) rfl rfl ?_
    show Steps p.tables e below (T80.setTop (mkF m 19 #[.val (.int y0), .val .null, .val (.ref b80_b6), .val (.int (2 : Int32)), .val (.int (0 : Int32)), .unset] [(.ref b80_b6)])) _
    refine XS.iload X80.here hx rfl (hb hby d_prog_15_method_4_code_19) rfl ?_
    show Steps p.tables e below (T80.setTop (mkF m 21 #[.val (.int y0), .val .null, .val (.ref b80_b6), .val (.int (2 : Int32)), .val (.int (0 : Int32)), .unset] [(.int (0 : Int32)), (.ref b80_b6)])) _
    refine X80.aaload hx (j := (0 : Int32)) (v := (.ref w_REQUEST)) Ar83.1 (State.isArrayOf_alike hZ.alike Ar83.2.1) rfl Ar83.2.2 hin83 hat83 (g := (mkF m 21 #[.val (.int y0), .val .null, .val (.ref b80_b6), .val (.int (2 : Int32)), .val (.int (0 : Int32)), .unset] [(.int (0 : Int32)), (.ref b80_b6)])) rfl rfl (hb hby d_prog_15_method_4_code_21) _ ?_
    show Steps p.tables e below (T80.setTop (mkF m 22 #[.val (.int y0), .val .null, .val (.ref b80_b6), .val (.int (2 : Int32)), .val (.int (0 : Int32)), .unset] [(.ref w_REQUEST)])) _
    refine XS.astore X80.here hx rfl (hb hby d_prog_15_method_4_code_22) rfl rfl (l' := #[.val (.int y0), .val .null, .val (.ref b80_b6), .val (.int (2 : Int32)), .val (.int (0 : Int32)), .val (.ref w_REQUEST)]) rfl ?_
    show Steps p.tables e below (T80.setTop (mkF m 24 #[.val (.int y0), .val .null, .val (.ref b80_b6), .val (.int (2 : Int32)), .val (.int (0 : Int32)), .val (.ref w_REQUEST)] [])) _
    refine XS.aload X80.here hx rfl (hb hby d_prog_15_method_4_code_24) rfl rfl ?_
    show Steps p.tables e below (T80.setTop (mkF m 26 #[.val (.int y0), .val .null, .val (.ref b80_b6), .val (.int (2 : Int32)), .val (.int (0 : Int32)), .val (.ref w_REQUEST)] [(.ref w_REQUEST)])) _
    refine st84 _ ?_
    show Steps p.tables e below (T84.setTop (mkF m 29 #[.val (.int y0), .val .null, .val (.ref b80_b6), .val (.int (2 : Int32)), .val (.int (0 : Int32)), .val (.ref w_REQUEST)] [(.int (1 : Int32))])) _
    refine XS.iloadN X84.here hx rfl (hb hby d_prog_15_method_4_code_29) rfl ?_
    show Steps p.tables e below (T84.setTop (mkF m 30 #[.val (.int y0), .val .null, .val (.ref b80_b6), .val (.int (2 : Int32)), .val (.int (0 : Int32)), .val (.ref w_REQUEST)] [(.int y0), (.int (1 : Int32))])) _
    refine XS.icmpYes X84.here hx rfl (pc0 := 30) (pc' := 36) rfl (hb hby d_prog_15_method_4_code_30) rfl (feq hp1).2 (by decide) (by decide) ?_
    show Steps p.tables e below (T84.setTop (mkF m 36 #[.val (.int y0), .val .null, .val (.ref b80_b6), .val (.int (2 : Int32)), .val (.int (0 : Int32)), .val (.ref w_REQUEST)] [])) _
    refine XS.iinc X84.here hx rfl (hb hby d_prog_15_method_4_code_36) rfl (l' := #[.val (.int y0), .val .null, .val (.ref b80_b6), .val (.int (2 : Int32)), .val (.int ((0 : Int32) + (1 : Int32))), .val (.ref w_REQUEST)]) rfl ?_
    exact kt
  rw [show ((0 : Int32) + (1 : Int32)) = (1 : Int32) from by decide] at pre85
  have vt87 := u80_0
  obtain ⟨cl87, Ar87, q87, S87, Ng87, Ha87, G87⟩ := vt87
  have hin87 : ¬ ((1 : Int32) < 0 ∨ cl87.slots.size ≤ ((1 : Int32)).toNatClampNeg) := inb_of S87 ⟨by decide, by decide⟩
  have hat87 : cl87.slots[((1 : Int32)).toNatClampNeg]? = some (.ref w_ONE_WAY) := Ha87.at hin87 rfl
  obtain ⟨T88, X88, e88, st88⟩ := getF X84 hx hZ hown (host := "") (Or.inl (hw _ (List.mem_of_getElem? (i := 21) rfl))) Via.refl e84 (F_code_ONE_WAY.ext O80.2) (g := (mkF m 26 #[.val (.int y0), .val .null, .val (.ref b80_b6), .val (.int (2 : Int32)), .val (.int (1 : Int32)), .val (.ref w_ONE_WAY)] [(.ref w_ONE_WAY)])) rfl rfl (hb hby d_prog_15_method_4_code_26)
  have pre89 : ∀ t, Steps p.tables e below (T88.setTop (mkF m 39 #[.val (.int y0), .val .null, .val (.ref b80_b6), .val (.int (2 : Int32)), .val (.int ((1 : Int32) + (1 : Int32))), .val (.ref w_ONE_WAY)] [])) t → Steps p.tables e below (s₁.setTop (entryFrame m #[(.int y0)] 6)) t := by
    intro t kt
    refine pre85 t ?_
    show Steps p.tables e below (T84.setTop (mkF m 39 #[.val (.int y0), .val .null, .val (.ref b80_b6), .val (.int (2 : Int32)), .val (.int (1 : Int32)), .val (.ref w_REQUEST)] [])) _
    refine XS.goto X84.here hx rfl (pc0 := 39) (pc' := 12) rfl (hb hby d_prog_15_method_4_code_39) (by decide) (by decide) ?_
    show Steps p.tables e below (T84.setTop (mkF m 12 #[.val (.int y0), .val .null, .val (.ref b80_b6), .val (.int (2 : Int32)), .val (.int (1 : Int32)), .val (.ref w_REQUEST)] [])) _
    refine XS.iload X84.here hx rfl (hb hby d_prog_15_method_4_code_12) rfl ?_
    show Steps p.tables e below (T84.setTop (mkF m 14 #[.val (.int y0), .val .null, .val (.ref b80_b6), .val (.int (2 : Int32)), .val (.int (1 : Int32)), .val (.ref w_REQUEST)] [(.int (1 : Int32))])) _
    refine XS.iloadN X84.here hx rfl (hb hby d_prog_15_method_4_code_14) rfl ?_
    show Steps p.tables e below (T84.setTop (mkF m 15 #[.val (.int y0), .val .null, .val (.ref b80_b6), .val (.int (2 : Int32)), .val (.int (1 : Int32)), .val (.ref w_REQUEST)] [(.int (2 : Int32)), (.int (1 : Int32))])) _
    refine XS.icmpNo X84.here hx rfl (hb hby d_prog_15_method_4_code_15) rfl (tlt (by decide : (1 : Int32) < (2 : Int32))).2.1 ?_
    show Steps p.tables e below (T84.setTop (mkF m 18 #[.val (.int y0), .val .null, .val (.ref b80_b6), .val (.int (2 : Int32)), .val (.int (1 : Int32)), .val (.ref w_REQUEST)] [])) _
    refine XS.aloadN X84.here hx rfl (hb hby d_prog_15_method_4_code_18) rfl rfl ?_
    show Steps p.tables e below (T84.setTop (mkF m 19 #[.val (.int y0), .val .null, .val (.ref b80_b6), .val (.int (2 : Int32)), .val (.int (1 : Int32)), .val (.ref w_REQUEST)] [(.ref b80_b6)])) _
    refine XS.iload X84.here hx rfl (hb hby d_prog_15_method_4_code_19) rfl ?_
    show Steps p.tables e below (T84.setTop (mkF m 21 #[.val (.int y0), .val .null, .val (.ref b80_b6), .val (.int (2 : Int32)), .val (.int (1 : Int32)), .val (.ref w_REQUEST)] [(.int (1 : Int32)), (.ref b80_b6)])) _
    refine X84.aaload hx (j := (1 : Int32)) (v := (.ref w_ONE_WAY)) (by rw [e84]; exact Ar87.1) (State.isArrayOf_alike hZ.alike Ar87.2.1) rfl Ar87.2.2 hin87 hat87 (g := (mkF m 21 #[.val (.int y0), .val .null, .val (.ref b80_b6), .val (.int (2 : Int32)), .val (.int (1 : Int32)), .val (.ref w_REQUEST)] [(.int (1 : Int32)), (.ref b80_b6)])) rfl rfl (hb hby d_prog_15_method_4_code_21) _ ?_
    show Steps p.tables e below (T84.setTop (mkF m 22 #[.val (.int y0), .val .null, .val (.ref b80_b6), .val (.int (2 : Int32)), .val (.int (1 : Int32)), .val (.ref w_REQUEST)] [(.ref w_ONE_WAY)])) _
    refine XS.astore X84.here hx rfl (hb hby d_prog_15_method_4_code_22) rfl rfl (l' := #[.val (.int y0), .val .null, .val (.ref b80_b6), .val (.int (2 : Int32)), .val (.int (1 : Int32)), .val (.ref w_ONE_WAY)]) rfl ?_
    show Steps p.tables e below (T84.setTop (mkF m 24 #[.val (.int y0), .val .null, .val (.ref b80_b6), .val (.int (2 : Int32)), .val (.int (1 : Int32)), .val (.ref w_ONE_WAY)] [])) _
    refine XS.aload X84.here hx rfl (hb hby d_prog_15_method_4_code_24) rfl rfl ?_
    show Steps p.tables e below (T84.setTop (mkF m 26 #[.val (.int y0), .val .null, .val (.ref b80_b6), .val (.int (2 : Int32)), .val (.int (1 : Int32)), .val (.ref w_ONE_WAY)] [(.ref w_ONE_WAY)])) _
    refine st88 _ ?_
    show Steps p.tables e below (T88.setTop (mkF m 29 #[.val (.int y0), .val .null, .val (.ref b80_b6), .val (.int (2 : Int32)), .val (.int (1 : Int32)), .val (.ref w_ONE_WAY)] [(.int (2 : Int32))])) _
    refine XS.iloadN X88.here hx rfl (hb hby d_prog_15_method_4_code_29) rfl ?_
    show Steps p.tables e below (T88.setTop (mkF m 30 #[.val (.int y0), .val .null, .val (.ref b80_b6), .val (.int (2 : Int32)), .val (.int (1 : Int32)), .val (.ref w_ONE_WAY)] [(.int y0), (.int (2 : Int32))])) _
    refine XS.icmpYes X88.here hx rfl (pc0 := 30) (pc' := 36) rfl (hb hby d_prog_15_method_4_code_30) rfl (feq hp3).2 (by decide) (by decide) ?_
    show Steps p.tables e below (T88.setTop (mkF m 36 #[.val (.int y0), .val .null, .val (.ref b80_b6), .val (.int (2 : Int32)), .val (.int (1 : Int32)), .val (.ref w_ONE_WAY)] [])) _
    refine XS.iinc X88.here hx rfl (hb hby d_prog_15_method_4_code_36) rfl (l' := #[.val (.int y0), .val .null, .val (.ref b80_b6), .val (.int (2 : Int32)), .val (.int ((1 : Int32) + (1 : Int32))), .val (.ref w_ONE_WAY)]) rfl ?_
    exact kt
  rw [show ((1 : Int32) + (1 : Int32)) = (2 : Int32) from by decide] at pre89
  have pre91 : ∀ t, Steps p.tables e below (T88.setTop (mkF m 43 #[.val (.int y0), .val .null, .val (.ref b80_b6), .val (.int (2 : Int32)), .val (.int (2 : Int32)), .val (.ref w_ONE_WAY)] [.null])) t → Steps p.tables e below (s₁.setTop (entryFrame m #[(.int y0)] 6)) t := by
    intro t kt
    refine pre89 t ?_
    show Steps p.tables e below (T88.setTop (mkF m 39 #[.val (.int y0), .val .null, .val (.ref b80_b6), .val (.int (2 : Int32)), .val (.int (2 : Int32)), .val (.ref w_ONE_WAY)] [])) _
    refine XS.goto X88.here hx rfl (pc0 := 39) (pc' := 12) rfl (hb hby d_prog_15_method_4_code_39) (by decide) (by decide) ?_
    show Steps p.tables e below (T88.setTop (mkF m 12 #[.val (.int y0), .val .null, .val (.ref b80_b6), .val (.int (2 : Int32)), .val (.int (2 : Int32)), .val (.ref w_ONE_WAY)] [])) _
    refine XS.iload X88.here hx rfl (hb hby d_prog_15_method_4_code_12) rfl ?_
    show Steps p.tables e below (T88.setTop (mkF m 14 #[.val (.int y0), .val .null, .val (.ref b80_b6), .val (.int (2 : Int32)), .val (.int (2 : Int32)), .val (.ref w_ONE_WAY)] [(.int (2 : Int32))])) _
    refine XS.iloadN X88.here hx rfl (hb hby d_prog_15_method_4_code_14) rfl ?_
    show Steps p.tables e below (T88.setTop (mkF m 15 #[.val (.int y0), .val .null, .val (.ref b80_b6), .val (.int (2 : Int32)), .val (.int (2 : Int32)), .val (.ref w_ONE_WAY)] [(.int (2 : Int32)), (.int (2 : Int32))])) _
    refine XS.icmpYes X88.here hx rfl (pc0 := 15) (pc' := 42) rfl (hb hby d_prog_15_method_4_code_15) rfl (flt (by decide : ¬ ((2 : Int32) < (2 : Int32)))).2.1 (by decide) (by decide) ?_
    show Steps p.tables e below (T88.setTop (mkF m 42 #[.val (.int y0), .val .null, .val (.ref b80_b6), .val (.int (2 : Int32)), .val (.int (2 : Int32)), .val (.ref w_ONE_WAY)] [])) _
    refine XS.aloadN X88.here hx rfl (hb hby d_prog_15_method_4_code_42) rfl rfl ?_
    exact kt
  obtain ⟨fs, hr, hrun, hended, hW, hsame⟩ := X88.leave (v := some .null) (fun h => by rw [Bd.returns] at h; cases h)
  refine ⟨_, _, pre91 _ ?_, hrun, hended, _, _, rfl, ?_, ⟨_, rfl⟩, hW, hsame.mono (by decide) (by decide)⟩
  · show Steps p.tables e below (T88.setTop (mkF m 43 #[.val (.int y0), .val .null, .val (.ref b80_b6), .val (.int (2 : Int32)), .val (.int (2 : Int32)), .val (.ref w_ONE_WAY)] [.null])) _
    jvm_step X88.here [X88.here.top, hx, (hb hby d_prog_15_method_4_code_43), X88.method', Bd.returns, Value.isRef, FieldType.isReference]
    first | (intro acts; rw [hr _ acts rfl rfl rfl]) | rw [hr _ _ rfl rfl rfl]
    exact Steps.refl _
  · show Q_rm_of_6 Z y0 w__VALUES w_ONE_WAY w_REQUEST k__VALUES h0 n0 _ T88.heap _
    rw [e88]
    exact ⟨rfl, N80, K80⟩
theorem pd__I_Lcom_example_wend_wend_MessageKind_ : parseMethodDescriptor "(I)Lcom/example/wend/wend/MessageKind;" = some ⟨[.int], some (.object "com/example/wend/wend/MessageKind")⟩ := by decide +kernel
theorem pn_com_example_wend_wend_MessageKindOfPinLaw : plainName "com/example/wend/wend/MessageKindOfPinLaw" = true := by first | (simp [plainName, overriddenIn]; done) | decide +kernel
theorem ef_rm0 (m : MethodId) (p0 : Int32) (p1 : Int32) : entryFrame m #[(.int p0), (.int p1)] maxLocals = mkF m 0 #[.val (.int p0), .val (.int p1), .unset, .unset, .unset, .unset] [] := by first | (simp [entryFrame, mkF, argsToLocals, Value.category, maxLocals]; done) | rfl
def Q_rm0 (Z : State) (p0 : Int32) (p1 : Int32) (w__VALUES : Addr) (w_ONE_WAY : Addr) (w_REQUEST : Addr) (k__VALUES : ClassId) (h0 : Heap) (n0 : Nat) (v : Option Value) (h : Heap) (L : List Loc) : Prop := v = some (.int 1) ∧ Fr n0 L
set_option maxRecDepth 65536 in
set_option maxHeartbeats 40000000 in
theorem rm0 (l : Launch) (Z : State) (a0 : Array Value) (hw : ∀ d ∈ tables_1, d.before a0 Z = true) (ws : List Jvm.Cond) (p0 : Int32) (p1 : Int32) (w__VALUES : Addr) (w_ONE_WAY : Addr) (w_REQUEST : Addr) (k__VALUES : ClassId) (h0 : Heap) (n0 : Nat) (O0 : Old Z n0 h0) (S__VALUES : Sta Z Z.heap "com/example/wend/wend/MessageKind" "$VALUES" "[Lcom/example/wend/wend/MessageKind;" (.ref w__VALUES)) (V__VALUES : Arv Z Z.heap w__VALUES k__VALUES (.object "com/example/wend/wend/MessageKind") (2 : Int32) [(.ref w_REQUEST), (.ref w_ONE_WAY)] .null) (E__VALUES : Exa Z Z.heap w__VALUES "[Lcom/example/wend/wend/MessageKind;") (F_code_REQUEST : Fld Z Z.heap w_REQUEST "com/example/wend/wend/MessageKind" "code" "I" (.int (1 : Int32))) (F_code_ONE_WAY : Fld Z Z.heap w_ONE_WAY "com/example/wend/wend/MessageKind" "code" "I" (.int (2 : Int32))) (S_REQUEST : Sta Z Z.heap "com/example/wend/wend/MessageKind" "REQUEST" "Lcom/example/wend/wend/MessageKind;" (.ref w_REQUEST)) (S_ONE_WAY : Sta Z Z.heap "com/example/wend/wend/MessageKind" "ONE_WAY" "Lcom/example/wend/wend/MessageKind;" (.ref w_ONE_WAY)) :
    MetFree l x (head1 (Jvm.Cond.code x code maxLocals ret :: ws) room_1) (fun a U => a = #[(.int p0), (.int p1)] ∧ Z.Warmed39 U.vm ∧ U.heap = h0) (fun _ _ _ _ _ => True) (fun _ U o U' => ∃ v L, o = .returned v ∧ Q_rm0 Z p0 p1 w__VALUES w_ONE_WAY w_REQUEST k__VALUES h0 n0 v U'.heap L ∧ FrameEnd U o U' L room_1.cells room_1.slots) := by
  refine MetFree.of_bodySF (plainFor_of_name pn_com_example_wend_wend_MessageKindOfPinLaw) hisR ?_
  intro p e s m args below meth c s₁ Bd hml0 hP hK
  obtain ⟨rfl, hZ, hh⟩ := hP
  have hx := Bd.exec
  have hby := Bd.bytes
  have hml : c.maxLocals = 6 := hml0
  have hown : s.vm.findClass "com/example/wend/wend/MessageKindOfPinLaw" = some m.cls := findClass_of_methodNamed Bd.named
  have hnm := (name_of_methodNamed Bd.named Bd.method).1
  have X0 : Stand p l e room_1 s m #[(.int p0), (.int p1)] below meth c s₁ [] 0 0 := Stand.of_body Bd
  have e0 : s₁.heap = h0 := by rw [← hh, Bd.state]; rfl
  have N0 := Fr.nil n0
  have pre0 : ∀ t, Steps p.tables e below (s₁.setTop (mkF m 0 #[.val (.int p0), .val (.int p1), .unset, .unset, .unset, .unset] [])) t → Steps p.tables e below (s₁.setTop (entryFrame m #[(.int p0), (.int p1)] maxLocals)) t := fun t k => castTop (ef_rm0 m p0 p1) k
  have pre2 : ∀ t, Steps p.tables e below (s₁.setTop (mkF m 5 #[.val (.int p0), .val (.int p1), .val (.int (p1 &&& (3 : Int32))), .unset, .unset, .unset] [(.int (p1 &&& (3 : Int32)))])) t → Steps p.tables e below (s₁.setTop (entryFrame m #[(.int p0), (.int p1)] maxLocals)) t := by
    intro t kt
    refine pre0 t ?_
    show Steps p.tables e below (s₁.setTop (mkF m 0 #[.val (.int p0), .val (.int p1), .unset, .unset, .unset, .unset] [])) _
    refine XS.iloadN X0.here hx rfl (hb hby at_0) rfl ?_
    show Steps p.tables e below (s₁.setTop (mkF m 1 #[.val (.int p0), .val (.int p1), .unset, .unset, .unset, .unset] [(.int p1)])) _
    refine XS.iconst X0.here hx rfl (hb hby at_1) ?_
    show Steps p.tables e below (s₁.setTop (mkF m 2 #[.val (.int p0), .val (.int p1), .unset, .unset, .unset, .unset] [(.int (3 : Int32)), (.int p1)])) _
    refine XS.iand X0.here hx rfl (hb hby at_2) rfl ?_
    show Steps p.tables e below (s₁.setTop (mkF m 3 #[.val (.int p0), .val (.int p1), .unset, .unset, .unset, .unset] [(.int (p1 &&& (3 : Int32)))])) _
    refine XS.istoreN X0.here hx rfl (hb hby at_3) rfl (l' := #[.val (.int p0), .val (.int p1), .val (.int (p1 &&& (3 : Int32))), .unset, .unset, .unset]) rfl ?_
    show Steps p.tables e below (s₁.setTop (mkF m 4 #[.val (.int p0), .val (.int p1), .val (.int (p1 &&& (3 : Int32))), .unset, .unset, .unset] [])) _
    refine XS.iloadN X0.here hx rfl (hb hby at_4) rfl ?_
    exact kt
  by_cases hc5_1 : (p1 &&& (3 : Int32)) = (0 : Int32)
  · obtain ⟨_, _, ⟨T3, L3, k3, n3⟩, -, X3, ⟨Lc3, hQ3, l3, y3, z3⟩, st3⟩ := Jvm.LawKit.callS X0 hx (y := (⟨"com/example/wend/wend/MessageKind", "of", "(I)Lcom/example/wend/wend/MessageKind;"⟩ : MethodName)) hown (mvT hZ (hw _ (List.mem_of_getElem? (i := 0) rfl))) (mvT hZ (hw _ (List.mem_of_getElem? (i := 1) rfl))) (mvT hZ (hw _ (List.mem_of_getElem? (i := 2) rfl))) (mvT hZ (hw _ (List.mem_of_getElem? (i := 3) rfl))) (by decide) (backOf (W := 0) (rm_of_1 l Z a0 hw [] w__VALUES w_ONE_WAY w_REQUEST k__VALUES h0 n0 O0  S__VALUES V__VALUES E__VALUES F_code_REQUEST F_code_ONE_WAY) hZ (hw _ (List.mem_of_getElem? (i := 3) rfl)) (hw _ (List.mem_of_getElem? (i := 2) rfl)) (by decide) (by decide)) (g := (mkF m 26 #[.val (.int p0), .val (.int p1), .val (.int (p1 &&& (3 : Int32))), .val (.int (1 : Int32)), .unset, .unset] [(.int (1 : Int32))])) rfl (by rw [hml]; rfl) (argsL := [(.int (1 : Int32))]) (rest := []) (lenOf pd__I_Lcom_example_wend_wend_MessageKind_ rfl) rfl (by show 2 * 0 + _ ≤ _; exact Nat.le_of_eq rfl) (hb hby at_26) (fun _ _ => ⟨rfl, e0, (by decide : 0 + 1 ≤ _), (by decide : 0 + 2 ≤ _)⟩)
    dsimp only [Pt.U, Pt.locs, Pt.cells, Pt.slots] at X3 l3 y3 z3 st3 hQ3
    subst l3 y3 z3
    obtain ⟨rfl, N3q, Kc3⟩ := hQ3
    have N3 := Fr.app N0 N3q
    have O3 := O0.keep Kc3 all0
    obtain ⟨T23, X23, e23, st23⟩ := getS2 X3 hx hZ hown (host := "") (Or.inl (hw _ (List.mem_of_getElem? (i := 24) rfl))) Via.refl rfl (S_REQUEST.ext O3.2) (g := (mkF m 36 #[.val (.int p0), .val (.int p1), .val (.int (p1 &&& (3 : Int32))), .val (.int (1 : Int32)), .val (.ref w_REQUEST), .unset] [])) rfl (hb hby at_36)
    have pre24 : ∀ t, Steps p.tables e below (T23.setTop (mkF m 72 #[.val (.int p0), .val (.int p1), .val (.int (p1 &&& (3 : Int32))), .val (.int (1 : Int32)), .val (.ref w_REQUEST), .val (.ref w_REQUEST)] [(.int (1 : Int32))])) t → Steps p.tables e below (s₁.setTop (entryFrame m #[(.int p0), (.int p1)] maxLocals)) t := by
      intro t kt
      refine pre2 t ?_
      show Steps p.tables e below (s₁.setTop (mkF m 5 #[.val (.int p0), .val (.int p1), .val (.int (p1 &&& (3 : Int32))), .unset, .unset, .unset] [(.int (p1 &&& (3 : Int32)))])) _
      refine XS.ifNo X0.here hx rfl (hb hby at_5) rfl ((if0 _ _).trans (teq hc5_1).2) ?_
      show Steps p.tables e below (s₁.setTop (mkF m 8 #[.val (.int p0), .val (.int p1), .val (.int (p1 &&& (3 : Int32))), .unset, .unset, .unset] [])) _
      refine XS.iconst X0.here hx rfl (hb hby at_8) ?_
      show Steps p.tables e below (s₁.setTop (mkF m 9 #[.val (.int p0), .val (.int p1), .val (.int (p1 &&& (3 : Int32))), .unset, .unset, .unset] [(.int (1 : Int32))])) _
      refine XS.istoreN X0.here hx rfl (hb hby at_9) rfl (l' := #[.val (.int p0), .val (.int p1), .val (.int (p1 &&& (3 : Int32))), .val (.int (1 : Int32)), .unset, .unset]) rfl ?_
      show Steps p.tables e below (s₁.setTop (mkF m 10 #[.val (.int p0), .val (.int p1), .val (.int (p1 &&& (3 : Int32))), .val (.int (1 : Int32)), .unset, .unset] [])) _
      refine XS.goto X0.here hx rfl (pc0 := 10) (pc' := 25) rfl (hb hby at_10) (by decide) (by decide) ?_
      show Steps p.tables e below (s₁.setTop (mkF m 25 #[.val (.int p0), .val (.int p1), .val (.int (p1 &&& (3 : Int32))), .val (.int (1 : Int32)), .unset, .unset] [])) _
      refine XS.iloadN X0.here hx rfl (hb hby at_25) rfl ?_
      show Steps p.tables e below (s₁.setTop (mkF m 26 #[.val (.int p0), .val (.int p1), .val (.int (p1 &&& (3 : Int32))), .val (.int (1 : Int32)), .unset, .unset] [(.int (1 : Int32))])) _
      refine st3 _ ?_
      show Steps p.tables e below (T3.setTop (mkF m 29 #[.val (.int p0), .val (.int p1), .val (.int (p1 &&& (3 : Int32))), .val (.int (1 : Int32)), .unset, .unset] [(.ref w_REQUEST)])) _
      refine XS.astore X3.here hx rfl (hb hby at_29) rfl rfl (l' := #[.val (.int p0), .val (.int p1), .val (.int (p1 &&& (3 : Int32))), .val (.int (1 : Int32)), .val (.ref w_REQUEST), .unset]) rfl ?_
      show Steps p.tables e below (T3.setTop (mkF m 31 #[.val (.int p0), .val (.int p1), .val (.int (p1 &&& (3 : Int32))), .val (.int (1 : Int32)), .val (.ref w_REQUEST), .unset] [])) _
      refine XS.iloadN X3.here hx rfl (hb hby at_31) rfl ?_
      show Steps p.tables e below (T3.setTop (mkF m 32 #[.val (.int p0), .val (.int p1), .val (.int (p1 &&& (3 : Int32))), .val (.int (1 : Int32)), .val (.ref w_REQUEST), .unset] [(.int (1 : Int32))])) _
      refine XS.iconst X3.here hx rfl (hb hby at_32) ?_
      show Steps p.tables e below (T3.setTop (mkF m 33 #[.val (.int p0), .val (.int p1), .val (.int (p1 &&& (3 : Int32))), .val (.int (1 : Int32)), .val (.ref w_REQUEST), .unset] [(.int (1 : Int32)), (.int (1 : Int32))])) _
      refine XS.icmpNo X3.here hx rfl (hb hby at_33) rfl (teq (by decide : (1 : Int32) = (1 : Int32))).2 ?_
      show Steps p.tables e below (T3.setTop (mkF m 36 #[.val (.int p0), .val (.int p1), .val (.int (p1 &&& (3 : Int32))), .val (.int (1 : Int32)), .val (.ref w_REQUEST), .unset] [])) _
      refine st23 _ ?_
      show Steps p.tables e below (T23.setTop (mkF m 39 #[.val (.int p0), .val (.int p1), .val (.int (p1 &&& (3 : Int32))), .val (.int (1 : Int32)), .val (.ref w_REQUEST), .unset] [(.ref w_REQUEST)])) _
      refine XS.astore X23.here hx rfl (hb hby at_39) rfl rfl (l' := #[.val (.int p0), .val (.int p1), .val (.int (p1 &&& (3 : Int32))), .val (.int (1 : Int32)), .val (.ref w_REQUEST), .val (.ref w_REQUEST)]) rfl ?_
      show Steps p.tables e below (T23.setTop (mkF m 41 #[.val (.int p0), .val (.int p1), .val (.int (p1 &&& (3 : Int32))), .val (.int (1 : Int32)), .val (.ref w_REQUEST), .val (.ref w_REQUEST)] [])) _
      refine XS.goto X23.here hx rfl (pc0 := 41) (pc' := 60) rfl (hb hby at_41) (by decide) (by decide) ?_
      show Steps p.tables e below (T23.setTop (mkF m 60 #[.val (.int p0), .val (.int p1), .val (.int (p1 &&& (3 : Int32))), .val (.int (1 : Int32)), .val (.ref w_REQUEST), .val (.ref w_REQUEST)] [])) _
      refine XS.aload X23.here hx rfl (hb hby at_60) rfl rfl ?_
      show Steps p.tables e below (T23.setTop (mkF m 62 #[.val (.int p0), .val (.int p1), .val (.int (p1 &&& (3 : Int32))), .val (.int (1 : Int32)), .val (.ref w_REQUEST), .val (.ref w_REQUEST)] [(.ref w_REQUEST)])) _
      refine XS.aload X23.here hx rfl (hb hby at_62) rfl rfl ?_
      show Steps p.tables e below (T23.setTop (mkF m 64 #[.val (.int p0), .val (.int p1), .val (.int (p1 &&& (3 : Int32))), .val (.int (1 : Int32)), .val (.ref w_REQUEST), .val (.ref w_REQUEST)] [(.ref w_REQUEST), (.ref w_REQUEST)])) _
      refine Jvm.RoadKit.acmp (g := (mkF m 64 #[.val (.int p0), .val (.int p1), .val (.int (p1 &&& (3 : Int32))), .val (.int (1 : Int32)), .val (.ref w_REQUEST), .val (.ref w_REQUEST)] [(.ref w_REQUEST), (.ref w_REQUEST)])) X23 hx rfl rfl rfl (pc0 := 64) (pc' := 67) (same := true) rfl (hb hby at_64) rfl (decide_eq_true rfl) (by decide) (by decide) ?_
      show Steps p.tables e below (T23.setTop (mkF m 67 #[.val (.int p0), .val (.int p1), .val (.int (p1 &&& (3 : Int32))), .val (.int (1 : Int32)), .val (.ref w_REQUEST), .val (.ref w_REQUEST)] [])) _
      refine XS.iconst X23.here hx rfl (hb hby at_67) ?_
      show Steps p.tables e below (T23.setTop (mkF m 68 #[.val (.int p0), .val (.int p1), .val (.int (p1 &&& (3 : Int32))), .val (.int (1 : Int32)), .val (.ref w_REQUEST), .val (.ref w_REQUEST)] [(.int (1 : Int32))])) _
      refine XS.goto X23.here hx rfl (pc0 := 68) (pc' := 72) rfl (hb hby at_68) (by decide) (by decide) ?_
      exact kt
    obtain ⟨fs, hr, hrun, hended, hW, hsame⟩ := X23.leave (v := some (.int (1 : Int32))) (fun h => by rw [Bd.returns] at h; cases h)
    refine ⟨_, _, pre24 _ ?_, hrun, hended, _, _, rfl, ?_, ⟨_, rfl⟩, hW, hsame.mono (by decide) (by decide)⟩
    · show Steps p.tables e below (T23.setTop (mkF m 72 #[.val (.int p0), .val (.int p1), .val (.int (p1 &&& (3 : Int32))), .val (.int (1 : Int32)), .val (.ref w_REQUEST), .val (.ref w_REQUEST)] [(.int (1 : Int32))])) _
      exact retN X23 hx (t := .boolean) Bd.returns (by simp) (hb hby at_72) hr
    · show Q_rm0 Z p0 p1 w__VALUES w_ONE_WAY w_REQUEST k__VALUES h0 n0 _ T23.heap _
      rw [e23]
      exact ⟨rfl, N3⟩
  · have pre26 : ∀ t, Steps p.tables e below (s₁.setTop (mkF m 15 #[.val (.int p0), .val (.int p1), .val (.int (p1 &&& (3 : Int32))), .unset, .unset, .unset] [(.int (1 : Int32)), (.int (p1 &&& (3 : Int32)))])) t → Steps p.tables e below (s₁.setTop (entryFrame m #[(.int p0), (.int p1)] maxLocals)) t := by
      intro t kt
      refine pre2 t ?_
      show Steps p.tables e below (s₁.setTop (mkF m 5 #[.val (.int p0), .val (.int p1), .val (.int (p1 &&& (3 : Int32))), .unset, .unset, .unset] [(.int (p1 &&& (3 : Int32)))])) _
      refine XS.ifYes X0.here hx rfl (pc0 := 5) (pc' := 13) rfl (hb hby at_5) rfl ((if0 _ _).trans (feq hc5_1).2) (by decide) (by decide) ?_
      show Steps p.tables e below (s₁.setTop (mkF m 13 #[.val (.int p0), .val (.int p1), .val (.int (p1 &&& (3 : Int32))), .unset, .unset, .unset] [])) _
      refine XS.iloadN X0.here hx rfl (hb hby at_13) rfl ?_
      show Steps p.tables e below (s₁.setTop (mkF m 14 #[.val (.int p0), .val (.int p1), .val (.int (p1 &&& (3 : Int32))), .unset, .unset, .unset] [(.int (p1 &&& (3 : Int32)))])) _
      refine XS.iconst X0.here hx rfl (hb hby at_14) ?_
      exact kt
    by_cases hc15_25 : (p1 &&& (3 : Int32)) = (1 : Int32)
    · obtain ⟨_, _, ⟨T27, L27, k27, n27⟩, -, X27, ⟨Lc27, hQ27, l27, y27, z27⟩, st27⟩ := Jvm.LawKit.callS X0 hx (y := (⟨"com/example/wend/wend/MessageKind", "of", "(I)Lcom/example/wend/wend/MessageKind;"⟩ : MethodName)) hown (mvT hZ (hw _ (List.mem_of_getElem? (i := 0) rfl))) (mvT hZ (hw _ (List.mem_of_getElem? (i := 1) rfl))) (mvT hZ (hw _ (List.mem_of_getElem? (i := 2) rfl))) (mvT hZ (hw _ (List.mem_of_getElem? (i := 3) rfl))) (by decide) (backOf (W := 0) (rm_of_3 l Z a0 hw [] w__VALUES w_ONE_WAY w_REQUEST k__VALUES h0 n0 O0  S__VALUES V__VALUES E__VALUES F_code_REQUEST F_code_ONE_WAY) hZ (hw _ (List.mem_of_getElem? (i := 3) rfl)) (hw _ (List.mem_of_getElem? (i := 2) rfl)) (by decide) (by decide)) (g := (mkF m 26 #[.val (.int p0), .val (.int p1), .val (.int (p1 &&& (3 : Int32))), .val (.int (2 : Int32)), .unset, .unset] [(.int (2 : Int32))])) rfl (by rw [hml]; rfl) (argsL := [(.int (2 : Int32))]) (rest := []) (lenOf pd__I_Lcom_example_wend_wend_MessageKind_ rfl) rfl (by show 2 * 0 + _ ≤ _; exact Nat.le_of_eq rfl) (hb hby at_26) (fun _ _ => ⟨rfl, e0, (by decide : 0 + 1 ≤ _), (by decide : 0 + 2 ≤ _)⟩)
      dsimp only [Pt.U, Pt.locs, Pt.cells, Pt.slots] at X27 l27 y27 z27 st27 hQ27
      subst l27 y27 z27
      obtain ⟨rfl, N27q, Kc27⟩ := hQ27
      have N27 := Fr.app N0 N27q
      have O27 := O0.keep Kc27 all0
      obtain ⟨T44, X44, e44, st44⟩ := getS2 X27 hx hZ hown (host := "") (Or.inl (hw _ (List.mem_of_getElem? (i := 23) rfl))) Via.refl rfl (S_ONE_WAY.ext O27.2) (g := (mkF m 49 #[.val (.int p0), .val (.int p1), .val (.int (p1 &&& (3 : Int32))), .val (.int (2 : Int32)), .val (.ref w_ONE_WAY), .unset] [])) rfl (hb hby at_49)
      have pre45 : ∀ t, Steps p.tables e below (T44.setTop (mkF m 72 #[.val (.int p0), .val (.int p1), .val (.int (p1 &&& (3 : Int32))), .val (.int (2 : Int32)), .val (.ref w_ONE_WAY), .val (.ref w_ONE_WAY)] [(.int (1 : Int32))])) t → Steps p.tables e below (s₁.setTop (entryFrame m #[(.int p0), (.int p1)] maxLocals)) t := by
        intro t kt
        refine pre26 t ?_
        show Steps p.tables e below (s₁.setTop (mkF m 15 #[.val (.int p0), .val (.int p1), .val (.int (p1 &&& (3 : Int32))), .unset, .unset, .unset] [(.int (1 : Int32)), (.int (p1 &&& (3 : Int32)))])) _
        refine XS.icmpNo X0.here hx rfl (hb hby at_15) rfl (teq hc15_25).2 ?_
        show Steps p.tables e below (s₁.setTop (mkF m 18 #[.val (.int p0), .val (.int p1), .val (.int (p1 &&& (3 : Int32))), .unset, .unset, .unset] [])) _
        refine XS.iconst X0.here hx rfl (hb hby at_18) ?_
        show Steps p.tables e below (s₁.setTop (mkF m 19 #[.val (.int p0), .val (.int p1), .val (.int (p1 &&& (3 : Int32))), .unset, .unset, .unset] [(.int (2 : Int32))])) _
        refine XS.istoreN X0.here hx rfl (hb hby at_19) rfl (l' := #[.val (.int p0), .val (.int p1), .val (.int (p1 &&& (3 : Int32))), .val (.int (2 : Int32)), .unset, .unset]) rfl ?_
        show Steps p.tables e below (s₁.setTop (mkF m 20 #[.val (.int p0), .val (.int p1), .val (.int (p1 &&& (3 : Int32))), .val (.int (2 : Int32)), .unset, .unset] [])) _
        refine XS.goto X0.here hx rfl (pc0 := 20) (pc' := 25) rfl (hb hby at_20) (by decide) (by decide) ?_
        show Steps p.tables e below (s₁.setTop (mkF m 25 #[.val (.int p0), .val (.int p1), .val (.int (p1 &&& (3 : Int32))), .val (.int (2 : Int32)), .unset, .unset] [])) _
        refine XS.iloadN X0.here hx rfl (hb hby at_25) rfl ?_
        show Steps p.tables e below (s₁.setTop (mkF m 26 #[.val (.int p0), .val (.int p1), .val (.int (p1 &&& (3 : Int32))), .val (.int (2 : Int32)), .unset, .unset] [(.int (2 : Int32))])) _
        refine st27 _ ?_
        show Steps p.tables e below (T27.setTop (mkF m 29 #[.val (.int p0), .val (.int p1), .val (.int (p1 &&& (3 : Int32))), .val (.int (2 : Int32)), .unset, .unset] [(.ref w_ONE_WAY)])) _
        refine XS.astore X27.here hx rfl (hb hby at_29) rfl rfl (l' := #[.val (.int p0), .val (.int p1), .val (.int (p1 &&& (3 : Int32))), .val (.int (2 : Int32)), .val (.ref w_ONE_WAY), .unset]) rfl ?_
        show Steps p.tables e below (T27.setTop (mkF m 31 #[.val (.int p0), .val (.int p1), .val (.int (p1 &&& (3 : Int32))), .val (.int (2 : Int32)), .val (.ref w_ONE_WAY), .unset] [])) _
        refine XS.iloadN X27.here hx rfl (hb hby at_31) rfl ?_
        show Steps p.tables e below (T27.setTop (mkF m 32 #[.val (.int p0), .val (.int p1), .val (.int (p1 &&& (3 : Int32))), .val (.int (2 : Int32)), .val (.ref w_ONE_WAY), .unset] [(.int (2 : Int32))])) _
        refine XS.iconst X27.here hx rfl (hb hby at_32) ?_
        show Steps p.tables e below (T27.setTop (mkF m 33 #[.val (.int p0), .val (.int p1), .val (.int (p1 &&& (3 : Int32))), .val (.int (2 : Int32)), .val (.ref w_ONE_WAY), .unset] [(.int (1 : Int32)), (.int (2 : Int32))])) _
        refine XS.icmpYes X27.here hx rfl (pc0 := 33) (pc' := 44) rfl (hb hby at_33) rfl (feq (by decide : ¬ ((2 : Int32) = (1 : Int32)))).2 (by decide) (by decide) ?_
        show Steps p.tables e below (T27.setTop (mkF m 44 #[.val (.int p0), .val (.int p1), .val (.int (p1 &&& (3 : Int32))), .val (.int (2 : Int32)), .val (.ref w_ONE_WAY), .unset] [])) _
        refine XS.iloadN X27.here hx rfl (hb hby at_44) rfl ?_
        show Steps p.tables e below (T27.setTop (mkF m 45 #[.val (.int p0), .val (.int p1), .val (.int (p1 &&& (3 : Int32))), .val (.int (2 : Int32)), .val (.ref w_ONE_WAY), .unset] [(.int (2 : Int32))])) _
        refine XS.iconst X27.here hx rfl (hb hby at_45) ?_
        show Steps p.tables e below (T27.setTop (mkF m 46 #[.val (.int p0), .val (.int p1), .val (.int (p1 &&& (3 : Int32))), .val (.int (2 : Int32)), .val (.ref w_ONE_WAY), .unset] [(.int (2 : Int32)), (.int (2 : Int32))])) _
        refine XS.icmpNo X27.here hx rfl (hb hby at_46) rfl (teq (by decide : (2 : Int32) = (2 : Int32))).2 ?_
        show Steps p.tables e below (T27.setTop (mkF m 49 #[.val (.int p0), .val (.int p1), .val (.int (p1 &&& (3 : Int32))), .val (.int (2 : Int32)), .val (.ref w_ONE_WAY), .unset] [])) _
        refine st44 _ ?_
        show Steps p.tables e below (T44.setTop (mkF m 52 #[.val (.int p0), .val (.int p1), .val (.int (p1 &&& (3 : Int32))), .val (.int (2 : Int32)), .val (.ref w_ONE_WAY), .unset] [(.ref w_ONE_WAY)])) _
        refine XS.astore X44.here hx rfl (hb hby at_52) rfl rfl (l' := #[.val (.int p0), .val (.int p1), .val (.int (p1 &&& (3 : Int32))), .val (.int (2 : Int32)), .val (.ref w_ONE_WAY), .val (.ref w_ONE_WAY)]) rfl ?_
        show Steps p.tables e below (T44.setTop (mkF m 54 #[.val (.int p0), .val (.int p1), .val (.int (p1 &&& (3 : Int32))), .val (.int (2 : Int32)), .val (.ref w_ONE_WAY), .val (.ref w_ONE_WAY)] [])) _
        refine XS.goto X44.here hx rfl (pc0 := 54) (pc' := 60) rfl (hb hby at_54) (by decide) (by decide) ?_
        show Steps p.tables e below (T44.setTop (mkF m 60 #[.val (.int p0), .val (.int p1), .val (.int (p1 &&& (3 : Int32))), .val (.int (2 : Int32)), .val (.ref w_ONE_WAY), .val (.ref w_ONE_WAY)] [])) _
        refine XS.aload X44.here hx rfl (hb hby at_60) rfl rfl ?_
        show Steps p.tables e below (T44.setTop (mkF m 62 #[.val (.int p0), .val (.int p1), .val (.int (p1 &&& (3 : Int32))), .val (.int (2 : Int32)), .val (.ref w_ONE_WAY), .val (.ref w_ONE_WAY)] [(.ref w_ONE_WAY)])) _
        refine XS.aload X44.here hx rfl (hb hby at_62) rfl rfl ?_
        show Steps p.tables e below (T44.setTop (mkF m 64 #[.val (.int p0), .val (.int p1), .val (.int (p1 &&& (3 : Int32))), .val (.int (2 : Int32)), .val (.ref w_ONE_WAY), .val (.ref w_ONE_WAY)] [(.ref w_ONE_WAY), (.ref w_ONE_WAY)])) _
        refine Jvm.RoadKit.acmp (g := (mkF m 64 #[.val (.int p0), .val (.int p1), .val (.int (p1 &&& (3 : Int32))), .val (.int (2 : Int32)), .val (.ref w_ONE_WAY), .val (.ref w_ONE_WAY)] [(.ref w_ONE_WAY), (.ref w_ONE_WAY)])) X44 hx rfl rfl rfl (pc0 := 64) (pc' := 67) (same := true) rfl (hb hby at_64) rfl (decide_eq_true rfl) (by decide) (by decide) ?_
        show Steps p.tables e below (T44.setTop (mkF m 67 #[.val (.int p0), .val (.int p1), .val (.int (p1 &&& (3 : Int32))), .val (.int (2 : Int32)), .val (.ref w_ONE_WAY), .val (.ref w_ONE_WAY)] [])) _
        refine XS.iconst X44.here hx rfl (hb hby at_67) ?_
        show Steps p.tables e below (T44.setTop (mkF m 68 #[.val (.int p0), .val (.int p1), .val (.int (p1 &&& (3 : Int32))), .val (.int (2 : Int32)), .val (.ref w_ONE_WAY), .val (.ref w_ONE_WAY)] [(.int (1 : Int32))])) _
        refine XS.goto X44.here hx rfl (pc0 := 68) (pc' := 72) rfl (hb hby at_68) (by decide) (by decide) ?_
        exact kt
      obtain ⟨fs, hr, hrun, hended, hW, hsame⟩ := X44.leave (v := some (.int (1 : Int32))) (fun h => by rw [Bd.returns] at h; cases h)
      refine ⟨_, _, pre45 _ ?_, hrun, hended, _, _, rfl, ?_, ⟨_, rfl⟩, hW, hsame.mono (by decide) (by decide)⟩
      · show Steps p.tables e below (T44.setTop (mkF m 72 #[.val (.int p0), .val (.int p1), .val (.int (p1 &&& (3 : Int32))), .val (.int (2 : Int32)), .val (.ref w_ONE_WAY), .val (.ref w_ONE_WAY)] [(.int (1 : Int32))])) _
        exact retN X44 hx (t := .boolean) Bd.returns (by simp) (hb hby at_72) hr
      · show Q_rm0 Z p0 p1 w__VALUES w_ONE_WAY w_REQUEST k__VALUES h0 n0 _ T44.heap _
        rw [e44]
        exact ⟨rfl, N27⟩
    · have pre47 : ∀ t, Steps p.tables e below (s₁.setTop (mkF m 26 #[.val (.int p0), .val (.int p1), .val (.int (p1 &&& (3 : Int32))), .val (.int p0), .unset, .unset] [(.int p0)])) t → Steps p.tables e below (s₁.setTop (entryFrame m #[(.int p0), (.int p1)] maxLocals)) t := by
        intro t kt
        refine pre26 t ?_
        show Steps p.tables e below (s₁.setTop (mkF m 15 #[.val (.int p0), .val (.int p1), .val (.int (p1 &&& (3 : Int32))), .unset, .unset, .unset] [(.int (1 : Int32)), (.int (p1 &&& (3 : Int32)))])) _
        refine XS.icmpYes X0.here hx rfl (pc0 := 15) (pc' := 23) rfl (hb hby at_15) rfl (feq hc15_25).2 (by decide) (by decide) ?_
        show Steps p.tables e below (s₁.setTop (mkF m 23 #[.val (.int p0), .val (.int p1), .val (.int (p1 &&& (3 : Int32))), .unset, .unset, .unset] [])) _
        refine XS.iloadN X0.here hx rfl (hb hby at_23) rfl ?_
        show Steps p.tables e below (s₁.setTop (mkF m 24 #[.val (.int p0), .val (.int p1), .val (.int (p1 &&& (3 : Int32))), .unset, .unset, .unset] [(.int p0)])) _
        refine XS.istoreN X0.here hx rfl (hb hby at_24) rfl (l' := #[.val (.int p0), .val (.int p1), .val (.int (p1 &&& (3 : Int32))), .val (.int p0), .unset, .unset]) rfl ?_
        show Steps p.tables e below (s₁.setTop (mkF m 25 #[.val (.int p0), .val (.int p1), .val (.int (p1 &&& (3 : Int32))), .val (.int p0), .unset, .unset] [])) _
        refine XS.iloadN X0.here hx rfl (hb hby at_25) rfl ?_
        exact kt
      by_cases hv46 : p0 = (1 : Int32)
      · obtain ⟨_, _, ⟨T48, L48, k48, n48⟩, -, X48, ⟨Lc48, hQ48, l48, y48, z48⟩, st48⟩ := Jvm.LawKit.callS X0 hx (y := (⟨"com/example/wend/wend/MessageKind", "of", "(I)Lcom/example/wend/wend/MessageKind;"⟩ : MethodName)) hown (mvT hZ (hw _ (List.mem_of_getElem? (i := 0) rfl))) (mvT hZ (hw _ (List.mem_of_getElem? (i := 1) rfl))) (mvT hZ (hw _ (List.mem_of_getElem? (i := 2) rfl))) (mvT hZ (hw _ (List.mem_of_getElem? (i := 3) rfl))) (by decide) (backOf (W := 0) (rm_of_4 l Z a0 hw [] p0 w__VALUES w_ONE_WAY w_REQUEST k__VALUES h0 n0 O0 hv46 (hv46).symm (by rw [hv46]; decide : ¬ (p0 = (2 : Int32))) (Ne.symm (by rw [hv46]; decide : ¬ (p0 = (2 : Int32)))) S__VALUES V__VALUES E__VALUES F_code_REQUEST F_code_ONE_WAY) hZ (hw _ (List.mem_of_getElem? (i := 3) rfl)) (hw _ (List.mem_of_getElem? (i := 2) rfl)) (by decide) (by decide)) (g := (mkF m 26 #[.val (.int p0), .val (.int p1), .val (.int (p1 &&& (3 : Int32))), .val (.int p0), .unset, .unset] [(.int p0)])) rfl (by rw [hml]; rfl) (argsL := [(.int p0)]) (rest := []) (lenOf pd__I_Lcom_example_wend_wend_MessageKind_ rfl) rfl (by show 2 * 0 + _ ≤ _; exact Nat.le_of_eq rfl) (hb hby at_26) (fun _ _ => ⟨rfl, e0, (by decide : 0 + 1 ≤ _), (by decide : 0 + 2 ≤ _)⟩)
        dsimp only [Pt.U, Pt.locs, Pt.cells, Pt.slots] at X48 l48 y48 z48 st48 hQ48
        subst l48 y48 z48
        obtain ⟨rfl, N48q, Kc48⟩ := hQ48
        have N48 := Fr.app N0 N48q
        have O48 := O0.keep Kc48 all0
        obtain ⟨T61, X61, e61, st61⟩ := getS2 X48 hx hZ hown (host := "") (Or.inl (hw _ (List.mem_of_getElem? (i := 24) rfl))) Via.refl rfl (S_REQUEST.ext O48.2) (g := (mkF m 36 #[.val (.int p0), .val (.int p1), .val (.int (p1 &&& (3 : Int32))), .val (.int p0), .val (.ref w_REQUEST), .unset] [])) rfl (hb hby at_36)
        have pre62 : ∀ t, Steps p.tables e below (T61.setTop (mkF m 72 #[.val (.int p0), .val (.int p1), .val (.int (p1 &&& (3 : Int32))), .val (.int p0), .val (.ref w_REQUEST), .val (.ref w_REQUEST)] [(.int (1 : Int32))])) t → Steps p.tables e below (s₁.setTop (entryFrame m #[(.int p0), (.int p1)] maxLocals)) t := by
          intro t kt
          refine pre47 t ?_
          show Steps p.tables e below (s₁.setTop (mkF m 26 #[.val (.int p0), .val (.int p1), .val (.int (p1 &&& (3 : Int32))), .val (.int p0), .unset, .unset] [(.int p0)])) _
          refine st48 _ ?_
          show Steps p.tables e below (T48.setTop (mkF m 29 #[.val (.int p0), .val (.int p1), .val (.int (p1 &&& (3 : Int32))), .val (.int p0), .unset, .unset] [(.ref w_REQUEST)])) _
          refine XS.astore X48.here hx rfl (hb hby at_29) rfl rfl (l' := #[.val (.int p0), .val (.int p1), .val (.int (p1 &&& (3 : Int32))), .val (.int p0), .val (.ref w_REQUEST), .unset]) rfl ?_
          show Steps p.tables e below (T48.setTop (mkF m 31 #[.val (.int p0), .val (.int p1), .val (.int (p1 &&& (3 : Int32))), .val (.int p0), .val (.ref w_REQUEST), .unset] [])) _
          refine XS.iloadN X48.here hx rfl (hb hby at_31) rfl ?_
          show Steps p.tables e below (T48.setTop (mkF m 32 #[.val (.int p0), .val (.int p1), .val (.int (p1 &&& (3 : Int32))), .val (.int p0), .val (.ref w_REQUEST), .unset] [(.int p0)])) _
          refine XS.iconst X48.here hx rfl (hb hby at_32) ?_
          show Steps p.tables e below (T48.setTop (mkF m 33 #[.val (.int p0), .val (.int p1), .val (.int (p1 &&& (3 : Int32))), .val (.int p0), .val (.ref w_REQUEST), .unset] [(.int (1 : Int32)), (.int p0)])) _
          refine XS.icmpNo X48.here hx rfl (hb hby at_33) rfl (teq hv46).2 ?_
          show Steps p.tables e below (T48.setTop (mkF m 36 #[.val (.int p0), .val (.int p1), .val (.int (p1 &&& (3 : Int32))), .val (.int p0), .val (.ref w_REQUEST), .unset] [])) _
          refine st61 _ ?_
          show Steps p.tables e below (T61.setTop (mkF m 39 #[.val (.int p0), .val (.int p1), .val (.int (p1 &&& (3 : Int32))), .val (.int p0), .val (.ref w_REQUEST), .unset] [(.ref w_REQUEST)])) _
          refine XS.astore X61.here hx rfl (hb hby at_39) rfl rfl (l' := #[.val (.int p0), .val (.int p1), .val (.int (p1 &&& (3 : Int32))), .val (.int p0), .val (.ref w_REQUEST), .val (.ref w_REQUEST)]) rfl ?_
          show Steps p.tables e below (T61.setTop (mkF m 41 #[.val (.int p0), .val (.int p1), .val (.int (p1 &&& (3 : Int32))), .val (.int p0), .val (.ref w_REQUEST), .val (.ref w_REQUEST)] [])) _
          refine XS.goto X61.here hx rfl (pc0 := 41) (pc' := 60) rfl (hb hby at_41) (by decide) (by decide) ?_
          show Steps p.tables e below (T61.setTop (mkF m 60 #[.val (.int p0), .val (.int p1), .val (.int (p1 &&& (3 : Int32))), .val (.int p0), .val (.ref w_REQUEST), .val (.ref w_REQUEST)] [])) _
          refine XS.aload X61.here hx rfl (hb hby at_60) rfl rfl ?_
          show Steps p.tables e below (T61.setTop (mkF m 62 #[.val (.int p0), .val (.int p1), .val (.int (p1 &&& (3 : Int32))), .val (.int p0), .val (.ref w_REQUEST), .val (.ref w_REQUEST)] [(.ref w_REQUEST)])) _
          refine XS.aload X61.here hx rfl (hb hby at_62) rfl rfl ?_
          show Steps p.tables e below (T61.setTop (mkF m 64 #[.val (.int p0), .val (.int p1), .val (.int (p1 &&& (3 : Int32))), .val (.int p0), .val (.ref w_REQUEST), .val (.ref w_REQUEST)] [(.ref w_REQUEST), (.ref w_REQUEST)])) _
          refine Jvm.RoadKit.acmp (g := (mkF m 64 #[.val (.int p0), .val (.int p1), .val (.int (p1 &&& (3 : Int32))), .val (.int p0), .val (.ref w_REQUEST), .val (.ref w_REQUEST)] [(.ref w_REQUEST), (.ref w_REQUEST)])) X61 hx rfl rfl rfl (pc0 := 64) (pc' := 67) (same := true) rfl (hb hby at_64) rfl (decide_eq_true rfl) (by decide) (by decide) ?_
          show Steps p.tables e below (T61.setTop (mkF m 67 #[.val (.int p0), .val (.int p1), .val (.int (p1 &&& (3 : Int32))), .val (.int p0), .val (.ref w_REQUEST), .val (.ref w_REQUEST)] [])) _
          refine XS.iconst X61.here hx rfl (hb hby at_67) ?_
          show Steps p.tables e below (T61.setTop (mkF m 68 #[.val (.int p0), .val (.int p1), .val (.int (p1 &&& (3 : Int32))), .val (.int p0), .val (.ref w_REQUEST), .val (.ref w_REQUEST)] [(.int (1 : Int32))])) _
          refine XS.goto X61.here hx rfl (pc0 := 68) (pc' := 72) rfl (hb hby at_68) (by decide) (by decide) ?_
          exact kt
        obtain ⟨fs, hr, hrun, hended, hW, hsame⟩ := X61.leave (v := some (.int (1 : Int32))) (fun h => by rw [Bd.returns] at h; cases h)
        refine ⟨_, _, pre62 _ ?_, hrun, hended, _, _, rfl, ?_, ⟨_, rfl⟩, hW, hsame.mono (by decide) (by decide)⟩
        · show Steps p.tables e below (T61.setTop (mkF m 72 #[.val (.int p0), .val (.int p1), .val (.int (p1 &&& (3 : Int32))), .val (.int p0), .val (.ref w_REQUEST), .val (.ref w_REQUEST)] [(.int (1 : Int32))])) _
          exact retN X61 hx (t := .boolean) Bd.returns (by simp) (hb hby at_72) hr
        · show Q_rm0 Z p0 p1 w__VALUES w_ONE_WAY w_REQUEST k__VALUES h0 n0 _ T61.heap _
          rw [e61]
          exact ⟨rfl, N48⟩
      · by_cases hv63 : p0 = (2 : Int32)
        · obtain ⟨_, _, ⟨T64, L64, k64, n64⟩, -, X64, ⟨Lc64, hQ64, l64, y64, z64⟩, st64⟩ := Jvm.LawKit.callS X0 hx (y := (⟨"com/example/wend/wend/MessageKind", "of", "(I)Lcom/example/wend/wend/MessageKind;"⟩ : MethodName)) hown (mvT hZ (hw _ (List.mem_of_getElem? (i := 0) rfl))) (mvT hZ (hw _ (List.mem_of_getElem? (i := 1) rfl))) (mvT hZ (hw _ (List.mem_of_getElem? (i := 2) rfl))) (mvT hZ (hw _ (List.mem_of_getElem? (i := 3) rfl))) (by decide) (backOf (W := 0) (rm_of_5 l Z a0 hw [] p0 w__VALUES w_ONE_WAY w_REQUEST k__VALUES h0 n0 O0 (by rw [hv63]; decide : ¬ (p0 = (1 : Int32))) (Ne.symm (by rw [hv63]; decide : ¬ (p0 = (1 : Int32)))) hv63 (hv63).symm S__VALUES V__VALUES E__VALUES F_code_REQUEST F_code_ONE_WAY) hZ (hw _ (List.mem_of_getElem? (i := 3) rfl)) (hw _ (List.mem_of_getElem? (i := 2) rfl)) (by decide) (by decide)) (g := (mkF m 26 #[.val (.int p0), .val (.int p1), .val (.int (p1 &&& (3 : Int32))), .val (.int p0), .unset, .unset] [(.int p0)])) rfl (by rw [hml]; rfl) (argsL := [(.int p0)]) (rest := []) (lenOf pd__I_Lcom_example_wend_wend_MessageKind_ rfl) rfl (by show 2 * 0 + _ ≤ _; exact Nat.le_of_eq rfl) (hb hby at_26) (fun _ _ => ⟨rfl, e0, (by decide : 0 + 1 ≤ _), (by decide : 0 + 2 ≤ _)⟩)
          dsimp only [Pt.U, Pt.locs, Pt.cells, Pt.slots] at X64 l64 y64 z64 st64 hQ64
          subst l64 y64 z64
          obtain ⟨rfl, N64q, Kc64⟩ := hQ64
          have N64 := Fr.app N0 N64q
          have O64 := O0.keep Kc64 all0
          obtain ⟨T77, X77, e77, st77⟩ := getS2 X64 hx hZ hown (host := "") (Or.inl (hw _ (List.mem_of_getElem? (i := 23) rfl))) Via.refl rfl (S_ONE_WAY.ext O64.2) (g := (mkF m 49 #[.val (.int p0), .val (.int p1), .val (.int (p1 &&& (3 : Int32))), .val (.int p0), .val (.ref w_ONE_WAY), .unset] [])) rfl (hb hby at_49)
          have pre78 : ∀ t, Steps p.tables e below (T77.setTop (mkF m 72 #[.val (.int p0), .val (.int p1), .val (.int (p1 &&& (3 : Int32))), .val (.int p0), .val (.ref w_ONE_WAY), .val (.ref w_ONE_WAY)] [(.int (1 : Int32))])) t → Steps p.tables e below (s₁.setTop (entryFrame m #[(.int p0), (.int p1)] maxLocals)) t := by
            intro t kt
            refine pre47 t ?_
            show Steps p.tables e below (s₁.setTop (mkF m 26 #[.val (.int p0), .val (.int p1), .val (.int (p1 &&& (3 : Int32))), .val (.int p0), .unset, .unset] [(.int p0)])) _
            refine st64 _ ?_
            show Steps p.tables e below (T64.setTop (mkF m 29 #[.val (.int p0), .val (.int p1), .val (.int (p1 &&& (3 : Int32))), .val (.int p0), .unset, .unset] [(.ref w_ONE_WAY)])) _
            refine XS.astore X64.here hx rfl (hb hby at_29) rfl rfl (l' := #[.val (.int p0), .val (.int p1), .val (.int (p1 &&& (3 : Int32))), .val (.int p0), .val (.ref w_ONE_WAY), .unset]) rfl ?_
            show Steps p.tables e below (T64.setTop (mkF m 31 #[.val (.int p0), .val (.int p1), .val (.int (p1 &&& (3 : Int32))), .val (.int p0), .val (.ref w_ONE_WAY), .unset] [])) _
            refine XS.iloadN X64.here hx rfl (hb hby at_31) rfl ?_
            show Steps p.tables e below (T64.setTop (mkF m 32 #[.val (.int p0), .val (.int p1), .val (.int (p1 &&& (3 : Int32))), .val (.int p0), .val (.ref w_ONE_WAY), .unset] [(.int p0)])) _
            refine XS.iconst X64.here hx rfl (hb hby at_32) ?_
            show Steps p.tables e below (T64.setTop (mkF m 33 #[.val (.int p0), .val (.int p1), .val (.int (p1 &&& (3 : Int32))), .val (.int p0), .val (.ref w_ONE_WAY), .unset] [(.int (1 : Int32)), (.int p0)])) _
            refine XS.icmpYes X64.here hx rfl (pc0 := 33) (pc' := 44) rfl (hb hby at_33) rfl (feq (by rw [hv63]; decide : ¬ (p0 = (1 : Int32)))).2 (by decide) (by decide) ?_
            show Steps p.tables e below (T64.setTop (mkF m 44 #[.val (.int p0), .val (.int p1), .val (.int (p1 &&& (3 : Int32))), .val (.int p0), .val (.ref w_ONE_WAY), .unset] [])) _
            refine XS.iloadN X64.here hx rfl (hb hby at_44) rfl ?_
            show Steps p.tables e below (T64.setTop (mkF m 45 #[.val (.int p0), .val (.int p1), .val (.int (p1 &&& (3 : Int32))), .val (.int p0), .val (.ref w_ONE_WAY), .unset] [(.int p0)])) _
            refine XS.iconst X64.here hx rfl (hb hby at_45) ?_
            show Steps p.tables e below (T64.setTop (mkF m 46 #[.val (.int p0), .val (.int p1), .val (.int (p1 &&& (3 : Int32))), .val (.int p0), .val (.ref w_ONE_WAY), .unset] [(.int (2 : Int32)), (.int p0)])) _
            refine XS.icmpNo X64.here hx rfl (hb hby at_46) rfl (teq hv63).2 ?_
            show Steps p.tables e below (T64.setTop (mkF m 49 #[.val (.int p0), .val (.int p1), .val (.int (p1 &&& (3 : Int32))), .val (.int p0), .val (.ref w_ONE_WAY), .unset] [])) _
            refine st77 _ ?_
            show Steps p.tables e below (T77.setTop (mkF m 52 #[.val (.int p0), .val (.int p1), .val (.int (p1 &&& (3 : Int32))), .val (.int p0), .val (.ref w_ONE_WAY), .unset] [(.ref w_ONE_WAY)])) _
            refine XS.astore X77.here hx rfl (hb hby at_52) rfl rfl (l' := #[.val (.int p0), .val (.int p1), .val (.int (p1 &&& (3 : Int32))), .val (.int p0), .val (.ref w_ONE_WAY), .val (.ref w_ONE_WAY)]) rfl ?_
            show Steps p.tables e below (T77.setTop (mkF m 54 #[.val (.int p0), .val (.int p1), .val (.int (p1 &&& (3 : Int32))), .val (.int p0), .val (.ref w_ONE_WAY), .val (.ref w_ONE_WAY)] [])) _
            refine XS.goto X77.here hx rfl (pc0 := 54) (pc' := 60) rfl (hb hby at_54) (by decide) (by decide) ?_
            show Steps p.tables e below (T77.setTop (mkF m 60 #[.val (.int p0), .val (.int p1), .val (.int (p1 &&& (3 : Int32))), .val (.int p0), .val (.ref w_ONE_WAY), .val (.ref w_ONE_WAY)] [])) _
            refine XS.aload X77.here hx rfl (hb hby at_60) rfl rfl ?_
            show Steps p.tables e below (T77.setTop (mkF m 62 #[.val (.int p0), .val (.int p1), .val (.int (p1 &&& (3 : Int32))), .val (.int p0), .val (.ref w_ONE_WAY), .val (.ref w_ONE_WAY)] [(.ref w_ONE_WAY)])) _
            refine XS.aload X77.here hx rfl (hb hby at_62) rfl rfl ?_
            show Steps p.tables e below (T77.setTop (mkF m 64 #[.val (.int p0), .val (.int p1), .val (.int (p1 &&& (3 : Int32))), .val (.int p0), .val (.ref w_ONE_WAY), .val (.ref w_ONE_WAY)] [(.ref w_ONE_WAY), (.ref w_ONE_WAY)])) _
            refine Jvm.RoadKit.acmp (g := (mkF m 64 #[.val (.int p0), .val (.int p1), .val (.int (p1 &&& (3 : Int32))), .val (.int p0), .val (.ref w_ONE_WAY), .val (.ref w_ONE_WAY)] [(.ref w_ONE_WAY), (.ref w_ONE_WAY)])) X77 hx rfl rfl rfl (pc0 := 64) (pc' := 67) (same := true) rfl (hb hby at_64) rfl (decide_eq_true rfl) (by decide) (by decide) ?_
            show Steps p.tables e below (T77.setTop (mkF m 67 #[.val (.int p0), .val (.int p1), .val (.int (p1 &&& (3 : Int32))), .val (.int p0), .val (.ref w_ONE_WAY), .val (.ref w_ONE_WAY)] [])) _
            refine XS.iconst X77.here hx rfl (hb hby at_67) ?_
            show Steps p.tables e below (T77.setTop (mkF m 68 #[.val (.int p0), .val (.int p1), .val (.int (p1 &&& (3 : Int32))), .val (.int p0), .val (.ref w_ONE_WAY), .val (.ref w_ONE_WAY)] [(.int (1 : Int32))])) _
            refine XS.goto X77.here hx rfl (pc0 := 68) (pc' := 72) rfl (hb hby at_68) (by decide) (by decide) ?_
            exact kt
          obtain ⟨fs, hr, hrun, hended, hW, hsame⟩ := X77.leave (v := some (.int (1 : Int32))) (fun h => by rw [Bd.returns] at h; cases h)
          refine ⟨_, _, pre78 _ ?_, hrun, hended, _, _, rfl, ?_, ⟨_, rfl⟩, hW, hsame.mono (by decide) (by decide)⟩
          · show Steps p.tables e below (T77.setTop (mkF m 72 #[.val (.int p0), .val (.int p1), .val (.int (p1 &&& (3 : Int32))), .val (.int p0), .val (.ref w_ONE_WAY), .val (.ref w_ONE_WAY)] [(.int (1 : Int32))])) _
            exact retN X77 hx (t := .boolean) Bd.returns (by simp) (hb hby at_72) hr
          · show Q_rm0 Z p0 p1 w__VALUES w_ONE_WAY w_REQUEST k__VALUES h0 n0 _ T77.heap _
            rw [e77]
            exact ⟨rfl, N64⟩
        · obtain ⟨_, _, ⟨T79, L79, k79, n79⟩, -, X79, ⟨Lc79, hQ79, l79, y79, z79⟩, st79⟩ := Jvm.LawKit.callS X0 hx (y := (⟨"com/example/wend/wend/MessageKind", "of", "(I)Lcom/example/wend/wend/MessageKind;"⟩ : MethodName)) hown (mvT hZ (hw _ (List.mem_of_getElem? (i := 0) rfl))) (mvT hZ (hw _ (List.mem_of_getElem? (i := 1) rfl))) (mvT hZ (hw _ (List.mem_of_getElem? (i := 2) rfl))) (mvT hZ (hw _ (List.mem_of_getElem? (i := 3) rfl))) (by decide) (backOf (W := 0) (rm_of_6 l Z a0 hw [] p0 w__VALUES w_ONE_WAY w_REQUEST k__VALUES h0 n0 O0 hv46 (Ne.symm hv46) hv63 (Ne.symm hv63) S__VALUES V__VALUES E__VALUES F_code_REQUEST F_code_ONE_WAY) hZ (hw _ (List.mem_of_getElem? (i := 3) rfl)) (hw _ (List.mem_of_getElem? (i := 2) rfl)) (by decide) (by decide)) (g := (mkF m 26 #[.val (.int p0), .val (.int p1), .val (.int (p1 &&& (3 : Int32))), .val (.int p0), .unset, .unset] [(.int p0)])) rfl (by rw [hml]; rfl) (argsL := [(.int p0)]) (rest := []) (lenOf pd__I_Lcom_example_wend_wend_MessageKind_ rfl) rfl (by show 2 * 0 + _ ≤ _; exact Nat.le_of_eq rfl) (hb hby at_26) (fun _ _ => ⟨rfl, e0, (by decide : 0 + 1 ≤ _), (by decide : 0 + 2 ≤ _)⟩)
          dsimp only [Pt.U, Pt.locs, Pt.cells, Pt.slots] at X79 l79 y79 z79 st79 hQ79
          subst l79 y79 z79
          obtain ⟨rfl, N79q, Kc79⟩ := hQ79
          have N79 := Fr.app N0 N79q
          have O79 := O0.keep Kc79 all0
          have pre92 : ∀ t, Steps p.tables e below (T79.setTop (mkF m 72 #[.val (.int p0), .val (.int p1), .val (.int (p1 &&& (3 : Int32))), .val (.int p0), .val .null, .val .null] [(.int (1 : Int32))])) t → Steps p.tables e below (s₁.setTop (entryFrame m #[(.int p0), (.int p1)] maxLocals)) t := by
            intro t kt
            refine pre47 t ?_
            show Steps p.tables e below (s₁.setTop (mkF m 26 #[.val (.int p0), .val (.int p1), .val (.int (p1 &&& (3 : Int32))), .val (.int p0), .unset, .unset] [(.int p0)])) _
            refine st79 _ ?_
            show Steps p.tables e below (T79.setTop (mkF m 29 #[.val (.int p0), .val (.int p1), .val (.int (p1 &&& (3 : Int32))), .val (.int p0), .unset, .unset] [.null])) _
            refine XS.astore X79.here hx rfl (hb hby at_29) rfl rfl (l' := #[.val (.int p0), .val (.int p1), .val (.int (p1 &&& (3 : Int32))), .val (.int p0), .val .null, .unset]) rfl ?_
            show Steps p.tables e below (T79.setTop (mkF m 31 #[.val (.int p0), .val (.int p1), .val (.int (p1 &&& (3 : Int32))), .val (.int p0), .val .null, .unset] [])) _
            refine XS.iloadN X79.here hx rfl (hb hby at_31) rfl ?_
            show Steps p.tables e below (T79.setTop (mkF m 32 #[.val (.int p0), .val (.int p1), .val (.int (p1 &&& (3 : Int32))), .val (.int p0), .val .null, .unset] [(.int p0)])) _
            refine XS.iconst X79.here hx rfl (hb hby at_32) ?_
            show Steps p.tables e below (T79.setTop (mkF m 33 #[.val (.int p0), .val (.int p1), .val (.int (p1 &&& (3 : Int32))), .val (.int p0), .val .null, .unset] [(.int (1 : Int32)), (.int p0)])) _
            refine XS.icmpYes X79.here hx rfl (pc0 := 33) (pc' := 44) rfl (hb hby at_33) rfl (feq hv46).2 (by decide) (by decide) ?_
            show Steps p.tables e below (T79.setTop (mkF m 44 #[.val (.int p0), .val (.int p1), .val (.int (p1 &&& (3 : Int32))), .val (.int p0), .val .null, .unset] [])) _
            refine XS.iloadN X79.here hx rfl (hb hby at_44) rfl ?_
            show Steps p.tables e below (T79.setTop (mkF m 45 #[.val (.int p0), .val (.int p1), .val (.int (p1 &&& (3 : Int32))), .val (.int p0), .val .null, .unset] [(.int p0)])) _
            refine XS.iconst X79.here hx rfl (hb hby at_45) ?_
            show Steps p.tables e below (T79.setTop (mkF m 46 #[.val (.int p0), .val (.int p1), .val (.int (p1 &&& (3 : Int32))), .val (.int p0), .val .null, .unset] [(.int (2 : Int32)), (.int p0)])) _
            refine XS.icmpYes X79.here hx rfl (pc0 := 46) (pc' := 57) rfl (hb hby at_46) rfl (feq hv63).2 (by decide) (by decide) ?_
            show Steps p.tables e below (T79.setTop (mkF m 57 #[.val (.int p0), .val (.int p1), .val (.int (p1 &&& (3 : Int32))), .val (.int p0), .val .null, .unset] [])) _
            refine XS.aconstNull X79.here hx rfl (hb hby at_57) ?_
            show Steps p.tables e below (T79.setTop (mkF m 58 #[.val (.int p0), .val (.int p1), .val (.int (p1 &&& (3 : Int32))), .val (.int p0), .val .null, .unset] [.null])) _
            refine XS.astore X79.here hx rfl (hb hby at_58) rfl rfl (l' := #[.val (.int p0), .val (.int p1), .val (.int (p1 &&& (3 : Int32))), .val (.int p0), .val .null, .val .null]) rfl ?_
            show Steps p.tables e below (T79.setTop (mkF m 60 #[.val (.int p0), .val (.int p1), .val (.int (p1 &&& (3 : Int32))), .val (.int p0), .val .null, .val .null] [])) _
            refine XS.aload X79.here hx rfl (hb hby at_60) rfl rfl ?_
            show Steps p.tables e below (T79.setTop (mkF m 62 #[.val (.int p0), .val (.int p1), .val (.int (p1 &&& (3 : Int32))), .val (.int p0), .val .null, .val .null] [.null])) _
            refine XS.aload X79.here hx rfl (hb hby at_62) rfl rfl ?_
            show Steps p.tables e below (T79.setTop (mkF m 64 #[.val (.int p0), .val (.int p1), .val (.int (p1 &&& (3 : Int32))), .val (.int p0), .val .null, .val .null] [.null, .null])) _
            refine Jvm.RoadKit.acmp (g := (mkF m 64 #[.val (.int p0), .val (.int p1), .val (.int (p1 &&& (3 : Int32))), .val (.int p0), .val .null, .val .null] [.null, .null])) X79 hx rfl rfl rfl (pc0 := 64) (pc' := 67) (same := true) rfl (hb hby at_64) rfl (decide_eq_true rfl) (by decide) (by decide) ?_
            show Steps p.tables e below (T79.setTop (mkF m 67 #[.val (.int p0), .val (.int p1), .val (.int (p1 &&& (3 : Int32))), .val (.int p0), .val .null, .val .null] [])) _
            refine XS.iconst X79.here hx rfl (hb hby at_67) ?_
            show Steps p.tables e below (T79.setTop (mkF m 68 #[.val (.int p0), .val (.int p1), .val (.int (p1 &&& (3 : Int32))), .val (.int p0), .val .null, .val .null] [(.int (1 : Int32))])) _
            refine XS.goto X79.here hx rfl (pc0 := 68) (pc' := 72) rfl (hb hby at_68) (by decide) (by decide) ?_
            exact kt
          obtain ⟨fs, hr, hrun, hended, hW, hsame⟩ := X79.leave (v := some (.int (1 : Int32))) (fun h => by rw [Bd.returns] at h; cases h)
          refine ⟨_, _, pre92 _ ?_, hrun, hended, _, _, rfl, ?_, ⟨_, rfl⟩, hW, hsame.mono (by decide) (by decide)⟩
          · show Steps p.tables e below (T79.setTop (mkF m 72 #[.val (.int p0), .val (.int p1), .val (.int (p1 &&& (3 : Int32))), .val (.int p0), .val .null, .val .null] [(.int (1 : Int32))])) _
            exact retN X79 hx (t := .boolean) Bd.returns (by simp) (hb hby at_72) hr
          · show Q_rm0 Z p0 p1 w__VALUES w_ONE_WAY w_REQUEST k__VALUES h0 n0 _ T79.heap _
            exact ⟨rfl, N79⟩
set_option maxRecDepth 65536 in
set_option maxHeartbeats 40000000 in
theorem comes_1 {Post : Tables → Env → Array Value → State → Outcome → State → Prop} (hpost : ∀ tb e args s v u, (limb_1_1.after args s (.returned v) u = true ∧ limb_1_2.after args s (.returned v) u = true ∧ True) → FrameEnd s (.returned v) u (Jvm.fieldLocs frame_1_writes args s ++ Jvm.arrayLocs frame_1_arrays args s ++ Jvm.staticLocs frame_1_statics s) 16 128 → Post tb e args s (.returned v) u) :
    ArmFor flags0 classFile x code maxLocals ret World_1 tables_1 room_1 Calls_1 rest_1 Pre_1 Post := by
  intro l hfl _ _ p e ha hc hk s m args below hf hA hF happ hP
  obtain ⟨hcalls, hrest, hpre⟩ := hP
  obtain ⟨-, -, -, hnamed, -, -, -, hat⟩ := (Spec.applies_iff hf).mp happ
  obtain ⟨hg, hn⟩ := and_e (Cond.before_iff.mp (show (Jvm.Cond.and given_1 narrow_1).before args s = true from hpre))
  have hw := fun d (hd : d ∈ tables_1) => atoms_spec (ws := Jvm.Cond.code x code maxLocals ret :: tables_1) hat d (List.mem_cons_of_mem _ hd)
  obtain ⟨g1, g2⟩ := and_e hg
  obtain ⟨g3, g4⟩ := and_e g2
  obtain ⟨g5, g6⟩ := and_e hn
  obtain ⟨g7, g8⟩ := and_e g6
  obtain ⟨g9, g10⟩ := and_e g8
  obtain ⟨g11, g12⟩ := and_e g10
  obtain ⟨g13, g14⟩ := and_e g12
  obtain ⟨g15, g16⟩ := and_e g14
  obtain ⟨g17, g18⟩ := and_e g16
  obtain ⟨g19, g20⟩ := and_e g18
  obtain ⟨w__VALUES, ev__VALUES⟩ := arr_v g5
  have S__VALUES : Sta s s.heap "com/example/wend/wend/MessageKind" "$VALUES" "[Lcom/example/wend/wend/MessageKind;" (.ref w__VALUES) := Sta.start ev__VALUES (Or.inr ⟨(hw _ (List.mem_of_getElem? (i := 2) rfl)), (hw _ (List.mem_of_getElem? (i := 8) rfl))⟩)
  obtain ⟨cl__VALUES, Ar__VALUES⟩ := Arr.start ev__VALUES g5
  have E__VALUES := Exa.start ev__VALUES g7
  obtain ⟨w_REQUEST, ev_REQUEST⟩ := exa_v g11
  have S_REQUEST : Sta s s.heap "com/example/wend/wend/MessageKind" "REQUEST" "Lcom/example/wend/wend/MessageKind;" (.ref w_REQUEST) := Sta.start ev_REQUEST (Or.inr ⟨(hw _ (List.mem_of_getElem? (i := 2) rfl)), (hw _ (List.mem_of_getElem? (i := 16) rfl))⟩)
  have E_REQUEST := Exa.start ev_REQUEST g11
  obtain ⟨w_ONE_WAY, ev_ONE_WAY⟩ := exa_v g15
  have S_ONE_WAY : Sta s s.heap "com/example/wend/wend/MessageKind" "ONE_WAY" "Lcom/example/wend/wend/MessageKind;" (.ref w_ONE_WAY) := Sta.start ev_ONE_WAY (Or.inr ⟨(hw _ (List.mem_of_getElem? (i := 2) rfl)), (hw _ (List.mem_of_getElem? (i := 17) rfl))⟩)
  have E_ONE_WAY := Exa.start ev_ONE_WAY g15
  have F_code_REQUEST := own_fld ev_REQUEST (v := .int (1 : Int32)) rfl g19
  have F_code_ONE_WAY := own_fld ev_ONE_WAY (v := .int (2 : Int32)) rfl g20
  obtain ⟨v0, v1, rfl⟩ : ∃ v0 v1 : Value, args = #[v0, v1] := by
    have hs : args.size = 2 := by simpa [Cond.value, given_1] using g1
    obtain ⟨L⟩ := args
    match L, hs with
    | [v0, v1], _ => exact ⟨v0, v1, rfl⟩
  have hfit : Fit s := fun {y c} hc i hi => by
    obtain ⟨ha, rfl⟩ := Array.getElem?_eq_some_iff.mp hc
    have q := List.all_eq_true.mp ((Array.all_eq_true_iff_forall_mem.mp hF) _ (Array.getElem_mem ha)) i (List.mem_range.mpr hi)
    simpa [Array.getElem?_eq_getElem hi] using q
  obtain ⟨i0, ei0⟩ := is_v g3
  obtain rfl : v0 = (.int i0) := Option.some.inj ei0
  obtain ⟨i1, ei1⟩ := is_v g4
  obtain rfl : v1 = (.int i1) := Option.some.inj ei1
  obtain ⟨hl__VALUES, hq__VALUES⟩ := own_len ev__VALUES Ar__VALUES (own_eq g9)
  obtain ⟨k__VALUES, V__VALUES⟩ : ∃ k, Arv s s.heap w__VALUES k (.object "com/example/wend/wend/MessageKind") (2 : Int32) [(.ref w_REQUEST), (.ref w_ONE_WAY)] .null := ⟨_, Arv.start hfit Ar__VALUES hq__VALUES hl__VALUES (by decide) rfl ⟨(elem_in ((own_eq g13).trans ev_REQUEST) ev__VALUES rfl Ar__VALUES.1).2, (elem_in ((own_eq g17).trans ev_ONE_WAY) ev__VALUES rfl Ar__VALUES.1).2, trivial⟩⟩
  obtain ⟨n, o, h1, h2, h3, _, L, rfl, ⟨rfl, N⟩, hq⟩ := rm0 l s _ hw tables_1 i0 i1 w__VALUES w_ONE_WAY w_REQUEST k__VALUES s.heap s.heap.size (Old.start s) S__VALUES V__VALUES E__VALUES F_code_REQUEST F_code_ONE_WAY S_REQUEST S_ONE_WAY p e ha hc hk s m _ below hf ((Spec.applies_iff_loose hf).mp happ).1 ⟨rfl, State.Warmed39.refl s, rfl⟩ trivial
  refine ⟨n, _, h1, h2, h3, hpost _ _ _ _ _ _ ⟨Cond.after_iff.mpr rfl, Cond.after_iff.mpr (eq_i res_at (Term.int_eval (1)) rfl), trivial⟩ ⟨hq.1, hq.2.1, (hq.2.2.sift fun y hy => Or.inr (N y hy)).mono (by decide) (by decide)⟩⟩
theorem main_1_1 : Claimed_1_1 := comes_1 fun _ _ _ _ _ _ h hF => ⟨h.1, hF⟩
theorem main_1_2 : Claimed_1_2 := comes_1 fun _ _ _ _ _ _ h hF => ⟨h.2.1, hF⟩
end Jvm.Pilot.@@N@@
namespace Jvm.Pilot.@@N@@
open Jvm Jvm.ClassFile Sem Op Lib Jvm.Free Jvm.Stand Jvm.Pilot.@@N@@.Jvm.D
/-! MADE BY PROGRAM (witnessworld.py) out of the Statement's table words and the real class files: 13 classes; the members and pool entries that the words name. The judged class is class 1, her method 1. -/
namespace start1
open Jvm.ClassFile
def u (s : String) : CpInfo := .utf8 (stringToUtf16 s)
/-- a pool by its gaps: so many unusable entries, then the entry; so many at the end -/
def gap : Nat → List CpInfo → List CpInfo
  | 0, r => r
  | n + 1, r => .unusable :: gap n r
def poolList (es : List (Nat × CpInfo)) (last : Nat) : List CpInfo := es.foldr (fun e r => gap e.1 (e.2 :: r)) (gap last [])
def pool (es : List (Nat × CpInfo)) (last : Nat) : Array CpInfo := ⟨poolList es last⟩
def fileOf (pool : Array CpInfo) (this : Nat) (attrs : Array Attribute := #[]) (ms : Array MethodInfo := #[]) (fl : Nat := 33) (sup : Nat := 0) (ifs : Array Nat := #[]) (fds : Array FieldInfo := #[]) : ClassFile where
  minorVersion := 0
  majorVersion := 65
  constantPool := pool
  accessFlags := fl
  thisClass := this
  superClass := sup
  interfaces := ifs
  fields := fds
  methods := ms
  attributes := attrs
def plain (name : String) (sup : Option ClassId) : Class where
  name := name
  kind := .ordinary
  loader := none
  accessFlags := 33
  super := sup
  interfaces := #[]
  cf := none
  fields := #[]
  methods := #[]
  instanceTypes := #[]
  staticTypes := #[]
  resolved := #[]
  callSites := []
  init := .initialized
  statics := none
  mirror := none

def pool0 : Array CpInfo := pool [(5, u "<init>"), (0, u "()V"), (1, .class_ 10), (1, u "java/lang/Object"), (85, u "clone"), (0, u "()Ljava/lang/Object;")] 26

def k0m0 : Method := { name := "<init>", desc := "()V", sig := { parameters := [], returnType := none }, accessFlags := 1, code := none }
def k0m1 : Method := { name := "clone", desc := "()Ljava/lang/Object;", sig := { parameters := [], returnType := some (.object "java/lang/Object") }, accessFlags := 260, code := none }
/-- java/lang/Object -/
def k0 : Class := { plain "java/lang/Object" none with
  accessFlags := 33
  interfaces := #[]
  cf := some (fileOf pool0 8 #[] #[{ accessFlags := 1, nameIndex := 5, descriptorIndex := 6, attributes := #[] }, { accessFlags := 260, nameIndex := 96, descriptorIndex := 97, attributes := #[] }] 33 0 #[] #[])
  fields := #[]
  methods := #[k0m0, k0m1]
  instanceTypes := #[]
  staticTypes := #[]
  resolved := Array.replicate 124 none
  statics := none }

def pool1 : Array CpInfo := pool [(2, .class_ 4), (1, u "java/lang/Object"), (0, u "<init>"), (0, u "()V"), (0, .methodref 8 9), (0, .class_ 10), (0, .nameAndType 11 12), (0, u "com/example/wend/wend/MessageKind"), (0, u "of"), (0, u "(I)Lcom/example/wend/wend/MessageKind;"), (0, .fieldref 8 14), (0, .nameAndType 15 16), (0, u "REQUEST"), (0, u "Lcom/example/wend/wend/MessageKind;"), (0, .fieldref 8 18), (0, .nameAndType 19 16), (0, u "ONE_WAY"), (0, .class_ 21), (0, u "com/example/wend/wend/MessageKindOfPinLaw"), (2, u "law"), (0, u "(II)Z")] 3

def k1m0 : Method := { name := "<init>", desc := "()V", sig := { parameters := [], returnType := none }, accessFlags := 1, code := none }
def k1c1 : Code := { maxStack := 2, maxLocals := 6, code := code, exceptionTable := #[], attributes := #[] }
def k1m1 : Method := { name := "law", desc := "(II)Z", sig := { parameters := [.int, .int], returnType := some .boolean }, accessFlags := 9, code := some k1c1 }
/-- com/example/wend/wend/MessageKindOfPinLaw -/
def k1 : Class := { plain "com/example/wend/wend/MessageKindOfPinLaw" (some 0) with
  accessFlags := 49
  interfaces := #[]
  cf := some (fileOf pool1 20 #[] #[{ accessFlags := 1, nameIndex := 5, descriptorIndex := 6, attributes := #[] }, { accessFlags := 9, nameIndex := 24, descriptorIndex := 25, attributes := #[] }] 49 2 #[] #[])
  fields := #[]
  methods := #[k1m0, k1m1]
  instanceTypes := #[]
  staticTypes := #[]
  resolved := Array.replicate 29 none
  statics := none }

def pool2 : Array CpInfo := pool [(1, .class_ 2), (0, u "java/lang/constant/Constable"), (0, .class_ 4), (0, u "java/lang/Object")] 6

/-- java/lang/constant/Constable -/
def k2 : Class := { plain "java/lang/constant/Constable" (some 0) with
  accessFlags := 1537
  interfaces := #[]
  cf := some (fileOf pool2 1 #[] #[] 1537 3 #[] #[])
  fields := #[]
  methods := #[]
  instanceTypes := #[]
  staticTypes := #[]
  resolved := Array.replicate 11 none
  statics := none }

def pool3 : Array CpInfo := pool [(1, .class_ 2), (0, u "java/lang/Comparable"), (0, .class_ 4), (0, u "java/lang/Object")] 7

/-- java/lang/Comparable -/
def k3 : Class := { plain "java/lang/Comparable" (some 0) with
  accessFlags := 1537
  interfaces := #[]
  cf := some (fileOf pool3 1 #[] #[] 1537 3 #[] #[])
  fields := #[]
  methods := #[]
  instanceTypes := #[]
  staticTypes := #[]
  resolved := Array.replicate 12 none
  statics := none }

def pool4 : Array CpInfo := pool [(1, .class_ 2), (0, u "java/io/Serializable"), (0, .class_ 4), (0, u "java/lang/Object")] 2

/-- java/io/Serializable -/
def k4 : Class := { plain "java/io/Serializable" (some 0) with
  accessFlags := 1537
  interfaces := #[]
  cf := some (fileOf pool4 1 #[] #[] 1537 3 #[] #[])
  fields := #[]
  methods := #[]
  instanceTypes := #[]
  staticTypes := #[]
  resolved := Array.replicate 7 none
  statics := none }

def pool5 : Array CpInfo := pool [(2, .class_ 4), (1, u "java/lang/Enum"), (0, u "name"), (0, u "Ljava/lang/String;"), (2, u "ordinal"), (0, u "I"), (1, .class_ 14), (1, u "java/lang/Object"), (4, u "hash"), (86, .class_ 108), (1, u "java/lang/Enum$EnumDesc"), (2, .class_ 112), (0, u "java/lang/constant/Constable"), (0, .class_ 114), (0, u "java/lang/Comparable"), (0, .class_ 116), (0, u "java/io/Serializable")] 87

/-- java/lang/Enum -/
def k5 : Class := { plain "java/lang/Enum" (some 0) with
  accessFlags := 1057
  interfaces := #[2, 3, 4]
  cf := some (fileOf pool5 2 #[.nestMembers #[106]] #[] 1057 12 #[111, 113, 115] #[{ accessFlags := 18, nameIndex := 5, descriptorIndex := 6, attributes := #[] }, { accessFlags := 18, nameIndex := 9, descriptorIndex := 10, attributes := #[] }, { accessFlags := 2, nameIndex := 19, descriptorIndex := 10, attributes := #[] }])
  fields := #[{ name := "name", type := (.object "java/lang/String"), accessFlags := 18, slot := 0, constantValue := 0 }, { name := "ordinal", type := .int, accessFlags := 18, slot := 1, constantValue := 0 }, { name := "hash", type := .int, accessFlags := 2, slot := 2, constantValue := 0 }]
  methods := #[]
  instanceTypes := #[(.object "java/lang/String"), .int, .int]
  staticTypes := #[]
  resolved := Array.replicate 204 none
  statics := none }

def pool6 : Array CpInfo := pool [(1, .class_ 2), (0, u "com/example/wend/wend/MessageKind"), (2, u "REQUEST"), (0, u "Lcom/example/wend/wend/MessageKind;"), (2, u "ONE_WAY"), (0, .fieldref 1 11), (0, .nameAndType 12 13), (0, u "$VALUES"), (0, u "[Lcom/example/wend/wend/MessageKind;"), (0, .methodref 15 16), (0, .class_ 13), (0, .nameAndType 17 18), (0, u "clone"), (0, u "()Ljava/lang/Object;"), (1, .class_ 22), (1, u "java/lang/Enum"), (6, .fieldref 1 30), (0, .nameAndType 31 32), (0, u "code"), (0, u "I"), (2, u "token"), (0, u "Ljava/lang/String;"), (0, .methodref 1 38), (0, .nameAndType 39 40), (0, u "values"), (0, u "()[Lcom/example/wend/wend/MessageKind;"), (18, u "of"), (0, u "(I)Lcom/example/wend/wend/MessageKind;")] 8

def k6c0 : Code := { maxStack := 1, maxLocals := 0, code := prog_15_method_1_code, exceptionTable := #[], attributes := #[] }
def k6m0 : Method := { name := "values", desc := "()[Lcom/example/wend/wend/MessageKind;", sig := { parameters := [], returnType := some (.array (.object "com/example/wend/wend/MessageKind")) }, accessFlags := 9, code := some k6c0 }
def k6c1 : Code := { maxStack := 2, maxLocals := 6, code := prog_15_method_4_code, exceptionTable := #[], attributes := #[] }
def k6m1 : Method := { name := "of", desc := "(I)Lcom/example/wend/wend/MessageKind;", sig := { parameters := [.int], returnType := some (.object "com/example/wend/wend/MessageKind") }, accessFlags := 8, code := some k6c1 }
/-- com/example/wend/wend/MessageKind -/
def k6 : Class := { plain "com/example/wend/wend/MessageKind" (some 5) with
  accessFlags := 16432
  interfaces := #[]
  cf := some (fileOf pool6 1 #[] #[{ accessFlags := 9, nameIndex := 39, descriptorIndex := 40, attributes := #[] }, { accessFlags := 8, nameIndex := 59, descriptorIndex := 60, attributes := #[] }] 16432 20 #[] #[{ accessFlags := 16409, nameIndex := 5, descriptorIndex := 6, attributes := #[] }, { accessFlags := 16409, nameIndex := 9, descriptorIndex := 6, attributes := #[] }, { accessFlags := 18, nameIndex := 31, descriptorIndex := 32, attributes := #[] }, { accessFlags := 18, nameIndex := 35, descriptorIndex := 36, attributes := #[] }, { accessFlags := 4122, nameIndex := 12, descriptorIndex := 13, attributes := #[] }])
  fields := #[{ name := "REQUEST", type := (.object "com/example/wend/wend/MessageKind"), accessFlags := 16409, slot := 0, constantValue := 0 }, { name := "ONE_WAY", type := (.object "com/example/wend/wend/MessageKind"), accessFlags := 16409, slot := 1, constantValue := 0 }, { name := "code", type := .int, accessFlags := 18, slot := 3, constantValue := 0 }, { name := "token", type := (.object "java/lang/String"), accessFlags := 18, slot := 4, constantValue := 0 }, { name := "$VALUES", type := (.array (.object "com/example/wend/wend/MessageKind")), accessFlags := 4122, slot := 2, constantValue := 0 }]
  methods := #[k6m0, k6m1]
  instanceTypes := #[(.object "java/lang/String"), .int, .int, .int, (.object "java/lang/String")]
  staticTypes := #[(.object "com/example/wend/wend/MessageKind"), (.object "com/example/wend/wend/MessageKind"), (.array (.object "com/example/wend/wend/MessageKind"))]
  resolved := Array.replicate 69 none
  statics := some 0 }

def pool7 : Array CpInfo := pool [(1, .class_ 2), (0, u "java/lang/Cloneable"), (0, .class_ 4), (0, u "java/lang/Object")] 2

/-- java/lang/Cloneable -/
def k7 : Class := { plain "java/lang/Cloneable" (some 0) with
  accessFlags := 1537
  interfaces := #[]
  cf := some (fileOf pool7 1 #[] #[] 1537 3 #[] #[])
  fields := #[]
  methods := #[]
  instanceTypes := #[]
  staticTypes := #[]
  resolved := Array.replicate 7 none
  statics := none }

/-- the primitive byte -/
def k8 : Class := { plain "byte" none with kind := .primitive 'B', accessFlags := 0x411 }
/-- [B -/
def k9 : Class := { plain "[B" (some 0) with kind := .array 8 .byte, interfaces := #[7, 4], accessFlags := 1041 }

/-- the primitive int -/
def k10 : Class := { plain "int" none with kind := .primitive 'I', accessFlags := 0x411 }
/-- [I -/
def k11 : Class := { plain "[I" (some 0) with kind := .array 10 .int, interfaces := #[7, 4], accessFlags := 1041 }

/-- [Lcom/example/wend/wend/MessageKind; -/
def k12 : Class := { plain "[Lcom/example/wend/wend/MessageKind;" (some 0) with kind := .array 6 (.object "com/example/wend/wend/MessageKind"), interfaces := #[7, 4], accessFlags := 1041 }

def heap : Heap := #[{ cls := 6, slots := #[.ref 2, .ref 3, .ref 1], vm := .statics 6 },
  { cls := 12, slots := #[.ref 2, .ref 3], vm := .none },
  { cls := 6, slots := #[.null, .int 0, .int 0, .int 1, .null], vm := .none },
  { cls := 6, slots := #[.null, .int 0, .int 0, .int 2, .null], vm := .none }]
def classes : Array Class := #[k0, k1, k2, k3, k4, k5, k6, k7, k8, k9, k10, k11, k12]
def interned : List (Array UInt16 × Addr) := []
def slotsUsed : Nat := 15
def theMethod : MethodId := ⟨1, 1⟩
def args0 : Array Value := #[.int 5, .int 7]
def aboutOver (below : List Frame) : State where
  vm := { classes := classes, interned := interned.toArray }
  heap := heap
  slotsUsed := slotsUsed
  threads := #[{ frames := .invoking theMethod args0 :: below }]
def below0 : List Frame := [.native { method := ⟨0, 0⟩, args := #[] }]
def about1 : State := aboutOver below0
def p0 : Program := .bare "" "" ""
def e0 : Env := launch0.env 0 0 0
theorem w_frames : about1.frames = Frame.invoking theMethod args0 :: below0 := rfl
set_option maxRecDepth 65536 in
theorem w_args : argsFit about1.vm theMethod args0 = true := by decide +kernel
set_option maxRecDepth 65536 in
theorem w_heap : heapFits about1 = true := by decide +kernel
set_option maxRecDepth 65536 in
theorem w_runnable : about1.curStatus? = some .runnable := by decide +kernel
set_option maxRecDepth 65536 in
theorem w_alone : about1.alone = true := by decide +kernel
set_option maxRecDepth 65536 in
theorem w_named : about1.methodNamed? x = some theMethod := by decide +kernel
set_option maxRecDepth 65536 in
theorem w_hears : about1.hears theMethod below0 = true := by decide +kernel
set_option maxRecDepth 65536 in
theorem w_ripe : about1.ripe theMethod args0 below0 = true := by decide +kernel
theorem w_running : about1.status = .running := rfl
set_option maxRecDepth 65536 in
theorem w_room : about1.hasRoom e0.platform room_1 = true :=
  launch0.hasRoom_least _ room_1 (by decide +kernel) (by decide +kernel) (by decide +kernel) (by decide +kernel) (by decide +kernel) (by decide +kernel)
theorem allAtoms_all (ts : List Jvm.Cond) (a : Array Jvm.Value) (st : Jvm.State) : (allAtoms ts).before a st = ts.all (fun c => c.before a st) := by
  induction ts with
  | nil => rfl
  | cons c t ih =>
    show (Jvm.Cond.and c (allAtoms t)).before a st = _
    rw [Jvm.Cond.before_and, ih, List.all_cons]
def words1 : List Jvm.Cond := Jvm.Cond.code x code maxLocals ret :: tables_1
/-- a 'code' word, met by the world's own term for the bytes: nothing is compared byte by byte -/
theorem code_word {y : MethodName} {bytes : ByteArray} {mx : Nat} {rt : Option FieldType} {a : Array Value} {s : State} {m : MethodId} {meth : Method} {c : Code} (h1 : s.methodNamed? y = some m) (h2 : s.vm.method? m = some meth) (h3 : meth.code = some c) (h4 : c.code = bytes)
    (h5 : (c.maxLocals == mx && c.exceptionTable.isEmpty && decide (c.maxStack ≤ mostOperands) && decide (meth.sig.returnType = rt) && !meth.locks && decide (parseMethodDescriptor y.desc = some meth.sig)) = true) : (Jvm.Cond.code y bytes mx rt).before a s = true := by
  simp only [Bool.and_eq_true, beq_iff_eq, Bool.not_eq_true', decide_eq_true_eq] at h5
  obtain ⟨⟨⟨⟨⟨g1, g2⟩, g3⟩, g4⟩, g5⟩, g6⟩ := h5
  simp [Cond.before, Cond.holds, Cond.value, h1, h2, h3, h4, g1, g2, g3, g4, g5, g6]
def isCode : Jvm.Cond → Bool
  | .code _ _ _ _ => true
  | _ => false
theorem all_split {L : List Jvm.Cond} {P : Jvm.Cond → Bool} (h1 : L.all (fun c => isCode c || P c) = true) (h2 : ∀ c ∈ L.filter isCode, P c = true) : L.all P = true := by
  refine List.all_eq_true.mpr fun c hc => ?_
  have h := List.all_eq_true.mp h1 c hc
  rcases Bool.eq_false_or_eq_true (isCode c) with hi | hi
  · exact h2 c (List.mem_filter.mpr ⟨hc, hi⟩)
  · simpa [hi] using h
set_option maxRecDepth 65536 in
theorem w_c0 : (Jvm.Cond.code x code maxLocals ret).before args0 about1 = true := code_word (m := ⟨1, 1⟩) (meth := k1m1) (c := k1c1) (by decide +kernel) rfl rfl rfl (by decide +kernel)
set_option maxRecDepth 65536 in
theorem w_c1 : (Jvm.Cond.code ({ cls := "com/example/wend/wend/MessageKind", name := "of", desc := "(I)Lcom/example/wend/wend/MessageKind;" } : Jvm.MethodName) prog_15_method_4_code (6 : Nat) (Option.some (Jvm.ClassFile.FieldType.object "com/example/wend/wend/MessageKind"))).before args0 about1 = true := code_word (m := ⟨6, 1⟩) (meth := k6m1) (c := k6c1) (by decide +kernel) rfl rfl rfl (by decide +kernel)
set_option maxRecDepth 65536 in
theorem w_c2 : (Jvm.Cond.code ({ cls := "com/example/wend/wend/MessageKind", name := "values", desc := "()[Lcom/example/wend/wend/MessageKind;" } : Jvm.MethodName) prog_15_method_1_code (0 : Nat) (Option.some (Jvm.ClassFile.FieldType.array (Jvm.ClassFile.FieldType.object "com/example/wend/wend/MessageKind")))).before args0 about1 = true := code_word (m := ⟨6, 0⟩) (meth := k6m0) (c := k6c0) (by decide +kernel) rfl rfl rfl (by decide +kernel)
def codes1 : List Jvm.Cond := [Jvm.Cond.code x code maxLocals ret, Jvm.Cond.code ({ cls := "com/example/wend/wend/MessageKind", name := "of", desc := "(I)Lcom/example/wend/wend/MessageKind;" } : Jvm.MethodName) prog_15_method_4_code (6 : Nat) (Option.some (Jvm.ClassFile.FieldType.object "com/example/wend/wend/MessageKind")), Jvm.Cond.code ({ cls := "com/example/wend/wend/MessageKind", name := "values", desc := "()[Lcom/example/wend/wend/MessageKind;" } : Jvm.MethodName) prog_15_method_1_code (0 : Nat) (Option.some (Jvm.ClassFile.FieldType.array (Jvm.ClassFile.FieldType.object "com/example/wend/wend/MessageKind")))]
set_option maxRecDepth 65536 in
theorem codes_eq : words1.filter isCode = codes1 := rfl
theorem w_codes : ∀ c ∈ words1.filter isCode, c.before args0 about1 = true := by
  rw [codes_eq]
  intro c hc
  simp only [codes1, List.mem_cons, List.not_mem_nil, or_false] at hc
  rcases hc with rfl | rfl | rfl
  · exact w_c0
  · exact w_c1
  · exact w_c2
set_option maxRecDepth 65536 in
theorem w_t1 : (words1.take 24).all (fun c => isCode c || c.before args0 about1) = true := by decide +kernel
set_option maxRecDepth 65536 in
theorem w_t2 : (words1.drop 24).all (fun c => isCode c || c.before args0 about1) = true := by decide +kernel
theorem w_tables : (allAtoms (Jvm.Cond.code x code maxLocals ret :: tables_1)).before args0 about1 = true := by
  rw [allAtoms_all]
  show words1.all (fun c => c.before args0 about1) = true
  refine all_split ?_ w_codes
  rw [← List.take_append_drop 24 words1, List.all_append, w_t1, w_t2]
  rfl
set_option maxRecDepth 65536 in
theorem w_case : (Jvm.Cond.and given_1 narrow_1).before args0 about1 = true := by decide +kernel
theorem w_applies : (headSpec (Jvm.Cond.code x code maxLocals ret :: tables_1) room_1).applies x e0.platform about1 = true :=
  (Spec.applies_iff w_frames).mpr ⟨w_running, w_runnable, w_alone, w_named, w_hears, w_ripe, w_room, w_tables⟩
theorem atStart : AtStart classFile x code maxLocals ret World_1 tables_1 room_1 Calls_1 rest_1 Pre_1 launch0 p0 e0 about1 theMethod args0 below0 :=
  ⟨lists_1, trivial, launch0.admits_env _ _ _, launch0.least_env, fairChoices_fair.cas, fairChoices_fair.clock, w_frames, w_args, w_heap, w_applies, trivial, trivial, w_case⟩
end start1
theorem witness_1 : WitnessClaimed_1 := ⟨start1.p0, start1.e0, start1.about1, start1.theMethod, start1.args0, start1.below0, start1.atStart⟩
end Jvm.Pilot.@@N@@
