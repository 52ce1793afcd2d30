import JvmDerived
import JvmDerived.Pilot.@@N@@Statement
import JvmDerived.Pilot.@@N@@Code
set_option linter.unusedVariables false
set_option linter.unusedSimpArgs false
namespace Jvm.Pilot.@@N@@
open Jvm Jvm.ClassFile Sem Op Lib Jvm.Free Jvm.Stand Jvm.LawKit Jvm.RoadKit Bundle Jvm.Pilot.@@N@@.Jvm.D
theorem own_eq {args : Array Value} {first s : State} {o : Option Outcome} {idx : List Nat} {a b : Term} (h : (Jvm.Cond.eq a b).value args first o s idx = some true) : a.eval args first o idx s = b.eval args first o idx s := by
  obtain ⟨x, y, h1, h2, k1, k2⟩ := cmp_v (Or.inl h)
  rw [h1, h2]
  simp only [Jvm.Cond.value, h1, h2] at h
  cases x <;> cases y <;> simp_all
theorem own_fld {args : Array Value} {s : State} {t u : Term} {a : Addr} {C n d : String} {v : Value} (ev : t.eval args s none [] s = some (.ref a)) (eu : u.eval args s none [] s = some v) (h : (Jvm.Cond.eq (.field t C n d) u).value args s none s [] = some true) : Fld s s.heap a C n d v :=
  Fld.start ((fld_at ev).symm.trans ((own_eq h).trans eu))
theorem own_z {Z : State} {n0 : Nat} {h : Heap} (O : Old Z n0 h) : n0 ≤ h.size := O.1 ▸ O.2.1
theorem own_len {args : Array Value} {s : State} {t : Term} {a : Addr} {cl : Cell} {ty : FieldType} {n : Int32} (ev : t.eval args s none [] s = some (.ref a)) (A : Arr s s.heap a cl ty) (h : (Term.length t).eval args s none [] s = some (.int n)) : cl.slots.size.toInt32 = n ∧ cl.slots.size < 2 ^ 31 := by
  have hA : s.arrayAt? a = some cl := A.fin (Vm.Alike.refl _)
  simp only [Term.eval, ev, hA, Option.bind_eq_bind, Option.bind_some] at h
  split at h
  · rename_i q
    simp only [Option.pure_def, Option.some.injEq, Value.int.injEq] at h
    exact ⟨h, q⟩
  · cases h
theorem d_prog_57_method_4_code_0 : decode prog_57_method_4_code 0 = .ok (.aconst_null, 1) := by decide +kernel
theorem d_prog_57_method_4_code_1 : decode prog_57_method_4_code 1 = .ok (.astore_n 1, 1) := by decide +kernel
theorem d_prog_57_method_4_code_2 : decode prog_57_method_4_code 2 = .ok (.getstatic 37, 3) := by decide +kernel
theorem d_prog_57_method_4_code_5 : decode prog_57_method_4_code 5 = .ok (.astore_n 2, 1) := by decide +kernel
theorem d_prog_57_method_4_code_6 : decode prog_57_method_4_code 6 = .ok (.aload_n 2, 1) := by decide +kernel
theorem d_prog_57_method_4_code_7 : decode prog_57_method_4_code 7 = .ok (.arraylength, 1) := by decide +kernel
theorem d_prog_57_method_4_code_8 : decode prog_57_method_4_code 8 = .ok (.istore_n 3, 1) := by decide +kernel
theorem d_prog_57_method_4_code_9 : decode prog_57_method_4_code 9 = .ok (.iconst 0, 1) := by decide +kernel
theorem d_prog_57_method_4_code_10 : decode prog_57_method_4_code 10 = .ok (.istore 4, 2) := by decide +kernel
theorem d_prog_57_method_4_code_12 : decode prog_57_method_4_code 12 = .ok (.iload 4, 2) := by decide +kernel
theorem d_prog_57_method_4_code_14 : decode prog_57_method_4_code 14 = .ok (.iload_n 3, 1) := by decide +kernel
theorem d_prog_57_method_4_code_15 : decode prog_57_method_4_code 15 = .ok (.if_icmp .ge 27, 3) := by decide +kernel
theorem d_prog_57_method_4_code_18 : decode prog_57_method_4_code 18 = .ok (.aload_n 2, 1) := by decide +kernel
theorem d_prog_57_method_4_code_19 : decode prog_57_method_4_code 19 = .ok (.iload 4, 2) := by decide +kernel
theorem d_prog_57_method_4_code_21 : decode prog_57_method_4_code 21 = .ok (.aaload, 1) := by decide +kernel
theorem d_prog_57_method_4_code_22 : decode prog_57_method_4_code 22 = .ok (.astore 5, 2) := by decide +kernel
theorem d_prog_57_method_4_code_24 : decode prog_57_method_4_code 24 = .ok (.aload 5, 2) := by decide +kernel
theorem d_prog_57_method_4_code_26 : decode prog_57_method_4_code 26 = .ok (.getfield 29, 3) := by decide +kernel
theorem d_prog_57_method_4_code_29 : decode prog_57_method_4_code 29 = .ok (.iload_n 0, 1) := by decide +kernel
theorem d_prog_57_method_4_code_30 : decode prog_57_method_4_code 30 = .ok (.if_icmp .ne 6, 3) := by decide +kernel
theorem d_prog_57_method_4_code_33 : decode prog_57_method_4_code 33 = .ok (.aload 5, 2) := by decide +kernel
theorem d_prog_57_method_4_code_35 : decode prog_57_method_4_code 35 = .ok (.astore_n 1, 1) := by decide +kernel
theorem d_prog_57_method_4_code_36 : decode prog_57_method_4_code 36 = .ok (.iinc 4 1, 3) := by decide +kernel
theorem d_prog_57_method_4_code_39 : decode prog_57_method_4_code 39 = .ok (.goto (-27), 3) := by decide +kernel
theorem d_prog_57_method_4_code_42 : decode prog_57_method_4_code 42 = .ok (.aload_n 1, 1) := by decide +kernel
theorem d_prog_57_method_4_code_43 : decode prog_57_method_4_code 43 = .ok (.areturn, 1) := by decide +kernel
theorem pn_com_example_octets_to_session_octetstosession_core_ProtocolVersion : plainName "com/example/octets_to_session/octetstosession/core/ProtocolVersion" = true := by first | (simp [plainName, overriddenIn]; done) | decide +kernel
theorem ef_rm_ofLevel_1 (m : MethodId) (y0 : Int32) : entryFrame m #[(.int y0)] 6 = mkF m 0 #[.val (.int y0), .unset, .unset, .unset, .unset, .unset] [] := by first | (simp [entryFrame, mkF, argsToLocals, Value.category]; done) | rfl
def Q_rm_ofLevel_1 (Z : State) (y0 : Int32) (w_VERSIONS : Addr) (k_VERSIONS : ClassId) (w_MQTT_3_1_1 : Addr) (w_MQTT_5_0 : Addr) (h0 : Heap) (n0 : Nat) (v : Option Value) (h : Heap) (L : List Loc) : Prop := v = some (.ref w_MQTT_3_1_1) ∧ Fr n0 L ∧ h = h0
set_option maxRecDepth 65536 in
set_option maxHeartbeats 40000000 in
theorem rm_ofLevel_1 (l : Launch) (Z : State) (a0 : Array Value) (hw : ∀ d ∈ tables_1, d.before a0 Z = true) (ws : List Jvm.Cond) (y0 : Int32) (w_VERSIONS : Addr) (k_VERSIONS : ClassId) (w_MQTT_3_1_1 : Addr) (w_MQTT_5_0 : Addr) (h0 : Heap) (n0 : Nat) (O0 : Old Z n0 h0) (hp1 : (4 : Int32) = y0) (hp3 : ¬ ((5 : Int32) = y0)) (S_VERSIONS : Sta Z Z.heap "com/example/octets_to_session/octetstosession/core/ProtocolVersion" "VERSIONS" "[Lcom/example/octets_to_session/octetstosession/core/ProtocolVersion;" (.ref w_VERSIONS)) (V_VERSIONS : Arv Z Z.heap w_VERSIONS k_VERSIONS (.object "com/example/octets_to_session/octetstosession/core/ProtocolVersion") (2 : Int32) [(.ref w_MQTT_3_1_1), (.ref w_MQTT_5_0)] .null) (F_level_MQTT_3_1_1 : Fld Z Z.heap w_MQTT_3_1_1 "com/example/octets_to_session/octetstosession/core/ProtocolVersion" "level" "I" (.int (4 : Int32))) (F_level_MQTT_5_0 : Fld Z Z.heap w_MQTT_5_0 "com/example/octets_to_session/octetstosession/core/ProtocolVersion" "level" "I" (.int (5 : Int32))) :
    MetFree l (⟨"com/example/octets_to_session/octetstosession/core/ProtocolVersion", "ofLevel", "(I)Lcom/example/octets_to_session/octetstosession/core/ProtocolVersion;"⟩ : MethodName) (head1 (Jvm.Cond.code (⟨"com/example/octets_to_session/octetstosession/core/ProtocolVersion", "ofLevel", "(I)Lcom/example/octets_to_session/octetstosession/core/ProtocolVersion;"⟩ : MethodName) prog_57_method_4_code 6 (some (.object "com/example/octets_to_session/octetstosession/core/ProtocolVersion")) :: ws) ({ frames := 0, cells := 0, slots := 0, locals := 0 } : Room)) (fun a U => a = #[(.int y0)] ∧ Z.Warmed39 U.vm ∧ U.heap = h0) (fun _ _ _ _ _ => True) (fun _ U o U' => ∃ v L, o = .returned v ∧ Q_rm_ofLevel_1 Z y0 w_VERSIONS k_VERSIONS w_MQTT_3_1_1 w_MQTT_5_0 h0 n0 v U'.heap L ∧ FrameEnd U o U' L ({ frames := 0, cells := 0, slots := 0, locals := 0 } : Room).cells ({ frames := 0, cells := 0, slots := 0, locals := 0 } : Room).slots) := by
  refine MetFree.of_bodySF (plainFor_of_name pn_com_example_octets_to_session_octetstosession_core_ProtocolVersion) hisR ?_
  intro p e s m args below meth c s₁ Bd hml0 hP hK
  obtain ⟨rfl, hZ, hh⟩ := hP
  have hx := Bd.exec
  have hby := Bd.bytes
  have hml : c.maxLocals = 6 := hml0
  have hown : s.vm.findClass "com/example/octets_to_session/octetstosession/core/ProtocolVersion" = some m.cls := findClass_of_methodNamed Bd.named
  have hnm := (name_of_methodNamed Bd.named Bd.method).1
  have X0 : Stand p l e ({ frames := 0, cells := 0, slots := 0, locals := 0 } : Room) s m #[(.int y0)] below meth c s₁ [] 0 0 := Stand.of_body Bd
  have e0 : s₁.heap = h0 := by rw [← hh, Bd.state]; rfl
  have N0 := Fr.nil n0
  have pre0 : ∀ t, Steps p.tables e below (s₁.setTop (mkF m 0 #[.val (.int y0), .unset, .unset, .unset, .unset, .unset] [])) t → Steps p.tables e below (s₁.setTop (entryFrame m #[(.int y0)] 6)) t := fun t k => castTop (ef_rm_ofLevel_1 m y0) k
  have K0 := Keep.refl h0 []
  obtain ⟨T3, X3, e3, st3⟩ := getS2 X0 hx hZ hown (host := "") (Or.inl (hw _ (List.mem_of_getElem? (i := 4) rfl))) Via.refl e0 (S_VERSIONS.ext O0.2) (g := (mkF m 2 #[.val (.int y0), .val .null, .unset, .unset, .unset, .unset] [])) rfl (hb hby d_prog_57_method_4_code_2)
  obtain ⟨cl4, Ar4, q4, S4, Ng4, Ha4, G4⟩ := (V_VERSIONS.ext O0.2)
  obtain ⟨cl6, Ar6, q6, S6, Ng6, Ha6, G6⟩ := (V_VERSIONS.ext O0.2)
  have hin6 : ¬ ((0 : Int32) < 0 ∨ cl6.slots.size ≤ ((0 : Int32)).toNatClampNeg) := inb_of S6 ⟨by decide, by decide⟩
  have hat6 : cl6.slots[((0 : Int32)).toNatClampNeg]? = some (.ref w_MQTT_3_1_1) := Ha6.at hin6 rfl
  obtain ⟨T7, X7, e7, st7⟩ := getF X3 hx hZ hown (host := "") (Or.inl (hw _ (List.mem_of_getElem? (i := 7) rfl))) Via.refl e3 (F_level_MQTT_3_1_1.ext O0.2) (g := (mkF m 26 #[.val (.int y0), .val .null, .val (.ref w_VERSIONS), .val (.int (2 : Int32)), .val (.int (0 : Int32)), .val (.ref w_MQTT_3_1_1)] [(.ref w_MQTT_3_1_1)])) rfl rfl (hb hby d_prog_57_method_4_code_26)
  have pre8 : ∀ t, Steps p.tables e below (T7.setTop (mkF m 39 #[.val (.int y0), .val (.ref w_MQTT_3_1_1), .val (.ref w_VERSIONS), .val (.int (2 : Int32)), .val (.int ((0 : Int32) + (1 : Int32))), .val (.ref w_MQTT_3_1_1)] [])) t → Steps p.tables e below (s₁.setTop (entryFrame m #[(.int y0)] 6)) t := by
    intro t kt
    refine pre0 t ?_
    show Steps p.tables e below (s₁.setTop (mkF m 0 #[.val (.int y0), .unset, .unset, .unset, .unset, .unset] [])) _
    refine XS.aconstNull X0.here hx rfl (hb hby d_prog_57_method_4_code_0) ?_
    show Steps p.tables e below (s₁.setTop (mkF m 1 #[.val (.int y0), .unset, .unset, .unset, .unset, .unset] [.null])) _
    refine XS.astoreN X0.here hx rfl (hb hby d_prog_57_method_4_code_1) rfl rfl (l' := #[.val (.int y0), .val .null, .unset, .unset, .unset, .unset]) rfl ?_
    show Steps p.tables e below (s₁.setTop (mkF m 2 #[.val (.int y0), .val .null, .unset, .unset, .unset, .unset] [])) _
    refine st3 _ ?_
    show Steps p.tables e below (T3.setTop (mkF m 5 #[.val (.int y0), .val .null, .unset, .unset, .unset, .unset] [(.ref w_VERSIONS)])) _
    refine XS.astoreN X3.here hx rfl (hb hby d_prog_57_method_4_code_5) rfl rfl (l' := #[.val (.int y0), .val .null, .val (.ref w_VERSIONS), .unset, .unset, .unset]) rfl ?_
    show Steps p.tables e below (T3.setTop (mkF m 6 #[.val (.int y0), .val .null, .val (.ref w_VERSIONS), .unset, .unset, .unset] [])) _
    refine XS.aloadN X3.here hx rfl (hb hby d_prog_57_method_4_code_6) rfl rfl ?_
    show Steps p.tables e below (T3.setTop (mkF m 7 #[.val (.int y0), .val .null, .val (.ref w_VERSIONS), .unset, .unset, .unset] [(.ref w_VERSIONS)])) _
    refine X3.arraylength hx (by rw [e3]; exact Ar4.1) (State.isArrayOf_alike hZ.alike Ar4.2.1) (g := (mkF m 7 #[.val (.int y0), .val .null, .val (.ref w_VERSIONS), .unset, .unset, .unset] [(.ref w_VERSIONS)])) rfl rfl (hb hby d_prog_57_method_4_code_7) _ ?_
    rw [len_of S4 Ng4]
    show Steps p.tables e below (T3.setTop (mkF m 8 #[.val (.int y0), .val .null, .val (.ref w_VERSIONS), .unset, .unset, .unset] [(.int (2 : Int32))])) _
    refine XS.istoreN X3.here hx rfl (hb hby d_prog_57_method_4_code_8) rfl (l' := #[.val (.int y0), .val .null, .val (.ref w_VERSIONS), .val (.int (2 : Int32)), .unset, .unset]) rfl ?_
    show Steps p.tables e below (T3.setTop (mkF m 9 #[.val (.int y0), .val .null, .val (.ref w_VERSIONS), .val (.int (2 : Int32)), .unset, .unset] [])) _
    refine XS.iconst X3.here hx rfl (hb hby d_prog_57_method_4_code_9) ?_
    show Steps p.tables e below (T3.setTop (mkF m 10 #[.val (.int y0), .val .null, .val (.ref w_VERSIONS), .val (.int (2 : Int32)), .unset, .unset] [(.int (0 : Int32))])) _
    refine XS.istore X3.here hx rfl (hb hby d_prog_57_method_4_code_10) rfl (l' := #[.val (.int y0), .val .null, .val (.ref w_VERSIONS), .val (.int (2 : Int32)), .val (.int (0 : Int32)), .unset]) rfl ?_
    show Steps p.tables e below (T3.setTop (mkF m 12 #[.val (.int y0), .val .null, .val (.ref w_VERSIONS), .val (.int (2 : Int32)), .val (.int (0 : Int32)), .unset] [])) _
    refine XS.iload X3.here hx rfl (hb hby d_prog_57_method_4_code_12) rfl ?_
    show Steps p.tables e below (T3.setTop (mkF m 14 #[.val (.int y0), .val .null, .val (.ref w_VERSIONS), .val (.int (2 : Int32)), .val (.int (0 : Int32)), .unset] [(.int (0 : Int32))])) _
    refine XS.iloadN X3.here hx rfl (hb hby d_prog_57_method_4_code_14) rfl ?_
    show Steps p.tables e below (T3.setTop (mkF m 15 #[.val (.int y0), .val .null, .val (.ref w_VERSIONS), .val (.int (2 : Int32)), .val (.int (0 : Int32)), .unset] [(.int (2 : Int32)), (.int (0 : Int32))])) _
    refine XS.icmpNo X3.here hx rfl (hb hby d_prog_57_method_4_code_15) rfl (tlt (by decide : (0 : Int32) < (2 : Int32))).2.1 ?_
    show Steps p.tables e below (T3.setTop (mkF m 18 #[.val (.int y0), .val .null, .val (.ref w_VERSIONS), .val (.int (2 : Int32)), .val (.int (0 : Int32)), .unset] [])) _
    refine XS.aloadN X3.here hx rfl (hb hby d_prog_57_method_4_code_18) rfl rfl ?_
    show Steps p.tables e below (T3.setTop (mkF m 19 #[.val (.int y0), .val .null, .val (.ref w_VERSIONS), .val (.int (2 : Int32)), .val (.int (0 : Int32)), .unset] [(.ref w_VERSIONS)])) _
    refine XS.iload X3.here hx rfl (hb hby d_prog_57_method_4_code_19) rfl ?_
    show Steps p.tables e below (T3.setTop (mkF m 21 #[.val (.int y0), .val .null, .val (.ref w_VERSIONS), .val (.int (2 : Int32)), .val (.int (0 : Int32)), .unset] [(.int (0 : Int32)), (.ref w_VERSIONS)])) _
    refine X3.aaload hx (j := (0 : Int32)) (v := (.ref w_MQTT_3_1_1)) (by rw [e3]; exact Ar6.1) (State.isArrayOf_alike hZ.alike Ar6.2.1) rfl Ar6.2.2 hin6 hat6 (g := (mkF m 21 #[.val (.int y0), .val .null, .val (.ref w_VERSIONS), .val (.int (2 : Int32)), .val (.int (0 : Int32)), .unset] [(.int (0 : Int32)), (.ref w_VERSIONS)])) rfl rfl (hb hby d_prog_57_method_4_code_21) _ ?_
    show Steps p.tables e below (T3.setTop (mkF m 22 #[.val (.int y0), .val .null, .val (.ref w_VERSIONS), .val (.int (2 : Int32)), .val (.int (0 : Int32)), .unset] [(.ref w_MQTT_3_1_1)])) _
    refine XS.astore X3.here hx rfl (hb hby d_prog_57_method_4_code_22) rfl rfl (l' := #[.val (.int y0), .val .null, .val (.ref w_VERSIONS), .val (.int (2 : Int32)), .val (.int (0 : Int32)), .val (.ref w_MQTT_3_1_1)]) rfl ?_
    show Steps p.tables e below (T3.setTop (mkF m 24 #[.val (.int y0), .val .null, .val (.ref w_VERSIONS), .val (.int (2 : Int32)), .val (.int (0 : Int32)), .val (.ref w_MQTT_3_1_1)] [])) _
    refine XS.aload X3.here hx rfl (hb hby d_prog_57_method_4_code_24) rfl rfl ?_
    show Steps p.tables e below (T3.setTop (mkF m 26 #[.val (.int y0), .val .null, .val (.ref w_VERSIONS), .val (.int (2 : Int32)), .val (.int (0 : Int32)), .val (.ref w_MQTT_3_1_1)] [(.ref w_MQTT_3_1_1)])) _
    refine st7 _ ?_
    show Steps p.tables e below (T7.setTop (mkF m 29 #[.val (.int y0), .val .null, .val (.ref w_VERSIONS), .val (.int (2 : Int32)), .val (.int (0 : Int32)), .val (.ref w_MQTT_3_1_1)] [(.int (4 : Int32))])) _
    refine XS.iloadN X7.here hx rfl (hb hby d_prog_57_method_4_code_29) rfl ?_
    show Steps p.tables e below (T7.setTop (mkF m 30 #[.val (.int y0), .val .null, .val (.ref w_VERSIONS), .val (.int (2 : Int32)), .val (.int (0 : Int32)), .val (.ref w_MQTT_3_1_1)] [(.int y0), (.int (4 : Int32))])) _
    refine XS.icmpNo X7.here hx rfl (hb hby d_prog_57_method_4_code_30) rfl (teq hp1).2 ?_
    show Steps p.tables e below (T7.setTop (mkF m 33 #[.val (.int y0), .val .null, .val (.ref w_VERSIONS), .val (.int (2 : Int32)), .val (.int (0 : Int32)), .val (.ref w_MQTT_3_1_1)] [])) _
    refine XS.aload X7.here hx rfl (hb hby d_prog_57_method_4_code_33) rfl rfl ?_
    show Steps p.tables e below (T7.setTop (mkF m 35 #[.val (.int y0), .val .null, .val (.ref w_VERSIONS), .val (.int (2 : Int32)), .val (.int (0 : Int32)), .val (.ref w_MQTT_3_1_1)] [(.ref w_MQTT_3_1_1)])) _
    refine XS.astoreN X7.here hx rfl (hb hby d_prog_57_method_4_code_35) rfl rfl (l' := #[.val (.int y0), .val (.ref w_MQTT_3_1_1), .val (.ref w_VERSIONS), .val (.int (2 : Int32)), .val (.int (0 : Int32)), .val (.ref w_MQTT_3_1_1)]) rfl ?_
    show Steps p.tables e below (T7.setTop (mkF m 36 #[.val (.int y0), .val (.ref w_MQTT_3_1_1), .val (.ref w_VERSIONS), .val (.int (2 : Int32)), .val (.int (0 : Int32)), .val (.ref w_MQTT_3_1_1)] [])) _
    refine XS.iinc X7.here hx rfl (hb hby d_prog_57_method_4_code_36) rfl (l' := #[.val (.int y0), .val (.ref w_MQTT_3_1_1), .val (.ref w_VERSIONS), .val (.int (2 : Int32)), .val (.int ((0 : Int32) + (1 : Int32))), .val (.ref w_MQTT_3_1_1)]) rfl ?_
    exact kt
  rw [show ((0 : Int32) + (1 : Int32)) = (1 : Int32) from by decide] at pre8
  obtain ⟨cl10, Ar10, q10, S10, Ng10, Ha10, G10⟩ := (V_VERSIONS.ext O0.2)
  have hin10 : ¬ ((1 : Int32) < 0 ∨ cl10.slots.size ≤ ((1 : Int32)).toNatClampNeg) := inb_of S10 ⟨by decide, by decide⟩
  have hat10 : cl10.slots[((1 : Int32)).toNatClampNeg]? = some (.ref w_MQTT_5_0) := Ha10.at hin10 rfl
  obtain ⟨T11, X11, e11, st11⟩ := getF X7 hx hZ hown (host := "") (Or.inl (hw _ (List.mem_of_getElem? (i := 7) rfl))) Via.refl e7 (F_level_MQTT_5_0.ext O0.2) (g := (mkF m 26 #[.val (.int y0), .val (.ref w_MQTT_3_1_1), .val (.ref w_VERSIONS), .val (.int (2 : Int32)), .val (.int (1 : Int32)), .val (.ref w_MQTT_5_0)] [(.ref w_MQTT_5_0)])) rfl rfl (hb hby d_prog_57_method_4_code_26)
  have pre12 : ∀ t, Steps p.tables e below (T11.setTop (mkF m 39 #[.val (.int y0), .val (.ref w_MQTT_3_1_1), .val (.ref w_VERSIONS), .val (.int (2 : Int32)), .val (.int ((1 : Int32) + (1 : Int32))), .val (.ref w_MQTT_5_0)] [])) t → Steps p.tables e below (s₁.setTop (entryFrame m #[(.int y0)] 6)) t := by
    intro t kt
    refine pre8 t ?_
    show Steps p.tables e below (T7.setTop (mkF m 39 #[.val (.int y0), .val (.ref w_MQTT_3_1_1), .val (.ref w_VERSIONS), .val (.int (2 : Int32)), .val (.int (1 : Int32)), .val (.ref w_MQTT_3_1_1)] [])) _
    refine XS.goto X7.here hx rfl (pc0 := 39) (pc' := 12) rfl (hb hby d_prog_57_method_4_code_39) (by decide) (by decide) ?_
    show Steps p.tables e below (T7.setTop (mkF m 12 #[.val (.int y0), .val (.ref w_MQTT_3_1_1), .val (.ref w_VERSIONS), .val (.int (2 : Int32)), .val (.int (1 : Int32)), .val (.ref w_MQTT_3_1_1)] [])) _
    refine XS.iload X7.here hx rfl (hb hby d_prog_57_method_4_code_12) rfl ?_
    show Steps p.tables e below (T7.setTop (mkF m 14 #[.val (.int y0), .val (.ref w_MQTT_3_1_1), .val (.ref w_VERSIONS), .val (.int (2 : Int32)), .val (.int (1 : Int32)), .val (.ref w_MQTT_3_1_1)] [(.int (1 : Int32))])) _
    refine XS.iloadN X7.here hx rfl (hb hby d_prog_57_method_4_code_14) rfl ?_
    show Steps p.tables e below (T7.setTop (mkF m 15 #[.val (.int y0), .val (.ref w_MQTT_3_1_1), .val (.ref w_VERSIONS), .val (.int (2 : Int32)), .val (.int (1 : Int32)), .val (.ref w_MQTT_3_1_1)] [(.int (2 : Int32)), (.int (1 : Int32))])) _
    refine XS.icmpNo X7.here hx rfl (hb hby d_prog_57_method_4_code_15) rfl (tlt (by decide : (1 : Int32) < (2 : Int32))).2.1 ?_
    show Steps p.tables e below (T7.setTop (mkF m 18 #[.val (.int y0), .val (.ref w_MQTT_3_1_1), .val (.ref w_VERSIONS), .val (.int (2 : Int32)), .val (.int (1 : Int32)), .val (.ref w_MQTT_3_1_1)] [])) _
    refine XS.aloadN X7.here hx rfl (hb hby d_prog_57_method_4_code_18) rfl rfl ?_
    show Steps p.tables e below (T7.setTop (mkF m 19 #[.val (.int y0), .val (.ref w_MQTT_3_1_1), .val (.ref w_VERSIONS), .val (.int (2 : Int32)), .val (.int (1 : Int32)), .val (.ref w_MQTT_3_1_1)] [(.ref w_VERSIONS)])) _
    refine XS.iload X7.here hx rfl (hb hby d_prog_57_method_4_code_19) rfl ?_
    show Steps p.tables e below (T7.setTop (mkF m 21 #[.val (.int y0), .val (.ref w_MQTT_3_1_1), .val (.ref w_VERSIONS), .val (.int (2 : Int32)), .val (.int (1 : Int32)), .val (.ref w_MQTT_3_1_1)] [(.int (1 : Int32)), (.ref w_VERSIONS)])) _
    refine X7.aaload hx (j := (1 : Int32)) (v := (.ref w_MQTT_5_0)) (by rw [e7]; exact Ar10.1) (State.isArrayOf_alike hZ.alike Ar10.2.1) rfl Ar10.2.2 hin10 hat10 (g := (mkF m 21 #[.val (.int y0), .val (.ref w_MQTT_3_1_1), .val (.ref w_VERSIONS), .val (.int (2 : Int32)), .val (.int (1 : Int32)), .val (.ref w_MQTT_3_1_1)] [(.int (1 : Int32)), (.ref w_VERSIONS)])) rfl rfl (hb hby d_prog_57_method_4_code_21) _ ?_
    show Steps p.tables e below (T7.setTop (mkF m 22 #[.val (.int y0), .val (.ref w_MQTT_3_1_1), .val (.ref w_VERSIONS), .val (.int (2 : Int32)), .val (.int (1 : Int32)), .val (.ref w_MQTT_3_1_1)] [(.ref w_MQTT_5_0)])) _
    refine XS.astore X7.here hx rfl (hb hby d_prog_57_method_4_code_22) rfl rfl (l' := #[.val (.int y0), .val (.ref w_MQTT_3_1_1), .val (.ref w_VERSIONS), .val (.int (2 : Int32)), .val (.int (1 : Int32)), .val (.ref w_MQTT_5_0)]) rfl ?_
    show Steps p.tables e below (T7.setTop (mkF m 24 #[.val (.int y0), .val (.ref w_MQTT_3_1_1), .val (.ref w_VERSIONS), .val (.int (2 : Int32)), .val (.int (1 : Int32)), .val (.ref w_MQTT_5_0)] [])) _
    refine XS.aload X7.here hx rfl (hb hby d_prog_57_method_4_code_24) rfl rfl ?_
    show Steps p.tables e below (T7.setTop (mkF m 26 #[.val (.int y0), .val (.ref w_MQTT_3_1_1), .val (.ref w_VERSIONS), .val (.int (2 : Int32)), .val (.int (1 : Int32)), .val (.ref w_MQTT_5_0)] [(.ref w_MQTT_5_0)])) _
    refine st11 _ ?_
    show Steps p.tables e below (T11.setTop (mkF m 29 #[.val (.int y0), .val (.ref w_MQTT_3_1_1), .val (.ref w_VERSIONS), .val (.int (2 : Int32)), .val (.int (1 : Int32)), .val (.ref w_MQTT_5_0)] [(.int (5 : Int32))])) _
    refine XS.iloadN X11.here hx rfl (hb hby d_prog_57_method_4_code_29) rfl ?_
    show Steps p.tables e below (T11.setTop (mkF m 30 #[.val (.int y0), .val (.ref w_MQTT_3_1_1), .val (.ref w_VERSIONS), .val (.int (2 : Int32)), .val (.int (1 : Int32)), .val (.ref w_MQTT_5_0)] [(.int y0), (.int (5 : Int32))])) _
    refine XS.icmpYes X11.here hx rfl (pc0 := 30) (pc' := 36) rfl (hb hby d_prog_57_method_4_code_30) rfl (feq hp3).2 (by decide) (by decide) ?_
    show Steps p.tables e below (T11.setTop (mkF m 36 #[.val (.int y0), .val (.ref w_MQTT_3_1_1), .val (.ref w_VERSIONS), .val (.int (2 : Int32)), .val (.int (1 : Int32)), .val (.ref w_MQTT_5_0)] [])) _
    refine XS.iinc X11.here hx rfl (hb hby d_prog_57_method_4_code_36) rfl (l' := #[.val (.int y0), .val (.ref w_MQTT_3_1_1), .val (.ref w_VERSIONS), .val (.int (2 : Int32)), .val (.int ((1 : Int32) + (1 : Int32))), .val (.ref w_MQTT_5_0)]) rfl ?_
    exact kt
  rw [show ((1 : Int32) + (1 : Int32)) = (2 : Int32) from by decide] at pre12
  have pre14 : ∀ t, Steps p.tables e below (T11.setTop (mkF m 43 #[.val (.int y0), .val (.ref w_MQTT_3_1_1), .val (.ref w_VERSIONS), .val (.int (2 : Int32)), .val (.int (2 : Int32)), .val (.ref w_MQTT_5_0)] [(.ref w_MQTT_3_1_1)])) t → Steps p.tables e below (s₁.setTop (entryFrame m #[(.int y0)] 6)) t := by
    intro t kt
    refine pre12 t ?_
    show Steps p.tables e below (T11.setTop (mkF m 39 #[.val (.int y0), .val (.ref w_MQTT_3_1_1), .val (.ref w_VERSIONS), .val (.int (2 : Int32)), .val (.int (2 : Int32)), .val (.ref w_MQTT_5_0)] [])) _
    refine XS.goto X11.here hx rfl (pc0 := 39) (pc' := 12) rfl (hb hby d_prog_57_method_4_code_39) (by decide) (by decide) ?_
    show Steps p.tables e below (T11.setTop (mkF m 12 #[.val (.int y0), .val (.ref w_MQTT_3_1_1), .val (.ref w_VERSIONS), .val (.int (2 : Int32)), .val (.int (2 : Int32)), .val (.ref w_MQTT_5_0)] [])) _
    refine XS.iload X11.here hx rfl (hb hby d_prog_57_method_4_code_12) rfl ?_
    show Steps p.tables e below (T11.setTop (mkF m 14 #[.val (.int y0), .val (.ref w_MQTT_3_1_1), .val (.ref w_VERSIONS), .val (.int (2 : Int32)), .val (.int (2 : Int32)), .val (.ref w_MQTT_5_0)] [(.int (2 : Int32))])) _
    refine XS.iloadN X11.here hx rfl (hb hby d_prog_57_method_4_code_14) rfl ?_
    show Steps p.tables e below (T11.setTop (mkF m 15 #[.val (.int y0), .val (.ref w_MQTT_3_1_1), .val (.ref w_VERSIONS), .val (.int (2 : Int32)), .val (.int (2 : Int32)), .val (.ref w_MQTT_5_0)] [(.int (2 : Int32)), (.int (2 : Int32))])) _
    refine XS.icmpYes X11.here hx rfl (pc0 := 15) (pc' := 42) rfl (hb hby d_prog_57_method_4_code_15) rfl (flt (by decide : ¬ ((2 : Int32) < (2 : Int32)))).2.1 (by decide) (by decide) ?_
    show Steps p.tables e below (T11.setTop (mkF m 42 #[.val (.int y0), .val (.ref w_MQTT_3_1_1), .val (.ref w_VERSIONS), .val (.int (2 : Int32)), .val (.int (2 : Int32)), .val (.ref w_MQTT_5_0)] [])) _
    refine XS.aloadN X11.here hx rfl (hb hby d_prog_57_method_4_code_42) rfl rfl ?_
    exact kt
  obtain ⟨fs, hr, hrun, hended, hW, hsame⟩ := X11.leave (v := some (.ref w_MQTT_3_1_1)) (fun h => by rw [Bd.returns] at h; cases h)
  refine ⟨_, _, pre14 _ ?_, hrun, hended, _, _, rfl, ?_, ⟨_, rfl⟩, hW, hsame.mono (by decide) (by decide)⟩
  · show Steps p.tables e below (T11.setTop (mkF m 43 #[.val (.int y0), .val (.ref w_MQTT_3_1_1), .val (.ref w_VERSIONS), .val (.int (2 : Int32)), .val (.int (2 : Int32)), .val (.ref w_MQTT_5_0)] [(.ref w_MQTT_3_1_1)])) _
    jvm_step X11.here [X11.here.top, hx, (hb hby d_prog_57_method_4_code_43), X11.method', Bd.returns, Value.isRef, FieldType.isReference]
    first | (intro acts; rw [hr _ acts rfl rfl rfl]) | rw [hr _ _ rfl rfl rfl]
    exact Steps.refl _
  · show Q_rm_ofLevel_1 Z y0 w_VERSIONS k_VERSIONS w_MQTT_3_1_1 w_MQTT_5_0 h0 n0 _ T11.heap _
    rw [e11]
    exact ⟨rfl, N0, rfl⟩
theorem ef_rm_ofLevel_2 (m : MethodId) (y0 : Int32) : entryFrame m #[(.int y0)] 6 = mkF m 0 #[.val (.int y0), .unset, .unset, .unset, .unset, .unset] [] := by first | (simp [entryFrame, mkF, argsToLocals, Value.category]; done) | rfl
def Q_rm_ofLevel_2 (Z : State) (y0 : Int32) (w_VERSIONS : Addr) (k_VERSIONS : ClassId) (w_MQTT_3_1_1 : Addr) (w_MQTT_5_0 : Addr) (h0 : Heap) (n0 : Nat) (v : Option Value) (h : Heap) (L : List Loc) : Prop := v = some (.ref w_MQTT_5_0) ∧ Fr n0 L ∧ h = h0
set_option maxRecDepth 65536 in
set_option maxHeartbeats 40000000 in
theorem rm_ofLevel_2 (l : Launch) (Z : State) (a0 : Array Value) (hw : ∀ d ∈ tables_1, d.before a0 Z = true) (ws : List Jvm.Cond) (y0 : Int32) (w_VERSIONS : Addr) (k_VERSIONS : ClassId) (w_MQTT_3_1_1 : Addr) (w_MQTT_5_0 : Addr) (h0 : Heap) (n0 : Nat) (O0 : Old Z n0 h0) (hp1 : ¬ ((4 : Int32) = y0)) (hp3 : (5 : Int32) = y0) (S_VERSIONS : Sta Z Z.heap "com/example/octets_to_session/octetstosession/core/ProtocolVersion" "VERSIONS" "[Lcom/example/octets_to_session/octetstosession/core/ProtocolVersion;" (.ref w_VERSIONS)) (V_VERSIONS : Arv Z Z.heap w_VERSIONS k_VERSIONS (.object "com/example/octets_to_session/octetstosession/core/ProtocolVersion") (2 : Int32) [(.ref w_MQTT_3_1_1), (.ref w_MQTT_5_0)] .null) (F_level_MQTT_3_1_1 : Fld Z Z.heap w_MQTT_3_1_1 "com/example/octets_to_session/octetstosession/core/ProtocolVersion" "level" "I" (.int (4 : Int32))) (F_level_MQTT_5_0 : Fld Z Z.heap w_MQTT_5_0 "com/example/octets_to_session/octetstosession/core/ProtocolVersion" "level" "I" (.int (5 : Int32))) :
    MetFree l (⟨"com/example/octets_to_session/octetstosession/core/ProtocolVersion", "ofLevel", "(I)Lcom/example/octets_to_session/octetstosession/core/ProtocolVersion;"⟩ : MethodName) (head1 (Jvm.Cond.code (⟨"com/example/octets_to_session/octetstosession/core/ProtocolVersion", "ofLevel", "(I)Lcom/example/octets_to_session/octetstosession/core/ProtocolVersion;"⟩ : MethodName) prog_57_method_4_code 6 (some (.object "com/example/octets_to_session/octetstosession/core/ProtocolVersion")) :: ws) ({ frames := 0, cells := 0, slots := 0, locals := 0 } : Room)) (fun a U => a = #[(.int y0)] ∧ Z.Warmed39 U.vm ∧ U.heap = h0) (fun _ _ _ _ _ => True) (fun _ U o U' => ∃ v L, o = .returned v ∧ Q_rm_ofLevel_2 Z y0 w_VERSIONS k_VERSIONS w_MQTT_3_1_1 w_MQTT_5_0 h0 n0 v U'.heap L ∧ FrameEnd U o U' L ({ frames := 0, cells := 0, slots := 0, locals := 0 } : Room).cells ({ frames := 0, cells := 0, slots := 0, locals := 0 } : Room).slots) := by
  refine MetFree.of_bodySF (plainFor_of_name pn_com_example_octets_to_session_octetstosession_core_ProtocolVersion) hisR ?_
  intro p e s m args below meth c s₁ Bd hml0 hP hK
  obtain ⟨rfl, hZ, hh⟩ := hP
  have hx := Bd.exec
  have hby := Bd.bytes
  have hml : c.maxLocals = 6 := hml0
  have hown : s.vm.findClass "com/example/octets_to_session/octetstosession/core/ProtocolVersion" = some m.cls := findClass_of_methodNamed Bd.named
  have hnm := (name_of_methodNamed Bd.named Bd.method).1
  have X0 : Stand p l e ({ frames := 0, cells := 0, slots := 0, locals := 0 } : Room) s m #[(.int y0)] below meth c s₁ [] 0 0 := Stand.of_body Bd
  have e0 : s₁.heap = h0 := by rw [← hh, Bd.state]; rfl
  have N0 := Fr.nil n0
  have pre0 : ∀ t, Steps p.tables e below (s₁.setTop (mkF m 0 #[.val (.int y0), .unset, .unset, .unset, .unset, .unset] [])) t → Steps p.tables e below (s₁.setTop (entryFrame m #[(.int y0)] 6)) t := fun t k => castTop (ef_rm_ofLevel_2 m y0) k
  have K0 := Keep.refl h0 []
  obtain ⟨T19, X19, e19, st19⟩ := getS2 X0 hx hZ hown (host := "") (Or.inl (hw _ (List.mem_of_getElem? (i := 4) rfl))) Via.refl e0 (S_VERSIONS.ext O0.2) (g := (mkF m 2 #[.val (.int y0), .val .null, .unset, .unset, .unset, .unset] [])) rfl (hb hby d_prog_57_method_4_code_2)
  obtain ⟨cl20, Ar20, q20, S20, Ng20, Ha20, G20⟩ := (V_VERSIONS.ext O0.2)
  obtain ⟨cl22, Ar22, q22, S22, Ng22, Ha22, G22⟩ := (V_VERSIONS.ext O0.2)
  have hin22 : ¬ ((0 : Int32) < 0 ∨ cl22.slots.size ≤ ((0 : Int32)).toNatClampNeg) := inb_of S22 ⟨by decide, by decide⟩
  have hat22 : cl22.slots[((0 : Int32)).toNatClampNeg]? = some (.ref w_MQTT_3_1_1) := Ha22.at hin22 rfl
  obtain ⟨T23, X23, e23, st23⟩ := getF X19 hx hZ hown (host := "") (Or.inl (hw _ (List.mem_of_getElem? (i := 7) rfl))) Via.refl e19 (F_level_MQTT_3_1_1.ext O0.2) (g := (mkF m 26 #[.val (.int y0), .val .null, .val (.ref w_VERSIONS), .val (.int (2 : Int32)), .val (.int (0 : Int32)), .val (.ref w_MQTT_3_1_1)] [(.ref w_MQTT_3_1_1)])) rfl rfl (hb hby d_prog_57_method_4_code_26)
  have pre24 : ∀ t, Steps p.tables e below (T23.setTop (mkF m 39 #[.val (.int y0), .val .null, .val (.ref w_VERSIONS), .val (.int (2 : Int32)), .val (.int ((0 : Int32) + (1 : Int32))), .val (.ref w_MQTT_3_1_1)] [])) t → Steps p.tables e below (s₁.setTop (entryFrame m #[(.int y0)] 6)) t := by
    intro t kt
    refine pre0 t ?_
    show Steps p.tables e below (s₁.setTop (mkF m 0 #[.val (.int y0), .unset, .unset, .unset, .unset, .unset] [])) _
    refine XS.aconstNull X0.here hx rfl (hb hby d_prog_57_method_4_code_0) ?_
    show Steps p.tables e below (s₁.setTop (mkF m 1 #[.val (.int y0), .unset, .unset, .unset, .unset, .unset] [.null])) _
    refine XS.astoreN X0.here hx rfl (hb hby d_prog_57_method_4_code_1) rfl rfl (l' := #[.val (.int y0), .val .null, .unset, .unset, .unset, .unset]) rfl ?_
    show Steps p.tables e below (s₁.setTop (mkF m 2 #[.val (.int y0), .val .null, .unset, .unset, .unset, .unset] [])) _
    refine st19 _ ?_
    show Steps p.tables e below (T19.setTop (mkF m 5 #[.val (.int y0), .val .null, .unset, .unset, .unset, .unset] [(.ref w_VERSIONS)])) _
    refine XS.astoreN X19.here hx rfl (hb hby d_prog_57_method_4_code_5) rfl rfl (l' := #[.val (.int y0), .val .null, .val (.ref w_VERSIONS), .unset, .unset, .unset]) rfl ?_
    show Steps p.tables e below (T19.setTop (mkF m 6 #[.val (.int y0), .val .null, .val (.ref w_VERSIONS), .unset, .unset, .unset] [])) _
    refine XS.aloadN X19.here hx rfl (hb hby d_prog_57_method_4_code_6) rfl rfl ?_
    show Steps p.tables e below (T19.setTop (mkF m 7 #[.val (.int y0), .val .null, .val (.ref w_VERSIONS), .unset, .unset, .unset] [(.ref w_VERSIONS)])) _
    refine X19.arraylength hx (by rw [e19]; exact Ar20.1) (State.isArrayOf_alike hZ.alike Ar20.2.1) (g := (mkF m 7 #[.val (.int y0), .val .null, .val (.ref w_VERSIONS), .unset, .unset, .unset] [(.ref w_VERSIONS)])) rfl rfl (hb hby d_prog_57_method_4_code_7) _ ?_
    rw [len_of S20 Ng20]
    show Steps p.tables e below (T19.setTop (mkF m 8 #[.val (.int y0), .val .null, .val (.ref w_VERSIONS), .unset, .unset, .unset] [(.int (2 : Int32))])) _
    refine XS.istoreN X19.here hx rfl (hb hby d_prog_57_method_4_code_8) rfl (l' := #[.val (.int y0), .val .null, .val (.ref w_VERSIONS), .val (.int (2 : Int32)), .unset, .unset]) rfl ?_
    show Steps p.tables e below (T19.setTop (mkF m 9 #[.val (.int y0), .val .null, .val (.ref w_VERSIONS), .val (.int (2 : Int32)), .unset, .unset] [])) _
    refine XS.iconst X19.here hx rfl (hb hby d_prog_57_method_4_code_9) ?_
    show Steps p.tables e below (T19.setTop (mkF m 10 #[.val (.int y0), .val .null, .val (.ref w_VERSIONS), .val (.int (2 : Int32)), .unset, .unset] [(.int (0 : Int32))])) _
    refine XS.istore X19.here hx rfl (hb hby d_prog_57_method_4_code_10) rfl (l' := #[.val (.int y0), .val .null, .val (.ref w_VERSIONS), .val (.int (2 : Int32)), .val (.int (0 : Int32)), .unset]) rfl ?_
    show Steps p.tables e below (T19.setTop (mkF m 12 #[.val (.int y0), .val .null, .val (.ref w_VERSIONS), .val (.int (2 : Int32)), .val (.int (0 : Int32)), .unset] [])) _
    refine XS.iload X19.here hx rfl (hb hby d_prog_57_method_4_code_12) rfl ?_
    show Steps p.tables e below (T19.setTop (mkF m 14 #[.val (.int y0), .val .null, .val (.ref w_VERSIONS), .val (.int (2 : Int32)), .val (.int (0 : Int32)), .unset] [(.int (0 : Int32))])) _
    refine XS.iloadN X19.here hx rfl (hb hby d_prog_57_method_4_code_14) rfl ?_
    show Steps p.tables e below (T19.setTop (mkF m 15 #[.val (.int y0), .val .null, .val (.ref w_VERSIONS), .val (.int (2 : Int32)), .val (.int (0 : Int32)), .unset] [(.int (2 : Int32)), (.int (0 : Int32))])) _
    refine XS.icmpNo X19.here hx rfl (hb hby d_prog_57_method_4_code_15) rfl (tlt (by decide : (0 : Int32) < (2 : Int32))).2.1 ?_
    show Steps p.tables e below (T19.setTop (mkF m 18 #[.val (.int y0), .val .null, .val (.ref w_VERSIONS), .val (.int (2 : Int32)), .val (.int (0 : Int32)), .unset] [])) _
    refine XS.aloadN X19.here hx rfl (hb hby d_prog_57_method_4_code_18) rfl rfl ?_
    show Steps p.tables e below (T19.setTop (mkF m 19 #[.val (.int y0), .val .null, .val (.ref w_VERSIONS), .val (.int (2 : Int32)), .val (.int (0 : Int32)), .unset] [(.ref w_VERSIONS)])) _
    refine XS.iload X19.here hx rfl (hb hby d_prog_57_method_4_code_19) rfl ?_
    show Steps p.tables e below (T19.setTop (mkF m 21 #[.val (.int y0), .val .null, .val (.ref w_VERSIONS), .val (.int (2 : Int32)), .val (.int (0 : Int32)), .unset] [(.int (0 : Int32)), (.ref w_VERSIONS)])) _
    refine X19.aaload hx (j := (0 : Int32)) (v := (.ref w_MQTT_3_1_1)) (by rw [e19]; exact Ar22.1) (State.isArrayOf_alike hZ.alike Ar22.2.1) rfl Ar22.2.2 hin22 hat22 (g := (mkF m 21 #[.val (.int y0), .val .null, .val (.ref w_VERSIONS), .val (.int (2 : Int32)), .val (.int (0 : Int32)), .unset] [(.int (0 : Int32)), (.ref w_VERSIONS)])) rfl rfl (hb hby d_prog_57_method_4_code_21) _ ?_
    show Steps p.tables e below (T19.setTop (mkF m 22 #[.val (.int y0), .val .null, .val (.ref w_VERSIONS), .val (.int (2 : Int32)), .val (.int (0 : Int32)), .unset] [(.ref w_MQTT_3_1_1)])) _
    refine XS.astore X19.here hx rfl (hb hby d_prog_57_method_4_code_22) rfl rfl (l' := #[.val (.int y0), .val .null, .val (.ref w_VERSIONS), .val (.int (2 : Int32)), .val (.int (0 : Int32)), .val (.ref w_MQTT_3_1_1)]) rfl ?_
    show Steps p.tables e below (T19.setTop (mkF m 24 #[.val (.int y0), .val .null, .val (.ref w_VERSIONS), .val (.int (2 : Int32)), .val (.int (0 : Int32)), .val (.ref w_MQTT_3_1_1)] [])) _
    refine XS.aload X19.here hx rfl (hb hby d_prog_57_method_4_code_24) rfl rfl ?_
    show Steps p.tables e below (T19.setTop (mkF m 26 #[.val (.int y0), .val .null, .val (.ref w_VERSIONS), .val (.int (2 : Int32)), .val (.int (0 : Int32)), .val (.ref w_MQTT_3_1_1)] [(.ref w_MQTT_3_1_1)])) _
    refine st23 _ ?_
    show Steps p.tables e below (T23.setTop (mkF m 29 #[.val (.int y0), .val .null, .val (.ref w_VERSIONS), .val (.int (2 : Int32)), .val (.int (0 : Int32)), .val (.ref w_MQTT_3_1_1)] [(.int (4 : Int32))])) _
    refine XS.iloadN X23.here hx rfl (hb hby d_prog_57_method_4_code_29) rfl ?_
    show Steps p.tables e below (T23.setTop (mkF m 30 #[.val (.int y0), .val .null, .val (.ref w_VERSIONS), .val (.int (2 : Int32)), .val (.int (0 : Int32)), .val (.ref w_MQTT_3_1_1)] [(.int y0), (.int (4 : Int32))])) _
    refine XS.icmpYes X23.here hx rfl (pc0 := 30) (pc' := 36) rfl (hb hby d_prog_57_method_4_code_30) rfl (feq hp1).2 (by decide) (by decide) ?_
    show Steps p.tables e below (T23.setTop (mkF m 36 #[.val (.int y0), .val .null, .val (.ref w_VERSIONS), .val (.int (2 : Int32)), .val (.int (0 : Int32)), .val (.ref w_MQTT_3_1_1)] [])) _
    refine XS.iinc X23.here hx rfl (hb hby d_prog_57_method_4_code_36) rfl (l' := #[.val (.int y0), .val .null, .val (.ref w_VERSIONS), .val (.int (2 : Int32)), .val (.int ((0 : Int32) + (1 : Int32))), .val (.ref w_MQTT_3_1_1)]) rfl ?_
    exact kt
  rw [show ((0 : Int32) + (1 : Int32)) = (1 : Int32) from by decide] at pre24
  obtain ⟨cl26, Ar26, q26, S26, Ng26, Ha26, G26⟩ := (V_VERSIONS.ext O0.2)
  have hin26 : ¬ ((1 : Int32) < 0 ∨ cl26.slots.size ≤ ((1 : Int32)).toNatClampNeg) := inb_of S26 ⟨by decide, by decide⟩
  have hat26 : cl26.slots[((1 : Int32)).toNatClampNeg]? = some (.ref w_MQTT_5_0) := Ha26.at hin26 rfl
  obtain ⟨T27, X27, e27, st27⟩ := getF X23 hx hZ hown (host := "") (Or.inl (hw _ (List.mem_of_getElem? (i := 7) rfl))) Via.refl e23 (F_level_MQTT_5_0.ext O0.2) (g := (mkF m 26 #[.val (.int y0), .val .null, .val (.ref w_VERSIONS), .val (.int (2 : Int32)), .val (.int (1 : Int32)), .val (.ref w_MQTT_5_0)] [(.ref w_MQTT_5_0)])) rfl rfl (hb hby d_prog_57_method_4_code_26)
  have pre28 : ∀ t, Steps p.tables e below (T27.setTop (mkF m 39 #[.val (.int y0), .val (.ref w_MQTT_5_0), .val (.ref w_VERSIONS), .val (.int (2 : Int32)), .val (.int ((1 : Int32) + (1 : Int32))), .val (.ref w_MQTT_5_0)] [])) t → Steps p.tables e below (s₁.setTop (entryFrame m #[(.int y0)] 6)) t := by
    intro t kt
    refine pre24 t ?_
    show Steps p.tables e below (T23.setTop (mkF m 39 #[.val (.int y0), .val .null, .val (.ref w_VERSIONS), .val (.int (2 : Int32)), .val (.int (1 : Int32)), .val (.ref w_MQTT_3_1_1)] [])) _
    refine XS.goto X23.here hx rfl (pc0 := 39) (pc' := 12) rfl (hb hby d_prog_57_method_4_code_39) (by decide) (by decide) ?_
    show Steps p.tables e below (T23.setTop (mkF m 12 #[.val (.int y0), .val .null, .val (.ref w_VERSIONS), .val (.int (2 : Int32)), .val (.int (1 : Int32)), .val (.ref w_MQTT_3_1_1)] [])) _
    refine XS.iload X23.here hx rfl (hb hby d_prog_57_method_4_code_12) rfl ?_
    show Steps p.tables e below (T23.setTop (mkF m 14 #[.val (.int y0), .val .null, .val (.ref w_VERSIONS), .val (.int (2 : Int32)), .val (.int (1 : Int32)), .val (.ref w_MQTT_3_1_1)] [(.int (1 : Int32))])) _
    refine XS.iloadN X23.here hx rfl (hb hby d_prog_57_method_4_code_14) rfl ?_
    show Steps p.tables e below (T23.setTop (mkF m 15 #[.val (.int y0), .val .null, .val (.ref w_VERSIONS), .val (.int (2 : Int32)), .val (.int (1 : Int32)), .val (.ref w_MQTT_3_1_1)] [(.int (2 : Int32)), (.int (1 : Int32))])) _
    refine XS.icmpNo X23.here hx rfl (hb hby d_prog_57_method_4_code_15) rfl (tlt (by decide : (1 : Int32) < (2 : Int32))).2.1 ?_
    show Steps p.tables e below (T23.setTop (mkF m 18 #[.val (.int y0), .val .null, .val (.ref w_VERSIONS), .val (.int (2 : Int32)), .val (.int (1 : Int32)), .val (.ref w_MQTT_3_1_1)] [])) _
    refine XS.aloadN X23.here hx rfl (hb hby d_prog_57_method_4_code_18) rfl rfl ?_
    show Steps p.tables e below (T23.setTop (mkF m 19 #[.val (.int y0), .val .null, .val (.ref w_VERSIONS), .val (.int (2 : Int32)), .val (.int (1 : Int32)), .val (.ref w_MQTT_3_1_1)] [(.ref w_VERSIONS)])) _
    refine XS.iload X23.here hx rfl (hb hby d_prog_57_method_4_code_19) rfl ?_
    show Steps p.tables e below (T23.setTop (mkF m 21 #[.val (.int y0), .val .null, .val (.ref w_VERSIONS), .val (.int (2 : Int32)), .val (.int (1 : Int32)), .val (.ref w_MQTT_3_1_1)] [(.int (1 : Int32)), (.ref w_VERSIONS)])) _
    refine X23.aaload hx (j := (1 : Int32)) (v := (.ref w_MQTT_5_0)) (by rw [e23]; exact Ar26.1) (State.isArrayOf_alike hZ.alike Ar26.2.1) rfl Ar26.2.2 hin26 hat26 (g := (mkF m 21 #[.val (.int y0), .val .null, .val (.ref w_VERSIONS), .val (.int (2 : Int32)), .val (.int (1 : Int32)), .val (.ref w_MQTT_3_1_1)] [(.int (1 : Int32)), (.ref w_VERSIONS)])) rfl rfl (hb hby d_prog_57_method_4_code_21) _ ?_
    show Steps p.tables e below (T23.setTop (mkF m 22 #[.val (.int y0), .val .null, .val (.ref w_VERSIONS), .val (.int (2 : Int32)), .val (.int (1 : Int32)), .val (.ref w_MQTT_3_1_1)] [(.ref w_MQTT_5_0)])) _
    refine XS.astore X23.here hx rfl (hb hby d_prog_57_method_4_code_22) rfl rfl (l' := #[.val (.int y0), .val .null, .val (.ref w_VERSIONS), .val (.int (2 : Int32)), .val (.int (1 : Int32)), .val (.ref w_MQTT_5_0)]) rfl ?_
    show Steps p.tables e below (T23.setTop (mkF m 24 #[.val (.int y0), .val .null, .val (.ref w_VERSIONS), .val (.int (2 : Int32)), .val (.int (1 : Int32)), .val (.ref w_MQTT_5_0)] [])) _
    refine XS.aload X23.here hx rfl (hb hby d_prog_57_method_4_code_24) rfl rfl ?_
    show Steps p.tables e below (T23.setTop (mkF m 26 #[.val (.int y0), .val .null, .val (.ref w_VERSIONS), .val (.int (2 : Int32)), .val (.int (1 : Int32)), .val (.ref w_MQTT_5_0)] [(.ref w_MQTT_5_0)])) _
    refine st27 _ ?_
    show Steps p.tables e below (T27.setTop (mkF m 29 #[.val (.int y0), .val .null, .val (.ref w_VERSIONS), .val (.int (2 : Int32)), .val (.int (1 : Int32)), .val (.ref w_MQTT_5_0)] [(.int (5 : Int32))])) _
    refine XS.iloadN X27.here hx rfl (hb hby d_prog_57_method_4_code_29) rfl ?_
    show Steps p.tables e below (T27.setTop (mkF m 30 #[.val (.int y0), .val .null, .val (.ref w_VERSIONS), .val (.int (2 : Int32)), .val (.int (1 : Int32)), .val (.ref w_MQTT_5_0)] [(.int y0), (.int (5 : Int32))])) _
    refine XS.icmpNo X27.here hx rfl (hb hby d_prog_57_method_4_code_30) rfl (teq hp3).2 ?_
    show Steps p.tables e below (T27.setTop (mkF m 33 #[.val (.int y0), .val .null, .val (.ref w_VERSIONS), .val (.int (2 : Int32)), .val (.int (1 : Int32)), .val (.ref w_MQTT_5_0)] [])) _
    refine XS.aload X27.here hx rfl (hb hby d_prog_57_method_4_code_33) rfl rfl ?_
    show Steps p.tables e below (T27.setTop (mkF m 35 #[.val (.int y0), .val .null, .val (.ref w_VERSIONS), .val (.int (2 : Int32)), .val (.int (1 : Int32)), .val (.ref w_MQTT_5_0)] [(.ref w_MQTT_5_0)])) _
    refine XS.astoreN X27.here hx rfl (hb hby d_prog_57_method_4_code_35) rfl rfl (l' := #[.val (.int y0), .val (.ref w_MQTT_5_0), .val (.ref w_VERSIONS), .val (.int (2 : Int32)), .val (.int (1 : Int32)), .val (.ref w_MQTT_5_0)]) rfl ?_
    show Steps p.tables e below (T27.setTop (mkF m 36 #[.val (.int y0), .val (.ref w_MQTT_5_0), .val (.ref w_VERSIONS), .val (.int (2 : Int32)), .val (.int (1 : Int32)), .val (.ref w_MQTT_5_0)] [])) _
    refine XS.iinc X27.here hx rfl (hb hby d_prog_57_method_4_code_36) rfl (l' := #[.val (.int y0), .val (.ref w_MQTT_5_0), .val (.ref w_VERSIONS), .val (.int (2 : Int32)), .val (.int ((1 : Int32) + (1 : Int32))), .val (.ref w_MQTT_5_0)]) rfl ?_
    exact kt
  rw [show ((1 : Int32) + (1 : Int32)) = (2 : Int32) from by decide] at pre28
  have pre30 : ∀ t, Steps p.tables e below (T27.setTop (mkF m 43 #[.val (.int y0), .val (.ref w_MQTT_5_0), .val (.ref w_VERSIONS), .val (.int (2 : Int32)), .val (.int (2 : Int32)), .val (.ref w_MQTT_5_0)] [(.ref w_MQTT_5_0)])) t → Steps p.tables e below (s₁.setTop (entryFrame m #[(.int y0)] 6)) t := by
    intro t kt
    refine pre28 t ?_
    show Steps p.tables e below (T27.setTop (mkF m 39 #[.val (.int y0), .val (.ref w_MQTT_5_0), .val (.ref w_VERSIONS), .val (.int (2 : Int32)), .val (.int (2 : Int32)), .val (.ref w_MQTT_5_0)] [])) _
    refine XS.goto X27.here hx rfl (pc0 := 39) (pc' := 12) rfl (hb hby d_prog_57_method_4_code_39) (by decide) (by decide) ?_
    show Steps p.tables e below (T27.setTop (mkF m 12 #[.val (.int y0), .val (.ref w_MQTT_5_0), .val (.ref w_VERSIONS), .val (.int (2 : Int32)), .val (.int (2 : Int32)), .val (.ref w_MQTT_5_0)] [])) _
    refine XS.iload X27.here hx rfl (hb hby d_prog_57_method_4_code_12) rfl ?_
    show Steps p.tables e below (T27.setTop (mkF m 14 #[.val (.int y0), .val (.ref w_MQTT_5_0), .val (.ref w_VERSIONS), .val (.int (2 : Int32)), .val (.int (2 : Int32)), .val (.ref w_MQTT_5_0)] [(.int (2 : Int32))])) _
    refine XS.iloadN X27.here hx rfl (hb hby d_prog_57_method_4_code_14) rfl ?_
    show Steps p.tables e below (T27.setTop (mkF m 15 #[.val (.int y0), .val (.ref w_MQTT_5_0), .val (.ref w_VERSIONS), .val (.int (2 : Int32)), .val (.int (2 : Int32)), .val (.ref w_MQTT_5_0)] [(.int (2 : Int32)), (.int (2 : Int32))])) _
    refine XS.icmpYes X27.here hx rfl (pc0 := 15) (pc' := 42) rfl (hb hby d_prog_57_method_4_code_15) rfl (flt (by decide : ¬ ((2 : Int32) < (2 : Int32)))).2.1 (by decide) (by decide) ?_
    show Steps p.tables e below (T27.setTop (mkF m 42 #[.val (.int y0), .val (.ref w_MQTT_5_0), .val (.ref w_VERSIONS), .val (.int (2 : Int32)), .val (.int (2 : Int32)), .val (.ref w_MQTT_5_0)] [])) _
    refine XS.aloadN X27.here hx rfl (hb hby d_prog_57_method_4_code_42) rfl rfl ?_
    exact kt
  obtain ⟨fs, hr, hrun, hended, hW, hsame⟩ := X27.leave (v := some (.ref w_MQTT_5_0)) (fun h => by rw [Bd.returns] at h; cases h)
  refine ⟨_, _, pre30 _ ?_, hrun, hended, _, _, rfl, ?_, ⟨_, rfl⟩, hW, hsame.mono (by decide) (by decide)⟩
  · show Steps p.tables e below (T27.setTop (mkF m 43 #[.val (.int y0), .val (.ref w_MQTT_5_0), .val (.ref w_VERSIONS), .val (.int (2 : Int32)), .val (.int (2 : Int32)), .val (.ref w_MQTT_5_0)] [(.ref w_MQTT_5_0)])) _
    jvm_step X27.here [X27.here.top, hx, (hb hby d_prog_57_method_4_code_43), X27.method', Bd.returns, Value.isRef, FieldType.isReference]
    first | (intro acts; rw [hr _ acts rfl rfl rfl]) | rw [hr _ _ rfl rfl rfl]
    exact Steps.refl _
  · show Q_rm_ofLevel_2 Z y0 w_VERSIONS k_VERSIONS w_MQTT_3_1_1 w_MQTT_5_0 h0 n0 _ T27.heap _
    rw [e27]
    exact ⟨rfl, N0, rfl⟩
theorem ef_rm_ofLevel_3 (m : MethodId) (y0 : Int32) : entryFrame m #[(.int y0)] 6 = mkF m 0 #[.val (.int y0), .unset, .unset, .unset, .unset, .unset] [] := by first | (simp [entryFrame, mkF, argsToLocals, Value.category]; done) | rfl
def Q_rm_ofLevel_3 (Z : State) (y0 : Int32) (w_VERSIONS : Addr) (k_VERSIONS : ClassId) (w_MQTT_3_1_1 : Addr) (w_MQTT_5_0 : Addr) (h0 : Heap) (n0 : Nat) (v : Option Value) (h : Heap) (L : List Loc) : Prop := v = some .null ∧ Fr n0 L ∧ h = h0
set_option maxRecDepth 65536 in
set_option maxHeartbeats 40000000 in
theorem rm_ofLevel_3 (l : Launch) (Z : State) (a0 : Array Value) (hw : ∀ d ∈ tables_1, d.before a0 Z = true) (ws : List Jvm.Cond) (y0 : Int32) (w_VERSIONS : Addr) (k_VERSIONS : ClassId) (w_MQTT_3_1_1 : Addr) (w_MQTT_5_0 : Addr) (h0 : Heap) (n0 : Nat) (O0 : Old Z n0 h0) (hp1 : ¬ ((4 : Int32) = y0)) (hp3 : ¬ ((5 : Int32) = y0)) (S_VERSIONS : Sta Z Z.heap "com/example/octets_to_session/octetstosession/core/ProtocolVersion" "VERSIONS" "[Lcom/example/octets_to_session/octetstosession/core/ProtocolVersion;" (.ref w_VERSIONS)) (V_VERSIONS : Arv Z Z.heap w_VERSIONS k_VERSIONS (.object "com/example/octets_to_session/octetstosession/core/ProtocolVersion") (2 : Int32) [(.ref w_MQTT_3_1_1), (.ref w_MQTT_5_0)] .null) (F_level_MQTT_3_1_1 : Fld Z Z.heap w_MQTT_3_1_1 "com/example/octets_to_session/octetstosession/core/ProtocolVersion" "level" "I" (.int (4 : Int32))) (F_level_MQTT_5_0 : Fld Z Z.heap w_MQTT_5_0 "com/example/octets_to_session/octetstosession/core/ProtocolVersion" "level" "I" (.int (5 : Int32))) :
    MetFree l (⟨"com/example/octets_to_session/octetstosession/core/ProtocolVersion", "ofLevel", "(I)Lcom/example/octets_to_session/octetstosession/core/ProtocolVersion;"⟩ : MethodName) (head1 (Jvm.Cond.code (⟨"com/example/octets_to_session/octetstosession/core/ProtocolVersion", "ofLevel", "(I)Lcom/example/octets_to_session/octetstosession/core/ProtocolVersion;"⟩ : MethodName) prog_57_method_4_code 6 (some (.object "com/example/octets_to_session/octetstosession/core/ProtocolVersion")) :: ws) ({ frames := 0, cells := 0, slots := 0, locals := 0 } : Room)) (fun a U => a = #[(.int y0)] ∧ Z.Warmed39 U.vm ∧ U.heap = h0) (fun _ _ _ _ _ => True) (fun _ U o U' => ∃ v L, o = .returned v ∧ Q_rm_ofLevel_3 Z y0 w_VERSIONS k_VERSIONS w_MQTT_3_1_1 w_MQTT_5_0 h0 n0 v U'.heap L ∧ FrameEnd U o U' L ({ frames := 0, cells := 0, slots := 0, locals := 0 } : Room).cells ({ frames := 0, cells := 0, slots := 0, locals := 0 } : Room).slots) := by
  refine MetFree.of_bodySF (plainFor_of_name pn_com_example_octets_to_session_octetstosession_core_ProtocolVersion) hisR ?_
  intro p e s m args below meth c s₁ Bd hml0 hP hK
  obtain ⟨rfl, hZ, hh⟩ := hP
  have hx := Bd.exec
  have hby := Bd.bytes
  have hml : c.maxLocals = 6 := hml0
  have hown : s.vm.findClass "com/example/octets_to_session/octetstosession/core/ProtocolVersion" = some m.cls := findClass_of_methodNamed Bd.named
  have hnm := (name_of_methodNamed Bd.named Bd.method).1
  have X0 : Stand p l e ({ frames := 0, cells := 0, slots := 0, locals := 0 } : Room) s m #[(.int y0)] below meth c s₁ [] 0 0 := Stand.of_body Bd
  have e0 : s₁.heap = h0 := by rw [← hh, Bd.state]; rfl
  have N0 := Fr.nil n0
  have pre0 : ∀ t, Steps p.tables e below (s₁.setTop (mkF m 0 #[.val (.int y0), .unset, .unset, .unset, .unset, .unset] [])) t → Steps p.tables e below (s₁.setTop (entryFrame m #[(.int y0)] 6)) t := fun t k => castTop (ef_rm_ofLevel_3 m y0) k
  have K0 := Keep.refl h0 []
  obtain ⟨T34, X34, e34, st34⟩ := getS2 X0 hx hZ hown (host := "") (Or.inl (hw _ (List.mem_of_getElem? (i := 4) rfl))) Via.refl e0 (S_VERSIONS.ext O0.2) (g := (mkF m 2 #[.val (.int y0), .val .null, .unset, .unset, .unset, .unset] [])) rfl (hb hby d_prog_57_method_4_code_2)
  obtain ⟨cl35, Ar35, q35, S35, Ng35, Ha35, G35⟩ := (V_VERSIONS.ext O0.2)
  obtain ⟨cl37, Ar37, q37, S37, Ng37, Ha37, G37⟩ := (V_VERSIONS.ext O0.2)
  have hin37 : ¬ ((0 : Int32) < 0 ∨ cl37.slots.size ≤ ((0 : Int32)).toNatClampNeg) := inb_of S37 ⟨by decide, by decide⟩
  have hat37 : cl37.slots[((0 : Int32)).toNatClampNeg]? = some (.ref w_MQTT_3_1_1) := Ha37.at hin37 rfl
  obtain ⟨T38, X38, e38, st38⟩ := getF X34 hx hZ hown (host := "") (Or.inl (hw _ (List.mem_of_getElem? (i := 7) rfl))) Via.refl e34 (F_level_MQTT_3_1_1.ext O0.2) (g := (mkF m 26 #[.val (.int y0), .val .null, .val (.ref w_VERSIONS), .val (.int (2 : Int32)), .val (.int (0 : Int32)), .val (.ref w_MQTT_3_1_1)] [(.ref w_MQTT_3_1_1)])) rfl rfl (hb hby d_prog_57_method_4_code_26)
  have pre39 : ∀ t, Steps p.tables e below (T38.setTop (mkF m 39 #[.val (.int y0), .val .null, .val (.ref w_VERSIONS), .val (.int (2 : Int32)), .val (.int ((0 : Int32) + (1 : Int32))), .val (.ref w_MQTT_3_1_1)] [])) t → Steps p.tables e below (s₁.setTop (entryFrame m #[(.int y0)] 6)) t := by
    intro t kt
    refine pre0 t ?_
    show Steps p.tables e below (s₁.setTop (mkF m 0 #[.val (.int y0), .unset, .unset, .unset, .unset, .unset] [])) _
    refine XS.aconstNull X0.here hx rfl (hb hby d_prog_57_method_4_code_0) ?_
    show Steps p.tables e below (s₁.setTop (mkF m 1 #[.val (.int y0), .unset, .unset, .unset, .unset, .unset] [.null])) _
    refine XS.astoreN X0.here hx rfl (hb hby d_prog_57_method_4_code_1) rfl rfl (l' := #[.val (.int y0), .val .null, .unset, .unset, .unset, .unset]) rfl ?_
    show Steps p.tables e below (s₁.setTop (mkF m 2 #[.val (.int y0), .val .null, .unset, .unset, .unset, .unset] [])) _
    refine st34 _ ?_
    show Steps p.tables e below (T34.setTop (mkF m 5 #[.val (.int y0), .val .null, .unset, .unset, .unset, .unset] [(.ref w_VERSIONS)])) _
    refine XS.astoreN X34.here hx rfl (hb hby d_prog_57_method_4_code_5) rfl rfl (l' := #[.val (.int y0), .val .null, .val (.ref w_VERSIONS), .unset, .unset, .unset]) rfl ?_
    show Steps p.tables e below (T34.setTop (mkF m 6 #[.val (.int y0), .val .null, .val (.ref w_VERSIONS), .unset, .unset, .unset] [])) _
    refine XS.aloadN X34.here hx rfl (hb hby d_prog_57_method_4_code_6) rfl rfl ?_
    show Steps p.tables e below (T34.setTop (mkF m 7 #[.val (.int y0), .val .null, .val (.ref w_VERSIONS), .unset, .unset, .unset] [(.ref w_VERSIONS)])) _
    refine X34.arraylength hx (by rw [e34]; exact Ar35.1) (State.isArrayOf_alike hZ.alike Ar35.2.1) (g := (mkF m 7 #[.val (.int y0), .val .null, .val (.ref w_VERSIONS), .unset, .unset, .unset] [(.ref w_VERSIONS)])) rfl rfl (hb hby d_prog_57_method_4_code_7) _ ?_
    rw [len_of S35 Ng35]
    show Steps p.tables e below (T34.setTop (mkF m 8 #[.val (.int y0), .val .null, .val (.ref w_VERSIONS), .unset, .unset, .unset] [(.int (2 : Int32))])) _
    refine XS.istoreN X34.here hx rfl (hb hby d_prog_57_method_4_code_8) rfl (l' := #[.val (.int y0), .val .null, .val (.ref w_VERSIONS), .val (.int (2 : Int32)), .unset, .unset]) rfl ?_
    show Steps p.tables e below (T34.setTop (mkF m 9 #[.val (.int y0), .val .null, .val (.ref w_VERSIONS), .val (.int (2 : Int32)), .unset, .unset] [])) _
    refine XS.iconst X34.here hx rfl (hb hby d_prog_57_method_4_code_9) ?_
    show Steps p.tables e below (T34.setTop (mkF m 10 #[.val (.int y0), .val .null, .val (.ref w_VERSIONS), .val (.int (2 : Int32)), .unset, .unset] [(.int (0 : Int32))])) _
    refine XS.istore X34.here hx rfl (hb hby d_prog_57_method_4_code_10) rfl (l' := #[.val (.int y0), .val .null, .val (.ref w_VERSIONS), .val (.int (2 : Int32)), .val (.int (0 : Int32)), .unset]) rfl ?_
    show Steps p.tables e below (T34.setTop (mkF m 12 #[.val (.int y0), .val .null, .val (.ref w_VERSIONS), .val (.int (2 : Int32)), .val (.int (0 : Int32)), .unset] [])) _
    refine XS.iload X34.here hx rfl (hb hby d_prog_57_method_4_code_12) rfl ?_
    show Steps p.tables e below (T34.setTop (mkF m 14 #[.val (.int y0), .val .null, .val (.ref w_VERSIONS), .val (.int (2 : Int32)), .val (.int (0 : Int32)), .unset] [(.int (0 : Int32))])) _
    refine XS.iloadN X34.here hx rfl (hb hby d_prog_57_method_4_code_14) rfl ?_
    show Steps p.tables e below (T34.setTop (mkF m 15 #[.val (.int y0), .val .null, .val (.ref w_VERSIONS), .val (.int (2 : Int32)), .val (.int (0 : Int32)), .unset] [(.int (2 : Int32)), (.int (0 : Int32))])) _
    refine XS.icmpNo X34.here hx rfl (hb hby d_prog_57_method_4_code_15) rfl (tlt (by decide : (0 : Int32) < (2 : Int32))).2.1 ?_
    show Steps p.tables e below (T34.setTop (mkF m 18 #[.val (.int y0), .val .null, .val (.ref w_VERSIONS), .val (.int (2 : Int32)), .val (.int (0 : Int32)), .unset] [])) _
    refine XS.aloadN X34.here hx rfl (hb hby d_prog_57_method_4_code_18) rfl rfl ?_
    show Steps p.tables e below (T34.setTop (mkF m 19 #[.val (.int y0), .val .null, .val (.ref w_VERSIONS), .val (.int (2 : Int32)), .val (.int (0 : Int32)), .unset] [(.ref w_VERSIONS)])) _
    refine XS.iload X34.here hx rfl (hb hby d_prog_57_method_4_code_19) rfl ?_
    show Steps p.tables e below (T34.setTop (mkF m 21 #[.val (.int y0), .val .null, .val (.ref w_VERSIONS), .val (.int (2 : Int32)), .val (.int (0 : Int32)), .unset] [(.int (0 : Int32)), (.ref w_VERSIONS)])) _
    refine X34.aaload hx (j := (0 : Int32)) (v := (.ref w_MQTT_3_1_1)) (by rw [e34]; exact Ar37.1) (State.isArrayOf_alike hZ.alike Ar37.2.1) rfl Ar37.2.2 hin37 hat37 (g := (mkF m 21 #[.val (.int y0), .val .null, .val (.ref w_VERSIONS), .val (.int (2 : Int32)), .val (.int (0 : Int32)), .unset] [(.int (0 : Int32)), (.ref w_VERSIONS)])) rfl rfl (hb hby d_prog_57_method_4_code_21) _ ?_
    show Steps p.tables e below (T34.setTop (mkF m 22 #[.val (.int y0), .val .null, .val (.ref w_VERSIONS), .val (.int (2 : Int32)), .val (.int (0 : Int32)), .unset] [(.ref w_MQTT_3_1_1)])) _
    refine XS.astore X34.here hx rfl (hb hby d_prog_57_method_4_code_22) rfl rfl (l' := #[.val (.int y0), .val .null, .val (.ref w_VERSIONS), .val (.int (2 : Int32)), .val (.int (0 : Int32)), .val (.ref w_MQTT_3_1_1)]) rfl ?_
    show Steps p.tables e below (T34.setTop (mkF m 24 #[.val (.int y0), .val .null, .val (.ref w_VERSIONS), .val (.int (2 : Int32)), .val (.int (0 : Int32)), .val (.ref w_MQTT_3_1_1)] [])) _
    refine XS.aload X34.here hx rfl (hb hby d_prog_57_method_4_code_24) rfl rfl ?_
    show Steps p.tables e below (T34.setTop (mkF m 26 #[.val (.int y0), .val .null, .val (.ref w_VERSIONS), .val (.int (2 : Int32)), .val (.int (0 : Int32)), .val (.ref w_MQTT_3_1_1)] [(.ref w_MQTT_3_1_1)])) _
    refine st38 _ ?_
    show Steps p.tables e below (T38.setTop (mkF m 29 #[.val (.int y0), .val .null, .val (.ref w_VERSIONS), .val (.int (2 : Int32)), .val (.int (0 : Int32)), .val (.ref w_MQTT_3_1_1)] [(.int (4 : Int32))])) _
    refine XS.iloadN X38.here hx rfl (hb hby d_prog_57_method_4_code_29) rfl ?_
    show Steps p.tables e below (T38.setTop (mkF m 30 #[.val (.int y0), .val .null, .val (.ref w_VERSIONS), .val (.int (2 : Int32)), .val (.int (0 : Int32)), .val (.ref w_MQTT_3_1_1)] [(.int y0), (.int (4 : Int32))])) _
    refine XS.icmpYes X38.here hx rfl (pc0 := 30) (pc' := 36) rfl (hb hby d_prog_57_method_4_code_30) rfl (feq hp1).2 (by decide) (by decide) ?_
    show Steps p.tables e below (T38.setTop (mkF m 36 #[.val (.int y0), .val .null, .val (.ref w_VERSIONS), .val (.int (2 : Int32)), .val (.int (0 : Int32)), .val (.ref w_MQTT_3_1_1)] [])) _
    refine XS.iinc X38.here hx rfl (hb hby d_prog_57_method_4_code_36) rfl (l' := #[.val (.int y0), .val .null, .val (.ref w_VERSIONS), .val (.int (2 : Int32)), .val (.int ((0 : Int32) + (1 : Int32))), .val (.ref w_MQTT_3_1_1)]) rfl ?_
    exact kt
  rw [show ((0 : Int32) + (1 : Int32)) = (1 : Int32) from by decide] at pre39
  obtain ⟨cl41, Ar41, q41, S41, Ng41, Ha41, G41⟩ := (V_VERSIONS.ext O0.2)
  have hin41 : ¬ ((1 : Int32) < 0 ∨ cl41.slots.size ≤ ((1 : Int32)).toNatClampNeg) := inb_of S41 ⟨by decide, by decide⟩
  have hat41 : cl41.slots[((1 : Int32)).toNatClampNeg]? = some (.ref w_MQTT_5_0) := Ha41.at hin41 rfl
  obtain ⟨T42, X42, e42, st42⟩ := getF X38 hx hZ hown (host := "") (Or.inl (hw _ (List.mem_of_getElem? (i := 7) rfl))) Via.refl e38 (F_level_MQTT_5_0.ext O0.2) (g := (mkF m 26 #[.val (.int y0), .val .null, .val (.ref w_VERSIONS), .val (.int (2 : Int32)), .val (.int (1 : Int32)), .val (.ref w_MQTT_5_0)] [(.ref w_MQTT_5_0)])) rfl rfl (hb hby d_prog_57_method_4_code_26)
  have pre43 : ∀ t, Steps p.tables e below (T42.setTop (mkF m 39 #[.val (.int y0), .val .null, .val (.ref w_VERSIONS), .val (.int (2 : Int32)), .val (.int ((1 : Int32) + (1 : Int32))), .val (.ref w_MQTT_5_0)] [])) t → Steps p.tables e below (s₁.setTop (entryFrame m #[(.int y0)] 6)) t := by
    intro t kt
    refine pre39 t ?_
    show Steps p.tables e below (T38.setTop (mkF m 39 #[.val (.int y0), .val .null, .val (.ref w_VERSIONS), .val (.int (2 : Int32)), .val (.int (1 : Int32)), .val (.ref w_MQTT_3_1_1)] [])) _
    refine XS.goto X38.here hx rfl (pc0 := 39) (pc' := 12) rfl (hb hby d_prog_57_method_4_code_39) (by decide) (by decide) ?_
    show Steps p.tables e below (T38.setTop (mkF m 12 #[.val (.int y0), .val .null, .val (.ref w_VERSIONS), .val (.int (2 : Int32)), .val (.int (1 : Int32)), .val (.ref w_MQTT_3_1_1)] [])) _
    refine XS.iload X38.here hx rfl (hb hby d_prog_57_method_4_code_12) rfl ?_
    show Steps p.tables e below (T38.setTop (mkF m 14 #[.val (.int y0), .val .null, .val (.ref w_VERSIONS), .val (.int (2 : Int32)), .val (.int (1 : Int32)), .val (.ref w_MQTT_3_1_1)] [(.int (1 : Int32))])) _
    refine XS.iloadN X38.here hx rfl (hb hby d_prog_57_method_4_code_14) rfl ?_
    show Steps p.tables e below (T38.setTop (mkF m 15 #[.val (.int y0), .val .null, .val (.ref w_VERSIONS), .val (.int (2 : Int32)), .val (.int (1 : Int32)), .val (.ref w_MQTT_3_1_1)] [(.int (2 : Int32)), (.int (1 : Int32))])) _
    refine XS.icmpNo X38.here hx rfl (hb hby d_prog_57_method_4_code_15) rfl (tlt (by decide : (1 : Int32) < (2 : Int32))).2.1 ?_
    show Steps p.tables e below (T38.setTop (mkF m 18 #[.val (.int y0), .val .null, .val (.ref w_VERSIONS), .val (.int (2 : Int32)), .val (.int (1 : Int32)), .val (.ref w_MQTT_3_1_1)] [])) _
    refine XS.aloadN X38.here hx rfl (hb hby d_prog_57_method_4_code_18) rfl rfl ?_
    show Steps p.tables e below (T38.setTop (mkF m 19 #[.val (.int y0), .val .null, .val (.ref w_VERSIONS), .val (.int (2 : Int32)), .val (.int (1 : Int32)), .val (.ref w_MQTT_3_1_1)] [(.ref w_VERSIONS)])) _
    refine XS.iload X38.here hx rfl (hb hby d_prog_57_method_4_code_19) rfl ?_
    show Steps p.tables e below (T38.setTop (mkF m 21 #[.val (.int y0), .val .null, .val (.ref w_VERSIONS), .val (.int (2 : Int32)), .val (.int (1 : Int32)), .val (.ref w_MQTT_3_1_1)] [(.int (1 : Int32)), (.ref w_VERSIONS)])) _
    refine X38.aaload hx (j := (1 : Int32)) (v := (.ref w_MQTT_5_0)) (by rw [e38]; exact Ar41.1) (State.isArrayOf_alike hZ.alike Ar41.2.1) rfl Ar41.2.2 hin41 hat41 (g := (mkF m 21 #[.val (.int y0), .val .null, .val (.ref w_VERSIONS), .val (.int (2 : Int32)), .val (.int (1 : Int32)), .val (.ref w_MQTT_3_1_1)] [(.int (1 : Int32)), (.ref w_VERSIONS)])) rfl rfl (hb hby d_prog_57_method_4_code_21) _ ?_
    show Steps p.tables e below (T38.setTop (mkF m 22 #[.val (.int y0), .val .null, .val (.ref w_VERSIONS), .val (.int (2 : Int32)), .val (.int (1 : Int32)), .val (.ref w_MQTT_3_1_1)] [(.ref w_MQTT_5_0)])) _
    refine XS.astore X38.here hx rfl (hb hby d_prog_57_method_4_code_22) rfl rfl (l' := #[.val (.int y0), .val .null, .val (.ref w_VERSIONS), .val (.int (2 : Int32)), .val (.int (1 : Int32)), .val (.ref w_MQTT_5_0)]) rfl ?_
    show Steps p.tables e below (T38.setTop (mkF m 24 #[.val (.int y0), .val .null, .val (.ref w_VERSIONS), .val (.int (2 : Int32)), .val (.int (1 : Int32)), .val (.ref w_MQTT_5_0)] [])) _
    refine XS.aload X38.here hx rfl (hb hby d_prog_57_method_4_code_24) rfl rfl ?_
    show Steps p.tables e below (T38.setTop (mkF m 26 #[.val (.int y0), .val .null, .val (.ref w_VERSIONS), .val (.int (2 : Int32)), .val (.int (1 : Int32)), .val (.ref w_MQTT_5_0)] [(.ref w_MQTT_5_0)])) _
    refine st42 _ ?_
    show Steps p.tables e below (T42.setTop (mkF m 29 #[.val (.int y0), .val .null, .val (.ref w_VERSIONS), .val (.int (2 : Int32)), .val (.int (1 : Int32)), .val (.ref w_MQTT_5_0)] [(.int (5 : Int32))])) _
    refine XS.iloadN X42.here hx rfl (hb hby d_prog_57_method_4_code_29) rfl ?_
    show Steps p.tables e below (T42.setTop (mkF m 30 #[.val (.int y0), .val .null, .val (.ref w_VERSIONS), .val (.int (2 : Int32)), .val (.int (1 : Int32)), .val (.ref w_MQTT_5_0)] [(.int y0), (.int (5 : Int32))])) _
    refine XS.icmpYes X42.here hx rfl (pc0 := 30) (pc' := 36) rfl (hb hby d_prog_57_method_4_code_30) rfl (feq hp3).2 (by decide) (by decide) ?_
    show Steps p.tables e below (T42.setTop (mkF m 36 #[.val (.int y0), .val .null, .val (.ref w_VERSIONS), .val (.int (2 : Int32)), .val (.int (1 : Int32)), .val (.ref w_MQTT_5_0)] [])) _
    refine XS.iinc X42.here hx rfl (hb hby d_prog_57_method_4_code_36) rfl (l' := #[.val (.int y0), .val .null, .val (.ref w_VERSIONS), .val (.int (2 : Int32)), .val (.int ((1 : Int32) + (1 : Int32))), .val (.ref w_MQTT_5_0)]) rfl ?_
    exact kt
  rw [show ((1 : Int32) + (1 : Int32)) = (2 : Int32) from by decide] at pre43
  have pre45 : ∀ t, Steps p.tables e below (T42.setTop (mkF m 43 #[.val (.int y0), .val .null, .val (.ref w_VERSIONS), .val (.int (2 : Int32)), .val (.int (2 : Int32)), .val (.ref w_MQTT_5_0)] [.null])) t → Steps p.tables e below (s₁.setTop (entryFrame m #[(.int y0)] 6)) t := by
    intro t kt
    refine pre43 t ?_
    show Steps p.tables e below (T42.setTop (mkF m 39 #[.val (.int y0), .val .null, .val (.ref w_VERSIONS), .val (.int (2 : Int32)), .val (.int (2 : Int32)), .val (.ref w_MQTT_5_0)] [])) _
    refine XS.goto X42.here hx rfl (pc0 := 39) (pc' := 12) rfl (hb hby d_prog_57_method_4_code_39) (by decide) (by decide) ?_
    show Steps p.tables e below (T42.setTop (mkF m 12 #[.val (.int y0), .val .null, .val (.ref w_VERSIONS), .val (.int (2 : Int32)), .val (.int (2 : Int32)), .val (.ref w_MQTT_5_0)] [])) _
    refine XS.iload X42.here hx rfl (hb hby d_prog_57_method_4_code_12) rfl ?_
    show Steps p.tables e below (T42.setTop (mkF m 14 #[.val (.int y0), .val .null, .val (.ref w_VERSIONS), .val (.int (2 : Int32)), .val (.int (2 : Int32)), .val (.ref w_MQTT_5_0)] [(.int (2 : Int32))])) _
    refine XS.iloadN X42.here hx rfl (hb hby d_prog_57_method_4_code_14) rfl ?_
    show Steps p.tables e below (T42.setTop (mkF m 15 #[.val (.int y0), .val .null, .val (.ref w_VERSIONS), .val (.int (2 : Int32)), .val (.int (2 : Int32)), .val (.ref w_MQTT_5_0)] [(.int (2 : Int32)), (.int (2 : Int32))])) _
    refine XS.icmpYes X42.here hx rfl (pc0 := 15) (pc' := 42) rfl (hb hby d_prog_57_method_4_code_15) rfl (flt (by decide : ¬ ((2 : Int32) < (2 : Int32)))).2.1 (by decide) (by decide) ?_
    show Steps p.tables e below (T42.setTop (mkF m 42 #[.val (.int y0), .val .null, .val (.ref w_VERSIONS), .val (.int (2 : Int32)), .val (.int (2 : Int32)), .val (.ref w_MQTT_5_0)] [])) _
    refine XS.aloadN X42.here hx rfl (hb hby d_prog_57_method_4_code_42) rfl rfl ?_
    exact kt
  obtain ⟨fs, hr, hrun, hended, hW, hsame⟩ := X42.leave (v := some .null) (fun h => by rw [Bd.returns] at h; cases h)
  refine ⟨_, _, pre45 _ ?_, hrun, hended, _, _, rfl, ?_, ⟨_, rfl⟩, hW, hsame.mono (by decide) (by decide)⟩
  · show Steps p.tables e below (T42.setTop (mkF m 43 #[.val (.int y0), .val .null, .val (.ref w_VERSIONS), .val (.int (2 : Int32)), .val (.int (2 : Int32)), .val (.ref w_MQTT_5_0)] [.null])) _
    jvm_step X42.here [X42.here.top, hx, (hb hby d_prog_57_method_4_code_43), X42.method', Bd.returns, Value.isRef, FieldType.isReference]
    first | (intro acts; rw [hr _ acts rfl rfl rfl]) | rw [hr _ _ rfl rfl rfl]
    exact Steps.refl _
  · show Q_rm_ofLevel_3 Z y0 w_VERSIONS k_VERSIONS w_MQTT_3_1_1 w_MQTT_5_0 h0 n0 _ T42.heap _
    rw [e42]
    exact ⟨rfl, N0, rfl⟩
theorem pd__I_Lcom_example_octets_to_session_octetstosession_core_ProtocolVersion_ : parseMethodDescriptor "(I)Lcom/example/octets_to_session/octetstosession/core/ProtocolVersion;" = some ⟨[.int], some (.object "com/example/octets_to_session/octetstosession/core/ProtocolVersion")⟩ := by decide +kernel
theorem pn_com_example_octets_to_session_octetstosession_core_ProtocolVersionOfLevelPinLaw : plainName "com/example/octets_to_session/octetstosession/core/ProtocolVersionOfLevelPinLaw" = true := by first | (simp [plainName, overriddenIn]; done) | decide +kernel
theorem ef_rm0 (m : MethodId) (p0 : Int32) : entryFrame m #[(.int p0)] maxLocals = mkF m 0 #[.val (.int p0), .unset, .unset] [] := by first | (simp [entryFrame, mkF, argsToLocals, Value.category, maxLocals]; done) | rfl
def Q_rm0 (Z : State) (p0 : Int32) (w_VERSIONS : Addr) (k_VERSIONS : ClassId) (w_MQTT_3_1_1 : Addr) (w_MQTT_5_0 : Addr) (h0 : Heap) (n0 : Nat) (v : Option Value) (h : Heap) (L : List Loc) : Prop := v = some (.int 1) ∧ Fr n0 L
set_option maxRecDepth 65536 in
set_option maxHeartbeats 40000000 in
theorem rm0 (l : Launch) (Z : State) (a0 : Array Value) (hw : ∀ d ∈ tables_1, d.before a0 Z = true) (ws : List Jvm.Cond) (p0 : Int32) (w_VERSIONS : Addr) (k_VERSIONS : ClassId) (w_MQTT_3_1_1 : Addr) (w_MQTT_5_0 : Addr) (h0 : Heap) (n0 : Nat) (O0 : Old Z n0 h0) (S_VERSIONS : Sta Z Z.heap "com/example/octets_to_session/octetstosession/core/ProtocolVersion" "VERSIONS" "[Lcom/example/octets_to_session/octetstosession/core/ProtocolVersion;" (.ref w_VERSIONS)) (V_VERSIONS : Arv Z Z.heap w_VERSIONS k_VERSIONS (.object "com/example/octets_to_session/octetstosession/core/ProtocolVersion") (2 : Int32) [(.ref w_MQTT_3_1_1), (.ref w_MQTT_5_0)] .null) (F_level_MQTT_3_1_1 : Fld Z Z.heap w_MQTT_3_1_1 "com/example/octets_to_session/octetstosession/core/ProtocolVersion" "level" "I" (.int (4 : Int32))) (F_level_MQTT_5_0 : Fld Z Z.heap w_MQTT_5_0 "com/example/octets_to_session/octetstosession/core/ProtocolVersion" "level" "I" (.int (5 : Int32))) (S_MQTT_3_1_1 : Sta Z Z.heap "com/example/octets_to_session/octetstosession/core/ProtocolVersion" "MQTT_3_1_1" "Lcom/example/octets_to_session/octetstosession/core/ProtocolVersion;" (.ref w_MQTT_3_1_1)) (S_MQTT_5_0 : Sta Z Z.heap "com/example/octets_to_session/octetstosession/core/ProtocolVersion" "MQTT_5_0" "Lcom/example/octets_to_session/octetstosession/core/ProtocolVersion;" (.ref w_MQTT_5_0)) :
    MetFree l x (head1 (Jvm.Cond.code x code maxLocals ret :: ws) room_1) (fun a U => a = #[(.int p0)] ∧ Z.Warmed39 U.vm ∧ U.heap = h0) (fun _ _ _ _ _ => True) (fun _ U o U' => ∃ v L, o = .returned v ∧ Q_rm0 Z p0 w_VERSIONS k_VERSIONS w_MQTT_3_1_1 w_MQTT_5_0 h0 n0 v U'.heap L ∧ FrameEnd U o U' L room_1.cells room_1.slots) := by
  refine MetFree.of_bodySF (plainFor_of_name pn_com_example_octets_to_session_octetstosession_core_ProtocolVersionOfLevelPinLaw) hisR ?_
  intro p e s m args below meth c s₁ Bd hml0 hP hK
  obtain ⟨rfl, hZ, hh⟩ := hP
  have hx := Bd.exec
  have hby := Bd.bytes
  have hml : c.maxLocals = 3 := hml0
  have hown : s.vm.findClass "com/example/octets_to_session/octetstosession/core/ProtocolVersionOfLevelPinLaw" = some m.cls := findClass_of_methodNamed Bd.named
  have hnm := (name_of_methodNamed Bd.named Bd.method).1
  have X0 : Stand p l e room_1 s m #[(.int p0)] below meth c s₁ [] 0 0 := Stand.of_body Bd
  have e0 : s₁.heap = h0 := by rw [← hh, Bd.state]; rfl
  have N0 := Fr.nil n0
  have pre0 : ∀ t, Steps p.tables e below (s₁.setTop (mkF m 0 #[.val (.int p0), .unset, .unset] [])) t → Steps p.tables e below (s₁.setTop (entryFrame m #[(.int p0)] maxLocals)) t := fun t k => castTop (ef_rm0 m p0) k
  by_cases hv1 : p0 = (4 : Int32)
  · obtain ⟨_, _, ⟨T2, L2, k2, n2⟩, -, X2, ⟨Lc2, hQ2, l2, y2, z2⟩, st2⟩ := Jvm.LawKit.callS X0 hx (y := (⟨"com/example/octets_to_session/octetstosession/core/ProtocolVersion", "ofLevel", "(I)Lcom/example/octets_to_session/octetstosession/core/ProtocolVersion;"⟩ : MethodName)) hown (mvT hZ (hw _ (List.mem_of_getElem? (i := 0) rfl))) (mvT hZ (hw _ (List.mem_of_getElem? (i := 1) rfl))) (mvT hZ (hw _ (List.mem_of_getElem? (i := 2) rfl))) (mvT hZ (hw _ (List.mem_of_getElem? (i := 3) rfl))) (by decide) (backOf (W := 0) (rm_ofLevel_1 l Z a0 hw [] p0 w_VERSIONS k_VERSIONS w_MQTT_3_1_1 w_MQTT_5_0 h0 n0 O0 (hv1).symm (Ne.symm (by rw [hv1]; decide : ¬ (p0 = (5 : Int32)))) S_VERSIONS V_VERSIONS F_level_MQTT_3_1_1 F_level_MQTT_5_0) hZ (hw _ (List.mem_of_getElem? (i := 3) rfl)) (hw _ (List.mem_of_getElem? (i := 2) rfl)) (by decide) (by decide)) (g := (mkF m 1 #[.val (.int p0), .unset, .unset] [(.int p0)])) rfl (by rw [hml]; rfl) (argsL := [(.int p0)]) (rest := []) (lenOf pd__I_Lcom_example_octets_to_session_octetstosession_core_ProtocolVersion_ rfl) rfl (by show 2 * 0 + _ ≤ _; exact Nat.le_of_eq rfl) (hb hby at_1) (fun _ _ => ⟨rfl, e0, (by decide : 0 + 0 ≤ _), (by decide : 0 + 0 ≤ _)⟩)
    dsimp only [Pt.U, Pt.locs, Pt.cells, Pt.slots] at X2 l2 y2 z2 st2 hQ2
    subst l2 y2 z2
    obtain ⟨rfl, N2q, e2⟩ := hQ2
    have N2 := Fr.app N0 N2q
    obtain ⟨T15, X15, e15, st15⟩ := getS2 X2 hx hZ hown (host := "") (Or.inl (hw _ (List.mem_of_getElem? (i := 11) rfl))) Via.refl e2 (S_MQTT_3_1_1.ext O0.2) (g := (mkF m 10 #[.val (.int p0), .val (.ref w_MQTT_3_1_1), .unset] [])) rfl (hb hby at_10)
    have pre16 : ∀ t, Steps p.tables e below (T15.setTop (mkF m 41 #[.val (.int p0), .val (.ref w_MQTT_3_1_1), .val (.ref w_MQTT_3_1_1)] [(.int (1 : Int32))])) t → Steps p.tables e below (s₁.setTop (entryFrame m #[(.int p0)] maxLocals)) t := by
      intro t kt
      refine pre0 t ?_
      show Steps p.tables e below (s₁.setTop (mkF m 0 #[.val (.int p0), .unset, .unset] [])) _
      refine XS.iloadN X0.here hx rfl (hb hby at_0) rfl ?_
      show Steps p.tables e below (s₁.setTop (mkF m 1 #[.val (.int p0), .unset, .unset] [(.int p0)])) _
      refine st2 _ ?_
      show Steps p.tables e below (T2.setTop (mkF m 4 #[.val (.int p0), .unset, .unset] [(.ref w_MQTT_3_1_1)])) _
      refine XS.astoreN X2.here hx rfl (hb hby at_4) rfl rfl (l' := #[.val (.int p0), .val (.ref w_MQTT_3_1_1), .unset]) rfl ?_
      show Steps p.tables e below (T2.setTop (mkF m 5 #[.val (.int p0), .val (.ref w_MQTT_3_1_1), .unset] [])) _
      refine XS.iloadN X2.here hx rfl (hb hby at_5) rfl ?_
      show Steps p.tables e below (T2.setTop (mkF m 6 #[.val (.int p0), .val (.ref w_MQTT_3_1_1), .unset] [(.int p0)])) _
      refine XS.iconst X2.here hx rfl (hb hby at_6) ?_
      show Steps p.tables e below (T2.setTop (mkF m 7 #[.val (.int p0), .val (.ref w_MQTT_3_1_1), .unset] [(.int (4 : Int32)), (.int p0)])) _
      refine XS.icmpNo X2.here hx rfl (hb hby at_7) rfl (teq hv1).2 ?_
      show Steps p.tables e below (T2.setTop (mkF m 10 #[.val (.int p0), .val (.ref w_MQTT_3_1_1), .unset] [])) _
      refine st15 _ ?_
      show Steps p.tables e below (T15.setTop (mkF m 13 #[.val (.int p0), .val (.ref w_MQTT_3_1_1), .unset] [(.ref w_MQTT_3_1_1)])) _
      refine XS.astoreN X15.here hx rfl (hb hby at_13) rfl rfl (l' := #[.val (.int p0), .val (.ref w_MQTT_3_1_1), .val (.ref w_MQTT_3_1_1)]) rfl ?_
      show Steps p.tables e below (T15.setTop (mkF m 14 #[.val (.int p0), .val (.ref w_MQTT_3_1_1), .val (.ref w_MQTT_3_1_1)] [])) _
      refine XS.goto X15.here hx rfl (pc0 := 14) (pc' := 31) rfl (hb hby at_14) (by decide) (by decide) ?_
      show Steps p.tables e below (T15.setTop (mkF m 31 #[.val (.int p0), .val (.ref w_MQTT_3_1_1), .val (.ref w_MQTT_3_1_1)] [])) _
      refine XS.aloadN X15.here hx rfl (hb hby at_31) rfl rfl ?_
      show Steps p.tables e below (T15.setTop (mkF m 32 #[.val (.int p0), .val (.ref w_MQTT_3_1_1), .val (.ref w_MQTT_3_1_1)] [(.ref w_MQTT_3_1_1)])) _
      refine XS.aloadN X15.here hx rfl (hb hby at_32) rfl rfl ?_
      show Steps p.tables e below (T15.setTop (mkF m 33 #[.val (.int p0), .val (.ref w_MQTT_3_1_1), .val (.ref w_MQTT_3_1_1)] [(.ref w_MQTT_3_1_1), (.ref w_MQTT_3_1_1)])) _
      refine Jvm.RoadKit.acmp (g := (mkF m 33 #[.val (.int p0), .val (.ref w_MQTT_3_1_1), .val (.ref w_MQTT_3_1_1)] [(.ref w_MQTT_3_1_1), (.ref w_MQTT_3_1_1)])) X15 hx rfl rfl rfl (pc0 := 33) (pc' := 36) (same := true) rfl (hb hby at_33) rfl (decide_eq_true rfl) (by decide) (by decide) ?_
      show Steps p.tables e below (T15.setTop (mkF m 36 #[.val (.int p0), .val (.ref w_MQTT_3_1_1), .val (.ref w_MQTT_3_1_1)] [])) _
      refine XS.iconst X15.here hx rfl (hb hby at_36) ?_
      show Steps p.tables e below (T15.setTop (mkF m 37 #[.val (.int p0), .val (.ref w_MQTT_3_1_1), .val (.ref w_MQTT_3_1_1)] [(.int (1 : Int32))])) _
      refine XS.goto X15.here hx rfl (pc0 := 37) (pc' := 41) rfl (hb hby at_37) (by decide) (by decide) ?_
      exact kt
    obtain ⟨fs, hr, hrun, hended, hW, hsame⟩ := X15.leave (v := some (.int (1 : Int32))) (fun h => by rw [Bd.returns] at h; cases h)
    refine ⟨_, _, pre16 _ ?_, hrun, hended, _, _, rfl, ?_, ⟨_, rfl⟩, hW, hsame.mono (by decide) (by decide)⟩
    · show Steps p.tables e below (T15.setTop (mkF m 41 #[.val (.int p0), .val (.ref w_MQTT_3_1_1), .val (.ref w_MQTT_3_1_1)] [(.int (1 : Int32))])) _
      exact retN X15 hx (t := .boolean) Bd.returns (by simp) (hb hby at_41) hr
    · show Q_rm0 Z p0 w_VERSIONS k_VERSIONS w_MQTT_3_1_1 w_MQTT_5_0 h0 n0 _ T15.heap _
      rw [e15]
      exact ⟨rfl, N2⟩
  · by_cases hv17 : p0 = (5 : Int32)
    · obtain ⟨_, _, ⟨T18, L18, k18, n18⟩, -, X18, ⟨Lc18, hQ18, l18, y18, z18⟩, st18⟩ := Jvm.LawKit.callS X0 hx (y := (⟨"com/example/octets_to_session/octetstosession/core/ProtocolVersion", "ofLevel", "(I)Lcom/example/octets_to_session/octetstosession/core/ProtocolVersion;"⟩ : MethodName)) hown (mvT hZ (hw _ (List.mem_of_getElem? (i := 0) rfl))) (mvT hZ (hw _ (List.mem_of_getElem? (i := 1) rfl))) (mvT hZ (hw _ (List.mem_of_getElem? (i := 2) rfl))) (mvT hZ (hw _ (List.mem_of_getElem? (i := 3) rfl))) (by decide) (backOf (W := 0) (rm_ofLevel_2 l Z a0 hw [] p0 w_VERSIONS k_VERSIONS w_MQTT_3_1_1 w_MQTT_5_0 h0 n0 O0 (Ne.symm (by rw [hv17]; decide : ¬ (p0 = (4 : Int32)))) (hv17).symm S_VERSIONS V_VERSIONS F_level_MQTT_3_1_1 F_level_MQTT_5_0) hZ (hw _ (List.mem_of_getElem? (i := 3) rfl)) (hw _ (List.mem_of_getElem? (i := 2) rfl)) (by decide) (by decide)) (g := (mkF m 1 #[.val (.int p0), .unset, .unset] [(.int p0)])) rfl (by rw [hml]; rfl) (argsL := [(.int p0)]) (rest := []) (lenOf pd__I_Lcom_example_octets_to_session_octetstosession_core_ProtocolVersion_ rfl) rfl (by show 2 * 0 + _ ≤ _; exact Nat.le_of_eq rfl) (hb hby at_1) (fun _ _ => ⟨rfl, e0, (by decide : 0 + 0 ≤ _), (by decide : 0 + 0 ≤ _)⟩)
      dsimp only [Pt.U, Pt.locs, Pt.cells, Pt.slots] at X18 l18 y18 z18 st18 hQ18
      subst l18 y18 z18
      obtain ⟨rfl, N18q, e18⟩ := hQ18
      have N18 := Fr.app N0 N18q
      obtain ⟨T31, X31, e31, st31⟩ := getS2 X18 hx hZ hown (host := "") (Or.inl (hw _ (List.mem_of_getElem? (i := 10) rfl))) Via.refl e18 (S_MQTT_5_0.ext O0.2) (g := (mkF m 22 #[.val (.int p0), .val (.ref w_MQTT_5_0), .unset] [])) rfl (hb hby at_22)
      have pre32 : ∀ t, Steps p.tables e below (T31.setTop (mkF m 41 #[.val (.int p0), .val (.ref w_MQTT_5_0), .val (.ref w_MQTT_5_0)] [(.int (1 : Int32))])) t → Steps p.tables e below (s₁.setTop (entryFrame m #[(.int p0)] maxLocals)) t := by
        intro t kt
        refine pre0 t ?_
        show Steps p.tables e below (s₁.setTop (mkF m 0 #[.val (.int p0), .unset, .unset] [])) _
        refine XS.iloadN X0.here hx rfl (hb hby at_0) rfl ?_
        show Steps p.tables e below (s₁.setTop (mkF m 1 #[.val (.int p0), .unset, .unset] [(.int p0)])) _
        refine st18 _ ?_
        show Steps p.tables e below (T18.setTop (mkF m 4 #[.val (.int p0), .unset, .unset] [(.ref w_MQTT_5_0)])) _
        refine XS.astoreN X18.here hx rfl (hb hby at_4) rfl rfl (l' := #[.val (.int p0), .val (.ref w_MQTT_5_0), .unset]) rfl ?_
        show Steps p.tables e below (T18.setTop (mkF m 5 #[.val (.int p0), .val (.ref w_MQTT_5_0), .unset] [])) _
        refine XS.iloadN X18.here hx rfl (hb hby at_5) rfl ?_
        show Steps p.tables e below (T18.setTop (mkF m 6 #[.val (.int p0), .val (.ref w_MQTT_5_0), .unset] [(.int p0)])) _
        refine XS.iconst X18.here hx rfl (hb hby at_6) ?_
        show Steps p.tables e below (T18.setTop (mkF m 7 #[.val (.int p0), .val (.ref w_MQTT_5_0), .unset] [(.int (4 : Int32)), (.int p0)])) _
        refine XS.icmpYes X18.here hx rfl (pc0 := 7) (pc' := 17) rfl (hb hby at_7) rfl (feq (by rw [hv17]; decide : ¬ (p0 = (4 : Int32)))).2 (by decide) (by decide) ?_
        show Steps p.tables e below (T18.setTop (mkF m 17 #[.val (.int p0), .val (.ref w_MQTT_5_0), .unset] [])) _
        refine XS.iloadN X18.here hx rfl (hb hby at_17) rfl ?_
        show Steps p.tables e below (T18.setTop (mkF m 18 #[.val (.int p0), .val (.ref w_MQTT_5_0), .unset] [(.int p0)])) _
        refine XS.iconst X18.here hx rfl (hb hby at_18) ?_
        show Steps p.tables e below (T18.setTop (mkF m 19 #[.val (.int p0), .val (.ref w_MQTT_5_0), .unset] [(.int (5 : Int32)), (.int p0)])) _
        refine XS.icmpNo X18.here hx rfl (hb hby at_19) rfl (teq hv17).2 ?_
        show Steps p.tables e below (T18.setTop (mkF m 22 #[.val (.int p0), .val (.ref w_MQTT_5_0), .unset] [])) _
        refine st31 _ ?_
        show Steps p.tables e below (T31.setTop (mkF m 25 #[.val (.int p0), .val (.ref w_MQTT_5_0), .unset] [(.ref w_MQTT_5_0)])) _
        refine XS.astoreN X31.here hx rfl (hb hby at_25) rfl rfl (l' := #[.val (.int p0), .val (.ref w_MQTT_5_0), .val (.ref w_MQTT_5_0)]) rfl ?_
        show Steps p.tables e below (T31.setTop (mkF m 26 #[.val (.int p0), .val (.ref w_MQTT_5_0), .val (.ref w_MQTT_5_0)] [])) _
        refine XS.goto X31.here hx rfl (pc0 := 26) (pc' := 31) rfl (hb hby at_26) (by decide) (by decide) ?_
        show Steps p.tables e below (T31.setTop (mkF m 31 #[.val (.int p0), .val (.ref w_MQTT_5_0), .val (.ref w_MQTT_5_0)] [])) _
        refine XS.aloadN X31.here hx rfl (hb hby at_31) rfl rfl ?_
        show Steps p.tables e below (T31.setTop (mkF m 32 #[.val (.int p0), .val (.ref w_MQTT_5_0), .val (.ref w_MQTT_5_0)] [(.ref w_MQTT_5_0)])) _
        refine XS.aloadN X31.here hx rfl (hb hby at_32) rfl rfl ?_
        show Steps p.tables e below (T31.setTop (mkF m 33 #[.val (.int p0), .val (.ref w_MQTT_5_0), .val (.ref w_MQTT_5_0)] [(.ref w_MQTT_5_0), (.ref w_MQTT_5_0)])) _
        refine Jvm.RoadKit.acmp (g := (mkF m 33 #[.val (.int p0), .val (.ref w_MQTT_5_0), .val (.ref w_MQTT_5_0)] [(.ref w_MQTT_5_0), (.ref w_MQTT_5_0)])) X31 hx rfl rfl rfl (pc0 := 33) (pc' := 36) (same := true) rfl (hb hby at_33) rfl (decide_eq_true rfl) (by decide) (by decide) ?_
        show Steps p.tables e below (T31.setTop (mkF m 36 #[.val (.int p0), .val (.ref w_MQTT_5_0), .val (.ref w_MQTT_5_0)] [])) _
        refine XS.iconst X31.here hx rfl (hb hby at_36) ?_
        show Steps p.tables e below (T31.setTop (mkF m 37 #[.val (.int p0), .val (.ref w_MQTT_5_0), .val (.ref w_MQTT_5_0)] [(.int (1 : Int32))])) _
        refine XS.goto X31.here hx rfl (pc0 := 37) (pc' := 41) rfl (hb hby at_37) (by decide) (by decide) ?_
        exact kt
      obtain ⟨fs, hr, hrun, hended, hW, hsame⟩ := X31.leave (v := some (.int (1 : Int32))) (fun h => by rw [Bd.returns] at h; cases h)
      refine ⟨_, _, pre32 _ ?_, hrun, hended, _, _, rfl, ?_, ⟨_, rfl⟩, hW, hsame.mono (by decide) (by decide)⟩
      · show Steps p.tables e below (T31.setTop (mkF m 41 #[.val (.int p0), .val (.ref w_MQTT_5_0), .val (.ref w_MQTT_5_0)] [(.int (1 : Int32))])) _
        exact retN X31 hx (t := .boolean) Bd.returns (by simp) (hb hby at_41) hr
      · show Q_rm0 Z p0 w_VERSIONS k_VERSIONS w_MQTT_3_1_1 w_MQTT_5_0 h0 n0 _ T31.heap _
        rw [e31]
        exact ⟨rfl, N18⟩
    · obtain ⟨_, _, ⟨T33, L33, k33, n33⟩, -, X33, ⟨Lc33, hQ33, l33, y33, z33⟩, st33⟩ := Jvm.LawKit.callS X0 hx (y := (⟨"com/example/octets_to_session/octetstosession/core/ProtocolVersion", "ofLevel", "(I)Lcom/example/octets_to_session/octetstosession/core/ProtocolVersion;"⟩ : MethodName)) hown (mvT hZ (hw _ (List.mem_of_getElem? (i := 0) rfl))) (mvT hZ (hw _ (List.mem_of_getElem? (i := 1) rfl))) (mvT hZ (hw _ (List.mem_of_getElem? (i := 2) rfl))) (mvT hZ (hw _ (List.mem_of_getElem? (i := 3) rfl))) (by decide) (backOf (W := 0) (rm_ofLevel_3 l Z a0 hw [] p0 w_VERSIONS k_VERSIONS w_MQTT_3_1_1 w_MQTT_5_0 h0 n0 O0 (Ne.symm hv1) (Ne.symm hv17) S_VERSIONS V_VERSIONS F_level_MQTT_3_1_1 F_level_MQTT_5_0) hZ (hw _ (List.mem_of_getElem? (i := 3) rfl)) (hw _ (List.mem_of_getElem? (i := 2) rfl)) (by decide) (by decide)) (g := (mkF m 1 #[.val (.int p0), .unset, .unset] [(.int p0)])) rfl (by rw [hml]; rfl) (argsL := [(.int p0)]) (rest := []) (lenOf pd__I_Lcom_example_octets_to_session_octetstosession_core_ProtocolVersion_ rfl) rfl (by show 2 * 0 + _ ≤ _; exact Nat.le_of_eq rfl) (hb hby at_1) (fun _ _ => ⟨rfl, e0, (by decide : 0 + 0 ≤ _), (by decide : 0 + 0 ≤ _)⟩)
      dsimp only [Pt.U, Pt.locs, Pt.cells, Pt.slots] at X33 l33 y33 z33 st33 hQ33
      subst l33 y33 z33
      obtain ⟨rfl, N33q, e33⟩ := hQ33
      have N33 := Fr.app N0 N33q
      have pre46 : ∀ t, Steps p.tables e below (T33.setTop (mkF m 41 #[.val (.int p0), .val .null, .val .null] [(.int (1 : Int32))])) t → Steps p.tables e below (s₁.setTop (entryFrame m #[(.int p0)] maxLocals)) t := by
        intro t kt
        refine pre0 t ?_
        show Steps p.tables e below (s₁.setTop (mkF m 0 #[.val (.int p0), .unset, .unset] [])) _
        refine XS.iloadN X0.here hx rfl (hb hby at_0) rfl ?_
        show Steps p.tables e below (s₁.setTop (mkF m 1 #[.val (.int p0), .unset, .unset] [(.int p0)])) _
        refine st33 _ ?_
        show Steps p.tables e below (T33.setTop (mkF m 4 #[.val (.int p0), .unset, .unset] [.null])) _
        refine XS.astoreN X33.here hx rfl (hb hby at_4) rfl rfl (l' := #[.val (.int p0), .val .null, .unset]) rfl ?_
        show Steps p.tables e below (T33.setTop (mkF m 5 #[.val (.int p0), .val .null, .unset] [])) _
        refine XS.iloadN X33.here hx rfl (hb hby at_5) rfl ?_
        show Steps p.tables e below (T33.setTop (mkF m 6 #[.val (.int p0), .val .null, .unset] [(.int p0)])) _
        refine XS.iconst X33.here hx rfl (hb hby at_6) ?_
        show Steps p.tables e below (T33.setTop (mkF m 7 #[.val (.int p0), .val .null, .unset] [(.int (4 : Int32)), (.int p0)])) _
        refine XS.icmpYes X33.here hx rfl (pc0 := 7) (pc' := 17) rfl (hb hby at_7) rfl (feq hv1).2 (by decide) (by decide) ?_
        show Steps p.tables e below (T33.setTop (mkF m 17 #[.val (.int p0), .val .null, .unset] [])) _
        refine XS.iloadN X33.here hx rfl (hb hby at_17) rfl ?_
        show Steps p.tables e below (T33.setTop (mkF m 18 #[.val (.int p0), .val .null, .unset] [(.int p0)])) _
        refine XS.iconst X33.here hx rfl (hb hby at_18) ?_
        show Steps p.tables e below (T33.setTop (mkF m 19 #[.val (.int p0), .val .null, .unset] [(.int (5 : Int32)), (.int p0)])) _
        refine XS.icmpYes X33.here hx rfl (pc0 := 19) (pc' := 29) rfl (hb hby at_19) rfl (feq hv17).2 (by decide) (by decide) ?_
        show Steps p.tables e below (T33.setTop (mkF m 29 #[.val (.int p0), .val .null, .unset] [])) _
        refine XS.aconstNull X33.here hx rfl (hb hby at_29) ?_
        show Steps p.tables e below (T33.setTop (mkF m 30 #[.val (.int p0), .val .null, .unset] [.null])) _
        refine XS.astoreN X33.here hx rfl (hb hby at_30) rfl rfl (l' := #[.val (.int p0), .val .null, .val .null]) rfl ?_
        show Steps p.tables e below (T33.setTop (mkF m 31 #[.val (.int p0), .val .null, .val .null] [])) _
        refine XS.aloadN X33.here hx rfl (hb hby at_31) rfl rfl ?_
        show Steps p.tables e below (T33.setTop (mkF m 32 #[.val (.int p0), .val .null, .val .null] [.null])) _
        refine XS.aloadN X33.here hx rfl (hb hby at_32) rfl rfl ?_
        show Steps p.tables e below (T33.setTop (mkF m 33 #[.val (.int p0), .val .null, .val .null] [.null, .null])) _
        refine Jvm.RoadKit.acmp (g := (mkF m 33 #[.val (.int p0), .val .null, .val .null] [.null, .null])) X33 hx rfl rfl rfl (pc0 := 33) (pc' := 36) (same := true) rfl (hb hby at_33) rfl (decide_eq_true rfl) (by decide) (by decide) ?_
        show Steps p.tables e below (T33.setTop (mkF m 36 #[.val (.int p0), .val .null, .val .null] [])) _
        refine XS.iconst X33.here hx rfl (hb hby at_36) ?_
        show Steps p.tables e below (T33.setTop (mkF m 37 #[.val (.int p0), .val .null, .val .null] [(.int (1 : Int32))])) _
        refine XS.goto X33.here hx rfl (pc0 := 37) (pc' := 41) rfl (hb hby at_37) (by decide) (by decide) ?_
        exact kt
      obtain ⟨fs, hr, hrun, hended, hW, hsame⟩ := X33.leave (v := some (.int (1 : Int32))) (fun h => by rw [Bd.returns] at h; cases h)
      refine ⟨_, _, pre46 _ ?_, hrun, hended, _, _, rfl, ?_, ⟨_, rfl⟩, hW, hsame.mono (by decide) (by decide)⟩
      · show Steps p.tables e below (T33.setTop (mkF m 41 #[.val (.int p0), .val .null, .val .null] [(.int (1 : Int32))])) _
        exact retN X33 hx (t := .boolean) Bd.returns (by simp) (hb hby at_41) hr
      · show Q_rm0 Z p0 w_VERSIONS k_VERSIONS w_MQTT_3_1_1 w_MQTT_5_0 h0 n0 _ T33.heap _
        rw [e33]
        exact ⟨rfl, N33⟩
set_option maxRecDepth 65536 in
set_option maxHeartbeats 40000000 in
theorem comes_1 {Post : Tables → Env → Array Value → State → Outcome → State → Prop} (hpost : ∀ tb e args s v u, (limb_1_1.after args s (.returned v) u = true ∧ limb_1_2.after args s (.returned v) u = true ∧ True) → FrameEnd s (.returned v) u (Jvm.fieldLocs frame_1_writes args s ++ Jvm.arrayLocs frame_1_arrays args s ++ Jvm.staticLocs frame_1_statics s) 0 0 → Post tb e args s (.returned v) u) :
    ArmFor flags0 classFile x code maxLocals ret World_1 tables_1 room_1 Calls_1 rest_1 Pre_1 Post := by
  intro l hfl _ _ p e ha hc hk s m args below hf hA hF happ hP
  obtain ⟨hcalls, hrest, hpre⟩ := hP
  obtain ⟨-, -, -, hnamed, -, -, -, hat⟩ := (Spec.applies_iff hf).mp happ
  obtain ⟨hg, hn⟩ := and_e (Cond.before_iff.mp (show (Jvm.Cond.and given_1 narrow_1).before args s = true from hpre))
  have hw := fun d (hd : d ∈ tables_1) => atoms_spec (ws := Jvm.Cond.code x code maxLocals ret :: tables_1) hat d (List.mem_cons_of_mem _ hd)
  obtain ⟨g1, g2⟩ := and_e hg
  obtain ⟨g3, g4⟩ := and_e hn
  obtain ⟨g5, g6⟩ := and_e g4
  obtain ⟨g7, g8⟩ := and_e g6
  obtain ⟨g9, g10⟩ := and_e g8
  obtain ⟨g11, g12⟩ := and_e g10
  obtain ⟨g13, g14⟩ := and_e g12
  obtain ⟨g15, g16⟩ := and_e g14
  obtain ⟨w_VERSIONS, ev_VERSIONS⟩ := arr_v g3
  have S_VERSIONS : Sta s s.heap "com/example/octets_to_session/octetstosession/core/ProtocolVersion" "VERSIONS" "[Lcom/example/octets_to_session/octetstosession/core/ProtocolVersion;" (.ref w_VERSIONS) := Sta.start ev_VERSIONS (Or.inr ⟨(hw _ (List.mem_of_getElem? (i := 2) rfl)), (hw _ (List.mem_of_getElem? (i := 5) rfl))⟩)
  obtain ⟨cl_VERSIONS, Ar_VERSIONS⟩ := Arr.start ev_VERSIONS g3
  obtain ⟨w_MQTT_3_1_1, ev_MQTT_3_1_1⟩ := exa_v g7
  have S_MQTT_3_1_1 : Sta s s.heap "com/example/octets_to_session/octetstosession/core/ProtocolVersion" "MQTT_3_1_1" "Lcom/example/octets_to_session/octetstosession/core/ProtocolVersion;" (.ref w_MQTT_3_1_1) := Sta.start ev_MQTT_3_1_1 (Or.inr ⟨(hw _ (List.mem_of_getElem? (i := 2) rfl)), (hw _ (List.mem_of_getElem? (i := 6) rfl))⟩)
  have E_MQTT_3_1_1 := Exa.start ev_MQTT_3_1_1 g7
  obtain ⟨w_MQTT_5_0, ev_MQTT_5_0⟩ := exa_v g13
  have S_MQTT_5_0 : Sta s s.heap "com/example/octets_to_session/octetstosession/core/ProtocolVersion" "MQTT_5_0" "Lcom/example/octets_to_session/octetstosession/core/ProtocolVersion;" (.ref w_MQTT_5_0) := Sta.start ev_MQTT_5_0 (Or.inr ⟨(hw _ (List.mem_of_getElem? (i := 2) rfl)), (hw _ (List.mem_of_getElem? (i := 9) rfl))⟩)
  have E_MQTT_5_0 := Exa.start ev_MQTT_5_0 g13
  have F_level_MQTT_3_1_1 := own_fld ev_MQTT_3_1_1 (v := .int (4 : Int32)) rfl g11
  have F_level_MQTT_5_0 := own_fld ev_MQTT_5_0 (v := .int (5 : Int32)) rfl g16
  obtain ⟨v0, rfl⟩ : ∃ v0 : Value, args = #[v0] := by
    have hs : args.size = 1 := by simpa [Cond.value, given_1] using g1
    obtain ⟨L⟩ := args
    match L, hs with
    | [v0], _ => exact ⟨v0, rfl⟩
  have hfit : Fit s := fun {y c} hc i hi => by
    obtain ⟨ha, rfl⟩ := Array.getElem?_eq_some_iff.mp hc
    have q := List.all_eq_true.mp ((Array.all_eq_true_iff_forall_mem.mp hF) _ (Array.getElem_mem ha)) i (List.mem_range.mpr hi)
    simpa [Array.getElem?_eq_getElem hi] using q
  obtain ⟨i0, ei0⟩ := is_v g2
  obtain rfl : v0 = (.int i0) := Option.some.inj ei0
  obtain ⟨hl_VERSIONS, hq_VERSIONS⟩ := own_len ev_VERSIONS Ar_VERSIONS (own_eq g5)
  obtain ⟨k_VERSIONS, V_VERSIONS⟩ : ∃ k, Arv s s.heap w_VERSIONS k (.object "com/example/octets_to_session/octetstosession/core/ProtocolVersion") (2 : Int32) [(.ref w_MQTT_3_1_1), (.ref w_MQTT_5_0)] .null := ⟨_, Arv.start hfit Ar_VERSIONS hq_VERSIONS hl_VERSIONS (by decide) rfl ⟨(elem_in ((own_eq g9).trans ev_MQTT_3_1_1) ev_VERSIONS rfl Ar_VERSIONS.1).2, (elem_in ((own_eq g15).trans ev_MQTT_5_0) ev_VERSIONS rfl Ar_VERSIONS.1).2, trivial⟩⟩
  obtain ⟨n, o, h1, h2, h3, _, L, rfl, ⟨rfl, N⟩, hq⟩ := rm0 l s _ hw tables_1 i0 w_VERSIONS k_VERSIONS w_MQTT_3_1_1 w_MQTT_5_0 s.heap s.heap.size (Old.start s) S_VERSIONS V_VERSIONS F_level_MQTT_3_1_1 F_level_MQTT_5_0 S_MQTT_3_1_1 S_MQTT_5_0 p e ha hc hk s m _ below hf ((Spec.applies_iff_loose hf).mp happ).1 ⟨rfl, State.Warmed39.refl s, rfl⟩ trivial
  refine ⟨n, _, h1, h2, h3, hpost _ _ _ _ _ _ ⟨Cond.after_iff.mpr rfl, Cond.after_iff.mpr (eq_i res_at (Term.int_eval (1)) rfl), trivial⟩ ⟨hq.1, hq.2.1, (hq.2.2.sift fun y hy => Or.inr (N y hy)).mono (by decide) (by decide)⟩⟩
theorem main_1_1 : Claimed_1_1 := comes_1 fun _ _ _ _ _ _ h hF => ⟨h.1, hF⟩
theorem main_1_2 : Claimed_1_2 := comes_1 fun _ _ _ _ _ _ h hF => ⟨h.2.1, hF⟩
end Jvm.Pilot.@@N@@
namespace Jvm.Pilot.@@N@@
open Jvm Jvm.ClassFile Sem Op Lib Jvm.Free Jvm.Stand Jvm.Pilot.@@N@@.Jvm.D
/-! MADE BY PROGRAM (witnessworld.py) out of the Statement's table words and the real class files: 13 classes; the members and pool entries that the words name. The judged class is class 1, her method 1. -/
namespace start1
open Jvm.ClassFile
def u (s : String) : CpInfo := .utf8 (stringToUtf16 s)
/-- a pool by its gaps: so many unusable entries, then the entry; so many at the end -/
def gap : Nat → List CpInfo → List CpInfo
  | 0, r => r
  | n + 1, r => .unusable :: gap n r
def poolList (es : List (Nat × CpInfo)) (last : Nat) : List CpInfo := es.foldr (fun e r => gap e.1 (e.2 :: r)) (gap last [])
def pool (es : List (Nat × CpInfo)) (last : Nat) : Array CpInfo := ⟨poolList es last⟩
def fileOf (pool : Array CpInfo) (this : Nat) (attrs : Array Attribute := #[]) (ms : Array MethodInfo := #[]) (fl : Nat := 33) (sup : Nat := 0) (ifs : Array Nat := #[]) (fds : Array FieldInfo := #[]) : ClassFile where
  minorVersion := 0
  majorVersion := 65
  constantPool := pool
  accessFlags := fl
  thisClass := this
  superClass := sup
  interfaces := ifs
  fields := fds
  methods := ms
  attributes := attrs
def plain (name : String) (sup : Option ClassId) : Class where
  name := name
  kind := .ordinary
  loader := none
  accessFlags := 33
  super := sup
  interfaces := #[]
  cf := none
  fields := #[]
  methods := #[]
  instanceTypes := #[]
  staticTypes := #[]
  resolved := #[]
  callSites := []
  init := .initialized
  statics := none
  mirror := none

def pool0 : Array CpInfo := pool [(5, u "<init>"), (0, u "()V"), (1, .class_ 10), (1, u "java/lang/Object")] 113

def k0m0 : Method := { name := "<init>", desc := "()V", sig := { parameters := [], returnType := none }, accessFlags := 1, code := none }
/-- java/lang/Object -/
def k0 : Class := { plain "java/lang/Object" none with
  accessFlags := 33
  interfaces := #[]
  cf := some (fileOf pool0 8 #[] #[{ accessFlags := 1, nameIndex := 5, descriptorIndex := 6, attributes := #[] }] 33 0 #[] #[])
  fields := #[]
  methods := #[k0m0]
  instanceTypes := #[]
  staticTypes := #[]
  resolved := Array.replicate 124 none
  statics := none }

def pool1 : Array CpInfo := pool [(2, .class_ 4), (1, u "java/lang/Object"), (0, u "<init>"), (0, u "()V"), (0, .methodref 8 9), (0, .class_ 10), (0, .nameAndType 11 12), (0, u "com/example/octets_to_session/octetstosession/core/ProtocolVersion"), (0, u "ofLevel"), (0, u "(I)Lcom/example/octets_to_session/octetstosession/core/ProtocolVersion;"), (0, .fieldref 8 14), (0, .nameAndType 15 16), (0, u "MQTT_3_1_1"), (0, u "Lcom/example/octets_to_session/octetstosession/core/ProtocolVersion;"), (0, .fieldref 8 18), (0, .nameAndType 19 16), (0, u "MQTT_5_0"), (0, .class_ 21), (0, u "com/example/octets_to_session/octetstosession/core/ProtocolVersionOfLevelPinLaw"), (2, u "law"), (0, u "(I)Z")] 3

def k1m0 : Method := { name := "<init>", desc := "()V", sig := { parameters := [], returnType := none }, accessFlags := 1, code := none }
def k1c1 : Code := { maxStack := 2, maxLocals := 3, code := code, exceptionTable := #[], attributes := #[] }
def k1m1 : Method := { name := "law", desc := "(I)Z", sig := { parameters := [.int], returnType := some .boolean }, accessFlags := 9, code := some k1c1 }
/-- com/example/octets_to_session/octetstosession/core/ProtocolVersionOfLevelPinLaw -/
def k1 : Class := { plain "com/example/octets_to_session/octetstosession/core/ProtocolVersionOfLevelPinLaw" (some 0) with
  accessFlags := 49
  interfaces := #[]
  cf := some (fileOf pool1 20 #[] #[{ accessFlags := 1, nameIndex := 5, descriptorIndex := 6, attributes := #[] }, { accessFlags := 9, nameIndex := 24, descriptorIndex := 25, attributes := #[] }] 49 2 #[] #[])
  fields := #[]
  methods := #[k1m0, k1m1]
  instanceTypes := #[]
  staticTypes := #[]
  resolved := Array.replicate 29 none
  statics := none }

def pool2 : Array CpInfo := pool [(1, .class_ 2), (0, u "java/lang/constant/Constable"), (0, .class_ 4), (0, u "java/lang/Object")] 6

/-- java/lang/constant/Constable -/
def k2 : Class := { plain "java/lang/constant/Constable" (some 0) with
  accessFlags := 1537
  interfaces := #[]
  cf := some (fileOf pool2 1 #[] #[] 1537 3 #[] #[])
  fields := #[]
  methods := #[]
  instanceTypes := #[]
  staticTypes := #[]
  resolved := Array.replicate 11 none
  statics := none }

def pool3 : Array CpInfo := pool [(1, .class_ 2), (0, u "java/lang/Comparable"), (0, .class_ 4), (0, u "java/lang/Object")] 7

/-- java/lang/Comparable -/
def k3 : Class := { plain "java/lang/Comparable" (some 0) with
  accessFlags := 1537
  interfaces := #[]
  cf := some (fileOf pool3 1 #[] #[] 1537 3 #[] #[])
  fields := #[]
  methods := #[]
  instanceTypes := #[]
  staticTypes := #[]
  resolved := Array.replicate 12 none
  statics := none }

def pool4 : Array CpInfo := pool [(1, .class_ 2), (0, u "java/io/Serializable"), (0, .class_ 4), (0, u "java/lang/Object")] 2

/-- java/io/Serializable -/
def k4 : Class := { plain "java/io/Serializable" (some 0) with
  accessFlags := 1537
  interfaces := #[]
  cf := some (fileOf pool4 1 #[] #[] 1537 3 #[] #[])
  fields := #[]
  methods := #[]
  instanceTypes := #[]
  staticTypes := #[]
  resolved := Array.replicate 7 none
  statics := none }

def pool5 : Array CpInfo := pool [(2, .class_ 4), (1, u "java/lang/Enum"), (0, u "name"), (0, u "Ljava/lang/String;"), (2, u "ordinal"), (0, u "I"), (1, .class_ 14), (1, u "java/lang/Object"), (4, u "hash"), (86, .class_ 108), (1, u "java/lang/Enum$EnumDesc"), (2, .class_ 112), (0, u "java/lang/constant/Constable"), (0, .class_ 114), (0, u "java/lang/Comparable"), (0, .class_ 116), (0, u "java/io/Serializable")] 87

/-- java/lang/Enum -/
def k5 : Class := { plain "java/lang/Enum" (some 0) with
  accessFlags := 1057
  interfaces := #[2, 3, 4]
  cf := some (fileOf pool5 2 #[.nestMembers #[106]] #[] 1057 12 #[111, 113, 115] #[{ accessFlags := 18, nameIndex := 5, descriptorIndex := 6, attributes := #[] }, { accessFlags := 18, nameIndex := 9, descriptorIndex := 10, attributes := #[] }, { accessFlags := 2, nameIndex := 19, descriptorIndex := 10, attributes := #[] }])
  fields := #[{ name := "name", type := (.object "java/lang/String"), accessFlags := 18, slot := 0, constantValue := 0 }, { name := "ordinal", type := .int, accessFlags := 18, slot := 1, constantValue := 0 }, { name := "hash", type := .int, accessFlags := 2, slot := 2, constantValue := 0 }]
  methods := #[]
  instanceTypes := #[(.object "java/lang/String"), .int, .int]
  staticTypes := #[]
  resolved := Array.replicate 204 none
  statics := none }

def pool6 : Array CpInfo := pool [(1, .class_ 2), (0, u "com/example/octets_to_session/octetstosession/core/ProtocolVersion"), (2, u "MQTT_3_1_1"), (0, u "Lcom/example/octets_to_session/octetstosession/core/ProtocolVersion;"), (2, u "MQTT_5_0"), (2, u "$VALUES"), (0, u "[Lcom/example/octets_to_session/octetstosession/core/ProtocolVersion;"), (6, .class_ 22), (1, u "java/lang/Enum"), (6, .fieldref 1 30), (0, .nameAndType 31 32), (0, u "level"), (0, u "I"), (2, u "label"), (0, u "Ljava/lang/String;"), (0, .fieldref 1 38), (0, .nameAndType 39 13), (0, u "VERSIONS"), (16, u "PROTOCOL_NAME"), (9, u "ofLevel"), (0, u "(I)Lcom/example/octets_to_session/octetstosession/core/ProtocolVersion;")] 7

def k6c0 : Code := { maxStack := 2, maxLocals := 6, code := prog_57_method_4_code, exceptionTable := #[], attributes := #[] }
def k6m0 : Method := { name := "ofLevel", desc := "(I)Lcom/example/octets_to_session/octetstosession/core/ProtocolVersion;", sig := { parameters := [.int], returnType := some (.object "com/example/octets_to_session/octetstosession/core/ProtocolVersion") }, accessFlags := 8, code := some k6c0 }
/-- com/example/octets_to_session/octetstosession/core/ProtocolVersion -/
def k6 : Class := { plain "com/example/octets_to_session/octetstosession/core/ProtocolVersion" (some 5) with
  accessFlags := 16433
  interfaces := #[]
  cf := some (fileOf pool6 1 #[] #[{ accessFlags := 8, nameIndex := 66, descriptorIndex := 67, attributes := #[] }] 16433 20 #[] #[{ accessFlags := 16409, nameIndex := 5, descriptorIndex := 6, attributes := #[] }, { accessFlags := 16409, nameIndex := 9, descriptorIndex := 6, attributes := #[] }, { accessFlags := 24, nameIndex := 56, descriptorIndex := 36, attributes := #[] }, { accessFlags := 26, nameIndex := 39, descriptorIndex := 13, attributes := #[] }, { accessFlags := 18, nameIndex := 31, descriptorIndex := 32, attributes := #[] }, { accessFlags := 18, nameIndex := 35, descriptorIndex := 36, attributes := #[] }, { accessFlags := 4122, nameIndex := 12, descriptorIndex := 13, attributes := #[] }])
  fields := #[{ name := "MQTT_3_1_1", type := (.object "com/example/octets_to_session/octetstosession/core/ProtocolVersion"), accessFlags := 16409, slot := 0, constantValue := 0 }, { name := "MQTT_5_0", type := (.object "com/example/octets_to_session/octetstosession/core/ProtocolVersion"), accessFlags := 16409, slot := 1, constantValue := 0 }, { name := "PROTOCOL_NAME", type := (.object "java/lang/String"), accessFlags := 24, slot := 2, constantValue := 0 }, { name := "VERSIONS", type := (.array (.object "com/example/octets_to_session/octetstosession/core/ProtocolVersion")), accessFlags := 26, slot := 3, constantValue := 0 }, { name := "level", type := .int, accessFlags := 18, slot := 3, constantValue := 0 }, { name := "label", type := (.object "java/lang/String"), accessFlags := 18, slot := 4, constantValue := 0 }, { name := "$VALUES", type := (.array (.object "com/example/octets_to_session/octetstosession/core/ProtocolVersion")), accessFlags := 4122, slot := 4, constantValue := 0 }]
  methods := #[k6m0]
  instanceTypes := #[(.object "java/lang/String"), .int, .int, .int, (.object "java/lang/String")]
  staticTypes := #[(.object "com/example/octets_to_session/octetstosession/core/ProtocolVersion"), (.object "com/example/octets_to_session/octetstosession/core/ProtocolVersion"), (.object "java/lang/String"), (.array (.object "com/example/octets_to_session/octetstosession/core/ProtocolVersion")), (.array (.object "com/example/octets_to_session/octetstosession/core/ProtocolVersion"))]
  resolved := Array.replicate 75 none
  statics := some 0 }

def pool7 : Array CpInfo := pool [(1, u "java/lang/Cloneable"), (0, .class_ 1), (0, u "java/lang/Object"), (0, .class_ 3)] 3

/-- java/lang/Cloneable -/
def k7 : Class := { plain "java/lang/Cloneable" (some 0) with
  accessFlags := 1537
  interfaces := #[]
  cf := some (fileOf pool7 2 #[] #[] 1537 4 #[] #[])
  fields := #[]
  methods := #[]
  instanceTypes := #[]
  staticTypes := #[]
  resolved := Array.replicate 8 none
  statics := none }

/-- the primitive byte -/
def k8 : Class := { plain "byte" none with kind := .primitive 'B', accessFlags := 0x411 }
/-- [B -/
def k9 : Class := { plain "[B" (some 0) with kind := .array 8 .byte, interfaces := #[7, 4], accessFlags := 1041 }

/-- the primitive int -/
def k10 : Class := { plain "int" none with kind := .primitive 'I', accessFlags := 0x411 }
/-- [I -/
def k11 : Class := { plain "[I" (some 0) with kind := .array 10 .int, interfaces := #[7, 4], accessFlags := 1041 }

/-- [Lcom/example/octets_to_session/octetstosession/core/ProtocolVersion; -/
def k12 : Class := { plain "[Lcom/example/octets_to_session/octetstosession/core/ProtocolVersion;" (some 0) with kind := .array 6 (.object "com/example/octets_to_session/octetstosession/core/ProtocolVersion"), interfaces := #[7, 4], accessFlags := 1041 }

def heap : Heap := #[{ cls := 6, slots := #[.ref 2, .ref 3, .null, .ref 1, .null], vm := .statics 6 },
  { cls := 12, slots := #[.ref 2, .ref 3], vm := .none },
  { cls := 6, slots := #[.null, .int 0, .int 0, .int 4, .null], vm := .none },
  { cls := 6, slots := #[.null, .int 0, .int 0, .int 5, .null], vm := .none }]
def classes : Array Class := #[k0, k1, k2, k3, k4, k5, k6, k7, k8, k9, k10, k11, k12]
def interned : List (Array UInt16 × Addr) := []
def slotsUsed : Nat := 17
def theMethod : MethodId := ⟨1, 1⟩
def args0 : Array Value := #[.int 5]
def aboutOver (below : List Frame) : State where
  vm := { classes := classes, interned := interned.toArray }
  heap := heap
  slotsUsed := slotsUsed
  threads := #[{ frames := .invoking theMethod args0 :: below }]
def below0 : List Frame := [.native { method := ⟨0, 0⟩, args := #[] }]
def about1 : State := aboutOver below0
def p0 : Program := .bare "" "" ""
def e0 : Env := launch0.env 0 0 0
theorem w_frames : about1.frames = Frame.invoking theMethod args0 :: below0 := rfl
set_option maxRecDepth 65536 in
theorem w_args : argsFit about1.vm theMethod args0 = true := by decide +kernel
set_option maxRecDepth 65536 in
theorem w_heap : heapFits about1 = true := by decide +kernel
set_option maxRecDepth 65536 in
theorem w_runnable : about1.curStatus? = some .runnable := by decide +kernel
set_option maxRecDepth 65536 in
theorem w_alone : about1.alone = true := by decide +kernel
set_option maxRecDepth 65536 in
theorem w_named : about1.methodNamed? x = some theMethod := by decide +kernel
set_option maxRecDepth 65536 in
theorem w_hears : about1.hears theMethod below0 = true := by decide +kernel
set_option maxRecDepth 65536 in
theorem w_ripe : about1.ripe theMethod args0 below0 = true := by decide +kernel
theorem w_running : about1.status = .running := rfl
set_option maxRecDepth 65536 in
theorem w_room : about1.hasRoom e0.platform room_1 = true :=
  launch0.hasRoom_least _ room_1 (by decide +kernel) (by decide +kernel) (by decide +kernel) (by decide +kernel) (by decide +kernel) (by decide +kernel)
theorem allAtoms_all (ts : List Jvm.Cond) (a : Array Jvm.Value) (st : Jvm.State) : (allAtoms ts).before a st = ts.all (fun c => c.before a st) := by
  induction ts with
  | nil => rfl
  | cons c t ih =>
    show (Jvm.Cond.and c (allAtoms t)).before a st = _
    rw [Jvm.Cond.before_and, ih, List.all_cons]
def words1 : List Jvm.Cond := Jvm.Cond.code x code maxLocals ret :: tables_1
/-- a 'code' word, met by the world's own term for the bytes: nothing is compared byte by byte -/
theorem code_word {y : MethodName} {bytes : ByteArray} {mx : Nat} {rt : Option FieldType} {a : Array Value} {s : State} {m : MethodId} {meth : Method} {c : Code} (h1 : s.methodNamed? y = some m) (h2 : s.vm.method? m = some meth) (h3 : meth.code = some c) (h4 : c.code = bytes)
    (h5 : (c.maxLocals == mx && c.exceptionTable.isEmpty && decide (c.maxStack ≤ mostOperands) && decide (meth.sig.returnType = rt) && !meth.locks && decide (parseMethodDescriptor y.desc = some meth.sig)) = true) : (Jvm.Cond.code y bytes mx rt).before a s = true := by
  simp only [Bool.and_eq_true, beq_iff_eq, Bool.not_eq_true', decide_eq_true_eq] at h5
  obtain ⟨⟨⟨⟨⟨g1, g2⟩, g3⟩, g4⟩, g5⟩, g6⟩ := h5
  simp [Cond.before, Cond.holds, Cond.value, h1, h2, h3, h4, g1, g2, g3, g4, g5, g6]
def isCode : Jvm.Cond → Bool
  | .code _ _ _ _ => true
  | _ => false
theorem all_split {L : List Jvm.Cond} {P : Jvm.Cond → Bool} (h1 : L.all (fun c => isCode c || P c) = true) (h2 : ∀ c ∈ L.filter isCode, P c = true) : L.all P = true := by
  refine List.all_eq_true.mpr fun c hc => ?_
  have h := List.all_eq_true.mp h1 c hc
  rcases Bool.eq_false_or_eq_true (isCode c) with hi | hi
  · exact h2 c (List.mem_filter.mpr ⟨hc, hi⟩)
  · simpa [hi] using h
set_option maxRecDepth 65536 in
theorem w_c0 : (Jvm.Cond.code x code maxLocals ret).before args0 about1 = true := code_word (m := ⟨1, 1⟩) (meth := k1m1) (c := k1c1) (by decide +kernel) rfl rfl rfl (by decide +kernel)
set_option maxRecDepth 65536 in
theorem w_c1 : (Jvm.Cond.code ({ cls := "com/example/octets_to_session/octetstosession/core/ProtocolVersion", name := "ofLevel", desc := "(I)Lcom/example/octets_to_session/octetstosession/core/ProtocolVersion;" } : Jvm.MethodName) prog_57_method_4_code (6 : Nat) (Option.some (Jvm.ClassFile.FieldType.object "com/example/octets_to_session/octetstosession/core/ProtocolVersion"))).before args0 about1 = true := code_word (m := ⟨6, 0⟩) (meth := k6m0) (c := k6c0) (by decide +kernel) rfl rfl rfl (by decide +kernel)
def codes1 : List Jvm.Cond := [Jvm.Cond.code x code maxLocals ret, Jvm.Cond.code ({ cls := "com/example/octets_to_session/octetstosession/core/ProtocolVersion", name := "ofLevel", desc := "(I)Lcom/example/octets_to_session/octetstosession/core/ProtocolVersion;" } : Jvm.MethodName) prog_57_method_4_code (6 : Nat) (Option.some (Jvm.ClassFile.FieldType.object "com/example/octets_to_session/octetstosession/core/ProtocolVersion"))]
set_option maxRecDepth 65536 in
theorem codes_eq : words1.filter isCode = codes1 := rfl
theorem w_codes : ∀ c ∈ words1.filter isCode, c.before args0 about1 = true := by
  rw [codes_eq]
  intro c hc
  simp only [codes1, List.mem_cons, List.not_mem_nil, or_false] at hc
  rcases hc with rfl | rfl
  · exact w_c0
  · exact w_c1
set_option maxRecDepth 65536 in
theorem w_t1 : words1.all (fun c => isCode c || c.before args0 about1) = true := by decide +kernel
theorem w_tables : (allAtoms (Jvm.Cond.code x code maxLocals ret :: tables_1)).before args0 about1 = true := by
  rw [allAtoms_all]
  show words1.all (fun c => c.before args0 about1) = true
  refine all_split ?_ w_codes
  rw [w_t1]
set_option maxRecDepth 65536 in
theorem w_case : (Jvm.Cond.and given_1 narrow_1).before args0 about1 = true := by decide +kernel
theorem w_applies : (headSpec (Jvm.Cond.code x code maxLocals ret :: tables_1) room_1).applies x e0.platform about1 = true :=
  (Spec.applies_iff w_frames).mpr ⟨w_running, w_runnable, w_alone, w_named, w_hears, w_ripe, w_room, w_tables⟩
theorem atStart : AtStart classFile x code maxLocals ret World_1 tables_1 room_1 Calls_1 rest_1 Pre_1 launch0 p0 e0 about1 theMethod args0 below0 :=
  ⟨lists_1, trivial, launch0.admits_env _ _ _, launch0.least_env, fairChoices_fair.cas, fairChoices_fair.clock, w_frames, w_args, w_heap, w_applies, trivial, trivial, w_case⟩
end start1
theorem witness_1 : WitnessClaimed_1 := ⟨start1.p0, start1.e0, start1.about1, start1.theMethod, start1.args0, start1.below0, start1.atStart⟩
end Jvm.Pilot.@@N@@
