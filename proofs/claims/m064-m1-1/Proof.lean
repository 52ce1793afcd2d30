import JvmDerived
import JvmDerived.Pilot.@@N@@Statement
import JvmDerived.Pilot.@@N@@Code
set_option linter.unusedVariables false
set_option linter.unusedSimpArgs false
namespace Jvm.Pilot.@@N@@
open Jvm Jvm.ClassFile Sem Op Lib Jvm.Free Jvm.Stand Jvm.LawKit Jvm.RoadKit Bundle Jvm.Pilot.@@N@@.Jvm.D
theorem own_eq {args : Array Value} {first s : State} {o : Option Outcome} {idx : List Nat} {a b : Term} (h : (Jvm.Cond.eq a b).value args first o s idx = some true) : a.eval args first o idx s = b.eval args first o idx s := by
  obtain ⟨x, y, h1, h2, k1, k2⟩ := cmp_v (Or.inl h)
  rw [h1, h2]
  simp only [Jvm.Cond.value, h1, h2] at h
  cases x <;> cases y <;> simp_all
theorem own_fld {args : Array Value} {s : State} {t u : Term} {a : Addr} {C n d : String} {v : Value} (ev : t.eval args s none [] s = some (.ref a)) (eu : u.eval args s none [] s = some v) (h : (Jvm.Cond.eq (.field t C n d) u).value args s none s [] = some true) : Fld s s.heap a C n d v :=
  Fld.start ((fld_at ev).symm.trans ((own_eq h).trans eu))
theorem own_z {Z : State} {n0 : Nat} {h : Heap} (O : Old Z n0 h) : n0 ≤ h.size := O.1 ▸ O.2.1
theorem own_pos (x : Int64) (h : ¬ (lcmpW (x &&& (9223372036854775807 : Int64)) (0 : Int64) = (0 : Int32))) : ¬ (lcmpW (x &&& (9223372036854775807 : Int64)) (1 : Int64) < (0 : Int32)) := by
  intro q
  have h1 := (lw_lt _ _).mp q
  have h2 : ¬ ((x &&& (9223372036854775807 : Int64)) = (0 : Int64)) := fun e => h ((lw_eq _ _).mpr e)
  have h3 := c_maskL x (9223372036854775807 : Int64) 63 (by decide) (by decide)
  rw [Int64.lt_iff_toInt_lt] at h1
  have h4 : (1 : Int64).toInt = 1 := by decide
  have h5 : (x &&& (9223372036854775807 : Int64)).toInt ≠ 0 := fun e => h2 (Int64.toInt_inj.mp (e.trans (by decide)))
  omega
theorem own_ne0 {v : Int64} (h : ¬ (lcmpW v (1 : Int64) < (0 : Int32))) : ¬ (v = (0 : Int64)) := by
  intro e
  subst e
  exact h (by decide)
theorem d_jdk_30_method_1_code_0 : decode jdk_30_method_1_code 0 = .ok (.aload_n 0, 1) := by decide +kernel
theorem d_jdk_30_method_1_code_1 : decode jdk_30_method_1_code 1 = .ok (.invokespecial 1, 3) := by decide +kernel
theorem d_jdk_30_method_1_code_4 : decode jdk_30_method_1_code 4 = .ok (.return_, 1) := by decide +kernel
theorem pn_java_lang_Record : plainName "java/lang/Record" = true := by first | (simp [plainName, overriddenIn]; done) | decide +kernel
theorem ef_rm_init_2 (m : MethodId) (x0 : Addr) : entryFrame m #[(.ref x0)] 1 = mkF m 0 #[.val (.ref x0)] [] := by first | (simp [entryFrame, mkF, argsToLocals, Value.category]; done) | rfl
def Q_rm_init_2 (Z : State) (x0 : Addr) (h0 : Heap) (n0 : Nat) (v : Option Value) (h : Heap) (L : List Loc) : Prop := v = none ∧ Fr n0 L ∧ h = h0
set_option maxRecDepth 65536 in
set_option maxHeartbeats 40000000 in
theorem rm_init_2 (l : Launch) (Z : State) (a0 : Array Value) (hw : ∀ d ∈ tables_1, d.before a0 Z = true) (ws : List Jvm.Cond) (x0 : Addr) (h0 : Heap) (n0 : Nat) (O0 : Old Z n0 h0)   :
    MetFree l (⟨"java/lang/Record", "<init>", "()V"⟩ : MethodName) (head1 (Jvm.Cond.code (⟨"java/lang/Record", "<init>", "()V"⟩ : MethodName) jdk_30_method_1_code 1 none :: ws) ({ frames := 1, cells := 0, slots := 0, locals := 12 } : Room)) (fun a U => a = #[(.ref x0)] ∧ Z.Warmed39 U.vm ∧ U.heap = h0) (fun _ _ _ _ _ => True) (fun _ U o U' => ∃ v L, o = .returned v ∧ Q_rm_init_2 Z x0 h0 n0 v U'.heap L ∧ FrameEnd U o U' L ({ frames := 1, cells := 0, slots := 0, locals := 12 } : Room).cells ({ frames := 1, cells := 0, slots := 0, locals := 12 } : Room).slots) := by
  refine MetFree.of_bodySF (plainFor_of_name pn_java_lang_Record) hisR ?_
  intro p e s m args below meth c s₁ Bd hml0 hP hK
  obtain ⟨rfl, hZ, hh⟩ := hP
  have hx := Bd.exec
  have hby := Bd.bytes
  have hml : c.maxLocals = 1 := hml0
  have hown : s.vm.findClass "java/lang/Record" = some m.cls := findClass_of_methodNamed Bd.named
  have hnm := (name_of_methodNamed Bd.named Bd.method).1
  have X0 : Stand p l e ({ frames := 1, cells := 0, slots := 0, locals := 12 } : Room) s m #[(.ref x0)] below meth c s₁ [] 0 0 := Stand.of_body Bd
  have e0 : s₁.heap = h0 := by rw [← hh, Bd.state]; rfl
  have N0 := Fr.nil n0
  have pre0 : ∀ t, Steps p.tables e below (s₁.setTop (mkF m 0 #[.val (.ref x0)] [])) t → Steps p.tables e below (s₁.setTop (entryFrame m #[(.ref x0)] 1)) t := fun t k => castTop (ef_rm_init_2 m x0) k
  have K0 := Keep.refl h0 []
  obtain ⟨T5, X5, e5, st5⟩ := initO X0 hx hZ hown (hw _ (List.mem_of_getElem? (i := 12) rfl)) (hw _ (List.mem_of_getElem? (i := 13) rfl)) (hw _ (List.mem_of_getElem? (i := 14) rfl)) e0 (g := (mkF m 1 #[.val (.ref x0)] [(.ref x0)])) rfl (by rw [hml]; rfl) rfl (hb hby d_jdk_30_method_1_code_1) (by decide) (W := 0) (by show 2 * 0 + _ ≤ _; exact Nat.le_of_eq rfl) (by decide)
  have pre6 : ∀ t, Steps p.tables e below (T5.setTop (mkF m 4 #[.val (.ref x0)] [])) t → Steps p.tables e below (s₁.setTop (entryFrame m #[(.ref x0)] 1)) t := by
    intro t kt
    refine pre0 t ?_
    show Steps p.tables e below (s₁.setTop (mkF m 0 #[.val (.ref x0)] [])) _
    refine XS.aloadN X0.here hx rfl (hb hby d_jdk_30_method_1_code_0) rfl rfl ?_
    show Steps p.tables e below (s₁.setTop (mkF m 1 #[.val (.ref x0)] [(.ref x0)])) _
    refine st5 _ ?_
    exact kt
  obtain ⟨fs, hr, hrun, hended, hW, hsame⟩ := X5.leave (v := none) (fun _ => rfl)
  refine ⟨_, _, pre6 _ ?_, hrun, hended, _, _, rfl, ?_, ⟨_, rfl⟩, hW, hsame.mono (by decide) (by decide)⟩
  · show Steps p.tables e below (T5.setTop (mkF m 4 #[.val (.ref x0)] [])) _
    exact X5.returnOut hx Bd.returns (hb hby d_jdk_30_method_1_code_4) hr
  · show Q_rm_init_2 Z x0 h0 n0 _ T5.heap _
    rw [e5]
    exact ⟨rfl, N0, rfl⟩
theorem d_prog_3_method_1_code_0 : decode prog_3_method_1_code 0 = .ok (.aload_n 0, 1) := by decide +kernel
theorem d_prog_3_method_1_code_1 : decode prog_3_method_1_code 1 = .ok (.invokespecial 1, 3) := by decide +kernel
theorem pd___V : parseMethodDescriptor "()V" = some ⟨[], none⟩ := by decide +kernel
theorem d_prog_3_method_1_code_4 : decode prog_3_method_1_code 4 = .ok (.lload_n 1, 1) := by decide +kernel
theorem d_prog_3_method_1_code_5 : decode prog_3_method_1_code 5 = .ok (.lconst 1, 1) := by decide +kernel
theorem d_prog_3_method_1_code_6 : decode prog_3_method_1_code 6 = .ok (.lcmp, 1) := by decide +kernel
theorem d_prog_3_method_1_code_7 : decode prog_3_method_1_code 7 = .ok (.ifCond .ge 13, 3) := by decide +kernel
theorem d_prog_3_method_1_code_20 : decode prog_3_method_1_code 20 = .ok (.aload_n 0, 1) := by decide +kernel
theorem d_prog_3_method_1_code_21 : decode prog_3_method_1_code 21 = .ok (.lload_n 1, 1) := by decide +kernel
theorem d_prog_3_method_1_code_22 : decode prog_3_method_1_code 22 = .ok (.putfield 14, 3) := by decide +kernel
theorem d_prog_3_method_1_code_25 : decode prog_3_method_1_code 25 = .ok (.return_, 1) := by decide +kernel
theorem pn_com_example_anchordb_anchordb_Condition_Expect : plainName "com/example/anchordb/anchordb/Condition$Expect" = true := by first | (simp [plainName, overriddenIn]; done) | decide +kernel
theorem ef_rm_init_1 (m : MethodId) (x0 : Addr) (y0 : Int64) : entryFrame m #[(.ref x0), (.long y0)] 3 = mkF m 0 #[.val (.ref x0), .val (.long y0), .second] [] := by first | (simp [entryFrame, mkF, argsToLocals, Value.category]; done) | rfl
def Q_rm_init_1 (Z : State) (x0 : Addr) (y0 : Int64) (h0 : Heap) (n0 : Nat) (v : Option Value) (h : Heap) (L : List Loc) : Prop := v = none ∧ Fr n0 L ∧ Keep h0 h [x0] ∧ Exa Z h x0 "com/example/anchordb/anchordb/Condition$Expect" ∧ Fld Z h x0 "com/example/anchordb/anchordb/Condition$Expect" "version" "J" (.long y0)
set_option maxRecDepth 65536 in
set_option maxHeartbeats 40000000 in
theorem rm_init_1 (l : Launch) (Z : State) (a0 : Array Value) (hw : ∀ d ∈ tables_1, d.before a0 Z = true) (ws : List Jvm.Cond) (x0 : Addr) (y0 : Int64) (h0 : Heap) (n0 : Nat) (O0 : Old Z n0 h0) (E_x0 : Exa Z h0 x0 "com/example/anchordb/anchordb/Condition$Expect") (F_x0_version : Fld Z h0 x0 "com/example/anchordb/anchordb/Condition$Expect" "version" "J" (.long (0 : Int64))) (ge_x0 : n0 ≤ x0) (hp0 : ¬ ((lcmpW y0 (1 : Int64)) < (0 : Int32))) (hp1 : (lcmpW y0 y0) = (0 : Int32))  :
    MetFree l (⟨"com/example/anchordb/anchordb/Condition$Expect", "<init>", "(J)V"⟩ : MethodName) (head1 (Jvm.Cond.code (⟨"com/example/anchordb/anchordb/Condition$Expect", "<init>", "(J)V"⟩ : MethodName) prog_3_method_1_code 3 none :: ws) ({ frames := 2, cells := 0, slots := 0, locals := 24 } : Room)) (fun a U => a = #[(.ref x0), (.long y0)] ∧ Z.Warmed39 U.vm ∧ U.heap = h0) (fun _ _ _ _ _ => True) (fun _ U o U' => ∃ v L, o = .returned v ∧ Q_rm_init_1 Z x0 y0 h0 n0 v U'.heap L ∧ FrameEnd U o U' L ({ frames := 2, cells := 0, slots := 0, locals := 24 } : Room).cells ({ frames := 2, cells := 0, slots := 0, locals := 24 } : Room).slots) := by
  refine MetFree.of_bodySF (plainFor_of_name pn_com_example_anchordb_anchordb_Condition_Expect) hisR ?_
  intro p e s m args below meth c s₁ Bd hml0 hP hK
  obtain ⟨rfl, hZ, hh⟩ := hP
  have hx := Bd.exec
  have hby := Bd.bytes
  have hml : c.maxLocals = 3 := hml0
  have hown : s.vm.findClass "com/example/anchordb/anchordb/Condition$Expect" = some m.cls := findClass_of_methodNamed Bd.named
  have hnm := (name_of_methodNamed Bd.named Bd.method).1
  have X0 : Stand p l e ({ frames := 2, cells := 0, slots := 0, locals := 24 } : Room) s m #[(.ref x0), (.long y0)] below meth c s₁ [] 0 0 := Stand.of_body Bd
  have e0 : s₁.heap = h0 := by rw [← hh, Bd.state]; rfl
  have N0 := Fr.nil n0
  have pre0 : ∀ t, Steps p.tables e below (s₁.setTop (mkF m 0 #[.val (.ref x0), .val (.long y0), .second] [])) t → Steps p.tables e below (s₁.setTop (entryFrame m #[(.ref x0), (.long y0)] 3)) t := fun t k => castTop (ef_rm_init_1 m x0 y0) k
  have K0 := Keep.refl h0 [x0]
  obtain ⟨_, _, ⟨T4, L4, k4, n4⟩, -, X4, ⟨Lc4, hQ4, l4, y4, z4⟩, st4⟩ := X0.specialBack hx (y := (⟨"java/lang/Record", "<init>", "()V"⟩ : MethodName)) rfl hown (mvT hZ (hw _ (List.mem_of_getElem? (i := 7) rfl))) (mvT hZ (hw _ (List.mem_of_getElem? (i := 8) rfl))) (mvT hZ (hw _ (List.mem_of_getElem? (i := 11) rfl))) (by decide) (backOf (W := 0) (rm_init_2 l Z a0 hw [] x0 h0 n0 O0  ) hZ (hw _ (List.mem_of_getElem? (i := 11) rfl)) (hw _ (List.mem_of_getElem? (i := 10) rfl)) (by decide) (by decide)) (g := (mkF m 1 #[.val (.ref x0), .val (.long y0), .second] [(.ref x0)])) rfl (by rw [hml]; rfl) (Steps.refl _) (a := x0) (argsL := []) (rest := []) (lenOf pd___V rfl) rfl (by show 2 * 0 + _ ≤ _; exact Nat.le_of_eq rfl) (hb hby d_prog_3_method_1_code_1) (fun _ _ => ⟨rfl, e0, (by decide : 0 + 0 ≤ _), (by decide : 0 + 0 ≤ _)⟩)
  dsimp only [Pt.U, Pt.locs, Pt.cells, Pt.slots] at X4 l4 y4 z4 st4 hQ4
  subst l4 y4 z4
  obtain ⟨rfl, N4q, e4⟩ := hQ4
  have N4 := Fr.app N0 N4q
  obtain ⟨T7, h7, X7, e7, W7, st7⟩ := putF X4 hx hZ hown (host := "") (Or.inl (hw _ (List.mem_of_getElem? (i := 15) rfl))) Via.refl e4 F_x0_version E_x0 (Or.inr ⟨(hw _ (List.mem_of_getElem? (i := 16) rfl)), rfl, hnm⟩) (hw _ (List.mem_of_getElem? (i := 2) rfl)) (ty := .long) (by decide) rfl rfl (g := (mkF m 22 #[.val (.ref x0), .val (.long y0), .second] [(.long y0), (.ref x0)])) rfl rfl (hb hby d_prog_3_method_1_code_22)
  have F_x0_version := F_x0_version.same W7
  have E_x0 := E_x0.wr W7
  have O7 := O0.wr W7 ge_x0
  have K7 := K0.wr W7 (Or.inl (List.mem_of_getElem? (i := 0) rfl))
  have N7 := Fr.snoc X7 N4 ge_x0
  have pre8 : ∀ t, Steps p.tables e below (T7.setTop (mkF m 25 #[.val (.ref x0), .val (.long y0), .second] [])) t → Steps p.tables e below (s₁.setTop (entryFrame m #[(.ref x0), (.long y0)] 3)) t := by
    intro t kt
    refine pre0 t ?_
    show Steps p.tables e below (s₁.setTop (mkF m 0 #[.val (.ref x0), .val (.long y0), .second] [])) _
    refine XS.aloadN X0.here hx rfl (hb hby d_prog_3_method_1_code_0) rfl rfl ?_
    show Steps p.tables e below (s₁.setTop (mkF m 1 #[.val (.ref x0), .val (.long y0), .second] [(.ref x0)])) _
    refine st4.trans ?_
    show Steps p.tables e below (T4.setTop (mkF m 4 #[.val (.ref x0), .val (.long y0), .second] [])) _
    refine XS.lloadN X4.here hx rfl (hb hby d_prog_3_method_1_code_4) rfl ?_
    show Steps p.tables e below (T4.setTop (mkF m 5 #[.val (.ref x0), .val (.long y0), .second] [(.long y0)])) _
    refine XS.lconst X4.here hx rfl (hb hby d_prog_3_method_1_code_5) ?_
    show Steps p.tables e below (T4.setTop (mkF m 6 #[.val (.ref x0), .val (.long y0), .second] [(.long (1 : Int64)), (.long y0)])) _
    refine XS.lcmp X4.here hx rfl (hb hby d_prog_3_method_1_code_6) rfl ?_
    show Steps p.tables e below (T4.setTop (mkF m 7 #[.val (.ref x0), .val (.long y0), .second] [(.int (lcmpW y0 (1 : Int64)))])) _
    refine XS.ifYes X4.here hx rfl (pc0 := 7) (pc' := 20) rfl (hb hby d_prog_3_method_1_code_7) rfl ((if0 _ _).trans (flt hp0).2.1) (by decide) (by decide) ?_
    show Steps p.tables e below (T4.setTop (mkF m 20 #[.val (.ref x0), .val (.long y0), .second] [])) _
    refine XS.aloadN X4.here hx rfl (hb hby d_prog_3_method_1_code_20) rfl rfl ?_
    show Steps p.tables e below (T4.setTop (mkF m 21 #[.val (.ref x0), .val (.long y0), .second] [(.ref x0)])) _
    refine XS.lloadN X4.here hx rfl (hb hby d_prog_3_method_1_code_21) rfl ?_
    show Steps p.tables e below (T4.setTop (mkF m 22 #[.val (.ref x0), .val (.long y0), .second] [(.long y0), (.ref x0)])) _
    refine st7 _ ?_
    exact kt
  obtain ⟨fs, hr, hrun, hended, hW, hsame⟩ := X7.leave (v := none) (fun _ => rfl)
  refine ⟨_, _, pre8 _ ?_, hrun, hended, _, _, rfl, ?_, ⟨_, rfl⟩, hW, hsame.mono (by decide) (by decide)⟩
  · show Steps p.tables e below (T7.setTop (mkF m 25 #[.val (.ref x0), .val (.long y0), .second] [])) _
    exact X7.returnOut hx Bd.returns (hb hby d_prog_3_method_1_code_25) hr
  · show Q_rm_init_1 Z x0 y0 h0 n0 _ T7.heap _
    rw [e7]
    exact ⟨rfl, N7, K7, E_x0, F_x0_version⟩
theorem d_prog_3_method_2_code_0 : decode prog_3_method_2_code 0 = .ok (.lload_n 1, 1) := by decide +kernel
theorem d_prog_3_method_2_code_1 : decode prog_3_method_2_code 1 = .ok (.lconst 0, 1) := by decide +kernel
theorem d_prog_3_method_2_code_2 : decode prog_3_method_2_code 2 = .ok (.lcmp, 1) := by decide +kernel
theorem d_prog_3_method_2_code_3 : decode prog_3_method_2_code 3 = .ok (.ifCond .ne 7, 3) := by decide +kernel
theorem d_prog_3_method_2_code_10 : decode prog_3_method_2_code 10 = .ok (.lload_n 1, 1) := by decide +kernel
theorem d_prog_3_method_2_code_11 : decode prog_3_method_2_code 11 = .ok (.aload_n 0, 1) := by decide +kernel
theorem d_prog_3_method_2_code_12 : decode prog_3_method_2_code 12 = .ok (.getfield 14, 3) := by decide +kernel
theorem d_prog_3_method_2_code_15 : decode prog_3_method_2_code 15 = .ok (.lcmp, 1) := by decide +kernel
theorem d_prog_3_method_2_code_16 : decode prog_3_method_2_code 16 = .ok (.ifCond .ne 9, 3) := by decide +kernel
theorem d_prog_3_method_2_code_19 : decode prog_3_method_2_code 19 = .ok (.getstatic 26, 3) := by decide +kernel
theorem d_prog_3_method_2_code_22 : decode prog_3_method_2_code 22 = .ok (.goto 6, 3) := by decide +kernel
theorem d_prog_3_method_2_code_28 : decode prog_3_method_2_code 28 = .ok (.areturn, 1) := by decide +kernel
theorem ef_rm_check_3 (m : MethodId) (x0 : Addr) (y1 : Int64) : entryFrame m #[(.ref x0), (.long y1)] 3 = mkF m 0 #[.val (.ref x0), .val (.long y1), .second] [] := by first | (simp [entryFrame, mkF, argsToLocals, Value.category]; done) | rfl
def Q_rm_check_3 (Z : State) (x0 : Addr) (y0 : Int64) (y1 : Int64) (w_OK : Addr) (h0 : Heap) (n0 : Nat) (v : Option Value) (h : Heap) (L : List Loc) : Prop := v = some (.ref w_OK) ∧ Fr n0 L ∧ h = h0
set_option maxRecDepth 65536 in
set_option maxHeartbeats 40000000 in
theorem rm_check_3 (l : Launch) (Z : State) (a0 : Array Value) (hw : ∀ d ∈ tables_1, d.before a0 Z = true) (ws : List Jvm.Cond) (x0 : Addr) (y0 : Int64) (y1 : Int64) (w_OK : Addr) (h0 : Heap) (n0 : Nat) (O0 : Old Z n0 h0) (F_x0_version : Fld Z h0 x0 "com/example/anchordb/anchordb/Condition$Expect" "version" "J" (.long y0)) (hp2 : (lcmpW y1 y0) = (0 : Int32)) (hp3 : ¬ ((lcmpW y1 (0 : Int64)) = (0 : Int32))) (S_OK : Sta Z Z.heap "com/example/anchordb/anchordb/Status" "OK" "Lcom/example/anchordb/anchordb/Status;" (.ref w_OK)) :
    MetFree l (⟨"com/example/anchordb/anchordb/Condition$Expect", "check", "(J)Lcom/example/anchordb/anchordb/Status;"⟩ : MethodName) (head1 (Jvm.Cond.code (⟨"com/example/anchordb/anchordb/Condition$Expect", "check", "(J)Lcom/example/anchordb/anchordb/Status;"⟩ : MethodName) prog_3_method_2_code 3 (some (.object "com/example/anchordb/anchordb/Status")) :: ws) ({ frames := 0, cells := 0, slots := 0, locals := 0 } : Room)) (fun a U => a = #[(.ref x0), (.long y1)] ∧ Z.Warmed39 U.vm ∧ U.heap = h0) (fun _ _ _ _ _ => True) (fun _ U o U' => ∃ v L, o = .returned v ∧ Q_rm_check_3 Z x0 y0 y1 w_OK h0 n0 v U'.heap L ∧ FrameEnd U o U' L ({ frames := 0, cells := 0, slots := 0, locals := 0 } : Room).cells ({ frames := 0, cells := 0, slots := 0, locals := 0 } : Room).slots) := by
  refine MetFree.of_bodySF (plainFor_of_name pn_com_example_anchordb_anchordb_Condition_Expect) hisR ?_
  intro p e s m args below meth c s₁ Bd hml0 hP hK
  obtain ⟨rfl, hZ, hh⟩ := hP
  have hx := Bd.exec
  have hby := Bd.bytes
  have hml : c.maxLocals = 3 := hml0
  have hown : s.vm.findClass "com/example/anchordb/anchordb/Condition$Expect" = some m.cls := findClass_of_methodNamed Bd.named
  have hnm := (name_of_methodNamed Bd.named Bd.method).1
  have X0 : Stand p l e ({ frames := 0, cells := 0, slots := 0, locals := 0 } : Room) s m #[(.ref x0), (.long y1)] below meth c s₁ [] 0 0 := Stand.of_body Bd
  have e0 : s₁.heap = h0 := by rw [← hh, Bd.state]; rfl
  have N0 := Fr.nil n0
  have pre0 : ∀ t, Steps p.tables e below (s₁.setTop (mkF m 0 #[.val (.ref x0), .val (.long y1), .second] [])) t → Steps p.tables e below (s₁.setTop (entryFrame m #[(.ref x0), (.long y1)] 3)) t := fun t k => castTop (ef_rm_check_3 m x0 y1) k
  have K0 := Keep.refl h0 []
  obtain ⟨T10, X10, e10, st10⟩ := getF X0 hx hZ hown (host := "") (Or.inl (hw _ (List.mem_of_getElem? (i := 15) rfl))) Via.refl e0 F_x0_version (g := (mkF m 12 #[.val (.ref x0), .val (.long y1), .second] [(.ref x0), (.long y1)])) rfl rfl (hb hby d_prog_3_method_2_code_12)
  obtain ⟨T11, X11, e11, st11⟩ := getS2 X10 hx hZ hown (host := "") (Or.inl (hw _ (List.mem_of_getElem? (i := 34) rfl))) Via.refl e10 (S_OK.ext O0.2) (g := (mkF m 19 #[.val (.ref x0), .val (.long y1), .second] [])) rfl (hb hby d_prog_3_method_2_code_19)
  have pre12 : ∀ t, Steps p.tables e below (T11.setTop (mkF m 28 #[.val (.ref x0), .val (.long y1), .second] [(.ref w_OK)])) t → Steps p.tables e below (s₁.setTop (entryFrame m #[(.ref x0), (.long y1)] 3)) t := by
    intro t kt
    refine pre0 t ?_
    show Steps p.tables e below (s₁.setTop (mkF m 0 #[.val (.ref x0), .val (.long y1), .second] [])) _
    refine XS.lloadN X0.here hx rfl (hb hby d_prog_3_method_2_code_0) rfl ?_
    show Steps p.tables e below (s₁.setTop (mkF m 1 #[.val (.ref x0), .val (.long y1), .second] [(.long y1)])) _
    refine XS.lconst X0.here hx rfl (hb hby d_prog_3_method_2_code_1) ?_
    show Steps p.tables e below (s₁.setTop (mkF m 2 #[.val (.ref x0), .val (.long y1), .second] [(.long (0 : Int64)), (.long y1)])) _
    refine XS.lcmp X0.here hx rfl (hb hby d_prog_3_method_2_code_2) rfl ?_
    show Steps p.tables e below (s₁.setTop (mkF m 3 #[.val (.ref x0), .val (.long y1), .second] [(.int (lcmpW y1 (0 : Int64)))])) _
    refine XS.ifYes X0.here hx rfl (pc0 := 3) (pc' := 10) rfl (hb hby d_prog_3_method_2_code_3) rfl ((if0 _ _).trans (feq hp3).2) (by decide) (by decide) ?_
    show Steps p.tables e below (s₁.setTop (mkF m 10 #[.val (.ref x0), .val (.long y1), .second] [])) _
    refine XS.lloadN X0.here hx rfl (hb hby d_prog_3_method_2_code_10) rfl ?_
    show Steps p.tables e below (s₁.setTop (mkF m 11 #[.val (.ref x0), .val (.long y1), .second] [(.long y1)])) _
    refine XS.aloadN X0.here hx rfl (hb hby d_prog_3_method_2_code_11) rfl rfl ?_
    show Steps p.tables e below (s₁.setTop (mkF m 12 #[.val (.ref x0), .val (.long y1), .second] [(.ref x0), (.long y1)])) _
    refine st10 _ ?_
    show Steps p.tables e below (T10.setTop (mkF m 15 #[.val (.ref x0), .val (.long y1), .second] [(.long y0), (.long y1)])) _
    refine XS.lcmp X10.here hx rfl (hb hby d_prog_3_method_2_code_15) rfl ?_
    show Steps p.tables e below (T10.setTop (mkF m 16 #[.val (.ref x0), .val (.long y1), .second] [(.int (lcmpW y1 y0))])) _
    refine XS.ifNo X10.here hx rfl (hb hby d_prog_3_method_2_code_16) rfl ((if0 _ _).trans (teq hp2).2) ?_
    show Steps p.tables e below (T10.setTop (mkF m 19 #[.val (.ref x0), .val (.long y1), .second] [])) _
    refine st11 _ ?_
    show Steps p.tables e below (T11.setTop (mkF m 22 #[.val (.ref x0), .val (.long y1), .second] [(.ref w_OK)])) _
    refine XS.goto X11.here hx rfl (pc0 := 22) (pc' := 28) rfl (hb hby d_prog_3_method_2_code_22) (by decide) (by decide) ?_
    exact kt
  obtain ⟨fs, hr, hrun, hended, hW, hsame⟩ := X11.leave (v := some (.ref w_OK)) (fun h => by rw [Bd.returns] at h; cases h)
  refine ⟨_, _, pre12 _ ?_, hrun, hended, _, _, rfl, ?_, ⟨_, rfl⟩, hW, hsame.mono (by decide) (by decide)⟩
  · show Steps p.tables e below (T11.setTop (mkF m 28 #[.val (.ref x0), .val (.long y1), .second] [(.ref w_OK)])) _
    jvm_step X11.here [X11.here.top, hx, (hb hby d_prog_3_method_2_code_28), X11.method', Bd.returns, Value.isRef, FieldType.isReference]
    first | (intro acts; rw [hr _ acts rfl rfl rfl]) | rw [hr _ _ rfl rfl rfl]
    exact Steps.refl _
  · show Q_rm_check_3 Z x0 y0 y1 w_OK h0 n0 _ T11.heap _
    rw [e11]
    exact ⟨rfl, N0, rfl⟩
theorem d_prog_3_method_6_code_0 : decode prog_3_method_6_code 0 = .ok (.aload_n 0, 1) := by decide +kernel
theorem d_prog_3_method_6_code_1 : decode prog_3_method_6_code 1 = .ok (.getfield 14, 3) := by decide +kernel
theorem d_prog_3_method_6_code_4 : decode prog_3_method_6_code 4 = .ok (.lreturn, 1) := by decide +kernel
theorem ef_rm_version_4 (m : MethodId) (x0 : Addr) : entryFrame m #[(.ref x0)] 1 = mkF m 0 #[.val (.ref x0)] [] := by first | (simp [entryFrame, mkF, argsToLocals, Value.category]; done) | rfl
def Q_rm_version_4 (Z : State) (x0 : Addr) (y0 : Int64) (h0 : Heap) (n0 : Nat) (v : Option Value) (h : Heap) (L : List Loc) : Prop := v = some (.long y0) ∧ Fr n0 L ∧ h = h0
set_option maxRecDepth 65536 in
set_option maxHeartbeats 40000000 in
theorem rm_version_4 (l : Launch) (Z : State) (a0 : Array Value) (hw : ∀ d ∈ tables_1, d.before a0 Z = true) (ws : List Jvm.Cond) (x0 : Addr) (y0 : Int64) (h0 : Heap) (n0 : Nat) (O0 : Old Z n0 h0) (F_x0_version : Fld Z h0 x0 "com/example/anchordb/anchordb/Condition$Expect" "version" "J" (.long y0))  :
    MetFree l (⟨"com/example/anchordb/anchordb/Condition$Expect", "version", "()J"⟩ : MethodName) (head1 (Jvm.Cond.code (⟨"com/example/anchordb/anchordb/Condition$Expect", "version", "()J"⟩ : MethodName) prog_3_method_6_code 1 (some .long) :: ws) ({ frames := 0, cells := 0, slots := 0, locals := 0 } : Room)) (fun a U => a = #[(.ref x0)] ∧ Z.Warmed39 U.vm ∧ U.heap = h0) (fun _ _ _ _ _ => True) (fun _ U o U' => ∃ v L, o = .returned v ∧ Q_rm_version_4 Z x0 y0 h0 n0 v U'.heap L ∧ FrameEnd U o U' L ({ frames := 0, cells := 0, slots := 0, locals := 0 } : Room).cells ({ frames := 0, cells := 0, slots := 0, locals := 0 } : Room).slots) := by
  refine MetFree.of_bodySF (plainFor_of_name pn_com_example_anchordb_anchordb_Condition_Expect) hisR ?_
  intro p e s m args below meth c s₁ Bd hml0 hP hK
  obtain ⟨rfl, hZ, hh⟩ := hP
  have hx := Bd.exec
  have hby := Bd.bytes
  have hml : c.maxLocals = 1 := hml0
  have hown : s.vm.findClass "com/example/anchordb/anchordb/Condition$Expect" = some m.cls := findClass_of_methodNamed Bd.named
  have hnm := (name_of_methodNamed Bd.named Bd.method).1
  have X0 : Stand p l e ({ frames := 0, cells := 0, slots := 0, locals := 0 } : Room) s m #[(.ref x0)] below meth c s₁ [] 0 0 := Stand.of_body Bd
  have e0 : s₁.heap = h0 := by rw [← hh, Bd.state]; rfl
  have N0 := Fr.nil n0
  have pre0 : ∀ t, Steps p.tables e below (s₁.setTop (mkF m 0 #[.val (.ref x0)] [])) t → Steps p.tables e below (s₁.setTop (entryFrame m #[(.ref x0)] 1)) t := fun t k => castTop (ef_rm_version_4 m x0) k
  have K0 := Keep.refl h0 []
  obtain ⟨T15, X15, e15, st15⟩ := getF X0 hx hZ hown (host := "") (Or.inl (hw _ (List.mem_of_getElem? (i := 15) rfl))) Via.refl e0 F_x0_version (g := (mkF m 1 #[.val (.ref x0)] [(.ref x0)])) rfl rfl (hb hby d_prog_3_method_6_code_1)
  have pre16 : ∀ t, Steps p.tables e below (T15.setTop (mkF m 4 #[.val (.ref x0)] [(.long y0)])) t → Steps p.tables e below (s₁.setTop (entryFrame m #[(.ref x0)] 1)) t := by
    intro t kt
    refine pre0 t ?_
    show Steps p.tables e below (s₁.setTop (mkF m 0 #[.val (.ref x0)] [])) _
    refine XS.aloadN X0.here hx rfl (hb hby d_prog_3_method_6_code_0) rfl rfl ?_
    show Steps p.tables e below (s₁.setTop (mkF m 1 #[.val (.ref x0)] [(.ref x0)])) _
    refine st15 _ ?_
    exact kt
  obtain ⟨fs, hr, hrun, hended, hW, hsame⟩ := X15.leave (v := some (.long y0)) (fun h => by rw [Bd.returns] at h; cases h)
  refine ⟨_, _, pre16 _ ?_, hrun, hended, _, _, rfl, ?_, ⟨_, rfl⟩, hW, hsame.mono (by decide) (by decide)⟩
  · show Steps p.tables e below (T15.setTop (mkF m 4 #[.val (.ref x0)] [(.long y0)])) _
    jvm_step X15.here [X15.here.top, hx, (hb hby d_prog_3_method_6_code_4), X15.method', Bd.returns, narrow]
    first | (intro acts; rw [hr _ acts rfl rfl rfl]) | rw [hr _ _ rfl rfl rfl]
    exact Steps.refl _
  · show Q_rm_version_4 Z x0 y0 h0 n0 _ T15.heap _
    rw [e15]
    exact ⟨rfl, N0, rfl⟩
theorem d_prog_3_method_2_code_6 : decode prog_3_method_2_code 6 = .ok (.getstatic 20, 3) := by decide +kernel
theorem d_prog_3_method_2_code_9 : decode prog_3_method_2_code 9 = .ok (.areturn, 1) := by decide +kernel
theorem ef_rm_check_5 (m : MethodId) (x0 : Addr) (y1 : Int64) : entryFrame m #[(.ref x0), (.long y1)] 3 = mkF m 0 #[.val (.ref x0), .val (.long y1), .second] [] := by first | (simp [entryFrame, mkF, argsToLocals, Value.category]; done) | rfl
def Q_rm_check_5 (Z : State) (x0 : Addr) (y1 : Int64) (w_NO_KEY : Addr) (h0 : Heap) (n0 : Nat) (v : Option Value) (h : Heap) (L : List Loc) : Prop := v = some (.ref w_NO_KEY) ∧ Fr n0 L ∧ h = h0
set_option maxRecDepth 65536 in
set_option maxHeartbeats 40000000 in
theorem rm_check_5 (l : Launch) (Z : State) (a0 : Array Value) (hw : ∀ d ∈ tables_1, d.before a0 Z = true) (ws : List Jvm.Cond) (x0 : Addr) (y1 : Int64) (w_NO_KEY : Addr) (h0 : Heap) (n0 : Nat) (O0 : Old Z n0 h0) (hp3 : (lcmpW y1 (0 : Int64)) = (0 : Int32)) (S_NO_KEY : Sta Z Z.heap "com/example/anchordb/anchordb/Status" "NO_KEY" "Lcom/example/anchordb/anchordb/Status;" (.ref w_NO_KEY)) :
    MetFree l (⟨"com/example/anchordb/anchordb/Condition$Expect", "check", "(J)Lcom/example/anchordb/anchordb/Status;"⟩ : MethodName) (head1 (Jvm.Cond.code (⟨"com/example/anchordb/anchordb/Condition$Expect", "check", "(J)Lcom/example/anchordb/anchordb/Status;"⟩ : MethodName) prog_3_method_2_code 3 (some (.object "com/example/anchordb/anchordb/Status")) :: ws) ({ frames := 0, cells := 0, slots := 0, locals := 0 } : Room)) (fun a U => a = #[(.ref x0), (.long y1)] ∧ Z.Warmed39 U.vm ∧ U.heap = h0) (fun _ _ _ _ _ => True) (fun _ U o U' => ∃ v L, o = .returned v ∧ Q_rm_check_5 Z x0 y1 w_NO_KEY h0 n0 v U'.heap L ∧ FrameEnd U o U' L ({ frames := 0, cells := 0, slots := 0, locals := 0 } : Room).cells ({ frames := 0, cells := 0, slots := 0, locals := 0 } : Room).slots) := by
  refine MetFree.of_bodySF (plainFor_of_name pn_com_example_anchordb_anchordb_Condition_Expect) hisR ?_
  intro p e s m args below meth c s₁ Bd hml0 hP hK
  obtain ⟨rfl, hZ, hh⟩ := hP
  have hx := Bd.exec
  have hby := Bd.bytes
  have hml : c.maxLocals = 3 := hml0
  have hown : s.vm.findClass "com/example/anchordb/anchordb/Condition$Expect" = some m.cls := findClass_of_methodNamed Bd.named
  have hnm := (name_of_methodNamed Bd.named Bd.method).1
  have X0 : Stand p l e ({ frames := 0, cells := 0, slots := 0, locals := 0 } : Room) s m #[(.ref x0), (.long y1)] below meth c s₁ [] 0 0 := Stand.of_body Bd
  have e0 : s₁.heap = h0 := by rw [← hh, Bd.state]; rfl
  have N0 := Fr.nil n0
  have pre0 : ∀ t, Steps p.tables e below (s₁.setTop (mkF m 0 #[.val (.ref x0), .val (.long y1), .second] [])) t → Steps p.tables e below (s₁.setTop (entryFrame m #[(.ref x0), (.long y1)] 3)) t := fun t k => castTop (ef_rm_check_5 m x0 y1) k
  have K0 := Keep.refl h0 []
  obtain ⟨T21, X21, e21, st21⟩ := getS2 X0 hx hZ hown (host := "") (Or.inl (hw _ (List.mem_of_getElem? (i := 22) rfl))) Via.refl e0 (S_NO_KEY.ext O0.2) (g := (mkF m 6 #[.val (.ref x0), .val (.long y1), .second] [])) rfl (hb hby d_prog_3_method_2_code_6)
  have pre22 : ∀ t, Steps p.tables e below (T21.setTop (mkF m 9 #[.val (.ref x0), .val (.long y1), .second] [(.ref w_NO_KEY)])) t → Steps p.tables e below (s₁.setTop (entryFrame m #[(.ref x0), (.long y1)] 3)) t := by
    intro t kt
    refine pre0 t ?_
    show Steps p.tables e below (s₁.setTop (mkF m 0 #[.val (.ref x0), .val (.long y1), .second] [])) _
    refine XS.lloadN X0.here hx rfl (hb hby d_prog_3_method_2_code_0) rfl ?_
    show Steps p.tables e below (s₁.setTop (mkF m 1 #[.val (.ref x0), .val (.long y1), .second] [(.long y1)])) _
    refine XS.lconst X0.here hx rfl (hb hby d_prog_3_method_2_code_1) ?_
    show Steps p.tables e below (s₁.setTop (mkF m 2 #[.val (.ref x0), .val (.long y1), .second] [(.long (0 : Int64)), (.long y1)])) _
    refine XS.lcmp X0.here hx rfl (hb hby d_prog_3_method_2_code_2) rfl ?_
    show Steps p.tables e below (s₁.setTop (mkF m 3 #[.val (.ref x0), .val (.long y1), .second] [(.int (lcmpW y1 (0 : Int64)))])) _
    refine XS.ifNo X0.here hx rfl (hb hby d_prog_3_method_2_code_3) rfl ((if0 _ _).trans (teq hp3).2) ?_
    show Steps p.tables e below (s₁.setTop (mkF m 6 #[.val (.ref x0), .val (.long y1), .second] [])) _
    refine st21 _ ?_
    exact kt
  obtain ⟨fs, hr, hrun, hended, hW, hsame⟩ := X21.leave (v := some (.ref w_NO_KEY)) (fun h => by rw [Bd.returns] at h; cases h)
  refine ⟨_, _, pre22 _ ?_, hrun, hended, _, _, rfl, ?_, ⟨_, rfl⟩, hW, hsame.mono (by decide) (by decide)⟩
  · show Steps p.tables e below (T21.setTop (mkF m 9 #[.val (.ref x0), .val (.long y1), .second] [(.ref w_NO_KEY)])) _
    jvm_step X21.here [X21.here.top, hx, (hb hby d_prog_3_method_2_code_9), X21.method', Bd.returns, Value.isRef, FieldType.isReference]
    first | (intro acts; rw [hr _ acts rfl rfl rfl]) | rw [hr _ _ rfl rfl rfl]
    exact Steps.refl _
  · show Q_rm_check_5 Z x0 y1 w_NO_KEY h0 n0 _ T21.heap _
    rw [e21]
    exact ⟨rfl, N0, rfl⟩
theorem d_prog_3_method_2_code_25 : decode prog_3_method_2_code 25 = .ok (.getstatic 29, 3) := by decide +kernel
theorem ef_rm_check_6 (m : MethodId) (x0 : Addr) (y1 : Int64) : entryFrame m #[(.ref x0), (.long y1)] 3 = mkF m 0 #[.val (.ref x0), .val (.long y1), .second] [] := by first | (simp [entryFrame, mkF, argsToLocals, Value.category]; done) | rfl
def Q_rm_check_6 (Z : State) (x0 : Addr) (y0 : Int64) (y1 : Int64) (w_BAD_VERSION : Addr) (h0 : Heap) (n0 : Nat) (v : Option Value) (h : Heap) (L : List Loc) : Prop := v = some (.ref w_BAD_VERSION) ∧ Fr n0 L ∧ h = h0
set_option maxRecDepth 65536 in
set_option maxHeartbeats 40000000 in
theorem rm_check_6 (l : Launch) (Z : State) (a0 : Array Value) (hw : ∀ d ∈ tables_1, d.before a0 Z = true) (ws : List Jvm.Cond) (x0 : Addr) (y0 : Int64) (y1 : Int64) (w_BAD_VERSION : Addr) (h0 : Heap) (n0 : Nat) (O0 : Old Z n0 h0) (F_x0_version : Fld Z h0 x0 "com/example/anchordb/anchordb/Condition$Expect" "version" "J" (.long y0)) (hp2 : ¬ ((lcmpW y1 y0) = (0 : Int32))) (hp3 : ¬ ((lcmpW y1 (0 : Int64)) = (0 : Int32))) (S_BAD_VERSION : Sta Z Z.heap "com/example/anchordb/anchordb/Status" "BAD_VERSION" "Lcom/example/anchordb/anchordb/Status;" (.ref w_BAD_VERSION)) :
    MetFree l (⟨"com/example/anchordb/anchordb/Condition$Expect", "check", "(J)Lcom/example/anchordb/anchordb/Status;"⟩ : MethodName) (head1 (Jvm.Cond.code (⟨"com/example/anchordb/anchordb/Condition$Expect", "check", "(J)Lcom/example/anchordb/anchordb/Status;"⟩ : MethodName) prog_3_method_2_code 3 (some (.object "com/example/anchordb/anchordb/Status")) :: ws) ({ frames := 0, cells := 0, slots := 0, locals := 0 } : Room)) (fun a U => a = #[(.ref x0), (.long y1)] ∧ Z.Warmed39 U.vm ∧ U.heap = h0) (fun _ _ _ _ _ => True) (fun _ U o U' => ∃ v L, o = .returned v ∧ Q_rm_check_6 Z x0 y0 y1 w_BAD_VERSION h0 n0 v U'.heap L ∧ FrameEnd U o U' L ({ frames := 0, cells := 0, slots := 0, locals := 0 } : Room).cells ({ frames := 0, cells := 0, slots := 0, locals := 0 } : Room).slots) := by
  refine MetFree.of_bodySF (plainFor_of_name pn_com_example_anchordb_anchordb_Condition_Expect) hisR ?_
  intro p e s m args below meth c s₁ Bd hml0 hP hK
  obtain ⟨rfl, hZ, hh⟩ := hP
  have hx := Bd.exec
  have hby := Bd.bytes
  have hml : c.maxLocals = 3 := hml0
  have hown : s.vm.findClass "com/example/anchordb/anchordb/Condition$Expect" = some m.cls := findClass_of_methodNamed Bd.named
  have hnm := (name_of_methodNamed Bd.named Bd.method).1
  have X0 : Stand p l e ({ frames := 0, cells := 0, slots := 0, locals := 0 } : Room) s m #[(.ref x0), (.long y1)] below meth c s₁ [] 0 0 := Stand.of_body Bd
  have e0 : s₁.heap = h0 := by rw [← hh, Bd.state]; rfl
  have N0 := Fr.nil n0
  have pre0 : ∀ t, Steps p.tables e below (s₁.setTop (mkF m 0 #[.val (.ref x0), .val (.long y1), .second] [])) t → Steps p.tables e below (s₁.setTop (entryFrame m #[(.ref x0), (.long y1)] 3)) t := fun t k => castTop (ef_rm_check_6 m x0 y1) k
  have K0 := Keep.refl h0 []
  obtain ⟨T29, X29, e29, st29⟩ := getF X0 hx hZ hown (host := "") (Or.inl (hw _ (List.mem_of_getElem? (i := 15) rfl))) Via.refl e0 F_x0_version (g := (mkF m 12 #[.val (.ref x0), .val (.long y1), .second] [(.ref x0), (.long y1)])) rfl rfl (hb hby d_prog_3_method_2_code_12)
  obtain ⟨T30, X30, e30, st30⟩ := getS2 X29 hx hZ hown (host := "") (Or.inl (hw _ (List.mem_of_getElem? (i := 31) rfl))) Via.refl e29 (S_BAD_VERSION.ext O0.2) (g := (mkF m 25 #[.val (.ref x0), .val (.long y1), .second] [])) rfl (hb hby d_prog_3_method_2_code_25)
  have pre31 : ∀ t, Steps p.tables e below (T30.setTop (mkF m 28 #[.val (.ref x0), .val (.long y1), .second] [(.ref w_BAD_VERSION)])) t → Steps p.tables e below (s₁.setTop (entryFrame m #[(.ref x0), (.long y1)] 3)) t := by
    intro t kt
    refine pre0 t ?_
    show Steps p.tables e below (s₁.setTop (mkF m 0 #[.val (.ref x0), .val (.long y1), .second] [])) _
    refine XS.lloadN X0.here hx rfl (hb hby d_prog_3_method_2_code_0) rfl ?_
    show Steps p.tables e below (s₁.setTop (mkF m 1 #[.val (.ref x0), .val (.long y1), .second] [(.long y1)])) _
    refine XS.lconst X0.here hx rfl (hb hby d_prog_3_method_2_code_1) ?_
    show Steps p.tables e below (s₁.setTop (mkF m 2 #[.val (.ref x0), .val (.long y1), .second] [(.long (0 : Int64)), (.long y1)])) _
    refine XS.lcmp X0.here hx rfl (hb hby d_prog_3_method_2_code_2) rfl ?_
    show Steps p.tables e below (s₁.setTop (mkF m 3 #[.val (.ref x0), .val (.long y1), .second] [(.int (lcmpW y1 (0 : Int64)))])) _
    refine XS.ifYes X0.here hx rfl (pc0 := 3) (pc' := 10) rfl (hb hby d_prog_3_method_2_code_3) rfl ((if0 _ _).trans (feq hp3).2) (by decide) (by decide) ?_
    show Steps p.tables e below (s₁.setTop (mkF m 10 #[.val (.ref x0), .val (.long y1), .second] [])) _
    refine XS.lloadN X0.here hx rfl (hb hby d_prog_3_method_2_code_10) rfl ?_
    show Steps p.tables e below (s₁.setTop (mkF m 11 #[.val (.ref x0), .val (.long y1), .second] [(.long y1)])) _
    refine XS.aloadN X0.here hx rfl (hb hby d_prog_3_method_2_code_11) rfl rfl ?_
    show Steps p.tables e below (s₁.setTop (mkF m 12 #[.val (.ref x0), .val (.long y1), .second] [(.ref x0), (.long y1)])) _
    refine st29 _ ?_
    show Steps p.tables e below (T29.setTop (mkF m 15 #[.val (.ref x0), .val (.long y1), .second] [(.long y0), (.long y1)])) _
    refine XS.lcmp X29.here hx rfl (hb hby d_prog_3_method_2_code_15) rfl ?_
    show Steps p.tables e below (T29.setTop (mkF m 16 #[.val (.ref x0), .val (.long y1), .second] [(.int (lcmpW y1 y0))])) _
    refine XS.ifYes X29.here hx rfl (pc0 := 16) (pc' := 25) rfl (hb hby d_prog_3_method_2_code_16) rfl ((if0 _ _).trans (feq hp2).2) (by decide) (by decide) ?_
    show Steps p.tables e below (T29.setTop (mkF m 25 #[.val (.ref x0), .val (.long y1), .second] [])) _
    refine st30 _ ?_
    exact kt
  obtain ⟨fs, hr, hrun, hended, hW, hsame⟩ := X30.leave (v := some (.ref w_BAD_VERSION)) (fun h => by rw [Bd.returns] at h; cases h)
  refine ⟨_, _, pre31 _ ?_, hrun, hended, _, _, rfl, ?_, ⟨_, rfl⟩, hW, hsame.mono (by decide) (by decide)⟩
  · show Steps p.tables e below (T30.setTop (mkF m 28 #[.val (.ref x0), .val (.long y1), .second] [(.ref w_BAD_VERSION)])) _
    jvm_step X30.here [X30.here.top, hx, (hb hby d_prog_3_method_2_code_28), X30.method', Bd.returns, Value.isRef, FieldType.isReference]
    first | (intro acts; rw [hr _ acts rfl rfl rfl]) | rw [hr _ _ rfl rfl rfl]
    exact Steps.refl _
  · show Q_rm_check_6 Z x0 y0 y1 w_BAD_VERSION h0 n0 _ T30.heap _
    rw [e30]
    exact ⟨rfl, N0, rfl⟩
theorem pd__J_V : parseMethodDescriptor "(J)V" = some ⟨[.long], none⟩ := by decide +kernel
theorem pd__J_Lcom_example_anchordb_anchordb_Status_ : parseMethodDescriptor "(J)Lcom/example/anchordb/anchordb/Status;" = some ⟨[.long], some (.object "com/example/anchordb/anchordb/Status")⟩ := by decide +kernel
theorem pd___J : parseMethodDescriptor "()J" = some ⟨[], some .long⟩ := by decide +kernel
theorem pn_com_example_anchordb_anchordb_ExpectCheckPinLaw : plainName "com/example/anchordb/anchordb/ExpectCheckPinLaw" = true := by first | (simp [plainName, overriddenIn]; done) | decide +kernel
theorem ef_rm0 (m : MethodId) (q0 : Int64) (q1 : Int64) (p2 : Int32) : entryFrame m #[(.long q0), (.long q1), (.int p2)] maxLocals = mkF m 0 #[.val (.long q0), .second, .val (.long q1), .second, .val (.int p2), .unset, .unset, .unset, .unset, .unset, .unset, .unset, .unset] [] := by first | (simp [entryFrame, mkF, argsToLocals, Value.category, maxLocals]; done) | rfl
def Q_rm0 (Z : State) (q0 : Int64) (q1 : Int64) (p2 : Int32) (w_OK : Addr) (w_NO_KEY : Addr) (w_BAD_VERSION : Addr) (h0 : Heap) (n0 : Nat) (v : Option Value) (h : Heap) (L : List Loc) : Prop := v = some (.int 1) ∧ Fr n0 L
set_option maxRecDepth 65536 in
set_option maxHeartbeats 40000000 in
theorem rm0 (l : Launch) (Z : State) (a0 : Array Value) (hw : ∀ d ∈ tables_1, d.before a0 Z = true) (ws : List Jvm.Cond) (q0 : Int64) (q1 : Int64) (p2 : Int32) (w_OK : Addr) (w_NO_KEY : Addr) (w_BAD_VERSION : Addr) (h0 : Heap) (n0 : Nat) (O0 : Old Z n0 h0) (S_OK : Sta Z Z.heap "com/example/anchordb/anchordb/Status" "OK" "Lcom/example/anchordb/anchordb/Status;" (.ref w_OK)) (S_NO_KEY : Sta Z Z.heap "com/example/anchordb/anchordb/Status" "NO_KEY" "Lcom/example/anchordb/anchordb/Status;" (.ref w_NO_KEY)) (S_BAD_VERSION : Sta Z Z.heap "com/example/anchordb/anchordb/Status" "BAD_VERSION" "Lcom/example/anchordb/anchordb/Status;" (.ref w_BAD_VERSION)) :
    MetFree l x (head1 (Jvm.Cond.code x code maxLocals ret :: ws) room_1) (fun a U => a = #[(.long q0), (.long q1), (.int p2)] ∧ Z.Warmed39 U.vm ∧ U.heap = h0) (fun _ _ _ _ _ => True) (fun _ U o U' => ∃ v L, o = .returned v ∧ Q_rm0 Z q0 q1 p2 w_OK w_NO_KEY w_BAD_VERSION h0 n0 v U'.heap L ∧ FrameEnd U o U' L room_1.cells room_1.slots) := by
  refine MetFree.of_bodySF (plainFor_of_name pn_com_example_anchordb_anchordb_ExpectCheckPinLaw) hisR ?_
  intro p e s m args below meth c s₁ Bd hml0 hP hK
  obtain ⟨rfl, hZ, hh⟩ := hP
  have hx := Bd.exec
  have hby := Bd.bytes
  have hml : c.maxLocals = 13 := hml0
  have hown : s.vm.findClass "com/example/anchordb/anchordb/ExpectCheckPinLaw" = some m.cls := findClass_of_methodNamed Bd.named
  have hnm := (name_of_methodNamed Bd.named Bd.method).1
  have X0 : Stand p l e room_1 s m #[(.long q0), (.long q1), (.int p2)] below meth c s₁ [] 0 0 := Stand.of_body Bd
  have e0 : s₁.heap = h0 := by rw [← hh, Bd.state]; rfl
  have N0 := Fr.nil n0
  have pre0 : ∀ t, Steps p.tables e below (s₁.setTop (mkF m 0 #[.val (.long q0), .second, .val (.long q1), .second, .val (.int p2), .unset, .unset, .unset, .unset, .unset, .unset, .unset, .unset] [])) t → Steps p.tables e below (s₁.setTop (entryFrame m #[(.long q0), (.long q1), (.int p2)] maxLocals)) t := fun t k => castTop (ef_rm0 m q0 q1 p2) k
  have tail79 : ∀ (vv : Int64) (cc : Int64) (hp : ¬ (lcmpW vv (1 : Int64) < (0 : Int32))), ∃ s₂ o, Steps p.tables e below (s₁.setTop (mkF m 79 #[.val (.long q0), .second, .val (.long q1), .second, .val (.int p2), .val (.long vv), .second, .val (.int (p2 &&& (3 : Int32))), .val (.long cc), .second, .unset, .unset, .unset] [])) s₂ ∧ s₂.status = .running ∧ Ended s₂ below o ∧ ∃ v L, o = .returned v ∧ Q_rm0 Z q0 q1 p2 w_OK w_NO_KEY w_BAD_VERSION h0 n0 v s₂.heap L ∧ FrameEnd s o s₂ L room_1.cells room_1.slots := by
    intro vv cc hp
    have pre1 : ∀ t, Steps p.tables e below (s₁.setTop (mkF m 79 #[.val (.long q0), .second, .val (.long q1), .second, .val (.int p2), .val (.long vv), .second, .val (.int (p2 &&& (3 : Int32))), .val (.long cc), .second, .unset, .unset, .unset] [])) t → Steps p.tables e below (s₁.setTop (mkF m 79 #[.val (.long q0), .second, .val (.long q1), .second, .val (.int p2), .val (.long vv), .second, .val (.int (p2 &&& (3 : Int32))), .val (.long cc), .second, .unset, .unset, .unset] [])) t := fun t k => k
    by_cases hA : cc = vv
    · obtain ⟨T2, h2, X2, e2, E2, A2, D2, -, st2⟩ := newO X0 hx hZ hown (hw _ (List.mem_of_getElem? (i := 1) rfl)) (hw _ (List.mem_of_getElem? (i := 2) rfl)) (hw _ (List.mem_of_getElem? (i := 3) rfl)) e0 (g := (mkF m 79 #[.val (.long q0), .second, .val (.long q1), .second, .val (.int p2), .val (.long vv), .second, .val (.int (p2 &&& (3 : Int32))), .val (.long cc), .second, .unset, .unset, .unset] [])) rfl (hb hby at_79) (by decide) (by decide)
      obtain ⟨b2, g2⟩ : ∃ z, z = h0.size := ⟨_, rfl⟩
      have ge_b2 : n0 ≤ b2 := Nat.le_trans (own_z O0) (Nat.le_of_eq g2.symm)
      rw [← g2] at A2 D2 st2
      have O2 := O0.ext E2
      have E_b2 := A2
      have F_version_b2 : Fld Z h2 b2 "com/example/anchordb/anchordb/Condition$Expect" "version" "J" (.long (0 : Int64)) := D2 (Or.inr (hw _ (List.mem_of_getElem? (i := 16) rfl))) (ty := .long) (by decide)
      obtain ⟨_, _, ⟨T3, L3, k3, n3⟩, -, X3, ⟨Lc3, hQ3, l3, y3, z3⟩, st3⟩ := X2.specialBack hx (y := (⟨"com/example/anchordb/anchordb/Condition$Expect", "<init>", "(J)V"⟩ : MethodName)) rfl hown (mvT hZ (hw _ (List.mem_of_getElem? (i := 4) rfl))) (mvT hZ (hw _ (List.mem_of_getElem? (i := 5) rfl))) (mvT hZ (hw _ (List.mem_of_getElem? (i := 6) rfl))) (by decide) (backOf (W := 1) (rm_init_1 l Z a0 hw [] b2 vv h2 n0 O2 E_b2 F_version_b2 ge_b2 hp ((lw_eq _ _).mpr rfl) ) hZ (hw _ (List.mem_of_getElem? (i := 6) rfl)) (hw _ (List.mem_of_getElem? (i := 3) rfl)) (by decide) (by decide)) (g := (mkF m 85 #[.val (.long q0), .second, .val (.long q1), .second, .val (.int p2), .val (.long vv), .second, .val (.int (p2 &&& (3 : Int32))), .val (.long cc), .second, .unset, .unset, .unset] [(.long vv), (.ref b2), (.ref b2)])) rfl (by rw [hml]; rfl) (Steps.refl _) (a := b2) (argsL := [(.long vv)]) (rest := [(.ref b2)]) (lenOf pd__J_V rfl) rfl (by show 2 * 0 + _ ≤ _; exact Nat.le_of_eq rfl) (hb hby at_85) (fun _ _ => ⟨rfl, e2, (by decide : 1 + 0 ≤ _), (by decide : 1 + 0 ≤ _)⟩)
      dsimp only [Pt.U, Pt.locs, Pt.cells, Pt.slots] at X3 l3 y3 z3 st3 hQ3
      subst l3 y3 z3
      obtain ⟨rfl, N3q, Kc3, u3_0, u3_1⟩ := hQ3
      have N3 := Fr.app N0 N3q
      have O3 := O2.keep Kc3 (allS ge_b2 all0)
      obtain ⟨cq9, kq9, q9a, q9b, q9c⟩ := isOf hZ rfl u3_0
      obtain ⟨_, _, ⟨T9, L9, k9, n9⟩, -, X9, ⟨Lc9, hQ9, l9, y9, z9⟩, st9⟩ := X3.virtualBack hx (y := (⟨"com/example/anchordb/anchordb/Condition$Expect", "check", "(J)Lcom/example/anchordb/anchordb/Status;"⟩ : MethodName)) (z := (⟨"com/example/anchordb/anchordb/Condition$Expect", "check", "(J)Lcom/example/anchordb/anchordb/Status;"⟩ : MethodName)) hown (mvT hZ (hw _ (List.mem_of_getElem? (i := 17) rfl))) (mvT hZ (hw _ (List.mem_of_getElem? (i := 18) rfl))) (notFace_of_selects (args := #[]) (mvT hZ (hw _ (List.mem_of_getElem? (i := 20) rfl)))) (mvT hZ (hw _ (List.mem_of_getElem? (i := 20) rfl))) (mvT hZ (hw _ (List.mem_of_getElem? (i := 19) rfl))) (by decide) (backOf (W := 0) (rm_check_3 l Z a0 hw [] b2 vv cc w_OK T3.heap n0 O3 u3_1 ((lw_eq _ _).mpr hA) (fun q => own_ne0 hp (hA.symm.trans ((lw_eq _ _).mp q))) S_OK) hZ (hw _ (List.mem_of_getElem? (i := 21) rfl)) (hw _ (List.mem_of_getElem? (i := 3) rfl)) (by decide) (by decide)) q9a q9c (g := (mkF m 94 #[.val (.long q0), .second, .val (.long q1), .second, .val (.int p2), .val (.long vv), .second, .val (.int (p2 &&& (3 : Int32))), .val (.long cc), .second, .val (.ref b2), .unset, .unset] [(.long cc), (.ref b2)])) rfl (by rw [hml]; rfl) (Steps.refl _) (argsL := [(.long cc)]) (rest := []) (lenOf pd__J_Lcom_example_anchordb_anchordb_Status_ rfl) rfl (by show 2 * 0 + _ ≤ _; exact Nat.le_of_eq rfl) (hb hby at_94) (fun _ _ => ⟨rfl, rfl, (by decide : 1 + 0 ≤ _), (by decide : 1 + 0 ≤ _)⟩)
      dsimp only [Pt.U, Pt.locs, Pt.cells, Pt.slots] at X9 l9 y9 z9 st9 hQ9
      subst l9 y9 z9
      obtain ⟨rfl, N9q, e9⟩ := hQ9
      have N9 := Fr.app N3 N9q
      obtain ⟨T13, X13, e13, st13⟩ := getS2 X9 hx hZ hown (host := "") (Or.inl (hw _ (List.mem_of_getElem? (i := 36) rfl))) Via.refl e9 (S_OK.ext O3.2) (g := (mkF m 107 #[.val (.long q0), .second, .val (.long q1), .second, .val (.int p2), .val (.long vv), .second, .val (.int (p2 &&& (3 : Int32))), .val (.long cc), .second, .val (.ref b2), .val (.ref w_OK), .unset] [])) rfl (hb hby at_107)
      obtain ⟨cq14, kq14, q14a, q14b, q14c⟩ := isOf hZ e13 u3_0
      obtain ⟨_, _, ⟨T14, L14, k14, n14⟩, -, X14, ⟨Lc14, hQ14, l14, y14, z14⟩, st14⟩ := X13.virtualBack hx (y := (⟨"com/example/anchordb/anchordb/Condition$Expect", "version", "()J"⟩ : MethodName)) (z := (⟨"com/example/anchordb/anchordb/Condition$Expect", "version", "()J"⟩ : MethodName)) hown (mvT hZ (hw _ (List.mem_of_getElem? (i := 26) rfl))) (mvT hZ (hw _ (List.mem_of_getElem? (i := 27) rfl))) (notFace_of_selects (args := #[]) (mvT hZ (hw _ (List.mem_of_getElem? (i := 29) rfl)))) (mvT hZ (hw _ (List.mem_of_getElem? (i := 29) rfl))) (mvT hZ (hw _ (List.mem_of_getElem? (i := 28) rfl))) (by decide) (backOf (W := 0) (rm_version_4 l Z a0 hw [] b2 vv T3.heap n0 O3 u3_1 ) hZ (hw _ (List.mem_of_getElem? (i := 30) rfl)) (hw _ (List.mem_of_getElem? (i := 3) rfl)) (by decide) (by decide)) q14a q14c (g := (mkF m 144 #[.val (.long q0), .second, .val (.long q1), .second, .val (.int p2), .val (.long vv), .second, .val (.int (p2 &&& (3 : Int32))), .val (.long cc), .second, .val (.ref b2), .val (.ref w_OK), .val (.ref w_OK)] [(.ref b2)])) rfl (by rw [hml]; rfl) (Steps.refl _) (argsL := []) (rest := []) (lenOf pd___J rfl) rfl (by show 2 * 0 + _ ≤ _; exact Nat.le_of_eq rfl) (hb hby at_144) (fun _ _ => ⟨rfl, e13, (by decide : 1 + 0 ≤ _), (by decide : 1 + 0 ≤ _)⟩)
      dsimp only [Pt.U, Pt.locs, Pt.cells, Pt.slots] at X14 l14 y14 z14 st14 hQ14
      subst l14 y14 z14
      obtain ⟨rfl, N14q, e14⟩ := hQ14
      have N14 := Fr.app N9 N14q
      have pre17 : ∀ t, Steps p.tables e below (T14.setTop (mkF m 158 #[.val (.long q0), .second, .val (.long q1), .second, .val (.int p2), .val (.long vv), .second, .val (.int (p2 &&& (3 : Int32))), .val (.long cc), .second, .val (.ref b2), .val (.ref w_OK), .val (.ref w_OK)] [(.int (1 : Int32))])) t → Steps p.tables e below (s₁.setTop (mkF m 79 #[.val (.long q0), .second, .val (.long q1), .second, .val (.int p2), .val (.long vv), .second, .val (.int (p2 &&& (3 : Int32))), .val (.long cc), .second, .unset, .unset, .unset] [])) t := by
        intro t kt
        refine pre1 t ?_
        show Steps p.tables e below (s₁.setTop (mkF m 79 #[.val (.long q0), .second, .val (.long q1), .second, .val (.int p2), .val (.long vv), .second, .val (.int (p2 &&& (3 : Int32))), .val (.long cc), .second, .unset, .unset, .unset] [])) _
        refine st2 _ ?_
        show Steps p.tables e below (T2.setTop (mkF m 82 #[.val (.long q0), .second, .val (.long q1), .second, .val (.int p2), .val (.long vv), .second, .val (.int (p2 &&& (3 : Int32))), .val (.long cc), .second, .unset, .unset, .unset] [(.ref b2)])) _
        refine XS.dup X2.here hx rfl (hb hby at_82) rfl rfl ?_
        show Steps p.tables e below (T2.setTop (mkF m 83 #[.val (.long q0), .second, .val (.long q1), .second, .val (.int p2), .val (.long vv), .second, .val (.int (p2 &&& (3 : Int32))), .val (.long cc), .second, .unset, .unset, .unset] [(.ref b2), (.ref b2)])) _
        refine XS.lload X2.here hx rfl (hb hby at_83) rfl ?_
        show Steps p.tables e below (T2.setTop (mkF m 85 #[.val (.long q0), .second, .val (.long q1), .second, .val (.int p2), .val (.long vv), .second, .val (.int (p2 &&& (3 : Int32))), .val (.long cc), .second, .unset, .unset, .unset] [(.long vv), (.ref b2), (.ref b2)])) _
        refine st3.trans ?_
        show Steps p.tables e below (T3.setTop (mkF m 88 #[.val (.long q0), .second, .val (.long q1), .second, .val (.int p2), .val (.long vv), .second, .val (.int (p2 &&& (3 : Int32))), .val (.long cc), .second, .unset, .unset, .unset] [(.ref b2)])) _
        refine XS.astore X3.here hx rfl (hb hby at_88) rfl rfl (l' := #[.val (.long q0), .second, .val (.long q1), .second, .val (.int p2), .val (.long vv), .second, .val (.int (p2 &&& (3 : Int32))), .val (.long cc), .second, .val (.ref b2), .unset, .unset]) rfl ?_
        show Steps p.tables e below (T3.setTop (mkF m 90 #[.val (.long q0), .second, .val (.long q1), .second, .val (.int p2), .val (.long vv), .second, .val (.int (p2 &&& (3 : Int32))), .val (.long cc), .second, .val (.ref b2), .unset, .unset] [])) _
        refine XS.aload X3.here hx rfl (hb hby at_90) rfl rfl ?_
        show Steps p.tables e below (T3.setTop (mkF m 92 #[.val (.long q0), .second, .val (.long q1), .second, .val (.int p2), .val (.long vv), .second, .val (.int (p2 &&& (3 : Int32))), .val (.long cc), .second, .val (.ref b2), .unset, .unset] [(.ref b2)])) _
        refine XS.lload X3.here hx rfl (hb hby at_92) rfl ?_
        show Steps p.tables e below (T3.setTop (mkF m 94 #[.val (.long q0), .second, .val (.long q1), .second, .val (.int p2), .val (.long vv), .second, .val (.int (p2 &&& (3 : Int32))), .val (.long cc), .second, .val (.ref b2), .unset, .unset] [(.long cc), (.ref b2)])) _
        refine st9.trans ?_
        show Steps p.tables e below (T9.setTop (mkF m 97 #[.val (.long q0), .second, .val (.long q1), .second, .val (.int p2), .val (.long vv), .second, .val (.int (p2 &&& (3 : Int32))), .val (.long cc), .second, .val (.ref b2), .unset, .unset] [(.ref w_OK)])) _
        refine XS.astore X9.here hx rfl (hb hby at_97) rfl rfl (l' := #[.val (.long q0), .second, .val (.long q1), .second, .val (.int p2), .val (.long vv), .second, .val (.int (p2 &&& (3 : Int32))), .val (.long cc), .second, .val (.ref b2), .val (.ref w_OK), .unset]) rfl ?_
        show Steps p.tables e below (T9.setTop (mkF m 99 #[.val (.long q0), .second, .val (.long q1), .second, .val (.int p2), .val (.long vv), .second, .val (.int (p2 &&& (3 : Int32))), .val (.long cc), .second, .val (.ref b2), .val (.ref w_OK), .unset] [])) _
        refine XS.lload X9.here hx rfl (hb hby at_99) rfl ?_
        show Steps p.tables e below (T9.setTop (mkF m 101 #[.val (.long q0), .second, .val (.long q1), .second, .val (.int p2), .val (.long vv), .second, .val (.int (p2 &&& (3 : Int32))), .val (.long cc), .second, .val (.ref b2), .val (.ref w_OK), .unset] [(.long cc)])) _
        refine XS.lload X9.here hx rfl (hb hby at_101) rfl ?_
        show Steps p.tables e below (T9.setTop (mkF m 103 #[.val (.long q0), .second, .val (.long q1), .second, .val (.int p2), .val (.long vv), .second, .val (.int (p2 &&& (3 : Int32))), .val (.long cc), .second, .val (.ref b2), .val (.ref w_OK), .unset] [(.long vv), (.long cc)])) _
        refine XS.lcmp X9.here hx rfl (hb hby at_103) rfl ?_
        show Steps p.tables e below (T9.setTop (mkF m 104 #[.val (.long q0), .second, .val (.long q1), .second, .val (.int p2), .val (.long vv), .second, .val (.int (p2 &&& (3 : Int32))), .val (.long cc), .second, .val (.ref b2), .val (.ref w_OK), .unset] [(.int (lcmpW cc vv))])) _
        refine XS.ifNo X9.here hx rfl (hb hby at_104) rfl ((if0 _ _).trans (teq ((lw_eq _ _).mpr hA)).2) ?_
        show Steps p.tables e below (T9.setTop (mkF m 107 #[.val (.long q0), .second, .val (.long q1), .second, .val (.int p2), .val (.long vv), .second, .val (.int (p2 &&& (3 : Int32))), .val (.long cc), .second, .val (.ref b2), .val (.ref w_OK), .unset] [])) _
        refine st13 _ ?_
        show Steps p.tables e below (T13.setTop (mkF m 110 #[.val (.long q0), .second, .val (.long q1), .second, .val (.int p2), .val (.long vv), .second, .val (.int (p2 &&& (3 : Int32))), .val (.long cc), .second, .val (.ref b2), .val (.ref w_OK), .unset] [(.ref w_OK)])) _
        refine XS.astore X13.here hx rfl (hb hby at_110) rfl rfl (l' := #[.val (.long q0), .second, .val (.long q1), .second, .val (.int p2), .val (.long vv), .second, .val (.int (p2 &&& (3 : Int32))), .val (.long cc), .second, .val (.ref b2), .val (.ref w_OK), .val (.ref w_OK)]) rfl ?_
        show Steps p.tables e below (T13.setTop (mkF m 112 #[.val (.long q0), .second, .val (.long q1), .second, .val (.int p2), .val (.long vv), .second, .val (.int (p2 &&& (3 : Int32))), .val (.long cc), .second, .val (.ref b2), .val (.ref w_OK), .val (.ref w_OK)] [])) _
        refine XS.goto X13.here hx rfl (pc0 := 112) (pc' := 135) rfl (hb hby at_112) (by decide) (by decide) ?_
        show Steps p.tables e below (T13.setTop (mkF m 135 #[.val (.long q0), .second, .val (.long q1), .second, .val (.int p2), .val (.long vv), .second, .val (.int (p2 &&& (3 : Int32))), .val (.long cc), .second, .val (.ref b2), .val (.ref w_OK), .val (.ref w_OK)] [])) _
        refine XS.aload X13.here hx rfl (hb hby at_135) rfl rfl ?_
        show Steps p.tables e below (T13.setTop (mkF m 137 #[.val (.long q0), .second, .val (.long q1), .second, .val (.int p2), .val (.long vv), .second, .val (.int (p2 &&& (3 : Int32))), .val (.long cc), .second, .val (.ref b2), .val (.ref w_OK), .val (.ref w_OK)] [(.ref w_OK)])) _
        refine XS.aload X13.here hx rfl (hb hby at_137) rfl rfl ?_
        show Steps p.tables e below (T13.setTop (mkF m 139 #[.val (.long q0), .second, .val (.long q1), .second, .val (.int p2), .val (.long vv), .second, .val (.int (p2 &&& (3 : Int32))), .val (.long cc), .second, .val (.ref b2), .val (.ref w_OK), .val (.ref w_OK)] [(.ref w_OK), (.ref w_OK)])) _
        refine Jvm.RoadKit.acmp (g := (mkF m 139 #[.val (.long q0), .second, .val (.long q1), .second, .val (.int p2), .val (.long vv), .second, .val (.int (p2 &&& (3 : Int32))), .val (.long cc), .second, .val (.ref b2), .val (.ref w_OK), .val (.ref w_OK)] [(.ref w_OK), (.ref w_OK)])) X13 hx rfl rfl rfl (pc0 := 139) (pc' := 142) (same := true) rfl (hb hby at_139) rfl (decide_eq_true rfl) (by decide) (by decide) ?_
        show Steps p.tables e below (T13.setTop (mkF m 142 #[.val (.long q0), .second, .val (.long q1), .second, .val (.int p2), .val (.long vv), .second, .val (.int (p2 &&& (3 : Int32))), .val (.long cc), .second, .val (.ref b2), .val (.ref w_OK), .val (.ref w_OK)] [])) _
        refine XS.aload X13.here hx rfl (hb hby at_142) rfl rfl ?_
        show Steps p.tables e below (T13.setTop (mkF m 144 #[.val (.long q0), .second, .val (.long q1), .second, .val (.int p2), .val (.long vv), .second, .val (.int (p2 &&& (3 : Int32))), .val (.long cc), .second, .val (.ref b2), .val (.ref w_OK), .val (.ref w_OK)] [(.ref b2)])) _
        refine st14.trans ?_
        show Steps p.tables e below (T14.setTop (mkF m 147 #[.val (.long q0), .second, .val (.long q1), .second, .val (.int p2), .val (.long vv), .second, .val (.int (p2 &&& (3 : Int32))), .val (.long cc), .second, .val (.ref b2), .val (.ref w_OK), .val (.ref w_OK)] [(.long vv)])) _
        refine XS.lload X14.here hx rfl (hb hby at_147) rfl ?_
        show Steps p.tables e below (T14.setTop (mkF m 149 #[.val (.long q0), .second, .val (.long q1), .second, .val (.int p2), .val (.long vv), .second, .val (.int (p2 &&& (3 : Int32))), .val (.long cc), .second, .val (.ref b2), .val (.ref w_OK), .val (.ref w_OK)] [(.long vv), (.long vv)])) _
        refine XS.lcmp X14.here hx rfl (hb hby at_149) rfl ?_
        show Steps p.tables e below (T14.setTop (mkF m 150 #[.val (.long q0), .second, .val (.long q1), .second, .val (.int p2), .val (.long vv), .second, .val (.int (p2 &&& (3 : Int32))), .val (.long cc), .second, .val (.ref b2), .val (.ref w_OK), .val (.ref w_OK)] [(.int (lcmpW vv vv))])) _
        refine XS.ifNo X14.here hx rfl (hb hby at_150) rfl ((if0 _ _).trans (teq ((lw_eq _ _).mpr rfl)).2) ?_
        show Steps p.tables e below (T14.setTop (mkF m 153 #[.val (.long q0), .second, .val (.long q1), .second, .val (.int p2), .val (.long vv), .second, .val (.int (p2 &&& (3 : Int32))), .val (.long cc), .second, .val (.ref b2), .val (.ref w_OK), .val (.ref w_OK)] [])) _
        refine XS.iconst X14.here hx rfl (hb hby at_153) ?_
        show Steps p.tables e below (T14.setTop (mkF m 154 #[.val (.long q0), .second, .val (.long q1), .second, .val (.int p2), .val (.long vv), .second, .val (.int (p2 &&& (3 : Int32))), .val (.long cc), .second, .val (.ref b2), .val (.ref w_OK), .val (.ref w_OK)] [(.int (1 : Int32))])) _
        refine XS.goto X14.here hx rfl (pc0 := 154) (pc' := 158) rfl (hb hby at_154) (by decide) (by decide) ?_
        exact kt
      obtain ⟨fs, hr, hrun, hended, hW, hsame⟩ := X14.leave (v := some (.int (1 : Int32))) (fun h => by rw [Bd.returns] at h; cases h)
      refine ⟨_, _, pre17 _ ?_, hrun, hended, _, _, rfl, ?_, ⟨_, rfl⟩, hW, hsame.mono (by decide) (by decide)⟩
      · show Steps p.tables e below (T14.setTop (mkF m 158 #[.val (.long q0), .second, .val (.long q1), .second, .val (.int p2), .val (.long vv), .second, .val (.int (p2 &&& (3 : Int32))), .val (.long cc), .second, .val (.ref b2), .val (.ref w_OK), .val (.ref w_OK)] [(.int (1 : Int32))])) _
        exact retN X14 hx (t := .boolean) Bd.returns (by simp) (hb hby at_158) hr
      · show Q_rm0 Z q0 q1 p2 w_OK w_NO_KEY w_BAD_VERSION h0 n0 _ T14.heap _
        rw [e14]
        exact ⟨rfl, N14⟩
    · by_cases hB : cc = (0 : Int64)
      · obtain ⟨T18, h18, X18, e18, E18, A18, D18, -, st18⟩ := newO X0 hx hZ hown (hw _ (List.mem_of_getElem? (i := 1) rfl)) (hw _ (List.mem_of_getElem? (i := 2) rfl)) (hw _ (List.mem_of_getElem? (i := 3) rfl)) e0 (g := (mkF m 79 #[.val (.long q0), .second, .val (.long q1), .second, .val (.int p2), .val (.long vv), .second, .val (.int (p2 &&& (3 : Int32))), .val (.long cc), .second, .unset, .unset, .unset] [])) rfl (hb hby at_79) (by decide) (by decide)
        obtain ⟨b18, g18⟩ : ∃ z, z = h0.size := ⟨_, rfl⟩
        have ge_b18 : n0 ≤ b18 := Nat.le_trans (own_z O0) (Nat.le_of_eq g18.symm)
        rw [← g18] at A18 D18 st18
        have O18 := O0.ext E18
        have E_b18 := A18
        have F_version_b18 : Fld Z h18 b18 "com/example/anchordb/anchordb/Condition$Expect" "version" "J" (.long (0 : Int64)) := D18 (Or.inr (hw _ (List.mem_of_getElem? (i := 16) rfl))) (ty := .long) (by decide)
        obtain ⟨_, _, ⟨T19, L19, k19, n19⟩, -, X19, ⟨Lc19, hQ19, l19, y19, z19⟩, st19⟩ := X18.specialBack hx (y := (⟨"com/example/anchordb/anchordb/Condition$Expect", "<init>", "(J)V"⟩ : MethodName)) rfl hown (mvT hZ (hw _ (List.mem_of_getElem? (i := 4) rfl))) (mvT hZ (hw _ (List.mem_of_getElem? (i := 5) rfl))) (mvT hZ (hw _ (List.mem_of_getElem? (i := 6) rfl))) (by decide) (backOf (W := 1) (rm_init_1 l Z a0 hw [] b18 vv h18 n0 O18 E_b18 F_version_b18 ge_b18 hp ((lw_eq _ _).mpr rfl) ) hZ (hw _ (List.mem_of_getElem? (i := 6) rfl)) (hw _ (List.mem_of_getElem? (i := 3) rfl)) (by decide) (by decide)) (g := (mkF m 85 #[.val (.long q0), .second, .val (.long q1), .second, .val (.int p2), .val (.long vv), .second, .val (.int (p2 &&& (3 : Int32))), .val (.long cc), .second, .unset, .unset, .unset] [(.long vv), (.ref b18), (.ref b18)])) rfl (by rw [hml]; rfl) (Steps.refl _) (a := b18) (argsL := [(.long vv)]) (rest := [(.ref b18)]) (lenOf pd__J_V rfl) rfl (by show 2 * 0 + _ ≤ _; exact Nat.le_of_eq rfl) (hb hby at_85) (fun _ _ => ⟨rfl, e18, (by decide : 1 + 0 ≤ _), (by decide : 1 + 0 ≤ _)⟩)
        dsimp only [Pt.U, Pt.locs, Pt.cells, Pt.slots] at X19 l19 y19 z19 st19 hQ19
        subst l19 y19 z19
        obtain ⟨rfl, N19q, Kc19, u19_0, u19_1⟩ := hQ19
        have N19 := Fr.app N0 N19q
        have O19 := O18.keep Kc19 (allS ge_b18 all0)
        obtain ⟨cq20, kq20, q20a, q20b, q20c⟩ := isOf hZ rfl u19_0
        obtain ⟨_, _, ⟨T20, L20, k20, n20⟩, -, X20, ⟨Lc20, hQ20, l20, y20, z20⟩, st20⟩ := X19.virtualBack hx (y := (⟨"com/example/anchordb/anchordb/Condition$Expect", "check", "(J)Lcom/example/anchordb/anchordb/Status;"⟩ : MethodName)) (z := (⟨"com/example/anchordb/anchordb/Condition$Expect", "check", "(J)Lcom/example/anchordb/anchordb/Status;"⟩ : MethodName)) hown (mvT hZ (hw _ (List.mem_of_getElem? (i := 17) rfl))) (mvT hZ (hw _ (List.mem_of_getElem? (i := 18) rfl))) (notFace_of_selects (args := #[]) (mvT hZ (hw _ (List.mem_of_getElem? (i := 20) rfl)))) (mvT hZ (hw _ (List.mem_of_getElem? (i := 20) rfl))) (mvT hZ (hw _ (List.mem_of_getElem? (i := 19) rfl))) (by decide) (backOf (W := 0) (rm_check_5 l Z a0 hw [] b18 cc w_NO_KEY T19.heap n0 O19 ((lw_eq _ _).mpr hB) S_NO_KEY) hZ (hw _ (List.mem_of_getElem? (i := 21) rfl)) (hw _ (List.mem_of_getElem? (i := 3) rfl)) (by decide) (by decide)) q20a q20c (g := (mkF m 94 #[.val (.long q0), .second, .val (.long q1), .second, .val (.int p2), .val (.long vv), .second, .val (.int (p2 &&& (3 : Int32))), .val (.long cc), .second, .val (.ref b18), .unset, .unset] [(.long cc), (.ref b18)])) rfl (by rw [hml]; rfl) (Steps.refl _) (argsL := [(.long cc)]) (rest := []) (lenOf pd__J_Lcom_example_anchordb_anchordb_Status_ rfl) rfl (by show 2 * 0 + _ ≤ _; exact Nat.le_of_eq rfl) (hb hby at_94) (fun _ _ => ⟨rfl, rfl, (by decide : 1 + 0 ≤ _), (by decide : 1 + 0 ≤ _)⟩)
        dsimp only [Pt.U, Pt.locs, Pt.cells, Pt.slots] at X20 l20 y20 z20 st20 hQ20
        subst l20 y20 z20
        obtain ⟨rfl, N20q, e20⟩ := hQ20
        have N20 := Fr.app N19 N20q
        obtain ⟨T23, X23, e23, st23⟩ := getS2 X20 hx hZ hown (host := "") (Or.inl (hw _ (List.mem_of_getElem? (i := 25) rfl))) Via.refl e20 (S_NO_KEY.ext O19.2) (g := (mkF m 122 #[.val (.long q0), .second, .val (.long q1), .second, .val (.int p2), .val (.long vv), .second, .val (.int (p2 &&& (3 : Int32))), .val (.long cc), .second, .val (.ref b18), .val (.ref w_NO_KEY), .unset] [])) rfl (hb hby at_122)
        obtain ⟨cq24, kq24, q24a, q24b, q24c⟩ := isOf hZ e23 u19_0
        obtain ⟨_, _, ⟨T24, L24, k24, n24⟩, -, X24, ⟨Lc24, hQ24, l24, y24, z24⟩, st24⟩ := X23.virtualBack hx (y := (⟨"com/example/anchordb/anchordb/Condition$Expect", "version", "()J"⟩ : MethodName)) (z := (⟨"com/example/anchordb/anchordb/Condition$Expect", "version", "()J"⟩ : MethodName)) hown (mvT hZ (hw _ (List.mem_of_getElem? (i := 26) rfl))) (mvT hZ (hw _ (List.mem_of_getElem? (i := 27) rfl))) (notFace_of_selects (args := #[]) (mvT hZ (hw _ (List.mem_of_getElem? (i := 29) rfl)))) (mvT hZ (hw _ (List.mem_of_getElem? (i := 29) rfl))) (mvT hZ (hw _ (List.mem_of_getElem? (i := 28) rfl))) (by decide) (backOf (W := 0) (rm_version_4 l Z a0 hw [] b18 vv T19.heap n0 O19 u19_1 ) hZ (hw _ (List.mem_of_getElem? (i := 30) rfl)) (hw _ (List.mem_of_getElem? (i := 3) rfl)) (by decide) (by decide)) q24a q24c (g := (mkF m 144 #[.val (.long q0), .second, .val (.long q1), .second, .val (.int p2), .val (.long vv), .second, .val (.int (p2 &&& (3 : Int32))), .val (.long cc), .second, .val (.ref b18), .val (.ref w_NO_KEY), .val (.ref w_NO_KEY)] [(.ref b18)])) rfl (by rw [hml]; rfl) (Steps.refl _) (argsL := []) (rest := []) (lenOf pd___J rfl) rfl (by show 2 * 0 + _ ≤ _; exact Nat.le_of_eq rfl) (hb hby at_144) (fun _ _ => ⟨rfl, e23, (by decide : 1 + 0 ≤ _), (by decide : 1 + 0 ≤ _)⟩)
        dsimp only [Pt.U, Pt.locs, Pt.cells, Pt.slots] at X24 l24 y24 z24 st24 hQ24
        subst l24 y24 z24
        obtain ⟨rfl, N24q, e24⟩ := hQ24
        have N24 := Fr.app N20 N24q
        have pre25 : ∀ t, Steps p.tables e below (T24.setTop (mkF m 158 #[.val (.long q0), .second, .val (.long q1), .second, .val (.int p2), .val (.long vv), .second, .val (.int (p2 &&& (3 : Int32))), .val (.long cc), .second, .val (.ref b18), .val (.ref w_NO_KEY), .val (.ref w_NO_KEY)] [(.int (1 : Int32))])) t → Steps p.tables e below (s₁.setTop (mkF m 79 #[.val (.long q0), .second, .val (.long q1), .second, .val (.int p2), .val (.long vv), .second, .val (.int (p2 &&& (3 : Int32))), .val (.long cc), .second, .unset, .unset, .unset] [])) t := by
          intro t kt
          refine pre1 t ?_
          show Steps p.tables e below (s₁.setTop (mkF m 79 #[.val (.long q0), .second, .val (.long q1), .second, .val (.int p2), .val (.long vv), .second, .val (.int (p2 &&& (3 : Int32))), .val (.long cc), .second, .unset, .unset, .unset] [])) _
          refine st18 _ ?_
          show Steps p.tables e below (T18.setTop (mkF m 82 #[.val (.long q0), .second, .val (.long q1), .second, .val (.int p2), .val (.long vv), .second, .val (.int (p2 &&& (3 : Int32))), .val (.long cc), .second, .unset, .unset, .unset] [(.ref b18)])) _
          refine XS.dup X18.here hx rfl (hb hby at_82) rfl rfl ?_
          show Steps p.tables e below (T18.setTop (mkF m 83 #[.val (.long q0), .second, .val (.long q1), .second, .val (.int p2), .val (.long vv), .second, .val (.int (p2 &&& (3 : Int32))), .val (.long cc), .second, .unset, .unset, .unset] [(.ref b18), (.ref b18)])) _
          refine XS.lload X18.here hx rfl (hb hby at_83) rfl ?_
          show Steps p.tables e below (T18.setTop (mkF m 85 #[.val (.long q0), .second, .val (.long q1), .second, .val (.int p2), .val (.long vv), .second, .val (.int (p2 &&& (3 : Int32))), .val (.long cc), .second, .unset, .unset, .unset] [(.long vv), (.ref b18), (.ref b18)])) _
          refine st19.trans ?_
          show Steps p.tables e below (T19.setTop (mkF m 88 #[.val (.long q0), .second, .val (.long q1), .second, .val (.int p2), .val (.long vv), .second, .val (.int (p2 &&& (3 : Int32))), .val (.long cc), .second, .unset, .unset, .unset] [(.ref b18)])) _
          refine XS.astore X19.here hx rfl (hb hby at_88) rfl rfl (l' := #[.val (.long q0), .second, .val (.long q1), .second, .val (.int p2), .val (.long vv), .second, .val (.int (p2 &&& (3 : Int32))), .val (.long cc), .second, .val (.ref b18), .unset, .unset]) rfl ?_
          show Steps p.tables e below (T19.setTop (mkF m 90 #[.val (.long q0), .second, .val (.long q1), .second, .val (.int p2), .val (.long vv), .second, .val (.int (p2 &&& (3 : Int32))), .val (.long cc), .second, .val (.ref b18), .unset, .unset] [])) _
          refine XS.aload X19.here hx rfl (hb hby at_90) rfl rfl ?_
          show Steps p.tables e below (T19.setTop (mkF m 92 #[.val (.long q0), .second, .val (.long q1), .second, .val (.int p2), .val (.long vv), .second, .val (.int (p2 &&& (3 : Int32))), .val (.long cc), .second, .val (.ref b18), .unset, .unset] [(.ref b18)])) _
          refine XS.lload X19.here hx rfl (hb hby at_92) rfl ?_
          show Steps p.tables e below (T19.setTop (mkF m 94 #[.val (.long q0), .second, .val (.long q1), .second, .val (.int p2), .val (.long vv), .second, .val (.int (p2 &&& (3 : Int32))), .val (.long cc), .second, .val (.ref b18), .unset, .unset] [(.long cc), (.ref b18)])) _
          refine st20.trans ?_
          show Steps p.tables e below (T20.setTop (mkF m 97 #[.val (.long q0), .second, .val (.long q1), .second, .val (.int p2), .val (.long vv), .second, .val (.int (p2 &&& (3 : Int32))), .val (.long cc), .second, .val (.ref b18), .unset, .unset] [(.ref w_NO_KEY)])) _
          refine XS.astore X20.here hx rfl (hb hby at_97) rfl rfl (l' := #[.val (.long q0), .second, .val (.long q1), .second, .val (.int p2), .val (.long vv), .second, .val (.int (p2 &&& (3 : Int32))), .val (.long cc), .second, .val (.ref b18), .val (.ref w_NO_KEY), .unset]) rfl ?_
          show Steps p.tables e below (T20.setTop (mkF m 99 #[.val (.long q0), .second, .val (.long q1), .second, .val (.int p2), .val (.long vv), .second, .val (.int (p2 &&& (3 : Int32))), .val (.long cc), .second, .val (.ref b18), .val (.ref w_NO_KEY), .unset] [])) _
          refine XS.lload X20.here hx rfl (hb hby at_99) rfl ?_
          show Steps p.tables e below (T20.setTop (mkF m 101 #[.val (.long q0), .second, .val (.long q1), .second, .val (.int p2), .val (.long vv), .second, .val (.int (p2 &&& (3 : Int32))), .val (.long cc), .second, .val (.ref b18), .val (.ref w_NO_KEY), .unset] [(.long cc)])) _
          refine XS.lload X20.here hx rfl (hb hby at_101) rfl ?_
          show Steps p.tables e below (T20.setTop (mkF m 103 #[.val (.long q0), .second, .val (.long q1), .second, .val (.int p2), .val (.long vv), .second, .val (.int (p2 &&& (3 : Int32))), .val (.long cc), .second, .val (.ref b18), .val (.ref w_NO_KEY), .unset] [(.long vv), (.long cc)])) _
          refine XS.lcmp X20.here hx rfl (hb hby at_103) rfl ?_
          show Steps p.tables e below (T20.setTop (mkF m 104 #[.val (.long q0), .second, .val (.long q1), .second, .val (.int p2), .val (.long vv), .second, .val (.int (p2 &&& (3 : Int32))), .val (.long cc), .second, .val (.ref b18), .val (.ref w_NO_KEY), .unset] [(.int (lcmpW cc vv))])) _
          refine XS.ifYes X20.here hx rfl (pc0 := 104) (pc' := 115) rfl (hb hby at_104) rfl ((if0 _ _).trans (feq (fun q => hA ((lw_eq _ _).mp q))).2) (by decide) (by decide) ?_
          show Steps p.tables e below (T20.setTop (mkF m 115 #[.val (.long q0), .second, .val (.long q1), .second, .val (.int p2), .val (.long vv), .second, .val (.int (p2 &&& (3 : Int32))), .val (.long cc), .second, .val (.ref b18), .val (.ref w_NO_KEY), .unset] [])) _
          refine XS.lload X20.here hx rfl (hb hby at_115) rfl ?_
          show Steps p.tables e below (T20.setTop (mkF m 117 #[.val (.long q0), .second, .val (.long q1), .second, .val (.int p2), .val (.long vv), .second, .val (.int (p2 &&& (3 : Int32))), .val (.long cc), .second, .val (.ref b18), .val (.ref w_NO_KEY), .unset] [(.long cc)])) _
          refine XS.lconst X20.here hx rfl (hb hby at_117) ?_
          show Steps p.tables e below (T20.setTop (mkF m 118 #[.val (.long q0), .second, .val (.long q1), .second, .val (.int p2), .val (.long vv), .second, .val (.int (p2 &&& (3 : Int32))), .val (.long cc), .second, .val (.ref b18), .val (.ref w_NO_KEY), .unset] [(.long (0 : Int64)), (.long cc)])) _
          refine XS.lcmp X20.here hx rfl (hb hby at_118) rfl ?_
          show Steps p.tables e below (T20.setTop (mkF m 119 #[.val (.long q0), .second, .val (.long q1), .second, .val (.int p2), .val (.long vv), .second, .val (.int (p2 &&& (3 : Int32))), .val (.long cc), .second, .val (.ref b18), .val (.ref w_NO_KEY), .unset] [(.int (lcmpW cc (0 : Int64)))])) _
          refine XS.ifNo X20.here hx rfl (hb hby at_119) rfl ((if0 _ _).trans (teq ((lw_eq _ _).mpr hB)).2) ?_
          show Steps p.tables e below (T20.setTop (mkF m 122 #[.val (.long q0), .second, .val (.long q1), .second, .val (.int p2), .val (.long vv), .second, .val (.int (p2 &&& (3 : Int32))), .val (.long cc), .second, .val (.ref b18), .val (.ref w_NO_KEY), .unset] [])) _
          refine st23 _ ?_
          show Steps p.tables e below (T23.setTop (mkF m 125 #[.val (.long q0), .second, .val (.long q1), .second, .val (.int p2), .val (.long vv), .second, .val (.int (p2 &&& (3 : Int32))), .val (.long cc), .second, .val (.ref b18), .val (.ref w_NO_KEY), .unset] [(.ref w_NO_KEY)])) _
          refine XS.astore X23.here hx rfl (hb hby at_125) rfl rfl (l' := #[.val (.long q0), .second, .val (.long q1), .second, .val (.int p2), .val (.long vv), .second, .val (.int (p2 &&& (3 : Int32))), .val (.long cc), .second, .val (.ref b18), .val (.ref w_NO_KEY), .val (.ref w_NO_KEY)]) rfl ?_
          show Steps p.tables e below (T23.setTop (mkF m 127 #[.val (.long q0), .second, .val (.long q1), .second, .val (.int p2), .val (.long vv), .second, .val (.int (p2 &&& (3 : Int32))), .val (.long cc), .second, .val (.ref b18), .val (.ref w_NO_KEY), .val (.ref w_NO_KEY)] [])) _
          refine XS.goto X23.here hx rfl (pc0 := 127) (pc' := 135) rfl (hb hby at_127) (by decide) (by decide) ?_
          show Steps p.tables e below (T23.setTop (mkF m 135 #[.val (.long q0), .second, .val (.long q1), .second, .val (.int p2), .val (.long vv), .second, .val (.int (p2 &&& (3 : Int32))), .val (.long cc), .second, .val (.ref b18), .val (.ref w_NO_KEY), .val (.ref w_NO_KEY)] [])) _
          refine XS.aload X23.here hx rfl (hb hby at_135) rfl rfl ?_
          show Steps p.tables e below (T23.setTop (mkF m 137 #[.val (.long q0), .second, .val (.long q1), .second, .val (.int p2), .val (.long vv), .second, .val (.int (p2 &&& (3 : Int32))), .val (.long cc), .second, .val (.ref b18), .val (.ref w_NO_KEY), .val (.ref w_NO_KEY)] [(.ref w_NO_KEY)])) _
          refine XS.aload X23.here hx rfl (hb hby at_137) rfl rfl ?_
          show Steps p.tables e below (T23.setTop (mkF m 139 #[.val (.long q0), .second, .val (.long q1), .second, .val (.int p2), .val (.long vv), .second, .val (.int (p2 &&& (3 : Int32))), .val (.long cc), .second, .val (.ref b18), .val (.ref w_NO_KEY), .val (.ref w_NO_KEY)] [(.ref w_NO_KEY), (.ref w_NO_KEY)])) _
          refine Jvm.RoadKit.acmp (g := (mkF m 139 #[.val (.long q0), .second, .val (.long q1), .second, .val (.int p2), .val (.long vv), .second, .val (.int (p2 &&& (3 : Int32))), .val (.long cc), .second, .val (.ref b18), .val (.ref w_NO_KEY), .val (.ref w_NO_KEY)] [(.ref w_NO_KEY), (.ref w_NO_KEY)])) X23 hx rfl rfl rfl (pc0 := 139) (pc' := 142) (same := true) rfl (hb hby at_139) rfl (decide_eq_true rfl) (by decide) (by decide) ?_
          show Steps p.tables e below (T23.setTop (mkF m 142 #[.val (.long q0), .second, .val (.long q1), .second, .val (.int p2), .val (.long vv), .second, .val (.int (p2 &&& (3 : Int32))), .val (.long cc), .second, .val (.ref b18), .val (.ref w_NO_KEY), .val (.ref w_NO_KEY)] [])) _
          refine XS.aload X23.here hx rfl (hb hby at_142) rfl rfl ?_
          show Steps p.tables e below (T23.setTop (mkF m 144 #[.val (.long q0), .second, .val (.long q1), .second, .val (.int p2), .val (.long vv), .second, .val (.int (p2 &&& (3 : Int32))), .val (.long cc), .second, .val (.ref b18), .val (.ref w_NO_KEY), .val (.ref w_NO_KEY)] [(.ref b18)])) _
          refine st24.trans ?_
          show Steps p.tables e below (T24.setTop (mkF m 147 #[.val (.long q0), .second, .val (.long q1), .second, .val (.int p2), .val (.long vv), .second, .val (.int (p2 &&& (3 : Int32))), .val (.long cc), .second, .val (.ref b18), .val (.ref w_NO_KEY), .val (.ref w_NO_KEY)] [(.long vv)])) _
          refine XS.lload X24.here hx rfl (hb hby at_147) rfl ?_
          show Steps p.tables e below (T24.setTop (mkF m 149 #[.val (.long q0), .second, .val (.long q1), .second, .val (.int p2), .val (.long vv), .second, .val (.int (p2 &&& (3 : Int32))), .val (.long cc), .second, .val (.ref b18), .val (.ref w_NO_KEY), .val (.ref w_NO_KEY)] [(.long vv), (.long vv)])) _
          refine XS.lcmp X24.here hx rfl (hb hby at_149) rfl ?_
          show Steps p.tables e below (T24.setTop (mkF m 150 #[.val (.long q0), .second, .val (.long q1), .second, .val (.int p2), .val (.long vv), .second, .val (.int (p2 &&& (3 : Int32))), .val (.long cc), .second, .val (.ref b18), .val (.ref w_NO_KEY), .val (.ref w_NO_KEY)] [(.int (lcmpW vv vv))])) _
          refine XS.ifNo X24.here hx rfl (hb hby at_150) rfl ((if0 _ _).trans (teq ((lw_eq _ _).mpr rfl)).2) ?_
          show Steps p.tables e below (T24.setTop (mkF m 153 #[.val (.long q0), .second, .val (.long q1), .second, .val (.int p2), .val (.long vv), .second, .val (.int (p2 &&& (3 : Int32))), .val (.long cc), .second, .val (.ref b18), .val (.ref w_NO_KEY), .val (.ref w_NO_KEY)] [])) _
          refine XS.iconst X24.here hx rfl (hb hby at_153) ?_
          show Steps p.tables e below (T24.setTop (mkF m 154 #[.val (.long q0), .second, .val (.long q1), .second, .val (.int p2), .val (.long vv), .second, .val (.int (p2 &&& (3 : Int32))), .val (.long cc), .second, .val (.ref b18), .val (.ref w_NO_KEY), .val (.ref w_NO_KEY)] [(.int (1 : Int32))])) _
          refine XS.goto X24.here hx rfl (pc0 := 154) (pc' := 158) rfl (hb hby at_154) (by decide) (by decide) ?_
          exact kt
        obtain ⟨fs, hr, hrun, hended, hW, hsame⟩ := X24.leave (v := some (.int (1 : Int32))) (fun h => by rw [Bd.returns] at h; cases h)
        refine ⟨_, _, pre25 _ ?_, hrun, hended, _, _, rfl, ?_, ⟨_, rfl⟩, hW, hsame.mono (by decide) (by decide)⟩
        · show Steps p.tables e below (T24.setTop (mkF m 158 #[.val (.long q0), .second, .val (.long q1), .second, .val (.int p2), .val (.long vv), .second, .val (.int (p2 &&& (3 : Int32))), .val (.long cc), .second, .val (.ref b18), .val (.ref w_NO_KEY), .val (.ref w_NO_KEY)] [(.int (1 : Int32))])) _
          exact retN X24 hx (t := .boolean) Bd.returns (by simp) (hb hby at_158) hr
        · show Q_rm0 Z q0 q1 p2 w_OK w_NO_KEY w_BAD_VERSION h0 n0 _ T24.heap _
          rw [e24]
          exact ⟨rfl, N24⟩
      · obtain ⟨T26, h26, X26, e26, E26, A26, D26, -, st26⟩ := newO X0 hx hZ hown (hw _ (List.mem_of_getElem? (i := 1) rfl)) (hw _ (List.mem_of_getElem? (i := 2) rfl)) (hw _ (List.mem_of_getElem? (i := 3) rfl)) e0 (g := (mkF m 79 #[.val (.long q0), .second, .val (.long q1), .second, .val (.int p2), .val (.long vv), .second, .val (.int (p2 &&& (3 : Int32))), .val (.long cc), .second, .unset, .unset, .unset] [])) rfl (hb hby at_79) (by decide) (by decide)
        obtain ⟨b26, g26⟩ : ∃ z, z = h0.size := ⟨_, rfl⟩
        have ge_b26 : n0 ≤ b26 := Nat.le_trans (own_z O0) (Nat.le_of_eq g26.symm)
        rw [← g26] at A26 D26 st26
        have O26 := O0.ext E26
        have E_b26 := A26
        have F_version_b26 : Fld Z h26 b26 "com/example/anchordb/anchordb/Condition$Expect" "version" "J" (.long (0 : Int64)) := D26 (Or.inr (hw _ (List.mem_of_getElem? (i := 16) rfl))) (ty := .long) (by decide)
        obtain ⟨_, _, ⟨T27, L27, k27, n27⟩, -, X27, ⟨Lc27, hQ27, l27, y27, z27⟩, st27⟩ := X26.specialBack hx (y := (⟨"com/example/anchordb/anchordb/Condition$Expect", "<init>", "(J)V"⟩ : MethodName)) rfl hown (mvT hZ (hw _ (List.mem_of_getElem? (i := 4) rfl))) (mvT hZ (hw _ (List.mem_of_getElem? (i := 5) rfl))) (mvT hZ (hw _ (List.mem_of_getElem? (i := 6) rfl))) (by decide) (backOf (W := 1) (rm_init_1 l Z a0 hw [] b26 vv h26 n0 O26 E_b26 F_version_b26 ge_b26 hp ((lw_eq _ _).mpr rfl) ) hZ (hw _ (List.mem_of_getElem? (i := 6) rfl)) (hw _ (List.mem_of_getElem? (i := 3) rfl)) (by decide) (by decide)) (g := (mkF m 85 #[.val (.long q0), .second, .val (.long q1), .second, .val (.int p2), .val (.long vv), .second, .val (.int (p2 &&& (3 : Int32))), .val (.long cc), .second, .unset, .unset, .unset] [(.long vv), (.ref b26), (.ref b26)])) rfl (by rw [hml]; rfl) (Steps.refl _) (a := b26) (argsL := [(.long vv)]) (rest := [(.ref b26)]) (lenOf pd__J_V rfl) rfl (by show 2 * 0 + _ ≤ _; exact Nat.le_of_eq rfl) (hb hby at_85) (fun _ _ => ⟨rfl, e26, (by decide : 1 + 0 ≤ _), (by decide : 1 + 0 ≤ _)⟩)
        dsimp only [Pt.U, Pt.locs, Pt.cells, Pt.slots] at X27 l27 y27 z27 st27 hQ27
        subst l27 y27 z27
        obtain ⟨rfl, N27q, Kc27, u27_0, u27_1⟩ := hQ27
        have N27 := Fr.app N0 N27q
        have O27 := O26.keep Kc27 (allS ge_b26 all0)
        obtain ⟨cq28, kq28, q28a, q28b, q28c⟩ := isOf hZ rfl u27_0
        obtain ⟨_, _, ⟨T28, L28, k28, n28⟩, -, X28, ⟨Lc28, hQ28, l28, y28, z28⟩, st28⟩ := X27.virtualBack hx (y := (⟨"com/example/anchordb/anchordb/Condition$Expect", "check", "(J)Lcom/example/anchordb/anchordb/Status;"⟩ : MethodName)) (z := (⟨"com/example/anchordb/anchordb/Condition$Expect", "check", "(J)Lcom/example/anchordb/anchordb/Status;"⟩ : MethodName)) hown (mvT hZ (hw _ (List.mem_of_getElem? (i := 17) rfl))) (mvT hZ (hw _ (List.mem_of_getElem? (i := 18) rfl))) (notFace_of_selects (args := #[]) (mvT hZ (hw _ (List.mem_of_getElem? (i := 20) rfl)))) (mvT hZ (hw _ (List.mem_of_getElem? (i := 20) rfl))) (mvT hZ (hw _ (List.mem_of_getElem? (i := 19) rfl))) (by decide) (backOf (W := 0) (rm_check_6 l Z a0 hw [] b26 vv cc w_BAD_VERSION T27.heap n0 O27 u27_1 (fun q => hA ((lw_eq _ _).mp q)) (fun q => hB ((lw_eq _ _).mp q)) S_BAD_VERSION) hZ (hw _ (List.mem_of_getElem? (i := 21) rfl)) (hw _ (List.mem_of_getElem? (i := 3) rfl)) (by decide) (by decide)) q28a q28c (g := (mkF m 94 #[.val (.long q0), .second, .val (.long q1), .second, .val (.int p2), .val (.long vv), .second, .val (.int (p2 &&& (3 : Int32))), .val (.long cc), .second, .val (.ref b26), .unset, .unset] [(.long cc), (.ref b26)])) rfl (by rw [hml]; rfl) (Steps.refl _) (argsL := [(.long cc)]) (rest := []) (lenOf pd__J_Lcom_example_anchordb_anchordb_Status_ rfl) rfl (by show 2 * 0 + _ ≤ _; exact Nat.le_of_eq rfl) (hb hby at_94) (fun _ _ => ⟨rfl, rfl, (by decide : 1 + 0 ≤ _), (by decide : 1 + 0 ≤ _)⟩)
        dsimp only [Pt.U, Pt.locs, Pt.cells, Pt.slots] at X28 l28 y28 z28 st28 hQ28
        subst l28 y28 z28
        obtain ⟨rfl, N28q, e28⟩ := hQ28
        have N28 := Fr.app N27 N28q
        obtain ⟨T32, X32, e32, st32⟩ := getS2 X28 hx hZ hown (host := "") (Or.inl (hw _ (List.mem_of_getElem? (i := 33) rfl))) Via.refl e28 (S_BAD_VERSION.ext O27.2) (g := (mkF m 130 #[.val (.long q0), .second, .val (.long q1), .second, .val (.int p2), .val (.long vv), .second, .val (.int (p2 &&& (3 : Int32))), .val (.long cc), .second, .val (.ref b26), .val (.ref w_BAD_VERSION), .unset] [])) rfl (hb hby at_130)
        obtain ⟨cq33, kq33, q33a, q33b, q33c⟩ := isOf hZ e32 u27_0
        obtain ⟨_, _, ⟨T33, L33, k33, n33⟩, -, X33, ⟨Lc33, hQ33, l33, y33, z33⟩, st33⟩ := X32.virtualBack hx (y := (⟨"com/example/anchordb/anchordb/Condition$Expect", "version", "()J"⟩ : MethodName)) (z := (⟨"com/example/anchordb/anchordb/Condition$Expect", "version", "()J"⟩ : MethodName)) hown (mvT hZ (hw _ (List.mem_of_getElem? (i := 26) rfl))) (mvT hZ (hw _ (List.mem_of_getElem? (i := 27) rfl))) (notFace_of_selects (args := #[]) (mvT hZ (hw _ (List.mem_of_getElem? (i := 29) rfl)))) (mvT hZ (hw _ (List.mem_of_getElem? (i := 29) rfl))) (mvT hZ (hw _ (List.mem_of_getElem? (i := 28) rfl))) (by decide) (backOf (W := 0) (rm_version_4 l Z a0 hw [] b26 vv T27.heap n0 O27 u27_1 ) hZ (hw _ (List.mem_of_getElem? (i := 30) rfl)) (hw _ (List.mem_of_getElem? (i := 3) rfl)) (by decide) (by decide)) q33a q33c (g := (mkF m 144 #[.val (.long q0), .second, .val (.long q1), .second, .val (.int p2), .val (.long vv), .second, .val (.int (p2 &&& (3 : Int32))), .val (.long cc), .second, .val (.ref b26), .val (.ref w_BAD_VERSION), .val (.ref w_BAD_VERSION)] [(.ref b26)])) rfl (by rw [hml]; rfl) (Steps.refl _) (argsL := []) (rest := []) (lenOf pd___J rfl) rfl (by show 2 * 0 + _ ≤ _; exact Nat.le_of_eq rfl) (hb hby at_144) (fun _ _ => ⟨rfl, e32, (by decide : 1 + 0 ≤ _), (by decide : 1 + 0 ≤ _)⟩)
        dsimp only [Pt.U, Pt.locs, Pt.cells, Pt.slots] at X33 l33 y33 z33 st33 hQ33
        subst l33 y33 z33
        obtain ⟨rfl, N33q, e33⟩ := hQ33
        have N33 := Fr.app N28 N33q
        have pre34 : ∀ t, Steps p.tables e below (T33.setTop (mkF m 158 #[.val (.long q0), .second, .val (.long q1), .second, .val (.int p2), .val (.long vv), .second, .val (.int (p2 &&& (3 : Int32))), .val (.long cc), .second, .val (.ref b26), .val (.ref w_BAD_VERSION), .val (.ref w_BAD_VERSION)] [(.int (1 : Int32))])) t → Steps p.tables e below (s₁.setTop (mkF m 79 #[.val (.long q0), .second, .val (.long q1), .second, .val (.int p2), .val (.long vv), .second, .val (.int (p2 &&& (3 : Int32))), .val (.long cc), .second, .unset, .unset, .unset] [])) t := by
          intro t kt
          refine pre1 t ?_
          show Steps p.tables e below (s₁.setTop (mkF m 79 #[.val (.long q0), .second, .val (.long q1), .second, .val (.int p2), .val (.long vv), .second, .val (.int (p2 &&& (3 : Int32))), .val (.long cc), .second, .unset, .unset, .unset] [])) _
          refine st26 _ ?_
          show Steps p.tables e below (T26.setTop (mkF m 82 #[.val (.long q0), .second, .val (.long q1), .second, .val (.int p2), .val (.long vv), .second, .val (.int (p2 &&& (3 : Int32))), .val (.long cc), .second, .unset, .unset, .unset] [(.ref b26)])) _
          refine XS.dup X26.here hx rfl (hb hby at_82) rfl rfl ?_
          show Steps p.tables e below (T26.setTop (mkF m 83 #[.val (.long q0), .second, .val (.long q1), .second, .val (.int p2), .val (.long vv), .second, .val (.int (p2 &&& (3 : Int32))), .val (.long cc), .second, .unset, .unset, .unset] [(.ref b26), (.ref b26)])) _
          refine XS.lload X26.here hx rfl (hb hby at_83) rfl ?_
          show Steps p.tables e below (T26.setTop (mkF m 85 #[.val (.long q0), .second, .val (.long q1), .second, .val (.int p2), .val (.long vv), .second, .val (.int (p2 &&& (3 : Int32))), .val (.long cc), .second, .unset, .unset, .unset] [(.long vv), (.ref b26), (.ref b26)])) _
          refine st27.trans ?_
          show Steps p.tables e below (T27.setTop (mkF m 88 #[.val (.long q0), .second, .val (.long q1), .second, .val (.int p2), .val (.long vv), .second, .val (.int (p2 &&& (3 : Int32))), .val (.long cc), .second, .unset, .unset, .unset] [(.ref b26)])) _
          refine XS.astore X27.here hx rfl (hb hby at_88) rfl rfl (l' := #[.val (.long q0), .second, .val (.long q1), .second, .val (.int p2), .val (.long vv), .second, .val (.int (p2 &&& (3 : Int32))), .val (.long cc), .second, .val (.ref b26), .unset, .unset]) rfl ?_
          show Steps p.tables e below (T27.setTop (mkF m 90 #[.val (.long q0), .second, .val (.long q1), .second, .val (.int p2), .val (.long vv), .second, .val (.int (p2 &&& (3 : Int32))), .val (.long cc), .second, .val (.ref b26), .unset, .unset] [])) _
          refine XS.aload X27.here hx rfl (hb hby at_90) rfl rfl ?_
          show Steps p.tables e below (T27.setTop (mkF m 92 #[.val (.long q0), .second, .val (.long q1), .second, .val (.int p2), .val (.long vv), .second, .val (.int (p2 &&& (3 : Int32))), .val (.long cc), .second, .val (.ref b26), .unset, .unset] [(.ref b26)])) _
          refine XS.lload X27.here hx rfl (hb hby at_92) rfl ?_
          show Steps p.tables e below (T27.setTop (mkF m 94 #[.val (.long q0), .second, .val (.long q1), .second, .val (.int p2), .val (.long vv), .second, .val (.int (p2 &&& (3 : Int32))), .val (.long cc), .second, .val (.ref b26), .unset, .unset] [(.long cc), (.ref b26)])) _
          refine st28.trans ?_
          show Steps p.tables e below (T28.setTop (mkF m 97 #[.val (.long q0), .second, .val (.long q1), .second, .val (.int p2), .val (.long vv), .second, .val (.int (p2 &&& (3 : Int32))), .val (.long cc), .second, .val (.ref b26), .unset, .unset] [(.ref w_BAD_VERSION)])) _
          refine XS.astore X28.here hx rfl (hb hby at_97) rfl rfl (l' := #[.val (.long q0), .second, .val (.long q1), .second, .val (.int p2), .val (.long vv), .second, .val (.int (p2 &&& (3 : Int32))), .val (.long cc), .second, .val (.ref b26), .val (.ref w_BAD_VERSION), .unset]) rfl ?_
          show Steps p.tables e below (T28.setTop (mkF m 99 #[.val (.long q0), .second, .val (.long q1), .second, .val (.int p2), .val (.long vv), .second, .val (.int (p2 &&& (3 : Int32))), .val (.long cc), .second, .val (.ref b26), .val (.ref w_BAD_VERSION), .unset] [])) _
          refine XS.lload X28.here hx rfl (hb hby at_99) rfl ?_
          show Steps p.tables e below (T28.setTop (mkF m 101 #[.val (.long q0), .second, .val (.long q1), .second, .val (.int p2), .val (.long vv), .second, .val (.int (p2 &&& (3 : Int32))), .val (.long cc), .second, .val (.ref b26), .val (.ref w_BAD_VERSION), .unset] [(.long cc)])) _
          refine XS.lload X28.here hx rfl (hb hby at_101) rfl ?_
          show Steps p.tables e below (T28.setTop (mkF m 103 #[.val (.long q0), .second, .val (.long q1), .second, .val (.int p2), .val (.long vv), .second, .val (.int (p2 &&& (3 : Int32))), .val (.long cc), .second, .val (.ref b26), .val (.ref w_BAD_VERSION), .unset] [(.long vv), (.long cc)])) _
          refine XS.lcmp X28.here hx rfl (hb hby at_103) rfl ?_
          show Steps p.tables e below (T28.setTop (mkF m 104 #[.val (.long q0), .second, .val (.long q1), .second, .val (.int p2), .val (.long vv), .second, .val (.int (p2 &&& (3 : Int32))), .val (.long cc), .second, .val (.ref b26), .val (.ref w_BAD_VERSION), .unset] [(.int (lcmpW cc vv))])) _
          refine XS.ifYes X28.here hx rfl (pc0 := 104) (pc' := 115) rfl (hb hby at_104) rfl ((if0 _ _).trans (feq (fun q => hA ((lw_eq _ _).mp q))).2) (by decide) (by decide) ?_
          show Steps p.tables e below (T28.setTop (mkF m 115 #[.val (.long q0), .second, .val (.long q1), .second, .val (.int p2), .val (.long vv), .second, .val (.int (p2 &&& (3 : Int32))), .val (.long cc), .second, .val (.ref b26), .val (.ref w_BAD_VERSION), .unset] [])) _
          refine XS.lload X28.here hx rfl (hb hby at_115) rfl ?_
          show Steps p.tables e below (T28.setTop (mkF m 117 #[.val (.long q0), .second, .val (.long q1), .second, .val (.int p2), .val (.long vv), .second, .val (.int (p2 &&& (3 : Int32))), .val (.long cc), .second, .val (.ref b26), .val (.ref w_BAD_VERSION), .unset] [(.long cc)])) _
          refine XS.lconst X28.here hx rfl (hb hby at_117) ?_
          show Steps p.tables e below (T28.setTop (mkF m 118 #[.val (.long q0), .second, .val (.long q1), .second, .val (.int p2), .val (.long vv), .second, .val (.int (p2 &&& (3 : Int32))), .val (.long cc), .second, .val (.ref b26), .val (.ref w_BAD_VERSION), .unset] [(.long (0 : Int64)), (.long cc)])) _
          refine XS.lcmp X28.here hx rfl (hb hby at_118) rfl ?_
          show Steps p.tables e below (T28.setTop (mkF m 119 #[.val (.long q0), .second, .val (.long q1), .second, .val (.int p2), .val (.long vv), .second, .val (.int (p2 &&& (3 : Int32))), .val (.long cc), .second, .val (.ref b26), .val (.ref w_BAD_VERSION), .unset] [(.int (lcmpW cc (0 : Int64)))])) _
          refine XS.ifYes X28.here hx rfl (pc0 := 119) (pc' := 130) rfl (hb hby at_119) rfl ((if0 _ _).trans (feq (fun q => hB ((lw_eq _ _).mp q))).2) (by decide) (by decide) ?_
          show Steps p.tables e below (T28.setTop (mkF m 130 #[.val (.long q0), .second, .val (.long q1), .second, .val (.int p2), .val (.long vv), .second, .val (.int (p2 &&& (3 : Int32))), .val (.long cc), .second, .val (.ref b26), .val (.ref w_BAD_VERSION), .unset] [])) _
          refine st32 _ ?_
          show Steps p.tables e below (T32.setTop (mkF m 133 #[.val (.long q0), .second, .val (.long q1), .second, .val (.int p2), .val (.long vv), .second, .val (.int (p2 &&& (3 : Int32))), .val (.long cc), .second, .val (.ref b26), .val (.ref w_BAD_VERSION), .unset] [(.ref w_BAD_VERSION)])) _
          refine XS.astore X32.here hx rfl (hb hby at_133) rfl rfl (l' := #[.val (.long q0), .second, .val (.long q1), .second, .val (.int p2), .val (.long vv), .second, .val (.int (p2 &&& (3 : Int32))), .val (.long cc), .second, .val (.ref b26), .val (.ref w_BAD_VERSION), .val (.ref w_BAD_VERSION)]) rfl ?_
          show Steps p.tables e below (T32.setTop (mkF m 135 #[.val (.long q0), .second, .val (.long q1), .second, .val (.int p2), .val (.long vv), .second, .val (.int (p2 &&& (3 : Int32))), .val (.long cc), .second, .val (.ref b26), .val (.ref w_BAD_VERSION), .val (.ref w_BAD_VERSION)] [])) _
          refine XS.aload X32.here hx rfl (hb hby at_135) rfl rfl ?_
          show Steps p.tables e below (T32.setTop (mkF m 137 #[.val (.long q0), .second, .val (.long q1), .second, .val (.int p2), .val (.long vv), .second, .val (.int (p2 &&& (3 : Int32))), .val (.long cc), .second, .val (.ref b26), .val (.ref w_BAD_VERSION), .val (.ref w_BAD_VERSION)] [(.ref w_BAD_VERSION)])) _
          refine XS.aload X32.here hx rfl (hb hby at_137) rfl rfl ?_
          show Steps p.tables e below (T32.setTop (mkF m 139 #[.val (.long q0), .second, .val (.long q1), .second, .val (.int p2), .val (.long vv), .second, .val (.int (p2 &&& (3 : Int32))), .val (.long cc), .second, .val (.ref b26), .val (.ref w_BAD_VERSION), .val (.ref w_BAD_VERSION)] [(.ref w_BAD_VERSION), (.ref w_BAD_VERSION)])) _
          refine Jvm.RoadKit.acmp (g := (mkF m 139 #[.val (.long q0), .second, .val (.long q1), .second, .val (.int p2), .val (.long vv), .second, .val (.int (p2 &&& (3 : Int32))), .val (.long cc), .second, .val (.ref b26), .val (.ref w_BAD_VERSION), .val (.ref w_BAD_VERSION)] [(.ref w_BAD_VERSION), (.ref w_BAD_VERSION)])) X32 hx rfl rfl rfl (pc0 := 139) (pc' := 142) (same := true) rfl (hb hby at_139) rfl (decide_eq_true rfl) (by decide) (by decide) ?_
          show Steps p.tables e below (T32.setTop (mkF m 142 #[.val (.long q0), .second, .val (.long q1), .second, .val (.int p2), .val (.long vv), .second, .val (.int (p2 &&& (3 : Int32))), .val (.long cc), .second, .val (.ref b26), .val (.ref w_BAD_VERSION), .val (.ref w_BAD_VERSION)] [])) _
          refine XS.aload X32.here hx rfl (hb hby at_142) rfl rfl ?_
          show Steps p.tables e below (T32.setTop (mkF m 144 #[.val (.long q0), .second, .val (.long q1), .second, .val (.int p2), .val (.long vv), .second, .val (.int (p2 &&& (3 : Int32))), .val (.long cc), .second, .val (.ref b26), .val (.ref w_BAD_VERSION), .val (.ref w_BAD_VERSION)] [(.ref b26)])) _
          refine st33.trans ?_
          show Steps p.tables e below (T33.setTop (mkF m 147 #[.val (.long q0), .second, .val (.long q1), .second, .val (.int p2), .val (.long vv), .second, .val (.int (p2 &&& (3 : Int32))), .val (.long cc), .second, .val (.ref b26), .val (.ref w_BAD_VERSION), .val (.ref w_BAD_VERSION)] [(.long vv)])) _
          refine XS.lload X33.here hx rfl (hb hby at_147) rfl ?_
          show Steps p.tables e below (T33.setTop (mkF m 149 #[.val (.long q0), .second, .val (.long q1), .second, .val (.int p2), .val (.long vv), .second, .val (.int (p2 &&& (3 : Int32))), .val (.long cc), .second, .val (.ref b26), .val (.ref w_BAD_VERSION), .val (.ref w_BAD_VERSION)] [(.long vv), (.long vv)])) _
          refine XS.lcmp X33.here hx rfl (hb hby at_149) rfl ?_
          show Steps p.tables e below (T33.setTop (mkF m 150 #[.val (.long q0), .second, .val (.long q1), .second, .val (.int p2), .val (.long vv), .second, .val (.int (p2 &&& (3 : Int32))), .val (.long cc), .second, .val (.ref b26), .val (.ref w_BAD_VERSION), .val (.ref w_BAD_VERSION)] [(.int (lcmpW vv vv))])) _
          refine XS.ifNo X33.here hx rfl (hb hby at_150) rfl ((if0 _ _).trans (teq ((lw_eq _ _).mpr rfl)).2) ?_
          show Steps p.tables e below (T33.setTop (mkF m 153 #[.val (.long q0), .second, .val (.long q1), .second, .val (.int p2), .val (.long vv), .second, .val (.int (p2 &&& (3 : Int32))), .val (.long cc), .second, .val (.ref b26), .val (.ref w_BAD_VERSION), .val (.ref w_BAD_VERSION)] [])) _
          refine XS.iconst X33.here hx rfl (hb hby at_153) ?_
          show Steps p.tables e below (T33.setTop (mkF m 154 #[.val (.long q0), .second, .val (.long q1), .second, .val (.int p2), .val (.long vv), .second, .val (.int (p2 &&& (3 : Int32))), .val (.long cc), .second, .val (.ref b26), .val (.ref w_BAD_VERSION), .val (.ref w_BAD_VERSION)] [(.int (1 : Int32))])) _
          refine XS.goto X33.here hx rfl (pc0 := 154) (pc' := 158) rfl (hb hby at_154) (by decide) (by decide) ?_
          exact kt
        obtain ⟨fs, hr, hrun, hended, hW, hsame⟩ := X33.leave (v := some (.int (1 : Int32))) (fun h => by rw [Bd.returns] at h; cases h)
        refine ⟨_, _, pre34 _ ?_, hrun, hended, _, _, rfl, ?_, ⟨_, rfl⟩, hW, hsame.mono (by decide) (by decide)⟩
        · show Steps p.tables e below (T33.setTop (mkF m 158 #[.val (.long q0), .second, .val (.long q1), .second, .val (.int p2), .val (.long vv), .second, .val (.int (p2 &&& (3 : Int32))), .val (.long cc), .second, .val (.ref b26), .val (.ref w_BAD_VERSION), .val (.ref w_BAD_VERSION)] [(.int (1 : Int32))])) _
          exact retN X33 hx (t := .boolean) Bd.returns (by simp) (hb hby at_158) hr
        · show Q_rm0 Z q0 q1 p2 w_OK w_NO_KEY w_BAD_VERSION h0 n0 _ T33.heap _
          rw [e33]
          exact ⟨rfl, N33⟩
  have pre36 : ∀ t, Steps p.tables e below (s₁.setTop (mkF m 11 #[.val (.long q0), .second, .val (.long q1), .second, .val (.int p2), .val (.long (q0 &&& (9223372036854775807 : Int64))), .second, .unset, .unset, .unset, .unset, .unset, .unset] [(.int (lcmpW (q0 &&& (9223372036854775807 : Int64)) (0 : Int64)))])) t → Steps p.tables e below (s₁.setTop (entryFrame m #[(.long q0), (.long q1), (.int p2)] maxLocals)) t := by
    intro t kt
    refine pre0 t ?_
    show Steps p.tables e below (s₁.setTop (mkF m 0 #[.val (.long q0), .second, .val (.long q1), .second, .val (.int p2), .unset, .unset, .unset, .unset, .unset, .unset, .unset, .unset] [])) _
    refine XS.lloadN X0.here hx rfl (hb hby at_0) rfl ?_
    show Steps p.tables e below (s₁.setTop (mkF m 1 #[.val (.long q0), .second, .val (.long q1), .second, .val (.int p2), .unset, .unset, .unset, .unset, .unset, .unset, .unset, .unset] [(.long q0)])) _
    refine X0.ldc2Long hx hown (mvT hZ (hw _ (List.mem_of_getElem? (i := 0) rfl))) (g := (mkF m 1 #[.val (.long q0), .second, .val (.long q1), .second, .val (.int p2), .unset, .unset, .unset, .unset, .unset, .unset, .unset, .unset] [(.long q0)])) rfl (hb hby at_1) _ ?_
    show Steps p.tables e below (s₁.setTop (mkF m 4 #[.val (.long q0), .second, .val (.long q1), .second, .val (.int p2), .unset, .unset, .unset, .unset, .unset, .unset, .unset, .unset] [(.long (9223372036854775807 : Int64)), (.long q0)])) _
    refine XS.land X0.here hx rfl (hb hby at_4) rfl ?_
    show Steps p.tables e below (s₁.setTop (mkF m 5 #[.val (.long q0), .second, .val (.long q1), .second, .val (.int p2), .unset, .unset, .unset, .unset, .unset, .unset, .unset, .unset] [(.long (q0 &&& (9223372036854775807 : Int64)))])) _
    refine XS.lstore X0.here hx rfl (hb hby at_5) rfl (l' := #[.val (.long q0), .second, .val (.long q1), .second, .val (.int p2), .val (.long (q0 &&& (9223372036854775807 : Int64))), .second, .unset, .unset, .unset, .unset, .unset, .unset]) rfl ?_
    show Steps p.tables e below (s₁.setTop (mkF m 7 #[.val (.long q0), .second, .val (.long q1), .second, .val (.int p2), .val (.long (q0 &&& (9223372036854775807 : Int64))), .second, .unset, .unset, .unset, .unset, .unset, .unset] [])) _
    refine XS.lload X0.here hx rfl (hb hby at_7) rfl ?_
    show Steps p.tables e below (s₁.setTop (mkF m 9 #[.val (.long q0), .second, .val (.long q1), .second, .val (.int p2), .val (.long (q0 &&& (9223372036854775807 : Int64))), .second, .unset, .unset, .unset, .unset, .unset, .unset] [(.long (q0 &&& (9223372036854775807 : Int64)))])) _
    refine XS.lconst X0.here hx rfl (hb hby at_9) ?_
    show Steps p.tables e below (s₁.setTop (mkF m 10 #[.val (.long q0), .second, .val (.long q1), .second, .val (.int p2), .val (.long (q0 &&& (9223372036854775807 : Int64))), .second, .unset, .unset, .unset, .unset, .unset, .unset] [(.long (0 : Int64)), (.long (q0 &&& (9223372036854775807 : Int64)))])) _
    refine XS.lcmp X0.here hx rfl (hb hby at_10) rfl ?_
    exact kt
  by_cases hc11_35 : (lcmpW (q0 &&& (9223372036854775807 : Int64)) (0 : Int64)) = (0 : Int32)
  · have pre38 : ∀ t, Steps p.tables e below (s₁.setTop (mkF m 25 #[.val (.long q0), .second, .val (.long q1), .second, .val (.int p2), .val (.long (1 : Int64)), .second, .val (.int (p2 &&& (3 : Int32))), .unset, .unset, .unset, .unset, .unset] [(.int (p2 &&& (3 : Int32)))])) t → Steps p.tables e below (s₁.setTop (entryFrame m #[(.long q0), (.long q1), (.int p2)] maxLocals)) t := by
      intro t kt
      refine pre36 t ?_
      show Steps p.tables e below (s₁.setTop (mkF m 11 #[.val (.long q0), .second, .val (.long q1), .second, .val (.int p2), .val (.long (q0 &&& (9223372036854775807 : Int64))), .second, .unset, .unset, .unset, .unset, .unset, .unset] [(.int (lcmpW (q0 &&& (9223372036854775807 : Int64)) (0 : Int64)))])) _
      refine XS.ifNo X0.here hx rfl (hb hby at_11) rfl ((if0 _ _).trans (teq hc11_35).2) ?_
      show Steps p.tables e below (s₁.setTop (mkF m 14 #[.val (.long q0), .second, .val (.long q1), .second, .val (.int p2), .val (.long (q0 &&& (9223372036854775807 : Int64))), .second, .unset, .unset, .unset, .unset, .unset, .unset] [])) _
      refine XS.lconst X0.here hx rfl (hb hby at_14) ?_
      show Steps p.tables e below (s₁.setTop (mkF m 15 #[.val (.long q0), .second, .val (.long q1), .second, .val (.int p2), .val (.long (q0 &&& (9223372036854775807 : Int64))), .second, .unset, .unset, .unset, .unset, .unset, .unset] [(.long (1 : Int64))])) _
      refine XS.lstore X0.here hx rfl (hb hby at_15) rfl (l' := #[.val (.long q0), .second, .val (.long q1), .second, .val (.int p2), .val (.long (1 : Int64)), .second, .unset, .unset, .unset, .unset, .unset, .unset]) rfl ?_
      show Steps p.tables e below (s₁.setTop (mkF m 17 #[.val (.long q0), .second, .val (.long q1), .second, .val (.int p2), .val (.long (1 : Int64)), .second, .unset, .unset, .unset, .unset, .unset, .unset] [])) _
      refine XS.iload X0.here hx rfl (hb hby at_17) rfl ?_
      show Steps p.tables e below (s₁.setTop (mkF m 19 #[.val (.long q0), .second, .val (.long q1), .second, .val (.int p2), .val (.long (1 : Int64)), .second, .unset, .unset, .unset, .unset, .unset, .unset] [(.int p2)])) _
      refine XS.iconst X0.here hx rfl (hb hby at_19) ?_
      show Steps p.tables e below (s₁.setTop (mkF m 20 #[.val (.long q0), .second, .val (.long q1), .second, .val (.int p2), .val (.long (1 : Int64)), .second, .unset, .unset, .unset, .unset, .unset, .unset] [(.int (3 : Int32)), (.int p2)])) _
      refine XS.iand X0.here hx rfl (hb hby at_20) rfl ?_
      show Steps p.tables e below (s₁.setTop (mkF m 21 #[.val (.long q0), .second, .val (.long q1), .second, .val (.int p2), .val (.long (1 : Int64)), .second, .unset, .unset, .unset, .unset, .unset, .unset] [(.int (p2 &&& (3 : Int32)))])) _
      refine XS.istore X0.here hx rfl (hb hby at_21) rfl (l' := #[.val (.long q0), .second, .val (.long q1), .second, .val (.int p2), .val (.long (1 : Int64)), .second, .val (.int (p2 &&& (3 : Int32))), .unset, .unset, .unset, .unset, .unset]) rfl ?_
      show Steps p.tables e below (s₁.setTop (mkF m 23 #[.val (.long q0), .second, .val (.long q1), .second, .val (.int p2), .val (.long (1 : Int64)), .second, .val (.int (p2 &&& (3 : Int32))), .unset, .unset, .unset, .unset, .unset] [])) _
      refine XS.iload X0.here hx rfl (hb hby at_23) rfl ?_
      exact kt
    by_cases hc25_37 : (p2 &&& (3 : Int32)) = (0 : Int32)
    · have pre39 : ∀ t, Steps p.tables e below (s₁.setTop (mkF m 79 #[.val (.long q0), .second, .val (.long q1), .second, .val (.int p2), .val (.long (1 : Int64)), .second, .val (.int (p2 &&& (3 : Int32))), .val (.long (0 : Int64)), .second, .unset, .unset, .unset] [])) t → Steps p.tables e below (s₁.setTop (entryFrame m #[(.long q0), (.long q1), (.int p2)] maxLocals)) t := by
        intro t kt
        refine pre38 t ?_
        show Steps p.tables e below (s₁.setTop (mkF m 25 #[.val (.long q0), .second, .val (.long q1), .second, .val (.int p2), .val (.long (1 : Int64)), .second, .val (.int (p2 &&& (3 : Int32))), .unset, .unset, .unset, .unset, .unset] [(.int (p2 &&& (3 : Int32)))])) _
        refine XS.ifNo X0.here hx rfl (hb hby at_25) rfl ((if0 _ _).trans (teq hc25_37).2) ?_
        show Steps p.tables e below (s₁.setTop (mkF m 28 #[.val (.long q0), .second, .val (.long q1), .second, .val (.int p2), .val (.long (1 : Int64)), .second, .val (.int (p2 &&& (3 : Int32))), .unset, .unset, .unset, .unset, .unset] [])) _
        refine XS.lconst X0.here hx rfl (hb hby at_28) ?_
        show Steps p.tables e below (s₁.setTop (mkF m 29 #[.val (.long q0), .second, .val (.long q1), .second, .val (.int p2), .val (.long (1 : Int64)), .second, .val (.int (p2 &&& (3 : Int32))), .unset, .unset, .unset, .unset, .unset] [(.long (0 : Int64))])) _
        refine XS.lstore X0.here hx rfl (hb hby at_29) rfl (l' := #[.val (.long q0), .second, .val (.long q1), .second, .val (.int p2), .val (.long (1 : Int64)), .second, .val (.int (p2 &&& (3 : Int32))), .val (.long (0 : Int64)), .second, .unset, .unset, .unset]) rfl ?_
        show Steps p.tables e below (s₁.setTop (mkF m 31 #[.val (.long q0), .second, .val (.long q1), .second, .val (.int p2), .val (.long (1 : Int64)), .second, .val (.int (p2 &&& (3 : Int32))), .val (.long (0 : Int64)), .second, .unset, .unset, .unset] [])) _
        refine XS.goto X0.here hx rfl (pc0 := 31) (pc' := 79) rfl (hb hby at_31) (by decide) (by decide) ?_
        exact kt
      obtain ⟨s2, o2, hs2, r2⟩ := tail79 (1 : Int64) (0 : Int64) (by decide)
      exact ⟨s2, o2, pre39 _ hs2, r2⟩
    · have pre42 : ∀ t, Steps p.tables e below (s₁.setTop (mkF m 37 #[.val (.long q0), .second, .val (.long q1), .second, .val (.int p2), .val (.long (1 : Int64)), .second, .val (.int (p2 &&& (3 : Int32))), .unset, .unset, .unset, .unset, .unset] [(.int (1 : Int32)), (.int (p2 &&& (3 : Int32)))])) t → Steps p.tables e below (s₁.setTop (entryFrame m #[(.long q0), (.long q1), (.int p2)] maxLocals)) t := by
        intro t kt
        refine pre38 t ?_
        show Steps p.tables e below (s₁.setTop (mkF m 25 #[.val (.long q0), .second, .val (.long q1), .second, .val (.int p2), .val (.long (1 : Int64)), .second, .val (.int (p2 &&& (3 : Int32))), .unset, .unset, .unset, .unset, .unset] [(.int (p2 &&& (3 : Int32)))])) _
        refine XS.ifYes X0.here hx rfl (pc0 := 25) (pc' := 34) rfl (hb hby at_25) rfl ((if0 _ _).trans (feq hc25_37).2) (by decide) (by decide) ?_
        show Steps p.tables e below (s₁.setTop (mkF m 34 #[.val (.long q0), .second, .val (.long q1), .second, .val (.int p2), .val (.long (1 : Int64)), .second, .val (.int (p2 &&& (3 : Int32))), .unset, .unset, .unset, .unset, .unset] [])) _
        refine XS.iload X0.here hx rfl (hb hby at_34) rfl ?_
        show Steps p.tables e below (s₁.setTop (mkF m 36 #[.val (.long q0), .second, .val (.long q1), .second, .val (.int p2), .val (.long (1 : Int64)), .second, .val (.int (p2 &&& (3 : Int32))), .unset, .unset, .unset, .unset, .unset] [(.int (p2 &&& (3 : Int32)))])) _
        refine XS.iconst X0.here hx rfl (hb hby at_36) ?_
        exact kt
      by_cases hc37_41 : (p2 &&& (3 : Int32)) = (1 : Int32)
      · have pre43 : ∀ t, Steps p.tables e below (s₁.setTop (mkF m 79 #[.val (.long q0), .second, .val (.long q1), .second, .val (.int p2), .val (.long (1 : Int64)), .second, .val (.int (p2 &&& (3 : Int32))), .val (.long (1 : Int64)), .second, .unset, .unset, .unset] [])) t → Steps p.tables e below (s₁.setTop (entryFrame m #[(.long q0), (.long q1), (.int p2)] maxLocals)) t := by
          intro t kt
          refine pre42 t ?_
          show Steps p.tables e below (s₁.setTop (mkF m 37 #[.val (.long q0), .second, .val (.long q1), .second, .val (.int p2), .val (.long (1 : Int64)), .second, .val (.int (p2 &&& (3 : Int32))), .unset, .unset, .unset, .unset, .unset] [(.int (1 : Int32)), (.int (p2 &&& (3 : Int32)))])) _
          refine XS.icmpNo X0.here hx rfl (hb hby at_37) rfl (teq hc37_41).2 ?_
          show Steps p.tables e below (s₁.setTop (mkF m 40 #[.val (.long q0), .second, .val (.long q1), .second, .val (.int p2), .val (.long (1 : Int64)), .second, .val (.int (p2 &&& (3 : Int32))), .unset, .unset, .unset, .unset, .unset] [])) _
          refine XS.lload X0.here hx rfl (hb hby at_40) rfl ?_
          show Steps p.tables e below (s₁.setTop (mkF m 42 #[.val (.long q0), .second, .val (.long q1), .second, .val (.int p2), .val (.long (1 : Int64)), .second, .val (.int (p2 &&& (3 : Int32))), .unset, .unset, .unset, .unset, .unset] [(.long (1 : Int64))])) _
          refine XS.lstore X0.here hx rfl (hb hby at_42) rfl (l' := #[.val (.long q0), .second, .val (.long q1), .second, .val (.int p2), .val (.long (1 : Int64)), .second, .val (.int (p2 &&& (3 : Int32))), .val (.long (1 : Int64)), .second, .unset, .unset, .unset]) rfl ?_
          show Steps p.tables e below (s₁.setTop (mkF m 44 #[.val (.long q0), .second, .val (.long q1), .second, .val (.int p2), .val (.long (1 : Int64)), .second, .val (.int (p2 &&& (3 : Int32))), .val (.long (1 : Int64)), .second, .unset, .unset, .unset] [])) _
          refine XS.goto X0.here hx rfl (pc0 := 44) (pc' := 79) rfl (hb hby at_44) (by decide) (by decide) ?_
          exact kt
        obtain ⟨s2, o2, hs2, r2⟩ := tail79 (1 : Int64) (1 : Int64) (by decide)
        exact ⟨s2, o2, pre43 _ hs2, r2⟩
      · have pre46 : ∀ t, Steps p.tables e below (s₁.setTop (mkF m 50 #[.val (.long q0), .second, .val (.long q1), .second, .val (.int p2), .val (.long (1 : Int64)), .second, .val (.int (p2 &&& (3 : Int32))), .unset, .unset, .unset, .unset, .unset] [(.int (2 : Int32)), (.int (p2 &&& (3 : Int32)))])) t → Steps p.tables e below (s₁.setTop (entryFrame m #[(.long q0), (.long q1), (.int p2)] maxLocals)) t := by
          intro t kt
          refine pre42 t ?_
          show Steps p.tables e below (s₁.setTop (mkF m 37 #[.val (.long q0), .second, .val (.long q1), .second, .val (.int p2), .val (.long (1 : Int64)), .second, .val (.int (p2 &&& (3 : Int32))), .unset, .unset, .unset, .unset, .unset] [(.int (1 : Int32)), (.int (p2 &&& (3 : Int32)))])) _
          refine XS.icmpYes X0.here hx rfl (pc0 := 37) (pc' := 47) rfl (hb hby at_37) rfl (feq hc37_41).2 (by decide) (by decide) ?_
          show Steps p.tables e below (s₁.setTop (mkF m 47 #[.val (.long q0), .second, .val (.long q1), .second, .val (.int p2), .val (.long (1 : Int64)), .second, .val (.int (p2 &&& (3 : Int32))), .unset, .unset, .unset, .unset, .unset] [])) _
          refine XS.iload X0.here hx rfl (hb hby at_47) rfl ?_
          show Steps p.tables e below (s₁.setTop (mkF m 49 #[.val (.long q0), .second, .val (.long q1), .second, .val (.int p2), .val (.long (1 : Int64)), .second, .val (.int (p2 &&& (3 : Int32))), .unset, .unset, .unset, .unset, .unset] [(.int (p2 &&& (3 : Int32)))])) _
          refine XS.iconst X0.here hx rfl (hb hby at_49) ?_
          exact kt
        by_cases hc50_45 : (p2 &&& (3 : Int32)) = (2 : Int32)
        · have pre47 : ∀ t, Steps p.tables e below (s₁.setTop (mkF m 79 #[.val (.long q0), .second, .val (.long q1), .second, .val (.int p2), .val (.long (1 : Int64)), .second, .val (.int (p2 &&& (3 : Int32))), .val (.long q1), .second, .unset, .unset, .unset] [])) t → Steps p.tables e below (s₁.setTop (entryFrame m #[(.long q0), (.long q1), (.int p2)] maxLocals)) t := by
            intro t kt
            refine pre46 t ?_
            show Steps p.tables e below (s₁.setTop (mkF m 50 #[.val (.long q0), .second, .val (.long q1), .second, .val (.int p2), .val (.long (1 : Int64)), .second, .val (.int (p2 &&& (3 : Int32))), .unset, .unset, .unset, .unset, .unset] [(.int (2 : Int32)), (.int (p2 &&& (3 : Int32)))])) _
            refine XS.icmpNo X0.here hx rfl (hb hby at_50) rfl (teq hc50_45).2 ?_
            show Steps p.tables e below (s₁.setTop (mkF m 53 #[.val (.long q0), .second, .val (.long q1), .second, .val (.int p2), .val (.long (1 : Int64)), .second, .val (.int (p2 &&& (3 : Int32))), .unset, .unset, .unset, .unset, .unset] [])) _
            refine XS.lloadN X0.here hx rfl (hb hby at_53) rfl ?_
            show Steps p.tables e below (s₁.setTop (mkF m 54 #[.val (.long q0), .second, .val (.long q1), .second, .val (.int p2), .val (.long (1 : Int64)), .second, .val (.int (p2 &&& (3 : Int32))), .unset, .unset, .unset, .unset, .unset] [(.long q1)])) _
            refine XS.lstore X0.here hx rfl (hb hby at_54) rfl (l' := #[.val (.long q0), .second, .val (.long q1), .second, .val (.int p2), .val (.long (1 : Int64)), .second, .val (.int (p2 &&& (3 : Int32))), .val (.long q1), .second, .unset, .unset, .unset]) rfl ?_
            show Steps p.tables e below (s₁.setTop (mkF m 56 #[.val (.long q0), .second, .val (.long q1), .second, .val (.int p2), .val (.long (1 : Int64)), .second, .val (.int (p2 &&& (3 : Int32))), .val (.long q1), .second, .unset, .unset, .unset] [])) _
            refine XS.goto X0.here hx rfl (pc0 := 56) (pc' := 79) rfl (hb hby at_56) (by decide) (by decide) ?_
            exact kt
          obtain ⟨s2, o2, hs2, r2⟩ := tail79 (1 : Int64) q1 (by decide)
          exact ⟨s2, o2, pre47 _ hs2, r2⟩
        · have pre50 : ∀ t, Steps p.tables e below (s₁.setTop (mkF m 63 #[.val (.long q0), .second, .val (.long q1), .second, .val (.int p2), .val (.long (1 : Int64)), .second, .val (.int (p2 &&& (3 : Int32))), .unset, .unset, .unset, .unset, .unset] [(.int (p2 &&& (4 : Int32)))])) t → Steps p.tables e below (s₁.setTop (entryFrame m #[(.long q0), (.long q1), (.int p2)] maxLocals)) t := by
            intro t kt
            refine pre46 t ?_
            show Steps p.tables e below (s₁.setTop (mkF m 50 #[.val (.long q0), .second, .val (.long q1), .second, .val (.int p2), .val (.long (1 : Int64)), .second, .val (.int (p2 &&& (3 : Int32))), .unset, .unset, .unset, .unset, .unset] [(.int (2 : Int32)), (.int (p2 &&& (3 : Int32)))])) _
            refine XS.icmpYes X0.here hx rfl (pc0 := 50) (pc' := 59) rfl (hb hby at_50) rfl (feq hc50_45).2 (by decide) (by decide) ?_
            show Steps p.tables e below (s₁.setTop (mkF m 59 #[.val (.long q0), .second, .val (.long q1), .second, .val (.int p2), .val (.long (1 : Int64)), .second, .val (.int (p2 &&& (3 : Int32))), .unset, .unset, .unset, .unset, .unset] [])) _
            refine XS.iload X0.here hx rfl (hb hby at_59) rfl ?_
            show Steps p.tables e below (s₁.setTop (mkF m 61 #[.val (.long q0), .second, .val (.long q1), .second, .val (.int p2), .val (.long (1 : Int64)), .second, .val (.int (p2 &&& (3 : Int32))), .unset, .unset, .unset, .unset, .unset] [(.int p2)])) _
            refine XS.iconst X0.here hx rfl (hb hby at_61) ?_
            show Steps p.tables e below (s₁.setTop (mkF m 62 #[.val (.long q0), .second, .val (.long q1), .second, .val (.int p2), .val (.long (1 : Int64)), .second, .val (.int (p2 &&& (3 : Int32))), .unset, .unset, .unset, .unset, .unset] [(.int (4 : Int32)), (.int p2)])) _
            refine XS.iand X0.here hx rfl (hb hby at_62) rfl ?_
            exact kt
          by_cases hc63_49 : (p2 &&& (4 : Int32)) = (0 : Int32)
          · have pre51 : ∀ t, Steps p.tables e below (s₁.setTop (mkF m 77 #[.val (.long q0), .second, .val (.long q1), .second, .val (.int p2), .val (.long (1 : Int64)), .second, .val (.int (p2 &&& (3 : Int32))), .unset, .unset, .unset, .unset, .unset] [(.long ((1 : Int64) - (1 : Int64)))])) t → Steps p.tables e below (s₁.setTop (entryFrame m #[(.long q0), (.long q1), (.int p2)] maxLocals)) t := by
              intro t kt
              refine pre50 t ?_
              show Steps p.tables e below (s₁.setTop (mkF m 63 #[.val (.long q0), .second, .val (.long q1), .second, .val (.int p2), .val (.long (1 : Int64)), .second, .val (.int (p2 &&& (3 : Int32))), .unset, .unset, .unset, .unset, .unset] [(.int (p2 &&& (4 : Int32)))])) _
              refine XS.ifYes X0.here hx rfl (pc0 := 63) (pc' := 73) rfl (hb hby at_63) rfl ((if0 _ _).trans (teq hc63_49).1) (by decide) (by decide) ?_
              show Steps p.tables e below (s₁.setTop (mkF m 73 #[.val (.long q0), .second, .val (.long q1), .second, .val (.int p2), .val (.long (1 : Int64)), .second, .val (.int (p2 &&& (3 : Int32))), .unset, .unset, .unset, .unset, .unset] [])) _
              refine XS.lload X0.here hx rfl (hb hby at_73) rfl ?_
              show Steps p.tables e below (s₁.setTop (mkF m 75 #[.val (.long q0), .second, .val (.long q1), .second, .val (.int p2), .val (.long (1 : Int64)), .second, .val (.int (p2 &&& (3 : Int32))), .unset, .unset, .unset, .unset, .unset] [(.long (1 : Int64))])) _
              refine XS.lconst X0.here hx rfl (hb hby at_75) ?_
              show Steps p.tables e below (s₁.setTop (mkF m 76 #[.val (.long q0), .second, .val (.long q1), .second, .val (.int p2), .val (.long (1 : Int64)), .second, .val (.int (p2 &&& (3 : Int32))), .unset, .unset, .unset, .unset, .unset] [(.long (1 : Int64)), (.long (1 : Int64))])) _
              refine XS.lsub X0.here hx rfl (hb hby at_76) rfl ?_
              exact kt
            rw [show ((1 : Int64) - (1 : Int64)) = (0 : Int64) from by decide] at pre51
            have pre52 : ∀ t, Steps p.tables e below (s₁.setTop (mkF m 79 #[.val (.long q0), .second, .val (.long q1), .second, .val (.int p2), .val (.long (1 : Int64)), .second, .val (.int (p2 &&& (3 : Int32))), .val (.long (0 : Int64)), .second, .unset, .unset, .unset] [])) t → Steps p.tables e below (s₁.setTop (entryFrame m #[(.long q0), (.long q1), (.int p2)] maxLocals)) t := by
              intro t kt
              refine pre51 t ?_
              show Steps p.tables e below (s₁.setTop (mkF m 77 #[.val (.long q0), .second, .val (.long q1), .second, .val (.int p2), .val (.long (1 : Int64)), .second, .val (.int (p2 &&& (3 : Int32))), .unset, .unset, .unset, .unset, .unset] [(.long (0 : Int64))])) _
              refine XS.lstore X0.here hx rfl (hb hby at_77) rfl (l' := #[.val (.long q0), .second, .val (.long q1), .second, .val (.int p2), .val (.long (1 : Int64)), .second, .val (.int (p2 &&& (3 : Int32))), .val (.long (0 : Int64)), .second, .unset, .unset, .unset]) rfl ?_
              exact kt
            obtain ⟨s2, o2, hs2, r2⟩ := tail79 (1 : Int64) (0 : Int64) (by decide)
            exact ⟨s2, o2, pre52 _ hs2, r2⟩
          · have pre54 : ∀ t, Steps p.tables e below (s₁.setTop (mkF m 70 #[.val (.long q0), .second, .val (.long q1), .second, .val (.int p2), .val (.long (1 : Int64)), .second, .val (.int (p2 &&& (3 : Int32))), .unset, .unset, .unset, .unset, .unset] [(.long ((1 : Int64) + (1 : Int64)))])) t → Steps p.tables e below (s₁.setTop (entryFrame m #[(.long q0), (.long q1), (.int p2)] maxLocals)) t := by
              intro t kt
              refine pre50 t ?_
              show Steps p.tables e below (s₁.setTop (mkF m 63 #[.val (.long q0), .second, .val (.long q1), .second, .val (.int p2), .val (.long (1 : Int64)), .second, .val (.int (p2 &&& (3 : Int32))), .unset, .unset, .unset, .unset, .unset] [(.int (p2 &&& (4 : Int32)))])) _
              refine XS.ifNo X0.here hx rfl (hb hby at_63) rfl ((if0 _ _).trans (feq hc63_49).1) ?_
              show Steps p.tables e below (s₁.setTop (mkF m 66 #[.val (.long q0), .second, .val (.long q1), .second, .val (.int p2), .val (.long (1 : Int64)), .second, .val (.int (p2 &&& (3 : Int32))), .unset, .unset, .unset, .unset, .unset] [])) _
              refine XS.lload X0.here hx rfl (hb hby at_66) rfl ?_
              show Steps p.tables e below (s₁.setTop (mkF m 68 #[.val (.long q0), .second, .val (.long q1), .second, .val (.int p2), .val (.long (1 : Int64)), .second, .val (.int (p2 &&& (3 : Int32))), .unset, .unset, .unset, .unset, .unset] [(.long (1 : Int64))])) _
              refine XS.lconst X0.here hx rfl (hb hby at_68) ?_
              show Steps p.tables e below (s₁.setTop (mkF m 69 #[.val (.long q0), .second, .val (.long q1), .second, .val (.int p2), .val (.long (1 : Int64)), .second, .val (.int (p2 &&& (3 : Int32))), .unset, .unset, .unset, .unset, .unset] [(.long (1 : Int64)), (.long (1 : Int64))])) _
              refine XS.ladd X0.here hx rfl (hb hby at_69) rfl ?_
              exact kt
            rw [show ((1 : Int64) + (1 : Int64)) = (2 : Int64) from by decide] at pre54
            have pre55 : ∀ t, Steps p.tables e below (s₁.setTop (mkF m 79 #[.val (.long q0), .second, .val (.long q1), .second, .val (.int p2), .val (.long (1 : Int64)), .second, .val (.int (p2 &&& (3 : Int32))), .val (.long (2 : Int64)), .second, .unset, .unset, .unset] [])) t → Steps p.tables e below (s₁.setTop (entryFrame m #[(.long q0), (.long q1), (.int p2)] maxLocals)) t := by
              intro t kt
              refine pre54 t ?_
              show Steps p.tables e below (s₁.setTop (mkF m 70 #[.val (.long q0), .second, .val (.long q1), .second, .val (.int p2), .val (.long (1 : Int64)), .second, .val (.int (p2 &&& (3 : Int32))), .unset, .unset, .unset, .unset, .unset] [(.long (2 : Int64))])) _
              refine XS.goto X0.here hx rfl (pc0 := 70) (pc' := 77) rfl (hb hby at_70) (by decide) (by decide) ?_
              show Steps p.tables e below (s₁.setTop (mkF m 77 #[.val (.long q0), .second, .val (.long q1), .second, .val (.int p2), .val (.long (1 : Int64)), .second, .val (.int (p2 &&& (3 : Int32))), .unset, .unset, .unset, .unset, .unset] [(.long (2 : Int64))])) _
              refine XS.lstore X0.here hx rfl (hb hby at_77) rfl (l' := #[.val (.long q0), .second, .val (.long q1), .second, .val (.int p2), .val (.long (1 : Int64)), .second, .val (.int (p2 &&& (3 : Int32))), .val (.long (2 : Int64)), .second, .unset, .unset, .unset]) rfl ?_
              exact kt
            obtain ⟨s2, o2, hs2, r2⟩ := tail79 (1 : Int64) (2 : Int64) (by decide)
            exact ⟨s2, o2, pre55 _ hs2, r2⟩
  · have pre58 : ∀ t, Steps p.tables e below (s₁.setTop (mkF m 25 #[.val (.long q0), .second, .val (.long q1), .second, .val (.int p2), .val (.long (q0 &&& (9223372036854775807 : Int64))), .second, .val (.int (p2 &&& (3 : Int32))), .unset, .unset, .unset, .unset, .unset] [(.int (p2 &&& (3 : Int32)))])) t → Steps p.tables e below (s₁.setTop (entryFrame m #[(.long q0), (.long q1), (.int p2)] maxLocals)) t := by
      intro t kt
      refine pre36 t ?_
      show Steps p.tables e below (s₁.setTop (mkF m 11 #[.val (.long q0), .second, .val (.long q1), .second, .val (.int p2), .val (.long (q0 &&& (9223372036854775807 : Int64))), .second, .unset, .unset, .unset, .unset, .unset, .unset] [(.int (lcmpW (q0 &&& (9223372036854775807 : Int64)) (0 : Int64)))])) _
      refine XS.ifYes X0.here hx rfl (pc0 := 11) (pc' := 17) rfl (hb hby at_11) rfl ((if0 _ _).trans (feq hc11_35).2) (by decide) (by decide) ?_
      show Steps p.tables e below (s₁.setTop (mkF m 17 #[.val (.long q0), .second, .val (.long q1), .second, .val (.int p2), .val (.long (q0 &&& (9223372036854775807 : Int64))), .second, .unset, .unset, .unset, .unset, .unset, .unset] [])) _
      refine XS.iload X0.here hx rfl (hb hby at_17) rfl ?_
      show Steps p.tables e below (s₁.setTop (mkF m 19 #[.val (.long q0), .second, .val (.long q1), .second, .val (.int p2), .val (.long (q0 &&& (9223372036854775807 : Int64))), .second, .unset, .unset, .unset, .unset, .unset, .unset] [(.int p2)])) _
      refine XS.iconst X0.here hx rfl (hb hby at_19) ?_
      show Steps p.tables e below (s₁.setTop (mkF m 20 #[.val (.long q0), .second, .val (.long q1), .second, .val (.int p2), .val (.long (q0 &&& (9223372036854775807 : Int64))), .second, .unset, .unset, .unset, .unset, .unset, .unset] [(.int (3 : Int32)), (.int p2)])) _
      refine XS.iand X0.here hx rfl (hb hby at_20) rfl ?_
      show Steps p.tables e below (s₁.setTop (mkF m 21 #[.val (.long q0), .second, .val (.long q1), .second, .val (.int p2), .val (.long (q0 &&& (9223372036854775807 : Int64))), .second, .unset, .unset, .unset, .unset, .unset, .unset] [(.int (p2 &&& (3 : Int32)))])) _
      refine XS.istore X0.here hx rfl (hb hby at_21) rfl (l' := #[.val (.long q0), .second, .val (.long q1), .second, .val (.int p2), .val (.long (q0 &&& (9223372036854775807 : Int64))), .second, .val (.int (p2 &&& (3 : Int32))), .unset, .unset, .unset, .unset, .unset]) rfl ?_
      show Steps p.tables e below (s₁.setTop (mkF m 23 #[.val (.long q0), .second, .val (.long q1), .second, .val (.int p2), .val (.long (q0 &&& (9223372036854775807 : Int64))), .second, .val (.int (p2 &&& (3 : Int32))), .unset, .unset, .unset, .unset, .unset] [])) _
      refine XS.iload X0.here hx rfl (hb hby at_23) rfl ?_
      exact kt
    by_cases hc25_57 : (p2 &&& (3 : Int32)) = (0 : Int32)
    · have pre59 : ∀ t, Steps p.tables e below (s₁.setTop (mkF m 79 #[.val (.long q0), .second, .val (.long q1), .second, .val (.int p2), .val (.long (q0 &&& (9223372036854775807 : Int64))), .second, .val (.int (p2 &&& (3 : Int32))), .val (.long (0 : Int64)), .second, .unset, .unset, .unset] [])) t → Steps p.tables e below (s₁.setTop (entryFrame m #[(.long q0), (.long q1), (.int p2)] maxLocals)) t := by
        intro t kt
        refine pre58 t ?_
        show Steps p.tables e below (s₁.setTop (mkF m 25 #[.val (.long q0), .second, .val (.long q1), .second, .val (.int p2), .val (.long (q0 &&& (9223372036854775807 : Int64))), .second, .val (.int (p2 &&& (3 : Int32))), .unset, .unset, .unset, .unset, .unset] [(.int (p2 &&& (3 : Int32)))])) _
        refine XS.ifNo X0.here hx rfl (hb hby at_25) rfl ((if0 _ _).trans (teq hc25_57).2) ?_
        show Steps p.tables e below (s₁.setTop (mkF m 28 #[.val (.long q0), .second, .val (.long q1), .second, .val (.int p2), .val (.long (q0 &&& (9223372036854775807 : Int64))), .second, .val (.int (p2 &&& (3 : Int32))), .unset, .unset, .unset, .unset, .unset] [])) _
        refine XS.lconst X0.here hx rfl (hb hby at_28) ?_
        show Steps p.tables e below (s₁.setTop (mkF m 29 #[.val (.long q0), .second, .val (.long q1), .second, .val (.int p2), .val (.long (q0 &&& (9223372036854775807 : Int64))), .second, .val (.int (p2 &&& (3 : Int32))), .unset, .unset, .unset, .unset, .unset] [(.long (0 : Int64))])) _
        refine XS.lstore X0.here hx rfl (hb hby at_29) rfl (l' := #[.val (.long q0), .second, .val (.long q1), .second, .val (.int p2), .val (.long (q0 &&& (9223372036854775807 : Int64))), .second, .val (.int (p2 &&& (3 : Int32))), .val (.long (0 : Int64)), .second, .unset, .unset, .unset]) rfl ?_
        show Steps p.tables e below (s₁.setTop (mkF m 31 #[.val (.long q0), .second, .val (.long q1), .second, .val (.int p2), .val (.long (q0 &&& (9223372036854775807 : Int64))), .second, .val (.int (p2 &&& (3 : Int32))), .val (.long (0 : Int64)), .second, .unset, .unset, .unset] [])) _
        refine XS.goto X0.here hx rfl (pc0 := 31) (pc' := 79) rfl (hb hby at_31) (by decide) (by decide) ?_
        exact kt
      obtain ⟨s2, o2, hs2, r2⟩ := tail79 (q0 &&& (9223372036854775807 : Int64)) (0 : Int64) (own_pos q0 hc11_35)
      exact ⟨s2, o2, pre59 _ hs2, r2⟩
    · have pre62 : ∀ t, Steps p.tables e below (s₁.setTop (mkF m 37 #[.val (.long q0), .second, .val (.long q1), .second, .val (.int p2), .val (.long (q0 &&& (9223372036854775807 : Int64))), .second, .val (.int (p2 &&& (3 : Int32))), .unset, .unset, .unset, .unset, .unset] [(.int (1 : Int32)), (.int (p2 &&& (3 : Int32)))])) t → Steps p.tables e below (s₁.setTop (entryFrame m #[(.long q0), (.long q1), (.int p2)] maxLocals)) t := by
        intro t kt
        refine pre58 t ?_
        show Steps p.tables e below (s₁.setTop (mkF m 25 #[.val (.long q0), .second, .val (.long q1), .second, .val (.int p2), .val (.long (q0 &&& (9223372036854775807 : Int64))), .second, .val (.int (p2 &&& (3 : Int32))), .unset, .unset, .unset, .unset, .unset] [(.int (p2 &&& (3 : Int32)))])) _
        refine XS.ifYes X0.here hx rfl (pc0 := 25) (pc' := 34) rfl (hb hby at_25) rfl ((if0 _ _).trans (feq hc25_57).2) (by decide) (by decide) ?_
        show Steps p.tables e below (s₁.setTop (mkF m 34 #[.val (.long q0), .second, .val (.long q1), .second, .val (.int p2), .val (.long (q0 &&& (9223372036854775807 : Int64))), .second, .val (.int (p2 &&& (3 : Int32))), .unset, .unset, .unset, .unset, .unset] [])) _
        refine XS.iload X0.here hx rfl (hb hby at_34) rfl ?_
        show Steps p.tables e below (s₁.setTop (mkF m 36 #[.val (.long q0), .second, .val (.long q1), .second, .val (.int p2), .val (.long (q0 &&& (9223372036854775807 : Int64))), .second, .val (.int (p2 &&& (3 : Int32))), .unset, .unset, .unset, .unset, .unset] [(.int (p2 &&& (3 : Int32)))])) _
        refine XS.iconst X0.here hx rfl (hb hby at_36) ?_
        exact kt
      by_cases hc37_61 : (p2 &&& (3 : Int32)) = (1 : Int32)
      · have pre63 : ∀ t, Steps p.tables e below (s₁.setTop (mkF m 79 #[.val (.long q0), .second, .val (.long q1), .second, .val (.int p2), .val (.long (q0 &&& (9223372036854775807 : Int64))), .second, .val (.int (p2 &&& (3 : Int32))), .val (.long (q0 &&& (9223372036854775807 : Int64))), .second, .unset, .unset, .unset] [])) t → Steps p.tables e below (s₁.setTop (entryFrame m #[(.long q0), (.long q1), (.int p2)] maxLocals)) t := by
          intro t kt
          refine pre62 t ?_
          show Steps p.tables e below (s₁.setTop (mkF m 37 #[.val (.long q0), .second, .val (.long q1), .second, .val (.int p2), .val (.long (q0 &&& (9223372036854775807 : Int64))), .second, .val (.int (p2 &&& (3 : Int32))), .unset, .unset, .unset, .unset, .unset] [(.int (1 : Int32)), (.int (p2 &&& (3 : Int32)))])) _
          refine XS.icmpNo X0.here hx rfl (hb hby at_37) rfl (teq hc37_61).2 ?_
          show Steps p.tables e below (s₁.setTop (mkF m 40 #[.val (.long q0), .second, .val (.long q1), .second, .val (.int p2), .val (.long (q0 &&& (9223372036854775807 : Int64))), .second, .val (.int (p2 &&& (3 : Int32))), .unset, .unset, .unset, .unset, .unset] [])) _
          refine XS.lload X0.here hx rfl (hb hby at_40) rfl ?_
          show Steps p.tables e below (s₁.setTop (mkF m 42 #[.val (.long q0), .second, .val (.long q1), .second, .val (.int p2), .val (.long (q0 &&& (9223372036854775807 : Int64))), .second, .val (.int (p2 &&& (3 : Int32))), .unset, .unset, .unset, .unset, .unset] [(.long (q0 &&& (9223372036854775807 : Int64)))])) _
          refine XS.lstore X0.here hx rfl (hb hby at_42) rfl (l' := #[.val (.long q0), .second, .val (.long q1), .second, .val (.int p2), .val (.long (q0 &&& (9223372036854775807 : Int64))), .second, .val (.int (p2 &&& (3 : Int32))), .val (.long (q0 &&& (9223372036854775807 : Int64))), .second, .unset, .unset, .unset]) rfl ?_
          show Steps p.tables e below (s₁.setTop (mkF m 44 #[.val (.long q0), .second, .val (.long q1), .second, .val (.int p2), .val (.long (q0 &&& (9223372036854775807 : Int64))), .second, .val (.int (p2 &&& (3 : Int32))), .val (.long (q0 &&& (9223372036854775807 : Int64))), .second, .unset, .unset, .unset] [])) _
          refine XS.goto X0.here hx rfl (pc0 := 44) (pc' := 79) rfl (hb hby at_44) (by decide) (by decide) ?_
          exact kt
        obtain ⟨s2, o2, hs2, r2⟩ := tail79 (q0 &&& (9223372036854775807 : Int64)) (q0 &&& (9223372036854775807 : Int64)) (own_pos q0 hc11_35)
        exact ⟨s2, o2, pre63 _ hs2, r2⟩
      · have pre66 : ∀ t, Steps p.tables e below (s₁.setTop (mkF m 50 #[.val (.long q0), .second, .val (.long q1), .second, .val (.int p2), .val (.long (q0 &&& (9223372036854775807 : Int64))), .second, .val (.int (p2 &&& (3 : Int32))), .unset, .unset, .unset, .unset, .unset] [(.int (2 : Int32)), (.int (p2 &&& (3 : Int32)))])) t → Steps p.tables e below (s₁.setTop (entryFrame m #[(.long q0), (.long q1), (.int p2)] maxLocals)) t := by
          intro t kt
          refine pre62 t ?_
          show Steps p.tables e below (s₁.setTop (mkF m 37 #[.val (.long q0), .second, .val (.long q1), .second, .val (.int p2), .val (.long (q0 &&& (9223372036854775807 : Int64))), .second, .val (.int (p2 &&& (3 : Int32))), .unset, .unset, .unset, .unset, .unset] [(.int (1 : Int32)), (.int (p2 &&& (3 : Int32)))])) _
          refine XS.icmpYes X0.here hx rfl (pc0 := 37) (pc' := 47) rfl (hb hby at_37) rfl (feq hc37_61).2 (by decide) (by decide) ?_
          show Steps p.tables e below (s₁.setTop (mkF m 47 #[.val (.long q0), .second, .val (.long q1), .second, .val (.int p2), .val (.long (q0 &&& (9223372036854775807 : Int64))), .second, .val (.int (p2 &&& (3 : Int32))), .unset, .unset, .unset, .unset, .unset] [])) _
          refine XS.iload X0.here hx rfl (hb hby at_47) rfl ?_
          show Steps p.tables e below (s₁.setTop (mkF m 49 #[.val (.long q0), .second, .val (.long q1), .second, .val (.int p2), .val (.long (q0 &&& (9223372036854775807 : Int64))), .second, .val (.int (p2 &&& (3 : Int32))), .unset, .unset, .unset, .unset, .unset] [(.int (p2 &&& (3 : Int32)))])) _
          refine XS.iconst X0.here hx rfl (hb hby at_49) ?_
          exact kt
        by_cases hc50_65 : (p2 &&& (3 : Int32)) = (2 : Int32)
        · have pre67 : ∀ t, Steps p.tables e below (s₁.setTop (mkF m 79 #[.val (.long q0), .second, .val (.long q1), .second, .val (.int p2), .val (.long (q0 &&& (9223372036854775807 : Int64))), .second, .val (.int (p2 &&& (3 : Int32))), .val (.long q1), .second, .unset, .unset, .unset] [])) t → Steps p.tables e below (s₁.setTop (entryFrame m #[(.long q0), (.long q1), (.int p2)] maxLocals)) t := by
            intro t kt
            refine pre66 t ?_
            show Steps p.tables e below (s₁.setTop (mkF m 50 #[.val (.long q0), .second, .val (.long q1), .second, .val (.int p2), .val (.long (q0 &&& (9223372036854775807 : Int64))), .second, .val (.int (p2 &&& (3 : Int32))), .unset, .unset, .unset, .unset, .unset] [(.int (2 : Int32)), (.int (p2 &&& (3 : Int32)))])) _
            refine XS.icmpNo X0.here hx rfl (hb hby at_50) rfl (teq hc50_65).2 ?_
            show Steps p.tables e below (s₁.setTop (mkF m 53 #[.val (.long q0), .second, .val (.long q1), .second, .val (.int p2), .val (.long (q0 &&& (9223372036854775807 : Int64))), .second, .val (.int (p2 &&& (3 : Int32))), .unset, .unset, .unset, .unset, .unset] [])) _
            refine XS.lloadN X0.here hx rfl (hb hby at_53) rfl ?_
            show Steps p.tables e below (s₁.setTop (mkF m 54 #[.val (.long q0), .second, .val (.long q1), .second, .val (.int p2), .val (.long (q0 &&& (9223372036854775807 : Int64))), .second, .val (.int (p2 &&& (3 : Int32))), .unset, .unset, .unset, .unset, .unset] [(.long q1)])) _
            refine XS.lstore X0.here hx rfl (hb hby at_54) rfl (l' := #[.val (.long q0), .second, .val (.long q1), .second, .val (.int p2), .val (.long (q0 &&& (9223372036854775807 : Int64))), .second, .val (.int (p2 &&& (3 : Int32))), .val (.long q1), .second, .unset, .unset, .unset]) rfl ?_
            show Steps p.tables e below (s₁.setTop (mkF m 56 #[.val (.long q0), .second, .val (.long q1), .second, .val (.int p2), .val (.long (q0 &&& (9223372036854775807 : Int64))), .second, .val (.int (p2 &&& (3 : Int32))), .val (.long q1), .second, .unset, .unset, .unset] [])) _
            refine XS.goto X0.here hx rfl (pc0 := 56) (pc' := 79) rfl (hb hby at_56) (by decide) (by decide) ?_
            exact kt
          obtain ⟨s2, o2, hs2, r2⟩ := tail79 (q0 &&& (9223372036854775807 : Int64)) q1 (own_pos q0 hc11_35)
          exact ⟨s2, o2, pre67 _ hs2, r2⟩
        · have pre70 : ∀ t, Steps p.tables e below (s₁.setTop (mkF m 63 #[.val (.long q0), .second, .val (.long q1), .second, .val (.int p2), .val (.long (q0 &&& (9223372036854775807 : Int64))), .second, .val (.int (p2 &&& (3 : Int32))), .unset, .unset, .unset, .unset, .unset] [(.int (p2 &&& (4 : Int32)))])) t → Steps p.tables e below (s₁.setTop (entryFrame m #[(.long q0), (.long q1), (.int p2)] maxLocals)) t := by
            intro t kt
            refine pre66 t ?_
            show Steps p.tables e below (s₁.setTop (mkF m 50 #[.val (.long q0), .second, .val (.long q1), .second, .val (.int p2), .val (.long (q0 &&& (9223372036854775807 : Int64))), .second, .val (.int (p2 &&& (3 : Int32))), .unset, .unset, .unset, .unset, .unset] [(.int (2 : Int32)), (.int (p2 &&& (3 : Int32)))])) _
            refine XS.icmpYes X0.here hx rfl (pc0 := 50) (pc' := 59) rfl (hb hby at_50) rfl (feq hc50_65).2 (by decide) (by decide) ?_
            show Steps p.tables e below (s₁.setTop (mkF m 59 #[.val (.long q0), .second, .val (.long q1), .second, .val (.int p2), .val (.long (q0 &&& (9223372036854775807 : Int64))), .second, .val (.int (p2 &&& (3 : Int32))), .unset, .unset, .unset, .unset, .unset] [])) _
            refine XS.iload X0.here hx rfl (hb hby at_59) rfl ?_
            show Steps p.tables e below (s₁.setTop (mkF m 61 #[.val (.long q0), .second, .val (.long q1), .second, .val (.int p2), .val (.long (q0 &&& (9223372036854775807 : Int64))), .second, .val (.int (p2 &&& (3 : Int32))), .unset, .unset, .unset, .unset, .unset] [(.int p2)])) _
            refine XS.iconst X0.here hx rfl (hb hby at_61) ?_
            show Steps p.tables e below (s₁.setTop (mkF m 62 #[.val (.long q0), .second, .val (.long q1), .second, .val (.int p2), .val (.long (q0 &&& (9223372036854775807 : Int64))), .second, .val (.int (p2 &&& (3 : Int32))), .unset, .unset, .unset, .unset, .unset] [(.int (4 : Int32)), (.int p2)])) _
            refine XS.iand X0.here hx rfl (hb hby at_62) rfl ?_
            exact kt
          by_cases hc63_69 : (p2 &&& (4 : Int32)) = (0 : Int32)
          · have pre71 : ∀ t, Steps p.tables e below (s₁.setTop (mkF m 79 #[.val (.long q0), .second, .val (.long q1), .second, .val (.int p2), .val (.long (q0 &&& (9223372036854775807 : Int64))), .second, .val (.int (p2 &&& (3 : Int32))), .val (.long ((q0 &&& (9223372036854775807 : Int64)) - (1 : Int64))), .second, .unset, .unset, .unset] [])) t → Steps p.tables e below (s₁.setTop (entryFrame m #[(.long q0), (.long q1), (.int p2)] maxLocals)) t := by
              intro t kt
              refine pre70 t ?_
              show Steps p.tables e below (s₁.setTop (mkF m 63 #[.val (.long q0), .second, .val (.long q1), .second, .val (.int p2), .val (.long (q0 &&& (9223372036854775807 : Int64))), .second, .val (.int (p2 &&& (3 : Int32))), .unset, .unset, .unset, .unset, .unset] [(.int (p2 &&& (4 : Int32)))])) _
              refine XS.ifYes X0.here hx rfl (pc0 := 63) (pc' := 73) rfl (hb hby at_63) rfl ((if0 _ _).trans (teq hc63_69).1) (by decide) (by decide) ?_
              show Steps p.tables e below (s₁.setTop (mkF m 73 #[.val (.long q0), .second, .val (.long q1), .second, .val (.int p2), .val (.long (q0 &&& (9223372036854775807 : Int64))), .second, .val (.int (p2 &&& (3 : Int32))), .unset, .unset, .unset, .unset, .unset] [])) _
              refine XS.lload X0.here hx rfl (hb hby at_73) rfl ?_
              show Steps p.tables e below (s₁.setTop (mkF m 75 #[.val (.long q0), .second, .val (.long q1), .second, .val (.int p2), .val (.long (q0 &&& (9223372036854775807 : Int64))), .second, .val (.int (p2 &&& (3 : Int32))), .unset, .unset, .unset, .unset, .unset] [(.long (q0 &&& (9223372036854775807 : Int64)))])) _
              refine XS.lconst X0.here hx rfl (hb hby at_75) ?_
              show Steps p.tables e below (s₁.setTop (mkF m 76 #[.val (.long q0), .second, .val (.long q1), .second, .val (.int p2), .val (.long (q0 &&& (9223372036854775807 : Int64))), .second, .val (.int (p2 &&& (3 : Int32))), .unset, .unset, .unset, .unset, .unset] [(.long (1 : Int64)), (.long (q0 &&& (9223372036854775807 : Int64)))])) _
              refine XS.lsub X0.here hx rfl (hb hby at_76) rfl ?_
              show Steps p.tables e below (s₁.setTop (mkF m 77 #[.val (.long q0), .second, .val (.long q1), .second, .val (.int p2), .val (.long (q0 &&& (9223372036854775807 : Int64))), .second, .val (.int (p2 &&& (3 : Int32))), .unset, .unset, .unset, .unset, .unset] [(.long ((q0 &&& (9223372036854775807 : Int64)) - (1 : Int64)))])) _
              refine XS.lstore X0.here hx rfl (hb hby at_77) rfl (l' := #[.val (.long q0), .second, .val (.long q1), .second, .val (.int p2), .val (.long (q0 &&& (9223372036854775807 : Int64))), .second, .val (.int (p2 &&& (3 : Int32))), .val (.long ((q0 &&& (9223372036854775807 : Int64)) - (1 : Int64))), .second, .unset, .unset, .unset]) rfl ?_
              exact kt
            obtain ⟨s2, o2, hs2, r2⟩ := tail79 (q0 &&& (9223372036854775807 : Int64)) ((q0 &&& (9223372036854775807 : Int64)) - (1 : Int64)) (own_pos q0 hc11_35)
            exact ⟨s2, o2, pre71 _ hs2, r2⟩
          · have pre73 : ∀ t, Steps p.tables e below (s₁.setTop (mkF m 79 #[.val (.long q0), .second, .val (.long q1), .second, .val (.int p2), .val (.long (q0 &&& (9223372036854775807 : Int64))), .second, .val (.int (p2 &&& (3 : Int32))), .val (.long ((q0 &&& (9223372036854775807 : Int64)) + (1 : Int64))), .second, .unset, .unset, .unset] [])) t → Steps p.tables e below (s₁.setTop (entryFrame m #[(.long q0), (.long q1), (.int p2)] maxLocals)) t := by
              intro t kt
              refine pre70 t ?_
              show Steps p.tables e below (s₁.setTop (mkF m 63 #[.val (.long q0), .second, .val (.long q1), .second, .val (.int p2), .val (.long (q0 &&& (9223372036854775807 : Int64))), .second, .val (.int (p2 &&& (3 : Int32))), .unset, .unset, .unset, .unset, .unset] [(.int (p2 &&& (4 : Int32)))])) _
              refine XS.ifNo X0.here hx rfl (hb hby at_63) rfl ((if0 _ _).trans (feq hc63_69).1) ?_
              show Steps p.tables e below (s₁.setTop (mkF m 66 #[.val (.long q0), .second, .val (.long q1), .second, .val (.int p2), .val (.long (q0 &&& (9223372036854775807 : Int64))), .second, .val (.int (p2 &&& (3 : Int32))), .unset, .unset, .unset, .unset, .unset] [])) _
              refine XS.lload X0.here hx rfl (hb hby at_66) rfl ?_
              show Steps p.tables e below (s₁.setTop (mkF m 68 #[.val (.long q0), .second, .val (.long q1), .second, .val (.int p2), .val (.long (q0 &&& (9223372036854775807 : Int64))), .second, .val (.int (p2 &&& (3 : Int32))), .unset, .unset, .unset, .unset, .unset] [(.long (q0 &&& (9223372036854775807 : Int64)))])) _
              refine XS.lconst X0.here hx rfl (hb hby at_68) ?_
              show Steps p.tables e below (s₁.setTop (mkF m 69 #[.val (.long q0), .second, .val (.long q1), .second, .val (.int p2), .val (.long (q0 &&& (9223372036854775807 : Int64))), .second, .val (.int (p2 &&& (3 : Int32))), .unset, .unset, .unset, .unset, .unset] [(.long (1 : Int64)), (.long (q0 &&& (9223372036854775807 : Int64)))])) _
              refine XS.ladd X0.here hx rfl (hb hby at_69) rfl ?_
              show Steps p.tables e below (s₁.setTop (mkF m 70 #[.val (.long q0), .second, .val (.long q1), .second, .val (.int p2), .val (.long (q0 &&& (9223372036854775807 : Int64))), .second, .val (.int (p2 &&& (3 : Int32))), .unset, .unset, .unset, .unset, .unset] [(.long ((q0 &&& (9223372036854775807 : Int64)) + (1 : Int64)))])) _
              refine XS.goto X0.here hx rfl (pc0 := 70) (pc' := 77) rfl (hb hby at_70) (by decide) (by decide) ?_
              show Steps p.tables e below (s₁.setTop (mkF m 77 #[.val (.long q0), .second, .val (.long q1), .second, .val (.int p2), .val (.long (q0 &&& (9223372036854775807 : Int64))), .second, .val (.int (p2 &&& (3 : Int32))), .unset, .unset, .unset, .unset, .unset] [(.long ((q0 &&& (9223372036854775807 : Int64)) + (1 : Int64)))])) _
              refine XS.lstore X0.here hx rfl (hb hby at_77) rfl (l' := #[.val (.long q0), .second, .val (.long q1), .second, .val (.int p2), .val (.long (q0 &&& (9223372036854775807 : Int64))), .second, .val (.int (p2 &&& (3 : Int32))), .val (.long ((q0 &&& (9223372036854775807 : Int64)) + (1 : Int64))), .second, .unset, .unset, .unset]) rfl ?_
              exact kt
            obtain ⟨s2, o2, hs2, r2⟩ := tail79 (q0 &&& (9223372036854775807 : Int64)) ((q0 &&& (9223372036854775807 : Int64)) + (1 : Int64)) (own_pos q0 hc11_35)
            exact ⟨s2, o2, pre73 _ hs2, r2⟩
set_option maxRecDepth 65536 in
set_option maxHeartbeats 40000000 in
theorem comes_1 {Post : Tables → Env → Array Value → State → Outcome → State → Prop} (hpost : ∀ tb e args s v u, (limb_1_1.after args s (.returned v) u = true ∧ limb_1_2.after args s (.returned v) u = true ∧ True) → FrameEnd s (.returned v) u (Jvm.fieldLocs frame_1_writes args s ++ Jvm.arrayLocs frame_1_arrays args s ++ Jvm.staticLocs frame_1_statics s) 16 128 → Post tb e args s (.returned v) u) :
    ArmFor flags0 classFile x code maxLocals ret World_1 tables_1 room_1 Calls_1 rest_1 Pre_1 Post := by
  intro l hfl _ _ p e ha hc hk s m args below hf hA hF happ hP
  obtain ⟨hcalls, hrest, hpre⟩ := hP
  obtain ⟨-, -, -, hnamed, -, -, -, hat⟩ := (Spec.applies_iff hf).mp happ
  obtain ⟨hg, hn⟩ := and_e (Cond.before_iff.mp (show (Jvm.Cond.and given_1 narrow_1).before args s = true from hpre))
  have hw := fun d (hd : d ∈ tables_1) => atoms_spec (ws := Jvm.Cond.code x code maxLocals ret :: tables_1) hat d (List.mem_cons_of_mem _ hd)
  obtain ⟨g1, g2⟩ := and_e hg
  obtain ⟨g3, g4⟩ := and_e g2
  obtain ⟨g5, g6⟩ := and_e g4
  obtain ⟨g7, g8⟩ := and_e hn
  obtain ⟨g9, g10⟩ := and_e g8
  obtain ⟨w_NO_KEY, ev_NO_KEY⟩ := exa_v g7
  have S_NO_KEY : Sta s s.heap "com/example/anchordb/anchordb/Status" "NO_KEY" "Lcom/example/anchordb/anchordb/Status;" (.ref w_NO_KEY) := Sta.start ev_NO_KEY (Or.inr ⟨(hw _ (List.mem_of_getElem? (i := 23) rfl)), (hw _ (List.mem_of_getElem? (i := 24) rfl))⟩)
  have E_NO_KEY := Exa.start ev_NO_KEY g7
  obtain ⟨w_BAD_VERSION, ev_BAD_VERSION⟩ := exa_v g9
  have S_BAD_VERSION : Sta s s.heap "com/example/anchordb/anchordb/Status" "BAD_VERSION" "Lcom/example/anchordb/anchordb/Status;" (.ref w_BAD_VERSION) := Sta.start ev_BAD_VERSION (Or.inr ⟨(hw _ (List.mem_of_getElem? (i := 23) rfl)), (hw _ (List.mem_of_getElem? (i := 32) rfl))⟩)
  have E_BAD_VERSION := Exa.start ev_BAD_VERSION g9
  obtain ⟨w_OK, ev_OK⟩ := exa_v g10
  have S_OK : Sta s s.heap "com/example/anchordb/anchordb/Status" "OK" "Lcom/example/anchordb/anchordb/Status;" (.ref w_OK) := Sta.start ev_OK (Or.inr ⟨(hw _ (List.mem_of_getElem? (i := 23) rfl)), (hw _ (List.mem_of_getElem? (i := 35) rfl))⟩)
  have E_OK := Exa.start ev_OK g10
  obtain ⟨v0, v1, v2, rfl⟩ : ∃ v0 v1 v2 : Value, args = #[v0, v1, v2] := by
    have hs : args.size = 3 := by simpa [Cond.value, given_1] using g1
    obtain ⟨L⟩ := args
    match L, hs with
    | [v0, v1, v2], _ => exact ⟨v0, v1, v2, rfl⟩
  have hfit : Fit s := fun {y c} hc i hi => by
    obtain ⟨ha, rfl⟩ := Array.getElem?_eq_some_iff.mp hc
    have q := List.all_eq_true.mp ((Array.all_eq_true_iff_forall_mem.mp hF) _ (Array.getElem_mem ha)) i (List.mem_range.mpr hi)
    simpa [Array.getElem?_eq_getElem hi] using q
  obtain ⟨i0, ei0⟩ := isL_v g3
  obtain rfl : v0 = (.long i0) := Option.some.inj ei0
  obtain ⟨i1, ei1⟩ := isL_v g5
  obtain rfl : v1 = (.long i1) := Option.some.inj ei1
  obtain ⟨i2, ei2⟩ := is_v g6
  obtain rfl : v2 = (.int i2) := Option.some.inj ei2
  obtain ⟨n, o, h1, h2, h3, _, L, rfl, ⟨rfl, N⟩, hq⟩ := rm0 l s _ hw tables_1 i0 i1 i2 w_OK w_NO_KEY w_BAD_VERSION s.heap s.heap.size (Old.start s) S_OK S_NO_KEY S_BAD_VERSION p e ha hc hk s m _ below hf ((Spec.applies_iff_loose hf).mp happ).1 ⟨rfl, State.Warmed39.refl s, rfl⟩ trivial
  refine ⟨n, _, h1, h2, h3, hpost _ _ _ _ _ _ ⟨Cond.after_iff.mpr rfl, Cond.after_iff.mpr (eq_i res_at (Term.int_eval (1)) rfl), trivial⟩ ⟨hq.1, hq.2.1, (hq.2.2.sift fun y hy => Or.inr (N y hy)).mono (by decide) (by decide)⟩⟩
theorem main_1_1 : Claimed_1_1 := comes_1 fun _ _ _ _ _ _ h hF => ⟨h.1, hF⟩
theorem main_1_2 : Claimed_1_2 := comes_1 fun _ _ _ _ _ _ h hF => ⟨h.2.1, hF⟩
end Jvm.Pilot.@@N@@
namespace Jvm.Pilot.@@N@@
open Jvm Jvm.ClassFile Sem Op Lib Jvm.Free Jvm.Stand Jvm.Pilot.@@N@@.Jvm.D
/-! MADE BY PROGRAM (witnessworld.py) out of the Statement's table words and the real class files: 15 classes; the members and pool entries that the words name. The judged class is class 1, her method 1. -/
namespace start1
open Jvm.ClassFile
def u (s : String) : CpInfo := .utf8 (stringToUtf16 s)
/-- a pool by its gaps: so many unusable entries, then the entry; so many at the end -/
def gap : Nat → List CpInfo → List CpInfo
  | 0, r => r
  | n + 1, r => .unusable :: gap n r
def poolList (es : List (Nat × CpInfo)) (last : Nat) : List CpInfo := es.foldr (fun e r => gap e.1 (e.2 :: r)) (gap last [])
def pool (es : List (Nat × CpInfo)) (last : Nat) : Array CpInfo := ⟨poolList es last⟩
def fileOf (pool : Array CpInfo) (this : Nat) (attrs : Array Attribute := #[]) (ms : Array MethodInfo := #[]) (fl : Nat := 33) (sup : Nat := 0) (ifs : Array Nat := #[]) (fds : Array FieldInfo := #[]) : ClassFile where
  minorVersion := 0
  majorVersion := 65
  constantPool := pool
  accessFlags := fl
  thisClass := this
  superClass := sup
  interfaces := ifs
  fields := fds
  methods := ms
  attributes := attrs
def plain (name : String) (sup : Option ClassId) : Class where
  name := name
  kind := .ordinary
  loader := none
  accessFlags := 33
  super := sup
  interfaces := #[]
  cf := none
  fields := #[]
  methods := #[]
  instanceTypes := #[]
  staticTypes := #[]
  resolved := #[]
  callSites := []
  init := .initialized
  statics := none
  mirror := none

def pool0 : Array CpInfo := pool [(5, u "<init>"), (0, u "()V"), (1, .class_ 10), (1, u "java/lang/Object")] 113

def k0c0 : Code := { maxStack := 0, maxLocals := 1, code := object_method_1_code, exceptionTable := #[], attributes := #[] }
def k0m0 : Method := { name := "<init>", desc := "()V", sig := { parameters := [], returnType := none }, accessFlags := 1, code := some k0c0 }
/-- java/lang/Object -/
def k0 : Class := { plain "java/lang/Object" none with
  accessFlags := 33
  interfaces := #[]
  cf := some (fileOf pool0 8 #[] #[{ accessFlags := 1, nameIndex := 5, descriptorIndex := 6, attributes := #[] }] 33 0 #[] #[])
  fields := #[]
  methods := #[k0m0]
  instanceTypes := #[]
  staticTypes := #[]
  resolved := Array.replicate 124 none
  statics := none }

def pool1 : Array CpInfo := pool [(2, .class_ 4), (1, u "java/lang/Object"), (0, u "<init>"), (0, u "()V"), (2, .long 9223372036854775807), (1, .class_ 12), (0, u "com/example/anchordb/anchordb/Condition$Expect"), (0, .methodref 11 14), (0, .nameAndType 5 15), (0, u "(J)V"), (0, .methodref 11 17), (0, .nameAndType 18 19), (0, u "check"), (0, u "(J)Lcom/example/anchordb/anchordb/Status;"), (0, .fieldref 21 22), (0, .class_ 23), (0, .nameAndType 24 25), (0, u "com/example/anchordb/anchordb/Status"), (0, u "OK"), (0, u "Lcom/example/anchordb/anchordb/Status;"), (0, .fieldref 21 27), (0, .nameAndType 28 25), (0, u "NO_KEY"), (0, .fieldref 21 30), (0, .nameAndType 31 25), (0, u "BAD_VERSION"), (0, .methodref 11 33), (0, .nameAndType 34 35), (0, u "version"), (0, u "()J"), (0, .class_ 37), (0, u "com/example/anchordb/anchordb/ExpectCheckPinLaw"), (2, u "law"), (0, u "(JJI)Z")] 7

def k1m0 : Method := { name := "<init>", desc := "()V", sig := { parameters := [], returnType := none }, accessFlags := 1, code := none }
def k1c1 : Code := { maxStack := 4, maxLocals := 13, code := code, exceptionTable := #[], attributes := #[] }
def k1m1 : Method := { name := "law", desc := "(JJI)Z", sig := { parameters := [.long, .long, .int], returnType := some .boolean }, accessFlags := 9, code := some k1c1 }
/-- com/example/anchordb/anchordb/ExpectCheckPinLaw -/
def k1 : Class := { plain "com/example/anchordb/anchordb/ExpectCheckPinLaw" (some 0) with
  accessFlags := 49
  interfaces := #[]
  cf := some (fileOf pool1 36 #[] #[{ accessFlags := 1, nameIndex := 5, descriptorIndex := 6, attributes := #[] }, { accessFlags := 9, nameIndex := 40, descriptorIndex := 41, attributes := #[] }] 49 2 #[] #[])
  fields := #[]
  methods := #[k1m0, k1m1]
  instanceTypes := #[]
  staticTypes := #[]
  resolved := Array.replicate 49 none
  statics := none }

def pool2 : Array CpInfo := pool [(1, .methodref 2 3), (0, .class_ 4), (0, .nameAndType 5 6), (0, u "java/lang/Object"), (0, u "<init>"), (0, u "()V"), (0, .class_ 8), (0, u "java/lang/Record")] 13

def k2c0 : Code := { maxStack := 1, maxLocals := 1, code := jdk_30_method_1_code, exceptionTable := #[], attributes := #[] }
def k2m0 : Method := { name := "<init>", desc := "()V", sig := { parameters := [], returnType := none }, accessFlags := 4, code := some k2c0 }
/-- java/lang/Record -/
def k2 : Class := { plain "java/lang/Record" (some 0) with
  accessFlags := 1057
  interfaces := #[]
  cf := some (fileOf pool2 7 #[] #[{ accessFlags := 4, nameIndex := 5, descriptorIndex := 6, attributes := #[] }] 1057 2 #[] #[])
  fields := #[]
  methods := #[k2m0]
  instanceTypes := #[]
  staticTypes := #[]
  resolved := Array.replicate 22 none
  statics := none }

def pool3 : Array CpInfo := pool [(1, .class_ 2), (0, u "com/example/anchordb/anchordb/Condition$Expect"), (4, .class_ 8), (0, u "com/example/anchordb/anchordb/Condition$None"), (4, .class_ 15), (1, u "com/example/anchordb/anchordb/Condition"), (0, u "NONE"), (0, u "Lcom/example/anchordb/anchordb/Condition;"), (0, .class_ 19), (0, u "com/example/anchordb/anchordb/Condition$Absent"), (3, u "ABSENT"), (0, .class_ 25), (0, u "java/lang/Object")] 15

/-- com/example/anchordb/anchordb/Condition -/
def k3 : Class := { plain "com/example/anchordb/anchordb/Condition" (some 0) with
  accessFlags := 1537
  interfaces := #[]
  cf := some (fileOf pool3 13 #[.nestMembers #[1, 18, 7]] #[] 1537 24 #[] #[{ accessFlags := 25, nameIndex := 16, descriptorIndex := 17, attributes := #[] }, { accessFlags := 25, nameIndex := 23, descriptorIndex := 17, attributes := #[] }])
  fields := #[{ name := "NONE", type := (.object "com/example/anchordb/anchordb/Condition"), accessFlags := 25, slot := 0, constantValue := 0 }, { name := "ABSENT", type := (.object "com/example/anchordb/anchordb/Condition"), accessFlags := 25, slot := 1, constantValue := 0 }]
  methods := #[]
  instanceTypes := #[]
  staticTypes := #[(.object "com/example/anchordb/anchordb/Condition"), (.object "com/example/anchordb/anchordb/Condition")]
  resolved := Array.replicate 41 none
  statics := none }

def pool4 : Array CpInfo := pool [(1, .methodref 2 3), (0, .class_ 4), (0, .nameAndType 5 6), (0, u "java/lang/Record"), (0, u "<init>"), (0, u "()V"), (7, .fieldref 15 16), (0, .class_ 17), (0, .nameAndType 18 19), (0, u "com/example/anchordb/anchordb/Condition$Expect"), (0, u "version"), (0, u "J"), (0, .fieldref 21 22), (0, .class_ 23), (0, .nameAndType 24 25), (0, u "com/example/anchordb/anchordb/Status"), (0, u "NO_KEY"), (0, u "Lcom/example/anchordb/anchordb/Status;"), (0, .fieldref 21 27), (0, .nameAndType 28 25), (0, u "OK"), (0, .fieldref 21 30), (0, .nameAndType 31 25), (0, u "BAD_VERSION"), (12, .class_ 45), (0, u "com/example/anchordb/anchordb/Condition"), (0, u "(J)V"), (4, u "check"), (0, u "(J)Lcom/example/anchordb/anchordb/Status;"), (3, u "()J")] 21

def k4c0 : Code := { maxStack := 4, maxLocals := 3, code := prog_3_method_1_code, exceptionTable := #[], attributes := #[] }
def k4m0 : Method := { name := "<init>", desc := "(J)V", sig := { parameters := [.long], returnType := none }, accessFlags := 1, code := some k4c0 }
def k4c1 : Code := { maxStack := 4, maxLocals := 3, code := prog_3_method_2_code, exceptionTable := #[], attributes := #[] }
def k4m1 : Method := { name := "check", desc := "(J)Lcom/example/anchordb/anchordb/Status;", sig := { parameters := [.long], returnType := some (.object "com/example/anchordb/anchordb/Status") }, accessFlags := 1, code := some k4c1 }
def k4c2 : Code := { maxStack := 2, maxLocals := 1, code := prog_3_method_6_code, exceptionTable := #[], attributes := #[] }
def k4m2 : Method := { name := "version", desc := "()J", sig := { parameters := [], returnType := some .long }, accessFlags := 1, code := some k4c2 }
/-- com/example/anchordb/anchordb/Condition$Expect -/
def k4 : Class := { plain "com/example/anchordb/anchordb/Condition$Expect" (some 2) with
  accessFlags := 49
  interfaces := #[3]
  cf := some (fileOf pool4 15 #[.nestHost 44] #[{ accessFlags := 1, nameIndex := 5, descriptorIndex := 46, attributes := #[] }, { accessFlags := 1, nameIndex := 51, descriptorIndex := 52, attributes := #[] }, { accessFlags := 1, nameIndex := 18, descriptorIndex := 56, attributes := #[] }] 49 2 #[44] #[{ accessFlags := 18, nameIndex := 18, descriptorIndex := 19, attributes := #[] }])
  fields := #[{ name := "version", type := .long, accessFlags := 18, slot := 0, constantValue := 0 }]
  methods := #[k4m0, k4m1, k4m2]
  instanceTypes := #[.long]
  staticTypes := #[]
  resolved := Array.replicate 78 none
  statics := none }

def pool5 : Array CpInfo := pool [(1, .class_ 2), (0, u "java/lang/constant/Constable"), (0, .class_ 4), (0, u "java/lang/Object")] 6

/-- java/lang/constant/Constable -/
def k5 : Class := { plain "java/lang/constant/Constable" (some 0) with
  accessFlags := 1537
  interfaces := #[]
  cf := some (fileOf pool5 1 #[] #[] 1537 3 #[] #[])
  fields := #[]
  methods := #[]
  instanceTypes := #[]
  staticTypes := #[]
  resolved := Array.replicate 11 none
  statics := none }

def pool6 : Array CpInfo := pool [(1, .class_ 2), (0, u "java/lang/Comparable"), (0, .class_ 4), (0, u "java/lang/Object")] 7

/-- java/lang/Comparable -/
def k6 : Class := { plain "java/lang/Comparable" (some 0) with
  accessFlags := 1537
  interfaces := #[]
  cf := some (fileOf pool6 1 #[] #[] 1537 3 #[] #[])
  fields := #[]
  methods := #[]
  instanceTypes := #[]
  staticTypes := #[]
  resolved := Array.replicate 12 none
  statics := none }

def pool7 : Array CpInfo := pool [(1, .class_ 2), (0, u "java/io/Serializable"), (0, .class_ 4), (0, u "java/lang/Object")] 2

/-- java/io/Serializable -/
def k7 : Class := { plain "java/io/Serializable" (some 0) with
  accessFlags := 1537
  interfaces := #[]
  cf := some (fileOf pool7 1 #[] #[] 1537 3 #[] #[])
  fields := #[]
  methods := #[]
  instanceTypes := #[]
  staticTypes := #[]
  resolved := Array.replicate 7 none
  statics := none }

def pool8 : Array CpInfo := pool [(2, .class_ 4), (1, u "java/lang/Enum"), (0, u "name"), (0, u "Ljava/lang/String;"), (2, u "ordinal"), (0, u "I"), (1, .class_ 14), (1, u "java/lang/Object"), (4, u "hash"), (86, .class_ 108), (1, u "java/lang/Enum$EnumDesc"), (2, .class_ 112), (0, u "java/lang/constant/Constable"), (0, .class_ 114), (0, u "java/lang/Comparable"), (0, .class_ 116), (0, u "java/io/Serializable")] 87

/-- java/lang/Enum -/
def k8 : Class := { plain "java/lang/Enum" (some 0) with
  accessFlags := 1057
  interfaces := #[5, 6, 7]
  cf := some (fileOf pool8 2 #[.nestMembers #[106]] #[] 1057 12 #[111, 113, 115] #[{ accessFlags := 18, nameIndex := 5, descriptorIndex := 6, attributes := #[] }, { accessFlags := 18, nameIndex := 9, descriptorIndex := 10, attributes := #[] }, { accessFlags := 2, nameIndex := 19, descriptorIndex := 10, attributes := #[] }])
  fields := #[{ name := "name", type := (.object "java/lang/String"), accessFlags := 18, slot := 0, constantValue := 0 }, { name := "ordinal", type := .int, accessFlags := 18, slot := 1, constantValue := 0 }, { name := "hash", type := .int, accessFlags := 2, slot := 2, constantValue := 0 }]
  methods := #[]
  instanceTypes := #[(.object "java/lang/String"), .int, .int]
  staticTypes := #[]
  resolved := Array.replicate 204 none
  statics := none }

def pool9 : Array CpInfo := pool [(1, .class_ 2), (0, u "com/example/anchordb/anchordb/Status"), (2, u "OK"), (0, u "Lcom/example/anchordb/anchordb/Status;"), (2, u "BAD_VERSION"), (2, u "NO_KEY"), (2, u "KEY_EXISTS"), (2, u "INVALID"), (2, u "TOO_LARGE"), (2, u "IO_ERROR"), (2, u "NO_SESSION"), (2, u "$VALUES"), (0, u "[Lcom/example/anchordb/anchordb/Status;"), (6, .class_ 40), (1, u "java/lang/Enum"), (8, u "text"), (0, u "Ljava/lang/String;"), (2, u "exitCode"), (0, u "I")] 66

/-- com/example/anchordb/anchordb/Status -/
def k9 : Class := { plain "com/example/anchordb/anchordb/Status" (some 8) with
  accessFlags := 16433
  interfaces := #[]
  cf := some (fileOf pool9 1 #[] #[] 16433 38 #[] #[{ accessFlags := 16409, nameIndex := 5, descriptorIndex := 6, attributes := #[] }, { accessFlags := 16409, nameIndex := 9, descriptorIndex := 6, attributes := #[] }, { accessFlags := 16409, nameIndex := 12, descriptorIndex := 6, attributes := #[] }, { accessFlags := 16409, nameIndex := 15, descriptorIndex := 6, attributes := #[] }, { accessFlags := 16409, nameIndex := 18, descriptorIndex := 6, attributes := #[] }, { accessFlags := 16409, nameIndex := 21, descriptorIndex := 6, attributes := #[] }, { accessFlags := 16409, nameIndex := 24, descriptorIndex := 6, attributes := #[] }, { accessFlags := 16409, nameIndex := 27, descriptorIndex := 6, attributes := #[] }, { accessFlags := 18, nameIndex := 49, descriptorIndex := 50, attributes := #[] }, { accessFlags := 18, nameIndex := 53, descriptorIndex := 54, attributes := #[] }, { accessFlags := 4122, nameIndex := 30, descriptorIndex := 31, attributes := #[] }])
  fields := #[{ name := "OK", type := (.object "com/example/anchordb/anchordb/Status"), accessFlags := 16409, slot := 0, constantValue := 0 }, { name := "BAD_VERSION", type := (.object "com/example/anchordb/anchordb/Status"), accessFlags := 16409, slot := 1, constantValue := 0 }, { name := "NO_KEY", type := (.object "com/example/anchordb/anchordb/Status"), accessFlags := 16409, slot := 2, constantValue := 0 }, { name := "KEY_EXISTS", type := (.object "com/example/anchordb/anchordb/Status"), accessFlags := 16409, slot := 3, constantValue := 0 }, { name := "INVALID", type := (.object "com/example/anchordb/anchordb/Status"), accessFlags := 16409, slot := 4, constantValue := 0 }, { name := "TOO_LARGE", type := (.object "com/example/anchordb/anchordb/Status"), accessFlags := 16409, slot := 5, constantValue := 0 }, { name := "IO_ERROR", type := (.object "com/example/anchordb/anchordb/Status"), accessFlags := 16409, slot := 6, constantValue := 0 }, { name := "NO_SESSION", type := (.object "com/example/anchordb/anchordb/Status"), accessFlags := 16409, slot := 7, constantValue := 0 }, { name := "text", type := (.object "java/lang/String"), accessFlags := 18, slot := 3, constantValue := 0 }, { name := "exitCode", type := .int, accessFlags := 18, slot := 4, constantValue := 0 }, { name := "$VALUES", type := (.array (.object "com/example/anchordb/anchordb/Status")), accessFlags := 4122, slot := 8, constantValue := 0 }]
  methods := #[]
  instanceTypes := #[(.object "java/lang/String"), .int, .int, (.object "java/lang/String"), .int]
  staticTypes := #[(.object "com/example/anchordb/anchordb/Status"), (.object "com/example/anchordb/anchordb/Status"), (.object "com/example/anchordb/anchordb/Status"), (.object "com/example/anchordb/anchordb/Status"), (.object "com/example/anchordb/anchordb/Status"), (.object "com/example/anchordb/anchordb/Status"), (.object "com/example/anchordb/anchordb/Status"), (.object "com/example/anchordb/anchordb/Status"), (.array (.object "com/example/anchordb/anchordb/Status"))]
  resolved := Array.replicate 121 none
  statics := some 0 }

def pool10 : Array CpInfo := pool [(1, u "java/lang/Cloneable"), (0, .class_ 1), (0, u "java/lang/Object"), (0, .class_ 3)] 3

/-- java/lang/Cloneable -/
def k10 : Class := { plain "java/lang/Cloneable" (some 0) with
  accessFlags := 1537
  interfaces := #[]
  cf := some (fileOf pool10 2 #[] #[] 1537 4 #[] #[])
  fields := #[]
  methods := #[]
  instanceTypes := #[]
  staticTypes := #[]
  resolved := Array.replicate 8 none
  statics := none }

/-- the primitive byte -/
def k11 : Class := { plain "byte" none with kind := .primitive 'B', accessFlags := 0x411 }
/-- [B -/
def k12 : Class := { plain "[B" (some 0) with kind := .array 11 .byte, interfaces := #[10, 7], accessFlags := 1041 }

/-- the primitive int -/
def k13 : Class := { plain "int" none with kind := .primitive 'I', accessFlags := 0x411 }
/-- [I -/
def k14 : Class := { plain "[I" (some 0) with kind := .array 13 .int, interfaces := #[10, 7], accessFlags := 1041 }

def heap : Heap := #[{ cls := 9, slots := #[.ref 3, .ref 2, .ref 1, .null, .null, .null, .null, .null, .null], vm := .statics 9 },
  { cls := 9, slots := #[.null, .int 0, .int 0, .null, .int 0], vm := .none },
  { cls := 9, slots := #[.null, .int 0, .int 0, .null, .int 0], vm := .none },
  { cls := 9, slots := #[.null, .int 0, .int 0, .null, .int 0], vm := .none }]
def classes : Array Class := #[k0, k1, k2, k3, k4, k5, k6, k7, k8, k9, k10, k11, k12, k13, k14]
def interned : List (Array UInt16 × Addr) := []
def slotsUsed : Nat := 24
def theMethod : MethodId := ⟨1, 1⟩
def args0 : Array Value := #[.long 5, .long 7, .int 3]
def aboutOver (below : List Frame) : State where
  vm := { classes := classes, interned := interned.toArray }
  heap := heap
  slotsUsed := slotsUsed
  threads := #[{ frames := .invoking theMethod args0 :: below }]
def below0 : List Frame := [.native { method := ⟨0, 0⟩, args := #[] }]
def about1 : State := aboutOver below0
def p0 : Program := .bare "" "" ""
def e0 : Env := launch0.env 0 0 0
theorem w_frames : about1.frames = Frame.invoking theMethod args0 :: below0 := rfl
set_option maxRecDepth 65536 in
theorem w_args : argsFit about1.vm theMethod args0 = true := by decide +kernel
set_option maxRecDepth 65536 in
theorem w_heap : heapFits about1 = true := by decide +kernel
set_option maxRecDepth 65536 in
theorem w_runnable : about1.curStatus? = some .runnable := by decide +kernel
set_option maxRecDepth 65536 in
theorem w_alone : about1.alone = true := by decide +kernel
set_option maxRecDepth 65536 in
theorem w_named : about1.methodNamed? x = some theMethod := by decide +kernel
set_option maxRecDepth 65536 in
theorem w_hears : about1.hears theMethod below0 = true := by decide +kernel
set_option maxRecDepth 65536 in
theorem w_ripe : about1.ripe theMethod args0 below0 = true := by decide +kernel
theorem w_running : about1.status = .running := rfl
set_option maxRecDepth 65536 in
theorem w_room : about1.hasRoom e0.platform room_1 = true :=
  launch0.hasRoom_least _ room_1 (by decide +kernel) (by decide +kernel) (by decide +kernel) (by decide +kernel) (by decide +kernel) (by decide +kernel)
theorem allAtoms_all (ts : List Jvm.Cond) (a : Array Jvm.Value) (st : Jvm.State) : (allAtoms ts).before a st = ts.all (fun c => c.before a st) := by
  induction ts with
  | nil => rfl
  | cons c t ih =>
    show (Jvm.Cond.and c (allAtoms t)).before a st = _
    rw [Jvm.Cond.before_and, ih, List.all_cons]
def words1 : List Jvm.Cond := Jvm.Cond.code x code maxLocals ret :: tables_1
/-- a 'code' word, met by the world's own term for the bytes: nothing is compared byte by byte -/
theorem code_word {y : MethodName} {bytes : ByteArray} {mx : Nat} {rt : Option FieldType} {a : Array Value} {s : State} {m : MethodId} {meth : Method} {c : Code} (h1 : s.methodNamed? y = some m) (h2 : s.vm.method? m = some meth) (h3 : meth.code = some c) (h4 : c.code = bytes)
    (h5 : (c.maxLocals == mx && c.exceptionTable.isEmpty && decide (c.maxStack ≤ mostOperands) && decide (meth.sig.returnType = rt) && !meth.locks && decide (parseMethodDescriptor y.desc = some meth.sig)) = true) : (Jvm.Cond.code y bytes mx rt).before a s = true := by
  simp only [Bool.and_eq_true, beq_iff_eq, Bool.not_eq_true', decide_eq_true_eq] at h5
  obtain ⟨⟨⟨⟨⟨g1, g2⟩, g3⟩, g4⟩, g5⟩, g6⟩ := h5
  simp [Cond.before, Cond.holds, Cond.value, h1, h2, h3, h4, g1, g2, g3, g4, g5, g6]
def isCode : Jvm.Cond → Bool
  | .code _ _ _ _ => true
  | _ => false
theorem all_split {L : List Jvm.Cond} {P : Jvm.Cond → Bool} (h1 : L.all (fun c => isCode c || P c) = true) (h2 : ∀ c ∈ L.filter isCode, P c = true) : L.all P = true := by
  refine List.all_eq_true.mpr fun c hc => ?_
  have h := List.all_eq_true.mp h1 c hc
  rcases Bool.eq_false_or_eq_true (isCode c) with hi | hi
  · exact h2 c (List.mem_filter.mpr ⟨hc, hi⟩)
  · simpa [hi] using h
set_option maxRecDepth 65536 in
theorem w_c0 : (Jvm.Cond.code x code maxLocals ret).before args0 about1 = true := code_word (m := ⟨1, 1⟩) (meth := k1m1) (c := k1c1) (by decide +kernel) rfl rfl rfl (by decide +kernel)
set_option maxRecDepth 65536 in
theorem w_c1 : (Jvm.Cond.code ({ cls := "com/example/anchordb/anchordb/Condition$Expect", name := "<init>", desc := "(J)V" } : Jvm.MethodName) prog_3_method_1_code (3 : Nat) (Option.none : Option Jvm.ClassFile.FieldType)).before args0 about1 = true := code_word (m := ⟨4, 0⟩) (meth := k4m0) (c := k4c0) (by decide +kernel) rfl rfl rfl (by decide +kernel)
set_option maxRecDepth 65536 in
theorem w_c2 : (Jvm.Cond.code ({ cls := "java/lang/Record", name := "<init>", desc := "()V" } : Jvm.MethodName) jdk_30_method_1_code (1 : Nat) (Option.none : Option Jvm.ClassFile.FieldType)).before args0 about1 = true := code_word (m := ⟨2, 0⟩) (meth := k2m0) (c := k2c0) (by decide +kernel) rfl rfl rfl (by decide +kernel)
set_option maxRecDepth 65536 in
theorem w_c3 : (Jvm.Cond.code ({ cls := "java/lang/Object", name := "<init>", desc := "()V" } : Jvm.MethodName) object_method_1_code (1 : Nat) (Option.none : Option Jvm.ClassFile.FieldType)).before args0 about1 = true := code_word (m := ⟨0, 0⟩) (meth := k0m0) (c := k0c0) (by decide +kernel) rfl rfl rfl (by decide +kernel)
set_option maxRecDepth 65536 in
theorem w_c4 : (Jvm.Cond.code ({ cls := "com/example/anchordb/anchordb/Condition$Expect", name := "check", desc := "(J)Lcom/example/anchordb/anchordb/Status;" } : Jvm.MethodName) prog_3_method_2_code (3 : Nat) (Option.some (Jvm.ClassFile.FieldType.object "com/example/anchordb/anchordb/Status"))).before args0 about1 = true := code_word (m := ⟨4, 1⟩) (meth := k4m1) (c := k4c1) (by decide +kernel) rfl rfl rfl (by decide +kernel)
set_option maxRecDepth 65536 in
theorem w_c5 : (Jvm.Cond.code ({ cls := "com/example/anchordb/anchordb/Condition$Expect", name := "version", desc := "()J" } : Jvm.MethodName) prog_3_method_6_code (1 : Nat) (Option.some Jvm.ClassFile.FieldType.long)).before args0 about1 = true := code_word (m := ⟨4, 2⟩) (meth := k4m2) (c := k4c2) (by decide +kernel) rfl rfl rfl (by decide +kernel)
def codes1 : List Jvm.Cond := [Jvm.Cond.code x code maxLocals ret, Jvm.Cond.code ({ cls := "com/example/anchordb/anchordb/Condition$Expect", name := "<init>", desc := "(J)V" } : Jvm.MethodName) prog_3_method_1_code (3 : Nat) (Option.none : Option Jvm.ClassFile.FieldType), Jvm.Cond.code ({ cls := "java/lang/Record", name := "<init>", desc := "()V" } : Jvm.MethodName) jdk_30_method_1_code (1 : Nat) (Option.none : Option Jvm.ClassFile.FieldType), Jvm.Cond.code ({ cls := "java/lang/Object", name := "<init>", desc := "()V" } : Jvm.MethodName) object_method_1_code (1 : Nat) (Option.none : Option Jvm.ClassFile.FieldType), Jvm.Cond.code ({ cls := "com/example/anchordb/anchordb/Condition$Expect", name := "check", desc := "(J)Lcom/example/anchordb/anchordb/Status;" } : Jvm.MethodName) prog_3_method_2_code (3 : Nat) (Option.some (Jvm.ClassFile.FieldType.object "com/example/anchordb/anchordb/Status")), Jvm.Cond.code ({ cls := "com/example/anchordb/anchordb/Condition$Expect", name := "version", desc := "()J" } : Jvm.MethodName) prog_3_method_6_code (1 : Nat) (Option.some Jvm.ClassFile.FieldType.long)]
set_option maxRecDepth 65536 in
theorem codes_eq : words1.filter isCode = codes1 := rfl
theorem w_codes : ∀ c ∈ words1.filter isCode, c.before args0 about1 = true := by
  rw [codes_eq]
  intro c hc
  simp only [codes1, List.mem_cons, List.not_mem_nil, or_false] at hc
  rcases hc with rfl | rfl | rfl | rfl | rfl | rfl
  · exact w_c0
  · exact w_c1
  · exact w_c2
  · exact w_c3
  · exact w_c4
  · exact w_c5
set_option maxRecDepth 65536 in
theorem w_t1 : (words1.take 24).all (fun c => isCode c || c.before args0 about1) = true := by decide +kernel
set_option maxRecDepth 65536 in
theorem w_t2 : (words1.drop 24).all (fun c => isCode c || c.before args0 about1) = true := by decide +kernel
theorem w_tables : (allAtoms (Jvm.Cond.code x code maxLocals ret :: tables_1)).before args0 about1 = true := by
  rw [allAtoms_all]
  show words1.all (fun c => c.before args0 about1) = true
  refine all_split ?_ w_codes
  rw [← List.take_append_drop 24 words1, List.all_append, w_t1, w_t2]
  rfl
set_option maxRecDepth 65536 in
theorem w_case : (Jvm.Cond.and given_1 narrow_1).before args0 about1 = true := by decide +kernel
theorem w_applies : (headSpec (Jvm.Cond.code x code maxLocals ret :: tables_1) room_1).applies x e0.platform about1 = true :=
  (Spec.applies_iff w_frames).mpr ⟨w_running, w_runnable, w_alone, w_named, w_hears, w_ripe, w_room, w_tables⟩
theorem atStart : AtStart classFile x code maxLocals ret World_1 tables_1 room_1 Calls_1 rest_1 Pre_1 launch0 p0 e0 about1 theMethod args0 below0 :=
  ⟨lists_1, trivial, launch0.admits_env _ _ _, launch0.least_env, fairChoices_fair.cas, fairChoices_fair.clock, w_frames, w_args, w_heap, w_applies, trivial, trivial, w_case⟩
end start1
theorem witness_1 : WitnessClaimed_1 := ⟨start1.p0, start1.e0, start1.about1, start1.theMethod, start1.args0, start1.below0, start1.atStart⟩
end Jvm.Pilot.@@N@@
