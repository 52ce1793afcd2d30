import JvmDerived
import JvmDerived.Pilot.@@N@@Statement
import JvmDerived.Pilot.@@N@@Code
set_option linter.unusedVariables false
set_option linter.unusedSimpArgs false
namespace Jvm.Pilot.@@N@@
open Jvm Jvm.ClassFile Sem Op Lib Jvm.Free Jvm.Stand Jvm.LawKit Jvm.RoadKit Bundle Jvm.Pilot.@@N@@.Jvm.D
theorem own_eq {args : Array Value} {first s : State} {o : Option Outcome} {idx : List Nat} {a b : Term} (h : (Jvm.Cond.eq a b).value args first o s idx = some true) : a.eval args first o idx s = b.eval args first o idx s := by
  obtain ⟨x, y, h1, h2, k1, k2⟩ := cmp_v (Or.inl h)
  rw [h1, h2]
  simp only [Jvm.Cond.value, h1, h2] at h
  cases x <;> cases y <;> simp_all
theorem own_fld {args : Array Value} {s : State} {t u : Term} {a : Addr} {C n d : String} {v : Value} (ev : t.eval args s none [] s = some (.ref a)) (eu : u.eval args s none [] s = some v) (h : (Jvm.Cond.eq (.field t C n d) u).value args s none s [] = some true) : Fld s s.heap a C n d v :=
  Fld.start ((fld_at ev).symm.trans ((own_eq h).trans eu))
theorem own_z {Z : State} {n0 : Nat} {h : Heap} (O : Old Z n0 h) : n0 ≤ h.size := O.1 ▸ O.2.1
theorem own_nz (x : Int64) : ¬ ((x ||| (1 : Int64)) = (0 : Int64)) := by
  intro h
  have h2 : (x ||| (1 : Int64)).toBitVec.getLsbD 0 = false := by rw [h]; rfl
  rw [Int64.toBitVec_or, BitVec.getLsbD_or] at h2
  simp at h2
theorem d_jdk_30_method_1_code_0 : decode jdk_30_method_1_code 0 = .ok (.aload_n 0, 1) := by decide +kernel
theorem d_jdk_30_method_1_code_1 : decode jdk_30_method_1_code 1 = .ok (.invokespecial 1, 3) := by decide +kernel
theorem d_jdk_30_method_1_code_4 : decode jdk_30_method_1_code 4 = .ok (.return_, 1) := by decide +kernel
theorem pn_java_lang_Record : plainName "java/lang/Record" = true := by first | (simp [plainName, overriddenIn]; done) | decide +kernel
theorem ef_rm_init_2 (m : MethodId) (x0 : Addr) : entryFrame m #[(.ref x0)] 1 = mkF m 0 #[.val (.ref x0)] [] := by first | (simp [entryFrame, mkF, argsToLocals, Value.category]; done) | rfl
def Q_rm_init_2 (Z : State) (x0 : Addr) (h0 : Heap) (n0 : Nat) (v : Option Value) (h : Heap) (L : List Loc) : Prop := v = none ∧ Fr n0 L ∧ h = h0
set_option maxRecDepth 65536 in
set_option maxHeartbeats 40000000 in
theorem rm_init_2 (l : Launch) (Z : State) (a0 : Array Value) (hw : ∀ d ∈ tables_1, d.before a0 Z = true) (ws : List Jvm.Cond) (x0 : Addr) (h0 : Heap) (n0 : Nat) (O0 : Old Z n0 h0)   :
    MetFree l (⟨"java/lang/Record", "<init>", "()V"⟩ : MethodName) (head1 (Jvm.Cond.code (⟨"java/lang/Record", "<init>", "()V"⟩ : MethodName) jdk_30_method_1_code 1 none :: ws) ({ frames := 1, cells := 0, slots := 0, locals := 12 } : Room)) (fun a U => a = #[(.ref x0)] ∧ Z.Warmed39 U.vm ∧ U.heap = h0) (fun _ _ _ _ _ => True) (fun _ U o U' => ∃ v L, o = .returned v ∧ Q_rm_init_2 Z x0 h0 n0 v U'.heap L ∧ FrameEnd U o U' L ({ frames := 1, cells := 0, slots := 0, locals := 12 } : Room).cells ({ frames := 1, cells := 0, slots := 0, locals := 12 } : Room).slots) := by
  refine MetFree.of_bodySF (plainFor_of_name pn_java_lang_Record) hisR ?_
  intro p e s m args below meth c s₁ Bd hml0 hP hK
  obtain ⟨rfl, hZ, hh⟩ := hP
  have hx := Bd.exec
  have hby := Bd.bytes
  have hml : c.maxLocals = 1 := hml0
  have hown : s.vm.findClass "java/lang/Record" = some m.cls := findClass_of_methodNamed Bd.named
  have hnm := (name_of_methodNamed Bd.named Bd.method).1
  have X0 : Stand p l e ({ frames := 1, cells := 0, slots := 0, locals := 12 } : Room) s m #[(.ref x0)] below meth c s₁ [] 0 0 := Stand.of_body Bd
  have e0 : s₁.heap = h0 := by rw [← hh, Bd.state]; rfl
  have N0 := Fr.nil n0
  have pre0 : ∀ t, Steps p.tables e below (s₁.setTop (mkF m 0 #[.val (.ref x0)] [])) t → Steps p.tables e below (s₁.setTop (entryFrame m #[(.ref x0)] 1)) t := fun t k => castTop (ef_rm_init_2 m x0) k
  have K0 := Keep.refl h0 []
  obtain ⟨T4, X4, e4, st4⟩ := initO X0 hx hZ hown (hw _ (List.mem_of_getElem? (i := 11) rfl)) (hw _ (List.mem_of_getElem? (i := 12) rfl)) (hw _ (List.mem_of_getElem? (i := 13) rfl)) e0 (g := (mkF m 1 #[.val (.ref x0)] [(.ref x0)])) rfl (by rw [hml]; rfl) rfl (hb hby d_jdk_30_method_1_code_1) (by decide) (W := 0) (by show 2 * 0 + _ ≤ _; exact Nat.le_of_eq rfl) (by decide)
  have pre5 : ∀ t, Steps p.tables e below (T4.setTop (mkF m 4 #[.val (.ref x0)] [])) t → Steps p.tables e below (s₁.setTop (entryFrame m #[(.ref x0)] 1)) t := by
    intro t kt
    refine pre0 t ?_
    show Steps p.tables e below (s₁.setTop (mkF m 0 #[.val (.ref x0)] [])) _
    refine XS.aloadN X0.here hx rfl (hb hby d_jdk_30_method_1_code_0) rfl rfl ?_
    show Steps p.tables e below (s₁.setTop (mkF m 1 #[.val (.ref x0)] [(.ref x0)])) _
    refine st4 _ ?_
    exact kt
  obtain ⟨fs, hr, hrun, hended, hW, hsame⟩ := X4.leave (v := none) (fun _ => rfl)
  refine ⟨_, _, pre5 _ ?_, hrun, hended, _, _, rfl, ?_, ⟨_, rfl⟩, hW, hsame.mono (by decide) (by decide)⟩
  · show Steps p.tables e below (T4.setTop (mkF m 4 #[.val (.ref x0)] [])) _
    exact X4.returnOut hx Bd.returns (hb hby d_jdk_30_method_1_code_4) hr
  · show Q_rm_init_2 Z x0 h0 n0 _ T4.heap _
    rw [e4]
    exact ⟨rfl, N0, rfl⟩
theorem d_prog_3_method_1_code_0 : decode prog_3_method_1_code 0 = .ok (.aload_n 0, 1) := by decide +kernel
theorem d_prog_3_method_1_code_1 : decode prog_3_method_1_code 1 = .ok (.invokespecial 1, 3) := by decide +kernel
theorem pd___V : parseMethodDescriptor "()V" = some ⟨[], none⟩ := by decide +kernel
theorem d_prog_3_method_1_code_4 : decode prog_3_method_1_code 4 = .ok (.return_, 1) := by decide +kernel
theorem pn_com_example_anchordb_anchordb_Condition_Absent : plainName "com/example/anchordb/anchordb/Condition$Absent" = true := by first | (simp [plainName, overriddenIn]; done) | decide +kernel
theorem ef_rm_init_1 (m : MethodId) (x0 : Addr) : entryFrame m #[(.ref x0)] 1 = mkF m 0 #[.val (.ref x0)] [] := by first | (simp [entryFrame, mkF, argsToLocals, Value.category]; done) | rfl
def Q_rm_init_1 (Z : State) (x0 : Addr) (h0 : Heap) (n0 : Nat) (v : Option Value) (h : Heap) (L : List Loc) : Prop := v = none ∧ Fr n0 L ∧ h = h0
set_option maxRecDepth 65536 in
set_option maxHeartbeats 40000000 in
theorem rm_init_1 (l : Launch) (Z : State) (a0 : Array Value) (hw : ∀ d ∈ tables_1, d.before a0 Z = true) (ws : List Jvm.Cond) (x0 : Addr) (h0 : Heap) (n0 : Nat) (O0 : Old Z n0 h0)   :
    MetFree l (⟨"com/example/anchordb/anchordb/Condition$Absent", "<init>", "()V"⟩ : MethodName) (head1 (Jvm.Cond.code (⟨"com/example/anchordb/anchordb/Condition$Absent", "<init>", "()V"⟩ : MethodName) prog_3_method_1_code 1 none :: ws) ({ frames := 2, cells := 0, slots := 0, locals := 24 } : Room)) (fun a U => a = #[(.ref x0)] ∧ Z.Warmed39 U.vm ∧ U.heap = h0) (fun _ _ _ _ _ => True) (fun _ U o U' => ∃ v L, o = .returned v ∧ Q_rm_init_1 Z x0 h0 n0 v U'.heap L ∧ FrameEnd U o U' L ({ frames := 2, cells := 0, slots := 0, locals := 24 } : Room).cells ({ frames := 2, cells := 0, slots := 0, locals := 24 } : Room).slots) := by
  refine MetFree.of_bodySF (plainFor_of_name pn_com_example_anchordb_anchordb_Condition_Absent) hisR ?_
  intro p e s m args below meth c s₁ Bd hml0 hP hK
  obtain ⟨rfl, hZ, hh⟩ := hP
  have hx := Bd.exec
  have hby := Bd.bytes
  have hml : c.maxLocals = 1 := hml0
  have hown : s.vm.findClass "com/example/anchordb/anchordb/Condition$Absent" = some m.cls := findClass_of_methodNamed Bd.named
  have hnm := (name_of_methodNamed Bd.named Bd.method).1
  have X0 : Stand p l e ({ frames := 2, cells := 0, slots := 0, locals := 24 } : Room) s m #[(.ref x0)] below meth c s₁ [] 0 0 := Stand.of_body Bd
  have e0 : s₁.heap = h0 := by rw [← hh, Bd.state]; rfl
  have N0 := Fr.nil n0
  have pre0 : ∀ t, Steps p.tables e below (s₁.setTop (mkF m 0 #[.val (.ref x0)] [])) t → Steps p.tables e below (s₁.setTop (entryFrame m #[(.ref x0)] 1)) t := fun t k => castTop (ef_rm_init_1 m x0) k
  have K0 := Keep.refl h0 []
  obtain ⟨_, _, ⟨T3, L3, k3, n3⟩, -, X3, ⟨Lc3, hQ3, l3, y3, z3⟩, st3⟩ := X0.specialBack hx (y := (⟨"java/lang/Record", "<init>", "()V"⟩ : MethodName)) rfl hown (mvT hZ (hw _ (List.mem_of_getElem? (i := 6) rfl))) (mvT hZ (hw _ (List.mem_of_getElem? (i := 7) rfl))) (mvT hZ (hw _ (List.mem_of_getElem? (i := 10) rfl))) (by decide) (backOf (W := 0) (rm_init_2 l Z a0 hw [] x0 h0 n0 O0  ) hZ (hw _ (List.mem_of_getElem? (i := 10) rfl)) (hw _ (List.mem_of_getElem? (i := 9) rfl)) (by decide) (by decide)) (g := (mkF m 1 #[.val (.ref x0)] [(.ref x0)])) rfl (by rw [hml]; rfl) (Steps.refl _) (a := x0) (argsL := []) (rest := []) (lenOf pd___V rfl) rfl (by show 2 * 0 + _ ≤ _; exact Nat.le_of_eq rfl) (hb hby d_prog_3_method_1_code_1) (fun _ _ => ⟨rfl, e0, (by decide : 0 + 0 ≤ _), (by decide : 0 + 0 ≤ _)⟩)
  dsimp only [Pt.U, Pt.locs, Pt.cells, Pt.slots] at X3 l3 y3 z3 st3 hQ3
  subst l3 y3 z3
  obtain ⟨rfl, N3q, e3⟩ := hQ3
  have N3 := Fr.app N0 N3q
  have pre6 : ∀ t, Steps p.tables e below (T3.setTop (mkF m 4 #[.val (.ref x0)] [])) t → Steps p.tables e below (s₁.setTop (entryFrame m #[(.ref x0)] 1)) t := by
    intro t kt
    refine pre0 t ?_
    show Steps p.tables e below (s₁.setTop (mkF m 0 #[.val (.ref x0)] [])) _
    refine XS.aloadN X0.here hx rfl (hb hby d_prog_3_method_1_code_0) rfl rfl ?_
    show Steps p.tables e below (s₁.setTop (mkF m 1 #[.val (.ref x0)] [(.ref x0)])) _
    refine st3.trans ?_
    exact kt
  obtain ⟨fs, hr, hrun, hended, hW, hsame⟩ := X3.leave (v := none) (fun _ => rfl)
  refine ⟨_, _, pre6 _ ?_, hrun, hended, _, _, rfl, ?_, ⟨_, rfl⟩, hW, hsame.mono (by decide) (by decide)⟩
  · show Steps p.tables e below (T3.setTop (mkF m 4 #[.val (.ref x0)] [])) _
    exact X3.returnOut hx Bd.returns (hb hby d_prog_3_method_1_code_4) hr
  · show Q_rm_init_1 Z x0 h0 n0 _ T3.heap _
    rw [e3]
    exact ⟨rfl, N3, rfl⟩
theorem d_prog_3_method_2_code_0 : decode prog_3_method_2_code 0 = .ok (.lload_n 1, 1) := by decide +kernel
theorem d_prog_3_method_2_code_1 : decode prog_3_method_2_code 1 = .ok (.lconst 0, 1) := by decide +kernel
theorem d_prog_3_method_2_code_2 : decode prog_3_method_2_code 2 = .ok (.lcmp, 1) := by decide +kernel
theorem d_prog_3_method_2_code_3 : decode prog_3_method_2_code 3 = .ok (.ifCond .ne 9, 3) := by decide +kernel
theorem d_prog_3_method_2_code_6 : decode prog_3_method_2_code 6 = .ok (.getstatic 7, 3) := by decide +kernel
theorem d_prog_3_method_2_code_9 : decode prog_3_method_2_code 9 = .ok (.goto 6, 3) := by decide +kernel
theorem d_prog_3_method_2_code_15 : decode prog_3_method_2_code 15 = .ok (.areturn, 1) := by decide +kernel
theorem ef_rm_check_3 (m : MethodId) (x0 : Addr) (y0 : Int64) : entryFrame m #[(.ref x0), (.long y0)] 3 = mkF m 0 #[.val (.ref x0), .val (.long y0), .second] [] := by first | (simp [entryFrame, mkF, argsToLocals, Value.category]; done) | rfl
def Q_rm_check_3 (Z : State) (x0 : Addr) (y0 : Int64) (w_OK : Addr) (h0 : Heap) (n0 : Nat) (v : Option Value) (h : Heap) (L : List Loc) : Prop := v = some (.ref w_OK) ∧ Fr n0 L ∧ h = h0
set_option maxRecDepth 65536 in
set_option maxHeartbeats 40000000 in
theorem rm_check_3 (l : Launch) (Z : State) (a0 : Array Value) (hw : ∀ d ∈ tables_1, d.before a0 Z = true) (ws : List Jvm.Cond) (x0 : Addr) (y0 : Int64) (w_OK : Addr) (h0 : Heap) (n0 : Nat) (O0 : Old Z n0 h0) (hp0 : (lcmpW y0 (0 : Int64)) = (0 : Int32)) (S_OK : Sta Z Z.heap "com/example/anchordb/anchordb/Status" "OK" "Lcom/example/anchordb/anchordb/Status;" (.ref w_OK)) :
    MetFree l (⟨"com/example/anchordb/anchordb/Condition$Absent", "check", "(J)Lcom/example/anchordb/anchordb/Status;"⟩ : MethodName) (head1 (Jvm.Cond.code (⟨"com/example/anchordb/anchordb/Condition$Absent", "check", "(J)Lcom/example/anchordb/anchordb/Status;"⟩ : MethodName) prog_3_method_2_code 3 (some (.object "com/example/anchordb/anchordb/Status")) :: ws) ({ frames := 0, cells := 0, slots := 0, locals := 0 } : Room)) (fun a U => a = #[(.ref x0), (.long y0)] ∧ Z.Warmed39 U.vm ∧ U.heap = h0) (fun _ _ _ _ _ => True) (fun _ U o U' => ∃ v L, o = .returned v ∧ Q_rm_check_3 Z x0 y0 w_OK h0 n0 v U'.heap L ∧ FrameEnd U o U' L ({ frames := 0, cells := 0, slots := 0, locals := 0 } : Room).cells ({ frames := 0, cells := 0, slots := 0, locals := 0 } : Room).slots) := by
  refine MetFree.of_bodySF (plainFor_of_name pn_com_example_anchordb_anchordb_Condition_Absent) hisR ?_
  intro p e s m args below meth c s₁ Bd hml0 hP hK
  obtain ⟨rfl, hZ, hh⟩ := hP
  have hx := Bd.exec
  have hby := Bd.bytes
  have hml : c.maxLocals = 3 := hml0
  have hown : s.vm.findClass "com/example/anchordb/anchordb/Condition$Absent" = some m.cls := findClass_of_methodNamed Bd.named
  have hnm := (name_of_methodNamed Bd.named Bd.method).1
  have X0 : Stand p l e ({ frames := 0, cells := 0, slots := 0, locals := 0 } : Room) s m #[(.ref x0), (.long y0)] below meth c s₁ [] 0 0 := Stand.of_body Bd
  have e0 : s₁.heap = h0 := by rw [← hh, Bd.state]; rfl
  have N0 := Fr.nil n0
  have pre0 : ∀ t, Steps p.tables e below (s₁.setTop (mkF m 0 #[.val (.ref x0), .val (.long y0), .second] [])) t → Steps p.tables e below (s₁.setTop (entryFrame m #[(.ref x0), (.long y0)] 3)) t := fun t k => castTop (ef_rm_check_3 m x0 y0) k
  have K0 := Keep.refl h0 []
  obtain ⟨T8, X8, e8, st8⟩ := getS2 X0 hx hZ hown (host := "") (Or.inl (hw _ (List.mem_of_getElem? (i := 22) rfl))) Via.refl e0 (S_OK.ext O0.2) (g := (mkF m 6 #[.val (.ref x0), .val (.long y0), .second] [])) rfl (hb hby d_prog_3_method_2_code_6)
  have pre9 : ∀ t, Steps p.tables e below (T8.setTop (mkF m 15 #[.val (.ref x0), .val (.long y0), .second] [(.ref w_OK)])) t → Steps p.tables e below (s₁.setTop (entryFrame m #[(.ref x0), (.long y0)] 3)) t := by
    intro t kt
    refine pre0 t ?_
    show Steps p.tables e below (s₁.setTop (mkF m 0 #[.val (.ref x0), .val (.long y0), .second] [])) _
    refine XS.lloadN X0.here hx rfl (hb hby d_prog_3_method_2_code_0) rfl ?_
    show Steps p.tables e below (s₁.setTop (mkF m 1 #[.val (.ref x0), .val (.long y0), .second] [(.long y0)])) _
    refine XS.lconst X0.here hx rfl (hb hby d_prog_3_method_2_code_1) ?_
    show Steps p.tables e below (s₁.setTop (mkF m 2 #[.val (.ref x0), .val (.long y0), .second] [(.long (0 : Int64)), (.long y0)])) _
    refine XS.lcmp X0.here hx rfl (hb hby d_prog_3_method_2_code_2) rfl ?_
    show Steps p.tables e below (s₁.setTop (mkF m 3 #[.val (.ref x0), .val (.long y0), .second] [(.int (lcmpW y0 (0 : Int64)))])) _
    refine XS.ifNo X0.here hx rfl (hb hby d_prog_3_method_2_code_3) rfl ((if0 _ _).trans (teq hp0).2) ?_
    show Steps p.tables e below (s₁.setTop (mkF m 6 #[.val (.ref x0), .val (.long y0), .second] [])) _
    refine st8 _ ?_
    show Steps p.tables e below (T8.setTop (mkF m 9 #[.val (.ref x0), .val (.long y0), .second] [(.ref w_OK)])) _
    refine XS.goto X8.here hx rfl (pc0 := 9) (pc' := 15) rfl (hb hby d_prog_3_method_2_code_9) (by decide) (by decide) ?_
    exact kt
  obtain ⟨fs, hr, hrun, hended, hW, hsame⟩ := X8.leave (v := some (.ref w_OK)) (fun h => by rw [Bd.returns] at h; cases h)
  refine ⟨_, _, pre9 _ ?_, hrun, hended, _, _, rfl, ?_, ⟨_, rfl⟩, hW, hsame.mono (by decide) (by decide)⟩
  · show Steps p.tables e below (T8.setTop (mkF m 15 #[.val (.ref x0), .val (.long y0), .second] [(.ref w_OK)])) _
    jvm_step X8.here [X8.here.top, hx, (hb hby d_prog_3_method_2_code_15), X8.method', Bd.returns, Value.isRef, FieldType.isReference]
    first | (intro acts; rw [hr _ acts rfl rfl rfl]) | rw [hr _ _ rfl rfl rfl]
    exact Steps.refl _
  · show Q_rm_check_3 Z x0 y0 w_OK h0 n0 _ T8.heap _
    rw [e8]
    exact ⟨rfl, N0, rfl⟩
theorem ef_rm_check_4 (m : MethodId) (x0 : Addr) : entryFrame m #[(.ref x0), (.long (0 : Int64))] 3 = mkF m 0 #[.val (.ref x0), .val (.long (0 : Int64)), .second] [] := by first | (simp [entryFrame, mkF, argsToLocals, Value.category]; done) | rfl
def Q_rm_check_4 (Z : State) (x0 : Addr) (w_OK : Addr) (h0 : Heap) (n0 : Nat) (v : Option Value) (h : Heap) (L : List Loc) : Prop := v = some (.ref w_OK) ∧ Fr n0 L ∧ h = h0
set_option maxRecDepth 65536 in
set_option maxHeartbeats 40000000 in
theorem rm_check_4 (l : Launch) (Z : State) (a0 : Array Value) (hw : ∀ d ∈ tables_1, d.before a0 Z = true) (ws : List Jvm.Cond) (x0 : Addr) (w_OK : Addr) (h0 : Heap) (n0 : Nat) (O0 : Old Z n0 h0)  (S_OK : Sta Z Z.heap "com/example/anchordb/anchordb/Status" "OK" "Lcom/example/anchordb/anchordb/Status;" (.ref w_OK)) :
    MetFree l (⟨"com/example/anchordb/anchordb/Condition$Absent", "check", "(J)Lcom/example/anchordb/anchordb/Status;"⟩ : MethodName) (head1 (Jvm.Cond.code (⟨"com/example/anchordb/anchordb/Condition$Absent", "check", "(J)Lcom/example/anchordb/anchordb/Status;"⟩ : MethodName) prog_3_method_2_code 3 (some (.object "com/example/anchordb/anchordb/Status")) :: ws) ({ frames := 0, cells := 0, slots := 0, locals := 0 } : Room)) (fun a U => a = #[(.ref x0), (.long (0 : Int64))] ∧ Z.Warmed39 U.vm ∧ U.heap = h0) (fun _ _ _ _ _ => True) (fun _ U o U' => ∃ v L, o = .returned v ∧ Q_rm_check_4 Z x0 w_OK h0 n0 v U'.heap L ∧ FrameEnd U o U' L ({ frames := 0, cells := 0, slots := 0, locals := 0 } : Room).cells ({ frames := 0, cells := 0, slots := 0, locals := 0 } : Room).slots) := by
  refine MetFree.of_bodySF (plainFor_of_name pn_com_example_anchordb_anchordb_Condition_Absent) hisR ?_
  intro p e s m args below meth c s₁ Bd hml0 hP hK
  obtain ⟨rfl, hZ, hh⟩ := hP
  have hx := Bd.exec
  have hby := Bd.bytes
  have hml : c.maxLocals = 3 := hml0
  have hown : s.vm.findClass "com/example/anchordb/anchordb/Condition$Absent" = some m.cls := findClass_of_methodNamed Bd.named
  have hnm := (name_of_methodNamed Bd.named Bd.method).1
  have X0 : Stand p l e ({ frames := 0, cells := 0, slots := 0, locals := 0 } : Room) s m #[(.ref x0), (.long (0 : Int64))] below meth c s₁ [] 0 0 := Stand.of_body Bd
  have e0 : s₁.heap = h0 := by rw [← hh, Bd.state]; rfl
  have N0 := Fr.nil n0
  have pre0 : ∀ t, Steps p.tables e below (s₁.setTop (mkF m 0 #[.val (.ref x0), .val (.long (0 : Int64)), .second] [])) t → Steps p.tables e below (s₁.setTop (entryFrame m #[(.ref x0), (.long (0 : Int64))] 3)) t := fun t k => castTop (ef_rm_check_4 m x0) k
  have K0 := Keep.refl h0 []
  have pre11 : ∀ t, Steps p.tables e below (s₁.setTop (mkF m 3 #[.val (.ref x0), .val (.long (0 : Int64)), .second] [(.int (lcmpW (0 : Int64) (0 : Int64)))])) t → Steps p.tables e below (s₁.setTop (entryFrame m #[(.ref x0), (.long (0 : Int64))] 3)) t := by
    intro t kt
    refine pre0 t ?_
    show Steps p.tables e below (s₁.setTop (mkF m 0 #[.val (.ref x0), .val (.long (0 : Int64)), .second] [])) _
    refine XS.lloadN X0.here hx rfl (hb hby d_prog_3_method_2_code_0) rfl ?_
    show Steps p.tables e below (s₁.setTop (mkF m 1 #[.val (.ref x0), .val (.long (0 : Int64)), .second] [(.long (0 : Int64))])) _
    refine XS.lconst X0.here hx rfl (hb hby d_prog_3_method_2_code_1) ?_
    show Steps p.tables e below (s₁.setTop (mkF m 2 #[.val (.ref x0), .val (.long (0 : Int64)), .second] [(.long (0 : Int64)), (.long (0 : Int64))])) _
    refine XS.lcmp X0.here hx rfl (hb hby d_prog_3_method_2_code_2) rfl ?_
    exact kt
  rw [show (lcmpW (0 : Int64) (0 : Int64)) = (0 : Int32) from by decide] at pre11
  obtain ⟨T13, X13, e13, st13⟩ := getS2 X0 hx hZ hown (host := "") (Or.inl (hw _ (List.mem_of_getElem? (i := 22) rfl))) Via.refl e0 (S_OK.ext O0.2) (g := (mkF m 6 #[.val (.ref x0), .val (.long (0 : Int64)), .second] [])) rfl (hb hby d_prog_3_method_2_code_6)
  have pre14 : ∀ t, Steps p.tables e below (T13.setTop (mkF m 15 #[.val (.ref x0), .val (.long (0 : Int64)), .second] [(.ref w_OK)])) t → Steps p.tables e below (s₁.setTop (entryFrame m #[(.ref x0), (.long (0 : Int64))] 3)) t := by
    intro t kt
    refine pre11 t ?_
    show Steps p.tables e below (s₁.setTop (mkF m 3 #[.val (.ref x0), .val (.long (0 : Int64)), .second] [(.int (0 : Int32))])) _
    refine XS.ifNo X0.here hx rfl (hb hby d_prog_3_method_2_code_3) rfl ((if0 _ _).trans (teq (by decide : (0 : Int32) = (0 : Int32))).2) ?_
    show Steps p.tables e below (s₁.setTop (mkF m 6 #[.val (.ref x0), .val (.long (0 : Int64)), .second] [])) _
    refine st13 _ ?_
    show Steps p.tables e below (T13.setTop (mkF m 9 #[.val (.ref x0), .val (.long (0 : Int64)), .second] [(.ref w_OK)])) _
    refine XS.goto X13.here hx rfl (pc0 := 9) (pc' := 15) rfl (hb hby d_prog_3_method_2_code_9) (by decide) (by decide) ?_
    exact kt
  obtain ⟨fs, hr, hrun, hended, hW, hsame⟩ := X13.leave (v := some (.ref w_OK)) (fun h => by rw [Bd.returns] at h; cases h)
  refine ⟨_, _, pre14 _ ?_, hrun, hended, _, _, rfl, ?_, ⟨_, rfl⟩, hW, hsame.mono (by decide) (by decide)⟩
  · show Steps p.tables e below (T13.setTop (mkF m 15 #[.val (.ref x0), .val (.long (0 : Int64)), .second] [(.ref w_OK)])) _
    jvm_step X13.here [X13.here.top, hx, (hb hby d_prog_3_method_2_code_15), X13.method', Bd.returns, Value.isRef, FieldType.isReference]
    first | (intro acts; rw [hr _ acts rfl rfl rfl]) | rw [hr _ _ rfl rfl rfl]
    exact Steps.refl _
  · show Q_rm_check_4 Z x0 w_OK h0 n0 _ T13.heap _
    rw [e13]
    exact ⟨rfl, N0, rfl⟩
theorem d_prog_3_method_2_code_12 : decode prog_3_method_2_code 12 = .ok (.getstatic 13, 3) := by decide +kernel
theorem ef_rm_check_5 (m : MethodId) (x0 : Addr) (y0 : Int64) : entryFrame m #[(.ref x0), (.long y0)] 3 = mkF m 0 #[.val (.ref x0), .val (.long y0), .second] [] := by first | (simp [entryFrame, mkF, argsToLocals, Value.category]; done) | rfl
def Q_rm_check_5 (Z : State) (x0 : Addr) (y0 : Int64) (w_KEY_EXISTS : Addr) (h0 : Heap) (n0 : Nat) (v : Option Value) (h : Heap) (L : List Loc) : Prop := v = some (.ref w_KEY_EXISTS) ∧ Fr n0 L ∧ h = h0
set_option maxRecDepth 65536 in
set_option maxHeartbeats 40000000 in
theorem rm_check_5 (l : Launch) (Z : State) (a0 : Array Value) (hw : ∀ d ∈ tables_1, d.before a0 Z = true) (ws : List Jvm.Cond) (x0 : Addr) (y0 : Int64) (w_KEY_EXISTS : Addr) (h0 : Heap) (n0 : Nat) (O0 : Old Z n0 h0) (hp0 : ¬ ((lcmpW y0 (0 : Int64)) = (0 : Int32))) (S_KEY_EXISTS : Sta Z Z.heap "com/example/anchordb/anchordb/Status" "KEY_EXISTS" "Lcom/example/anchordb/anchordb/Status;" (.ref w_KEY_EXISTS)) :
    MetFree l (⟨"com/example/anchordb/anchordb/Condition$Absent", "check", "(J)Lcom/example/anchordb/anchordb/Status;"⟩ : MethodName) (head1 (Jvm.Cond.code (⟨"com/example/anchordb/anchordb/Condition$Absent", "check", "(J)Lcom/example/anchordb/anchordb/Status;"⟩ : MethodName) prog_3_method_2_code 3 (some (.object "com/example/anchordb/anchordb/Status")) :: ws) ({ frames := 0, cells := 0, slots := 0, locals := 0 } : Room)) (fun a U => a = #[(.ref x0), (.long y0)] ∧ Z.Warmed39 U.vm ∧ U.heap = h0) (fun _ _ _ _ _ => True) (fun _ U o U' => ∃ v L, o = .returned v ∧ Q_rm_check_5 Z x0 y0 w_KEY_EXISTS h0 n0 v U'.heap L ∧ FrameEnd U o U' L ({ frames := 0, cells := 0, slots := 0, locals := 0 } : Room).cells ({ frames := 0, cells := 0, slots := 0, locals := 0 } : Room).slots) := by
  refine MetFree.of_bodySF (plainFor_of_name pn_com_example_anchordb_anchordb_Condition_Absent) hisR ?_
  intro p e s m args below meth c s₁ Bd hml0 hP hK
  obtain ⟨rfl, hZ, hh⟩ := hP
  have hx := Bd.exec
  have hby := Bd.bytes
  have hml : c.maxLocals = 3 := hml0
  have hown : s.vm.findClass "com/example/anchordb/anchordb/Condition$Absent" = some m.cls := findClass_of_methodNamed Bd.named
  have hnm := (name_of_methodNamed Bd.named Bd.method).1
  have X0 : Stand p l e ({ frames := 0, cells := 0, slots := 0, locals := 0 } : Room) s m #[(.ref x0), (.long y0)] below meth c s₁ [] 0 0 := Stand.of_body Bd
  have e0 : s₁.heap = h0 := by rw [← hh, Bd.state]; rfl
  have N0 := Fr.nil n0
  have pre0 : ∀ t, Steps p.tables e below (s₁.setTop (mkF m 0 #[.val (.ref x0), .val (.long y0), .second] [])) t → Steps p.tables e below (s₁.setTop (entryFrame m #[(.ref x0), (.long y0)] 3)) t := fun t k => castTop (ef_rm_check_5 m x0 y0) k
  have K0 := Keep.refl h0 []
  obtain ⟨T16, X16, e16, st16⟩ := getS2 X0 hx hZ hown (host := "") (Or.inl (hw _ (List.mem_of_getElem? (i := 19) rfl))) Via.refl e0 (S_KEY_EXISTS.ext O0.2) (g := (mkF m 12 #[.val (.ref x0), .val (.long y0), .second] [])) rfl (hb hby d_prog_3_method_2_code_12)
  have pre17 : ∀ t, Steps p.tables e below (T16.setTop (mkF m 15 #[.val (.ref x0), .val (.long y0), .second] [(.ref w_KEY_EXISTS)])) t → Steps p.tables e below (s₁.setTop (entryFrame m #[(.ref x0), (.long y0)] 3)) t := by
    intro t kt
    refine pre0 t ?_
    show Steps p.tables e below (s₁.setTop (mkF m 0 #[.val (.ref x0), .val (.long y0), .second] [])) _
    refine XS.lloadN X0.here hx rfl (hb hby d_prog_3_method_2_code_0) rfl ?_
    show Steps p.tables e below (s₁.setTop (mkF m 1 #[.val (.ref x0), .val (.long y0), .second] [(.long y0)])) _
    refine XS.lconst X0.here hx rfl (hb hby d_prog_3_method_2_code_1) ?_
    show Steps p.tables e below (s₁.setTop (mkF m 2 #[.val (.ref x0), .val (.long y0), .second] [(.long (0 : Int64)), (.long y0)])) _
    refine XS.lcmp X0.here hx rfl (hb hby d_prog_3_method_2_code_2) rfl ?_
    show Steps p.tables e below (s₁.setTop (mkF m 3 #[.val (.ref x0), .val (.long y0), .second] [(.int (lcmpW y0 (0 : Int64)))])) _
    refine XS.ifYes X0.here hx rfl (pc0 := 3) (pc' := 12) rfl (hb hby d_prog_3_method_2_code_3) rfl ((if0 _ _).trans (feq hp0).2) (by decide) (by decide) ?_
    show Steps p.tables e below (s₁.setTop (mkF m 12 #[.val (.ref x0), .val (.long y0), .second] [])) _
    refine st16 _ ?_
    exact kt
  obtain ⟨fs, hr, hrun, hended, hW, hsame⟩ := X16.leave (v := some (.ref w_KEY_EXISTS)) (fun h => by rw [Bd.returns] at h; cases h)
  refine ⟨_, _, pre17 _ ?_, hrun, hended, _, _, rfl, ?_, ⟨_, rfl⟩, hW, hsame.mono (by decide) (by decide)⟩
  · show Steps p.tables e below (T16.setTop (mkF m 15 #[.val (.ref x0), .val (.long y0), .second] [(.ref w_KEY_EXISTS)])) _
    jvm_step X16.here [X16.here.top, hx, (hb hby d_prog_3_method_2_code_15), X16.method', Bd.returns, Value.isRef, FieldType.isReference]
    first | (intro acts; rw [hr _ acts rfl rfl rfl]) | rw [hr _ _ rfl rfl rfl]
    exact Steps.refl _
  · show Q_rm_check_5 Z x0 y0 w_KEY_EXISTS h0 n0 _ T16.heap _
    rw [e16]
    exact ⟨rfl, N0, rfl⟩
theorem d_method_2_code_0 : decode method_2_code 0 = .ok (.lload_n 0, 1) := by decide +kernel
theorem d_method_2_code_1 : decode method_2_code 1 = .ok (.lconst 0, 1) := by decide +kernel
theorem d_method_2_code_2 : decode method_2_code 2 = .ok (.lcmp, 1) := by decide +kernel
theorem d_method_2_code_3 : decode method_2_code 3 = .ok (.ifCond .ne 16, 3) := by decide +kernel
theorem d_method_2_code_6 : decode method_2_code 6 = .ok (.aload_n 2, 1) := by decide +kernel
theorem d_method_2_code_7 : decode method_2_code 7 = .ok (.getstatic 7, 3) := by decide +kernel
theorem d_method_2_code_10 : decode method_2_code 10 = .ok (.if_acmp .ne 7, 3) := by decide +kernel
theorem d_method_2_code_13 : decode method_2_code 13 = .ok (.iconst 1, 1) := by decide +kernel
theorem d_method_2_code_14 : decode method_2_code 14 = .ok (.goto 4, 3) := by decide +kernel
theorem d_method_2_code_18 : decode method_2_code 18 = .ok (.ireturn, 1) := by decide +kernel
theorem pn_com_example_anchordb_anchordb_AbsentCheckPinLaw : plainName "com/example/anchordb/anchordb/AbsentCheckPinLaw" = true := by first | (simp [plainName, overriddenIn]; done) | decide +kernel
theorem ef_rm_expected_6 (m : MethodId) (y0 : Int64) (w_OK : Addr) : entryFrame m #[(.long y0), (.ref w_OK)] 3 = mkF m 0 #[.val (.long y0), .second, .val (.ref w_OK)] [] := by first | (simp [entryFrame, mkF, argsToLocals, Value.category]; done) | rfl
def Q_rm_expected_6 (Z : State) (y0 : Int64) (w_OK : Addr) (h0 : Heap) (n0 : Nat) (v : Option Value) (h : Heap) (L : List Loc) : Prop := v = some (.int (1 : Int32)) ∧ Fr n0 L ∧ h = h0
set_option maxRecDepth 65536 in
set_option maxHeartbeats 40000000 in
theorem rm_expected_6 (l : Launch) (Z : State) (a0 : Array Value) (hw : ∀ d ∈ tables_1, d.before a0 Z = true) (ws : List Jvm.Cond) (y0 : Int64) (w_OK : Addr) (h0 : Heap) (n0 : Nat) (O0 : Old Z n0 h0) (hp0 : (lcmpW y0 (0 : Int64)) = (0 : Int32)) (S_OK : Sta Z Z.heap "com/example/anchordb/anchordb/Status" "OK" "Lcom/example/anchordb/anchordb/Status;" (.ref w_OK)) :
    MetFree l (⟨"com/example/anchordb/anchordb/AbsentCheckPinLaw", "expected", "(JLcom/example/anchordb/anchordb/Status;)Z"⟩ : MethodName) (head1 (Jvm.Cond.code (⟨"com/example/anchordb/anchordb/AbsentCheckPinLaw", "expected", "(JLcom/example/anchordb/anchordb/Status;)Z"⟩ : MethodName) method_2_code 3 (some .boolean) :: ws) ({ frames := 0, cells := 0, slots := 0, locals := 0 } : Room)) (fun a U => a = #[(.long y0), (.ref w_OK)] ∧ Z.Warmed39 U.vm ∧ U.heap = h0) (fun _ _ _ _ _ => True) (fun _ U o U' => ∃ v L, o = .returned v ∧ Q_rm_expected_6 Z y0 w_OK h0 n0 v U'.heap L ∧ FrameEnd U o U' L ({ frames := 0, cells := 0, slots := 0, locals := 0 } : Room).cells ({ frames := 0, cells := 0, slots := 0, locals := 0 } : Room).slots) := by
  refine MetFree.of_bodySF (plainFor_of_name pn_com_example_anchordb_anchordb_AbsentCheckPinLaw) hisR ?_
  intro p e s m args below meth c s₁ Bd hml0 hP hK
  obtain ⟨rfl, hZ, hh⟩ := hP
  have hx := Bd.exec
  have hby := Bd.bytes
  have hml : c.maxLocals = 3 := hml0
  have hown : s.vm.findClass "com/example/anchordb/anchordb/AbsentCheckPinLaw" = some m.cls := findClass_of_methodNamed Bd.named
  have hnm := (name_of_methodNamed Bd.named Bd.method).1
  have X0 : Stand p l e ({ frames := 0, cells := 0, slots := 0, locals := 0 } : Room) s m #[(.long y0), (.ref w_OK)] below meth c s₁ [] 0 0 := Stand.of_body Bd
  have e0 : s₁.heap = h0 := by rw [← hh, Bd.state]; rfl
  have N0 := Fr.nil n0
  have pre0 : ∀ t, Steps p.tables e below (s₁.setTop (mkF m 0 #[.val (.long y0), .second, .val (.ref w_OK)] [])) t → Steps p.tables e below (s₁.setTop (entryFrame m #[(.long y0), (.ref w_OK)] 3)) t := fun t k => castTop (ef_rm_expected_6 m y0 w_OK) k
  have K0 := Keep.refl h0 []
  obtain ⟨T19, X19, e19, st19⟩ := getS2 X0 hx hZ hown (host := "") (Or.inl (hw _ (List.mem_of_getElem? (i := 29) rfl))) Via.refl e0 (S_OK.ext O0.2) (g := (mkF m 7 #[.val (.long y0), .second, .val (.ref w_OK)] [(.ref w_OK)])) rfl (hb hby d_method_2_code_7)
  have pre20 : ∀ t, Steps p.tables e below (T19.setTop (mkF m 18 #[.val (.long y0), .second, .val (.ref w_OK)] [(.int (1 : Int32))])) t → Steps p.tables e below (s₁.setTop (entryFrame m #[(.long y0), (.ref w_OK)] 3)) t := by
    intro t kt
    refine pre0 t ?_
    show Steps p.tables e below (s₁.setTop (mkF m 0 #[.val (.long y0), .second, .val (.ref w_OK)] [])) _
    refine XS.lloadN X0.here hx rfl (hb hby d_method_2_code_0) rfl ?_
    show Steps p.tables e below (s₁.setTop (mkF m 1 #[.val (.long y0), .second, .val (.ref w_OK)] [(.long y0)])) _
    refine XS.lconst X0.here hx rfl (hb hby d_method_2_code_1) ?_
    show Steps p.tables e below (s₁.setTop (mkF m 2 #[.val (.long y0), .second, .val (.ref w_OK)] [(.long (0 : Int64)), (.long y0)])) _
    refine XS.lcmp X0.here hx rfl (hb hby d_method_2_code_2) rfl ?_
    show Steps p.tables e below (s₁.setTop (mkF m 3 #[.val (.long y0), .second, .val (.ref w_OK)] [(.int (lcmpW y0 (0 : Int64)))])) _
    refine XS.ifNo X0.here hx rfl (hb hby d_method_2_code_3) rfl ((if0 _ _).trans (teq hp0).2) ?_
    show Steps p.tables e below (s₁.setTop (mkF m 6 #[.val (.long y0), .second, .val (.ref w_OK)] [])) _
    refine XS.aloadN X0.here hx rfl (hb hby d_method_2_code_6) rfl rfl ?_
    show Steps p.tables e below (s₁.setTop (mkF m 7 #[.val (.long y0), .second, .val (.ref w_OK)] [(.ref w_OK)])) _
    refine st19 _ ?_
    show Steps p.tables e below (T19.setTop (mkF m 10 #[.val (.long y0), .second, .val (.ref w_OK)] [(.ref w_OK), (.ref w_OK)])) _
    refine Jvm.RoadKit.acmp (g := (mkF m 10 #[.val (.long y0), .second, .val (.ref w_OK)] [(.ref w_OK), (.ref w_OK)])) X19 hx rfl rfl rfl (pc0 := 10) (pc' := 13) (same := true) rfl (hb hby d_method_2_code_10) rfl (decide_eq_true rfl) (by decide) (by decide) ?_
    show Steps p.tables e below (T19.setTop (mkF m 13 #[.val (.long y0), .second, .val (.ref w_OK)] [])) _
    refine XS.iconst X19.here hx rfl (hb hby d_method_2_code_13) ?_
    show Steps p.tables e below (T19.setTop (mkF m 14 #[.val (.long y0), .second, .val (.ref w_OK)] [(.int (1 : Int32))])) _
    refine XS.goto X19.here hx rfl (pc0 := 14) (pc' := 18) rfl (hb hby d_method_2_code_14) (by decide) (by decide) ?_
    exact kt
  obtain ⟨fs, hr, hrun, hended, hW, hsame⟩ := X19.leave (v := some (.int (1 : Int32))) (fun h => by rw [Bd.returns] at h; cases h)
  refine ⟨_, _, pre20 _ ?_, hrun, hended, _, _, rfl, ?_, ⟨_, rfl⟩, hW, hsame.mono (by decide) (by decide)⟩
  · show Steps p.tables e below (T19.setTop (mkF m 18 #[.val (.long y0), .second, .val (.ref w_OK)] [(.int (1 : Int32))])) _
    exact retN X19 hx (t := .boolean) Bd.returns (by simp) (hb hby d_method_2_code_18) hr
  · show Q_rm_expected_6 Z y0 w_OK h0 n0 _ T19.heap _
    rw [e19]
    exact ⟨rfl, N0, rfl⟩
theorem d_method_2_code_19 : decode method_2_code 19 = .ok (.aload_n 2, 1) := by decide +kernel
theorem d_method_2_code_20 : decode method_2_code 20 = .ok (.getstatic 13, 3) := by decide +kernel
theorem d_method_2_code_23 : decode method_2_code 23 = .ok (.if_acmp .ne 7, 3) := by decide +kernel
theorem d_method_2_code_26 : decode method_2_code 26 = .ok (.iconst 1, 1) := by decide +kernel
theorem d_method_2_code_27 : decode method_2_code 27 = .ok (.goto 4, 3) := by decide +kernel
theorem d_method_2_code_31 : decode method_2_code 31 = .ok (.ireturn, 1) := by decide +kernel
theorem ef_rm_expected_7 (m : MethodId) (y0 : Int64) (w_KEY_EXISTS : Addr) : entryFrame m #[(.long y0), (.ref w_KEY_EXISTS)] 3 = mkF m 0 #[.val (.long y0), .second, .val (.ref w_KEY_EXISTS)] [] := by first | (simp [entryFrame, mkF, argsToLocals, Value.category]; done) | rfl
def Q_rm_expected_7 (Z : State) (y0 : Int64) (w_KEY_EXISTS : Addr) (h0 : Heap) (n0 : Nat) (v : Option Value) (h : Heap) (L : List Loc) : Prop := v = some (.int (1 : Int32)) ∧ Fr n0 L ∧ h = h0
set_option maxRecDepth 65536 in
set_option maxHeartbeats 40000000 in
theorem rm_expected_7 (l : Launch) (Z : State) (a0 : Array Value) (hw : ∀ d ∈ tables_1, d.before a0 Z = true) (ws : List Jvm.Cond) (y0 : Int64) (w_KEY_EXISTS : Addr) (h0 : Heap) (n0 : Nat) (O0 : Old Z n0 h0) (hp0 : ¬ ((lcmpW y0 (0 : Int64)) = (0 : Int32))) (S_KEY_EXISTS : Sta Z Z.heap "com/example/anchordb/anchordb/Status" "KEY_EXISTS" "Lcom/example/anchordb/anchordb/Status;" (.ref w_KEY_EXISTS)) :
    MetFree l (⟨"com/example/anchordb/anchordb/AbsentCheckPinLaw", "expected", "(JLcom/example/anchordb/anchordb/Status;)Z"⟩ : MethodName) (head1 (Jvm.Cond.code (⟨"com/example/anchordb/anchordb/AbsentCheckPinLaw", "expected", "(JLcom/example/anchordb/anchordb/Status;)Z"⟩ : MethodName) method_2_code 3 (some .boolean) :: ws) ({ frames := 0, cells := 0, slots := 0, locals := 0 } : Room)) (fun a U => a = #[(.long y0), (.ref w_KEY_EXISTS)] ∧ Z.Warmed39 U.vm ∧ U.heap = h0) (fun _ _ _ _ _ => True) (fun _ U o U' => ∃ v L, o = .returned v ∧ Q_rm_expected_7 Z y0 w_KEY_EXISTS h0 n0 v U'.heap L ∧ FrameEnd U o U' L ({ frames := 0, cells := 0, slots := 0, locals := 0 } : Room).cells ({ frames := 0, cells := 0, slots := 0, locals := 0 } : Room).slots) := by
  refine MetFree.of_bodySF (plainFor_of_name pn_com_example_anchordb_anchordb_AbsentCheckPinLaw) hisR ?_
  intro p e s m args below meth c s₁ Bd hml0 hP hK
  obtain ⟨rfl, hZ, hh⟩ := hP
  have hx := Bd.exec
  have hby := Bd.bytes
  have hml : c.maxLocals = 3 := hml0
  have hown : s.vm.findClass "com/example/anchordb/anchordb/AbsentCheckPinLaw" = some m.cls := findClass_of_methodNamed Bd.named
  have hnm := (name_of_methodNamed Bd.named Bd.method).1
  have X0 : Stand p l e ({ frames := 0, cells := 0, slots := 0, locals := 0 } : Room) s m #[(.long y0), (.ref w_KEY_EXISTS)] below meth c s₁ [] 0 0 := Stand.of_body Bd
  have e0 : s₁.heap = h0 := by rw [← hh, Bd.state]; rfl
  have N0 := Fr.nil n0
  have pre0 : ∀ t, Steps p.tables e below (s₁.setTop (mkF m 0 #[.val (.long y0), .second, .val (.ref w_KEY_EXISTS)] [])) t → Steps p.tables e below (s₁.setTop (entryFrame m #[(.long y0), (.ref w_KEY_EXISTS)] 3)) t := fun t k => castTop (ef_rm_expected_7 m y0 w_KEY_EXISTS) k
  have K0 := Keep.refl h0 []
  obtain ⟨T25, X25, e25, st25⟩ := getS2 X0 hx hZ hown (host := "") (Or.inl (hw _ (List.mem_of_getElem? (i := 28) rfl))) Via.refl e0 (S_KEY_EXISTS.ext O0.2) (g := (mkF m 20 #[.val (.long y0), .second, .val (.ref w_KEY_EXISTS)] [(.ref w_KEY_EXISTS)])) rfl (hb hby d_method_2_code_20)
  have pre26 : ∀ t, Steps p.tables e below (T25.setTop (mkF m 31 #[.val (.long y0), .second, .val (.ref w_KEY_EXISTS)] [(.int (1 : Int32))])) t → Steps p.tables e below (s₁.setTop (entryFrame m #[(.long y0), (.ref w_KEY_EXISTS)] 3)) t := by
    intro t kt
    refine pre0 t ?_
    show Steps p.tables e below (s₁.setTop (mkF m 0 #[.val (.long y0), .second, .val (.ref w_KEY_EXISTS)] [])) _
    refine XS.lloadN X0.here hx rfl (hb hby d_method_2_code_0) rfl ?_
    show Steps p.tables e below (s₁.setTop (mkF m 1 #[.val (.long y0), .second, .val (.ref w_KEY_EXISTS)] [(.long y0)])) _
    refine XS.lconst X0.here hx rfl (hb hby d_method_2_code_1) ?_
    show Steps p.tables e below (s₁.setTop (mkF m 2 #[.val (.long y0), .second, .val (.ref w_KEY_EXISTS)] [(.long (0 : Int64)), (.long y0)])) _
    refine XS.lcmp X0.here hx rfl (hb hby d_method_2_code_2) rfl ?_
    show Steps p.tables e below (s₁.setTop (mkF m 3 #[.val (.long y0), .second, .val (.ref w_KEY_EXISTS)] [(.int (lcmpW y0 (0 : Int64)))])) _
    refine XS.ifYes X0.here hx rfl (pc0 := 3) (pc' := 19) rfl (hb hby d_method_2_code_3) rfl ((if0 _ _).trans (feq hp0).2) (by decide) (by decide) ?_
    show Steps p.tables e below (s₁.setTop (mkF m 19 #[.val (.long y0), .second, .val (.ref w_KEY_EXISTS)] [])) _
    refine XS.aloadN X0.here hx rfl (hb hby d_method_2_code_19) rfl rfl ?_
    show Steps p.tables e below (s₁.setTop (mkF m 20 #[.val (.long y0), .second, .val (.ref w_KEY_EXISTS)] [(.ref w_KEY_EXISTS)])) _
    refine st25 _ ?_
    show Steps p.tables e below (T25.setTop (mkF m 23 #[.val (.long y0), .second, .val (.ref w_KEY_EXISTS)] [(.ref w_KEY_EXISTS), (.ref w_KEY_EXISTS)])) _
    refine Jvm.RoadKit.acmp (g := (mkF m 23 #[.val (.long y0), .second, .val (.ref w_KEY_EXISTS)] [(.ref w_KEY_EXISTS), (.ref w_KEY_EXISTS)])) X25 hx rfl rfl rfl (pc0 := 23) (pc' := 26) (same := true) rfl (hb hby d_method_2_code_23) rfl (decide_eq_true rfl) (by decide) (by decide) ?_
    show Steps p.tables e below (T25.setTop (mkF m 26 #[.val (.long y0), .second, .val (.ref w_KEY_EXISTS)] [])) _
    refine XS.iconst X25.here hx rfl (hb hby d_method_2_code_26) ?_
    show Steps p.tables e below (T25.setTop (mkF m 27 #[.val (.long y0), .second, .val (.ref w_KEY_EXISTS)] [(.int (1 : Int32))])) _
    refine XS.goto X25.here hx rfl (pc0 := 27) (pc' := 31) rfl (hb hby d_method_2_code_27) (by decide) (by decide) ?_
    exact kt
  obtain ⟨fs, hr, hrun, hended, hW, hsame⟩ := X25.leave (v := some (.int (1 : Int32))) (fun h => by rw [Bd.returns] at h; cases h)
  refine ⟨_, _, pre26 _ ?_, hrun, hended, _, _, rfl, ?_, ⟨_, rfl⟩, hW, hsame.mono (by decide) (by decide)⟩
  · show Steps p.tables e below (T25.setTop (mkF m 31 #[.val (.long y0), .second, .val (.ref w_KEY_EXISTS)] [(.int (1 : Int32))])) _
    exact retN X25 hx (t := .boolean) Bd.returns (by simp) (hb hby d_method_2_code_31) hr
  · show Q_rm_expected_7 Z y0 w_KEY_EXISTS h0 n0 _ T25.heap _
    rw [e25]
    exact ⟨rfl, N0, rfl⟩
theorem ef_rm_init_8 (m : MethodId) (x0 : Addr) : entryFrame m #[(.ref x0)] 1 = mkF m 0 #[.val (.ref x0)] [] := by first | (simp [entryFrame, mkF, argsToLocals, Value.category]; done) | rfl
def Q_rm_init_8 (Z : State) (x0 : Addr) (h0 : Heap) (n0 : Nat) (v : Option Value) (h : Heap) (L : List Loc) : Prop := v = none ∧ Fr n0 L ∧ h = h0
set_option maxRecDepth 65536 in
set_option maxHeartbeats 40000000 in
theorem rm_init_8 (l : Launch) (Z : State) (a0 : Array Value) (hw : ∀ d ∈ tables_1, d.before a0 Z = true) (ws : List Jvm.Cond) (x0 : Addr) (h0 : Heap) (n0 : Nat) (O0 : Old Z n0 h0)   :
    MetFree l (⟨"com/example/anchordb/anchordb/Condition$Absent", "<init>", "()V"⟩ : MethodName) (head1 (Jvm.Cond.code (⟨"com/example/anchordb/anchordb/Condition$Absent", "<init>", "()V"⟩ : MethodName) prog_3_method_1_code 1 none :: ws) ({ frames := 2, cells := 0, slots := 0, locals := 24 } : Room)) (fun a U => a = #[(.ref x0)] ∧ Z.Warmed39 U.vm ∧ U.heap = h0) (fun _ _ _ _ _ => True) (fun _ U o U' => ∃ v L, o = .returned v ∧ Q_rm_init_8 Z x0 h0 n0 v U'.heap L ∧ FrameEnd U o U' L ({ frames := 2, cells := 0, slots := 0, locals := 24 } : Room).cells ({ frames := 2, cells := 0, slots := 0, locals := 24 } : Room).slots) := by
  refine MetFree.of_bodySF (plainFor_of_name pn_com_example_anchordb_anchordb_Condition_Absent) hisR ?_
  intro p e s m args below meth c s₁ Bd hml0 hP hK
  obtain ⟨rfl, hZ, hh⟩ := hP
  have hx := Bd.exec
  have hby := Bd.bytes
  have hml : c.maxLocals = 1 := hml0
  have hown : s.vm.findClass "com/example/anchordb/anchordb/Condition$Absent" = some m.cls := findClass_of_methodNamed Bd.named
  have hnm := (name_of_methodNamed Bd.named Bd.method).1
  have X0 : Stand p l e ({ frames := 2, cells := 0, slots := 0, locals := 24 } : Room) s m #[(.ref x0)] below meth c s₁ [] 0 0 := Stand.of_body Bd
  have e0 : s₁.heap = h0 := by rw [← hh, Bd.state]; rfl
  have N0 := Fr.nil n0
  have pre0 : ∀ t, Steps p.tables e below (s₁.setTop (mkF m 0 #[.val (.ref x0)] [])) t → Steps p.tables e below (s₁.setTop (entryFrame m #[(.ref x0)] 1)) t := fun t k => castTop (ef_rm_init_8 m x0) k
  have K0 := Keep.refl h0 []
  obtain ⟨_, _, ⟨T31, L31, k31, n31⟩, -, X31, ⟨Lc31, hQ31, l31, y31, z31⟩, st31⟩ := X0.specialBack hx (y := (⟨"java/lang/Record", "<init>", "()V"⟩ : MethodName)) rfl hown (mvT hZ (hw _ (List.mem_of_getElem? (i := 6) rfl))) (mvT hZ (hw _ (List.mem_of_getElem? (i := 7) rfl))) (mvT hZ (hw _ (List.mem_of_getElem? (i := 10) rfl))) (by decide) (backOf (W := 0) (rm_init_2 l Z a0 hw [] x0 h0 n0 O0  ) hZ (hw _ (List.mem_of_getElem? (i := 10) rfl)) (hw _ (List.mem_of_getElem? (i := 9) rfl)) (by decide) (by decide)) (g := (mkF m 1 #[.val (.ref x0)] [(.ref x0)])) rfl (by rw [hml]; rfl) (Steps.refl _) (a := x0) (argsL := []) (rest := []) (lenOf pd___V rfl) rfl (by show 2 * 0 + _ ≤ _; exact Nat.le_of_eq rfl) (hb hby d_prog_3_method_1_code_1) (fun _ _ => ⟨rfl, e0, (by decide : 0 + 0 ≤ _), (by decide : 0 + 0 ≤ _)⟩)
  dsimp only [Pt.U, Pt.locs, Pt.cells, Pt.slots] at X31 l31 y31 z31 st31 hQ31
  subst l31 y31 z31
  obtain ⟨rfl, N31q, e31⟩ := hQ31
  have N31 := Fr.app N0 N31q
  have pre32 : ∀ t, Steps p.tables e below (T31.setTop (mkF m 4 #[.val (.ref x0)] [])) t → Steps p.tables e below (s₁.setTop (entryFrame m #[(.ref x0)] 1)) t := by
    intro t kt
    refine pre0 t ?_
    show Steps p.tables e below (s₁.setTop (mkF m 0 #[.val (.ref x0)] [])) _
    refine XS.aloadN X0.here hx rfl (hb hby d_prog_3_method_1_code_0) rfl rfl ?_
    show Steps p.tables e below (s₁.setTop (mkF m 1 #[.val (.ref x0)] [(.ref x0)])) _
    refine st31.trans ?_
    exact kt
  obtain ⟨fs, hr, hrun, hended, hW, hsame⟩ := X31.leave (v := none) (fun _ => rfl)
  refine ⟨_, _, pre32 _ ?_, hrun, hended, _, _, rfl, ?_, ⟨_, rfl⟩, hW, hsame.mono (by decide) (by decide)⟩
  · show Steps p.tables e below (T31.setTop (mkF m 4 #[.val (.ref x0)] [])) _
    exact X31.returnOut hx Bd.returns (hb hby d_prog_3_method_1_code_4) hr
  · show Q_rm_init_8 Z x0 h0 n0 _ T31.heap _
    rw [e31]
    exact ⟨rfl, N31, rfl⟩
theorem pd__J_Lcom_example_anchordb_anchordb_Status_ : parseMethodDescriptor "(J)Lcom/example/anchordb/anchordb/Status;" = some ⟨[.long], some (.object "com/example/anchordb/anchordb/Status")⟩ := by decide +kernel
theorem pd__JLcom_example_anchordb_anchordb_Status__Z : parseMethodDescriptor "(JLcom/example/anchordb/anchordb/Status;)Z" = some ⟨[.long, (.object "com/example/anchordb/anchordb/Status")], some .boolean⟩ := by decide +kernel
theorem ef_rm0 (m : MethodId) (q0 : Int64) (q1 : Int64) : entryFrame m #[(.long q0), (.long q1)] maxLocals = mkF m 0 #[.val (.long q0), .second, .val (.long q1), .second, .unset, .unset, .unset, .unset, .unset, .unset] [] := by first | (simp [entryFrame, mkF, argsToLocals, Value.category, maxLocals]; done) | rfl
def Q_rm0 (Z : State) (q0 : Int64) (q1 : Int64) (w_OK : Addr) (w_KEY_EXISTS : Addr) (h0 : Heap) (n0 : Nat) (v : Option Value) (h : Heap) (L : List Loc) : Prop := v = some (.int 1) ∧ Fr n0 L
set_option maxRecDepth 65536 in
set_option maxHeartbeats 40000000 in
theorem rm0 (l : Launch) (Z : State) (a0 : Array Value) (hw : ∀ d ∈ tables_1, d.before a0 Z = true) (ws : List Jvm.Cond) (q0 : Int64) (q1 : Int64) (w_OK : Addr) (w_KEY_EXISTS : Addr) (h0 : Heap) (n0 : Nat) (O0 : Old Z n0 h0) (S_OK : Sta Z Z.heap "com/example/anchordb/anchordb/Status" "OK" "Lcom/example/anchordb/anchordb/Status;" (.ref w_OK)) (S_KEY_EXISTS : Sta Z Z.heap "com/example/anchordb/anchordb/Status" "KEY_EXISTS" "Lcom/example/anchordb/anchordb/Status;" (.ref w_KEY_EXISTS)) :
    MetFree l x (head1 (Jvm.Cond.code x code maxLocals ret :: ws) room_1) (fun a U => a = #[(.long q0), (.long q1)] ∧ Z.Warmed39 U.vm ∧ U.heap = h0) (fun _ _ _ _ _ => True) (fun _ U o U' => ∃ v L, o = .returned v ∧ Q_rm0 Z q0 q1 w_OK w_KEY_EXISTS h0 n0 v U'.heap L ∧ FrameEnd U o U' L room_1.cells room_1.slots) := by
  refine MetFree.of_bodySF (plainFor_of_name pn_com_example_anchordb_anchordb_AbsentCheckPinLaw) hisR ?_
  intro p e s m args below meth c s₁ Bd hml0 hP hK
  obtain ⟨rfl, hZ, hh⟩ := hP
  have hx := Bd.exec
  have hby := Bd.bytes
  have hml : c.maxLocals = 10 := hml0
  have hown : s.vm.findClass "com/example/anchordb/anchordb/AbsentCheckPinLaw" = some m.cls := findClass_of_methodNamed Bd.named
  have hnm := (name_of_methodNamed Bd.named Bd.method).1
  have X0 : Stand p l e room_1 s m #[(.long q0), (.long q1)] below meth c s₁ [] 0 0 := Stand.of_body Bd
  have e0 : s₁.heap = h0 := by rw [← hh, Bd.state]; rfl
  have N0 := Fr.nil n0
  have pre0 : ∀ t, Steps p.tables e below (s₁.setTop (mkF m 0 #[.val (.long q0), .second, .val (.long q1), .second, .unset, .unset, .unset, .unset, .unset, .unset] [])) t → Steps p.tables e below (s₁.setTop (entryFrame m #[(.long q0), (.long q1)] maxLocals)) t := fun t k => castTop (ef_rm0 m q0 q1) k
  by_cases h0q : q0 = (0 : Int64)
  · obtain ⟨T1, h1, X1, e1, E1, A1, D1, -, st1⟩ := newO X0 hx hZ hown (hw _ (List.mem_of_getElem? (i := 0) rfl)) (hw _ (List.mem_of_getElem? (i := 1) rfl)) (hw _ (List.mem_of_getElem? (i := 2) rfl)) e0 (g := (mkF m 0 #[.val (.long q0), .second, .val (.long q1), .second, .unset, .unset, .unset, .unset, .unset, .unset] [])) rfl (hb hby at_0) (by decide) (by decide)
    obtain ⟨b1, g1⟩ : ∃ z, z = h0.size := ⟨_, rfl⟩
    have ge_b1 : n0 ≤ b1 := Nat.le_trans (own_z O0) (Nat.le_of_eq g1.symm)
    rw [← g1] at A1 D1 st1
    have O1 := O0.ext E1
    have E_b1 := A1
    obtain ⟨_, _, ⟨T2, L2, k2, n2⟩, -, X2, ⟨Lc2, hQ2, l2, y2, z2⟩, st2⟩ := X1.specialBack hx (y := (⟨"com/example/anchordb/anchordb/Condition$Absent", "<init>", "()V"⟩ : MethodName)) rfl hown (mvT hZ (hw _ (List.mem_of_getElem? (i := 3) rfl))) (mvT hZ (hw _ (List.mem_of_getElem? (i := 4) rfl))) (mvT hZ (hw _ (List.mem_of_getElem? (i := 5) rfl))) (by decide) (backOf (W := 1) (rm_init_1 l Z a0 hw [] b1 h1 n0 O1  ) hZ (hw _ (List.mem_of_getElem? (i := 5) rfl)) (hw _ (List.mem_of_getElem? (i := 2) rfl)) (by decide) (by decide)) (g := (mkF m 4 #[.val (.long q0), .second, .val (.long q1), .second, .unset, .unset, .unset, .unset, .unset, .unset] [(.ref b1), (.ref b1)])) rfl (by rw [hml]; rfl) (Steps.refl _) (a := b1) (argsL := []) (rest := [(.ref b1)]) (lenOf pd___V rfl) rfl (by show 2 * 0 + _ ≤ _; exact Nat.le_of_eq rfl) (hb hby at_4) (fun _ _ => ⟨rfl, e1, (by decide : 1 + 0 ≤ _), (by decide : 0 + 0 ≤ _)⟩)
    dsimp only [Pt.U, Pt.locs, Pt.cells, Pt.slots] at X2 l2 y2 z2 st2 hQ2
    subst l2 y2 z2
    obtain ⟨rfl, N2q, e2⟩ := hQ2
    have N2 := Fr.app N0 N2q
    obtain ⟨cq7, kq7, q7a, q7b, q7c⟩ := isOf hZ e2 E_b1
    obtain ⟨_, _, ⟨T7, L7, k7, n7⟩, -, X7, ⟨Lc7, hQ7, l7, y7, z7⟩, st7⟩ := X2.virtualBack hx (y := (⟨"com/example/anchordb/anchordb/Condition$Absent", "check", "(J)Lcom/example/anchordb/anchordb/Status;"⟩ : MethodName)) (z := (⟨"com/example/anchordb/anchordb/Condition$Absent", "check", "(J)Lcom/example/anchordb/anchordb/Status;"⟩ : MethodName)) hown (mvT hZ (hw _ (List.mem_of_getElem? (i := 14) rfl))) (mvT hZ (hw _ (List.mem_of_getElem? (i := 15) rfl))) (notFace_of_selects (args := #[]) (mvT hZ (hw _ (List.mem_of_getElem? (i := 17) rfl)))) (mvT hZ (hw _ (List.mem_of_getElem? (i := 17) rfl))) (mvT hZ (hw _ (List.mem_of_getElem? (i := 16) rfl))) (by decide) (backOf (W := 0) (rm_check_3 l Z a0 hw [] b1 q0 w_OK h1 n0 O1 ((lw_eq _ _).mpr h0q) S_OK) hZ (hw _ (List.mem_of_getElem? (i := 18) rfl)) (hw _ (List.mem_of_getElem? (i := 2) rfl)) (by decide) (by decide)) q7a q7c (g := (mkF m 12 #[.val (.long q0), .second, .val (.long q1), .second, .val (.ref b1), .unset, .unset, .unset, .unset, .unset] [(.long q0), (.ref b1)])) rfl (by rw [hml]; rfl) (Steps.refl _) (argsL := [(.long q0)]) (rest := []) (lenOf pd__J_Lcom_example_anchordb_anchordb_Status_ rfl) rfl (by show 2 * 0 + _ ≤ _; exact Nat.le_of_eq rfl) (hb hby at_12) (fun _ _ => ⟨rfl, e2, (by decide : 1 + 0 ≤ _), (by decide : 0 + 0 ≤ _)⟩)
    dsimp only [Pt.U, Pt.locs, Pt.cells, Pt.slots] at X7 l7 y7 z7 st7 hQ7
    subst l7 y7 z7
    obtain ⟨rfl, N7q, e7⟩ := hQ7
    have N7 := Fr.app N2 N7q
    obtain ⟨cq10, kq10, q10a, q10b, q10c⟩ := isOf hZ e7 E_b1
    obtain ⟨_, _, ⟨T10, L10, k10, n10⟩, -, X10, ⟨Lc10, hQ10, l10, y10, z10⟩, st10⟩ := X7.virtualBack hx (y := (⟨"com/example/anchordb/anchordb/Condition$Absent", "check", "(J)Lcom/example/anchordb/anchordb/Status;"⟩ : MethodName)) (z := (⟨"com/example/anchordb/anchordb/Condition$Absent", "check", "(J)Lcom/example/anchordb/anchordb/Status;"⟩ : MethodName)) hown (mvT hZ (hw _ (List.mem_of_getElem? (i := 14) rfl))) (mvT hZ (hw _ (List.mem_of_getElem? (i := 15) rfl))) (notFace_of_selects (args := #[]) (mvT hZ (hw _ (List.mem_of_getElem? (i := 17) rfl)))) (mvT hZ (hw _ (List.mem_of_getElem? (i := 17) rfl))) (mvT hZ (hw _ (List.mem_of_getElem? (i := 16) rfl))) (by decide) (backOf (W := 0) (rm_check_4 l Z a0 hw [] b1 w_OK h1 n0 O1  S_OK) hZ (hw _ (List.mem_of_getElem? (i := 18) rfl)) (hw _ (List.mem_of_getElem? (i := 2) rfl)) (by decide) (by decide)) q10a q10c (g := (mkF m 20 #[.val (.long q0), .second, .val (.long q1), .second, .val (.ref b1), .val (.ref w_OK), .unset, .unset, .unset, .unset] [(.long (0 : Int64)), (.ref b1)])) rfl (by rw [hml]; rfl) (Steps.refl _) (argsL := [(.long (0 : Int64))]) (rest := []) (lenOf pd__J_Lcom_example_anchordb_anchordb_Status_ rfl) rfl (by show 2 * 0 + _ ≤ _; exact Nat.le_of_eq rfl) (hb hby at_20) (fun _ _ => ⟨rfl, e7, (by decide : 1 + 0 ≤ _), (by decide : 0 + 0 ≤ _)⟩)
    dsimp only [Pt.U, Pt.locs, Pt.cells, Pt.slots] at X10 l10 y10 z10 st10 hQ10
    subst l10 y10 z10
    obtain ⟨rfl, N10q, e10⟩ := hQ10
    have N10 := Fr.app N7 N10q
    obtain ⟨cq15, kq15, q15a, q15b, q15c⟩ := isOf hZ e10 E_b1
    obtain ⟨_, _, ⟨T15, L15, k15, n15⟩, -, X15, ⟨Lc15, hQ15, l15, y15, z15⟩, st15⟩ := X10.virtualBack hx (y := (⟨"com/example/anchordb/anchordb/Condition$Absent", "check", "(J)Lcom/example/anchordb/anchordb/Status;"⟩ : MethodName)) (z := (⟨"com/example/anchordb/anchordb/Condition$Absent", "check", "(J)Lcom/example/anchordb/anchordb/Status;"⟩ : MethodName)) hown (mvT hZ (hw _ (List.mem_of_getElem? (i := 14) rfl))) (mvT hZ (hw _ (List.mem_of_getElem? (i := 15) rfl))) (notFace_of_selects (args := #[]) (mvT hZ (hw _ (List.mem_of_getElem? (i := 17) rfl)))) (mvT hZ (hw _ (List.mem_of_getElem? (i := 17) rfl))) (mvT hZ (hw _ (List.mem_of_getElem? (i := 16) rfl))) (by decide) (backOf (W := 0) (rm_check_5 l Z a0 hw [] b1 (q1 ||| (1 : Int64)) w_KEY_EXISTS h1 n0 O1 (fun q => own_nz q1 ((lw_eq _ _).mp q)) S_KEY_EXISTS) hZ (hw _ (List.mem_of_getElem? (i := 18) rfl)) (hw _ (List.mem_of_getElem? (i := 2) rfl)) (by decide) (by decide)) q15a q15c (g := (mkF m 34 #[.val (.long q0), .second, .val (.long q1), .second, .val (.ref b1), .val (.ref w_OK), .val (.ref w_OK), .val (.long (q1 ||| (1 : Int64))), .second, .unset] [(.long (q1 ||| (1 : Int64))), (.ref b1)])) rfl (by rw [hml]; rfl) (Steps.refl _) (argsL := [(.long (q1 ||| (1 : Int64)))]) (rest := []) (lenOf pd__J_Lcom_example_anchordb_anchordb_Status_ rfl) rfl (by show 2 * 0 + _ ≤ _; exact Nat.le_of_eq rfl) (hb hby at_34) (fun _ _ => ⟨rfl, e10, (by decide : 1 + 0 ≤ _), (by decide : 0 + 0 ≤ _)⟩)
    dsimp only [Pt.U, Pt.locs, Pt.cells, Pt.slots] at X15 l15 y15 z15 st15 hQ15
    subst l15 y15 z15
    obtain ⟨rfl, N15q, e15⟩ := hQ15
    have N15 := Fr.app N10 N15q
    obtain ⟨_, _, ⟨T18, L18, k18, n18⟩, -, X18, ⟨Lc18, hQ18, l18, y18, z18⟩, st18⟩ := Jvm.LawKit.callS X15 hx (y := (⟨"com/example/anchordb/anchordb/AbsentCheckPinLaw", "expected", "(JLcom/example/anchordb/anchordb/Status;)Z"⟩ : MethodName)) hown (mvT hZ (hw _ (List.mem_of_getElem? (i := 24) rfl))) (mvT hZ (hw _ (List.mem_of_getElem? (i := 25) rfl))) (mvT hZ (hw _ (List.mem_of_getElem? (i := 26) rfl))) (mvT hZ (hw _ (List.mem_of_getElem? (i := 27) rfl))) (by decide) (backOf (W := 0) (rm_expected_6 l Z a0 hw [] q0 w_OK h1 n0 O1 ((lw_eq _ _).mpr h0q) S_OK) hZ (hw _ (List.mem_of_getElem? (i := 27) rfl)) (hw _ (List.mem_of_getElem? (i := 26) rfl)) (by decide) (by decide)) (g := (mkF m 42 #[.val (.long q0), .second, .val (.long q1), .second, .val (.ref b1), .val (.ref w_OK), .val (.ref w_OK), .val (.long (q1 ||| (1 : Int64))), .second, .val (.ref w_KEY_EXISTS)] [(.ref w_OK), (.long q0)])) rfl (by rw [hml]; rfl) (argsL := [(.long q0), (.ref w_OK)]) (rest := []) (lenOf pd__JLcom_example_anchordb_anchordb_Status__Z rfl) rfl (by show 2 * 0 + _ ≤ _; exact Nat.le_of_eq rfl) (hb hby at_42) (fun _ _ => ⟨rfl, e15, (by decide : 1 + 0 ≤ _), (by decide : 0 + 0 ≤ _)⟩)
    dsimp only [Pt.U, Pt.locs, Pt.cells, Pt.slots] at X18 l18 y18 z18 st18 hQ18
    subst l18 y18 z18
    obtain ⟨rfl, N18q, e18⟩ := hQ18
    have N18 := Fr.app N15 N18q
    obtain ⟨T22, X22, e22, st22⟩ := getS2 X18 hx hZ hown (host := "") (Or.inl (hw _ (List.mem_of_getElem? (i := 29) rfl))) Via.refl e18 (S_OK.ext O1.2) (g := (mkF m 50 #[.val (.long q0), .second, .val (.long q1), .second, .val (.ref b1), .val (.ref w_OK), .val (.ref w_OK), .val (.long (q1 ||| (1 : Int64))), .second, .val (.ref w_KEY_EXISTS)] [(.ref w_OK)])) rfl (hb hby at_50)
    obtain ⟨T23, X23, e23, st23⟩ := getS2 X22 hx hZ hown (host := "") (Or.inl (hw _ (List.mem_of_getElem? (i := 28) rfl))) Via.refl e22 (S_KEY_EXISTS.ext O1.2) (g := (mkF m 58 #[.val (.long q0), .second, .val (.long q1), .second, .val (.ref b1), .val (.ref w_OK), .val (.ref w_OK), .val (.long (q1 ||| (1 : Int64))), .second, .val (.ref w_KEY_EXISTS)] [(.ref w_KEY_EXISTS)])) rfl (hb hby at_58)
    obtain ⟨_, _, ⟨T24, L24, k24, n24⟩, -, X24, ⟨Lc24, hQ24, l24, y24, z24⟩, st24⟩ := Jvm.LawKit.callS X23 hx (y := (⟨"com/example/anchordb/anchordb/AbsentCheckPinLaw", "expected", "(JLcom/example/anchordb/anchordb/Status;)Z"⟩ : MethodName)) hown (mvT hZ (hw _ (List.mem_of_getElem? (i := 24) rfl))) (mvT hZ (hw _ (List.mem_of_getElem? (i := 25) rfl))) (mvT hZ (hw _ (List.mem_of_getElem? (i := 26) rfl))) (mvT hZ (hw _ (List.mem_of_getElem? (i := 27) rfl))) (by decide) (backOf (W := 0) (rm_expected_7 l Z a0 hw [] (q1 ||| (1 : Int64)) w_KEY_EXISTS h1 n0 O1 (fun q => own_nz q1 ((lw_eq _ _).mp q)) S_KEY_EXISTS) hZ (hw _ (List.mem_of_getElem? (i := 27) rfl)) (hw _ (List.mem_of_getElem? (i := 26) rfl)) (by decide) (by decide)) (g := (mkF m 68 #[.val (.long q0), .second, .val (.long q1), .second, .val (.ref b1), .val (.ref w_OK), .val (.ref w_OK), .val (.long (q1 ||| (1 : Int64))), .second, .val (.ref w_KEY_EXISTS)] [(.ref w_KEY_EXISTS), (.long (q1 ||| (1 : Int64)))])) rfl (by rw [hml]; rfl) (argsL := [(.long (q1 ||| (1 : Int64))), (.ref w_KEY_EXISTS)]) (rest := []) (lenOf pd__JLcom_example_anchordb_anchordb_Status__Z rfl) rfl (by show 2 * 0 + _ ≤ _; exact Nat.le_of_eq rfl) (hb hby at_68) (fun _ _ => ⟨rfl, e23, (by decide : 1 + 0 ≤ _), (by decide : 0 + 0 ≤ _)⟩)
    dsimp only [Pt.U, Pt.locs, Pt.cells, Pt.slots] at X24 l24 y24 z24 st24 hQ24
    subst l24 y24 z24
    obtain ⟨rfl, N24q, e24⟩ := hQ24
    have N24 := Fr.app N18 N24q
    have pre28 : ∀ t, Steps p.tables e below (T24.setTop (mkF m 79 #[.val (.long q0), .second, .val (.long q1), .second, .val (.ref b1), .val (.ref w_OK), .val (.ref w_OK), .val (.long (q1 ||| (1 : Int64))), .second, .val (.ref w_KEY_EXISTS)] [(.int (1 : Int32))])) t → Steps p.tables e below (s₁.setTop (entryFrame m #[(.long q0), (.long q1)] maxLocals)) t := by
      intro t kt
      refine pre0 t ?_
      show Steps p.tables e below (s₁.setTop (mkF m 0 #[.val (.long q0), .second, .val (.long q1), .second, .unset, .unset, .unset, .unset, .unset, .unset] [])) _
      refine st1 _ ?_
      show Steps p.tables e below (T1.setTop (mkF m 3 #[.val (.long q0), .second, .val (.long q1), .second, .unset, .unset, .unset, .unset, .unset, .unset] [(.ref b1)])) _
      refine XS.dup X1.here hx rfl (hb hby at_3) rfl rfl ?_
      show Steps p.tables e below (T1.setTop (mkF m 4 #[.val (.long q0), .second, .val (.long q1), .second, .unset, .unset, .unset, .unset, .unset, .unset] [(.ref b1), (.ref b1)])) _
      refine st2.trans ?_
      show Steps p.tables e below (T2.setTop (mkF m 7 #[.val (.long q0), .second, .val (.long q1), .second, .unset, .unset, .unset, .unset, .unset, .unset] [(.ref b1)])) _
      refine XS.astore X2.here hx rfl (hb hby at_7) rfl rfl (l' := #[.val (.long q0), .second, .val (.long q1), .second, .val (.ref b1), .unset, .unset, .unset, .unset, .unset]) rfl ?_
      show Steps p.tables e below (T2.setTop (mkF m 9 #[.val (.long q0), .second, .val (.long q1), .second, .val (.ref b1), .unset, .unset, .unset, .unset, .unset] [])) _
      refine XS.aload X2.here hx rfl (hb hby at_9) rfl rfl ?_
      show Steps p.tables e below (T2.setTop (mkF m 11 #[.val (.long q0), .second, .val (.long q1), .second, .val (.ref b1), .unset, .unset, .unset, .unset, .unset] [(.ref b1)])) _
      refine XS.lloadN X2.here hx rfl (hb hby at_11) rfl ?_
      show Steps p.tables e below (T2.setTop (mkF m 12 #[.val (.long q0), .second, .val (.long q1), .second, .val (.ref b1), .unset, .unset, .unset, .unset, .unset] [(.long q0), (.ref b1)])) _
      refine st7.trans ?_
      show Steps p.tables e below (T7.setTop (mkF m 15 #[.val (.long q0), .second, .val (.long q1), .second, .val (.ref b1), .unset, .unset, .unset, .unset, .unset] [(.ref w_OK)])) _
      refine XS.astore X7.here hx rfl (hb hby at_15) rfl rfl (l' := #[.val (.long q0), .second, .val (.long q1), .second, .val (.ref b1), .val (.ref w_OK), .unset, .unset, .unset, .unset]) rfl ?_
      show Steps p.tables e below (T7.setTop (mkF m 17 #[.val (.long q0), .second, .val (.long q1), .second, .val (.ref b1), .val (.ref w_OK), .unset, .unset, .unset, .unset] [])) _
      refine XS.aload X7.here hx rfl (hb hby at_17) rfl rfl ?_
      show Steps p.tables e below (T7.setTop (mkF m 19 #[.val (.long q0), .second, .val (.long q1), .second, .val (.ref b1), .val (.ref w_OK), .unset, .unset, .unset, .unset] [(.ref b1)])) _
      refine XS.lconst X7.here hx rfl (hb hby at_19) ?_
      show Steps p.tables e below (T7.setTop (mkF m 20 #[.val (.long q0), .second, .val (.long q1), .second, .val (.ref b1), .val (.ref w_OK), .unset, .unset, .unset, .unset] [(.long (0 : Int64)), (.ref b1)])) _
      refine st10.trans ?_
      show Steps p.tables e below (T10.setTop (mkF m 23 #[.val (.long q0), .second, .val (.long q1), .second, .val (.ref b1), .val (.ref w_OK), .unset, .unset, .unset, .unset] [(.ref w_OK)])) _
      refine XS.astore X10.here hx rfl (hb hby at_23) rfl rfl (l' := #[.val (.long q0), .second, .val (.long q1), .second, .val (.ref b1), .val (.ref w_OK), .val (.ref w_OK), .unset, .unset, .unset]) rfl ?_
      show Steps p.tables e below (T10.setTop (mkF m 25 #[.val (.long q0), .second, .val (.long q1), .second, .val (.ref b1), .val (.ref w_OK), .val (.ref w_OK), .unset, .unset, .unset] [])) _
      refine XS.lloadN X10.here hx rfl (hb hby at_25) rfl ?_
      show Steps p.tables e below (T10.setTop (mkF m 26 #[.val (.long q0), .second, .val (.long q1), .second, .val (.ref b1), .val (.ref w_OK), .val (.ref w_OK), .unset, .unset, .unset] [(.long q1)])) _
      refine XS.lconst X10.here hx rfl (hb hby at_26) ?_
      show Steps p.tables e below (T10.setTop (mkF m 27 #[.val (.long q0), .second, .val (.long q1), .second, .val (.ref b1), .val (.ref w_OK), .val (.ref w_OK), .unset, .unset, .unset] [(.long (1 : Int64)), (.long q1)])) _
      refine XS.lor X10.here hx rfl (hb hby at_27) rfl ?_
      show Steps p.tables e below (T10.setTop (mkF m 28 #[.val (.long q0), .second, .val (.long q1), .second, .val (.ref b1), .val (.ref w_OK), .val (.ref w_OK), .unset, .unset, .unset] [(.long (q1 ||| (1 : Int64)))])) _
      refine XS.lstore X10.here hx rfl (hb hby at_28) rfl (l' := #[.val (.long q0), .second, .val (.long q1), .second, .val (.ref b1), .val (.ref w_OK), .val (.ref w_OK), .val (.long (q1 ||| (1 : Int64))), .second, .unset]) rfl ?_
      show Steps p.tables e below (T10.setTop (mkF m 30 #[.val (.long q0), .second, .val (.long q1), .second, .val (.ref b1), .val (.ref w_OK), .val (.ref w_OK), .val (.long (q1 ||| (1 : Int64))), .second, .unset] [])) _
      refine XS.aload X10.here hx rfl (hb hby at_30) rfl rfl ?_
      show Steps p.tables e below (T10.setTop (mkF m 32 #[.val (.long q0), .second, .val (.long q1), .second, .val (.ref b1), .val (.ref w_OK), .val (.ref w_OK), .val (.long (q1 ||| (1 : Int64))), .second, .unset] [(.ref b1)])) _
      refine XS.lload X10.here hx rfl (hb hby at_32) rfl ?_
      show Steps p.tables e below (T10.setTop (mkF m 34 #[.val (.long q0), .second, .val (.long q1), .second, .val (.ref b1), .val (.ref w_OK), .val (.ref w_OK), .val (.long (q1 ||| (1 : Int64))), .second, .unset] [(.long (q1 ||| (1 : Int64))), (.ref b1)])) _
      refine st15.trans ?_
      show Steps p.tables e below (T15.setTop (mkF m 37 #[.val (.long q0), .second, .val (.long q1), .second, .val (.ref b1), .val (.ref w_OK), .val (.ref w_OK), .val (.long (q1 ||| (1 : Int64))), .second, .unset] [(.ref w_KEY_EXISTS)])) _
      refine XS.astore X15.here hx rfl (hb hby at_37) rfl rfl (l' := #[.val (.long q0), .second, .val (.long q1), .second, .val (.ref b1), .val (.ref w_OK), .val (.ref w_OK), .val (.long (q1 ||| (1 : Int64))), .second, .val (.ref w_KEY_EXISTS)]) rfl ?_
      show Steps p.tables e below (T15.setTop (mkF m 39 #[.val (.long q0), .second, .val (.long q1), .second, .val (.ref b1), .val (.ref w_OK), .val (.ref w_OK), .val (.long (q1 ||| (1 : Int64))), .second, .val (.ref w_KEY_EXISTS)] [])) _
      refine XS.lloadN X15.here hx rfl (hb hby at_39) rfl ?_
      show Steps p.tables e below (T15.setTop (mkF m 40 #[.val (.long q0), .second, .val (.long q1), .second, .val (.ref b1), .val (.ref w_OK), .val (.ref w_OK), .val (.long (q1 ||| (1 : Int64))), .second, .val (.ref w_KEY_EXISTS)] [(.long q0)])) _
      refine XS.aload X15.here hx rfl (hb hby at_40) rfl rfl ?_
      show Steps p.tables e below (T15.setTop (mkF m 42 #[.val (.long q0), .second, .val (.long q1), .second, .val (.ref b1), .val (.ref w_OK), .val (.ref w_OK), .val (.long (q1 ||| (1 : Int64))), .second, .val (.ref w_KEY_EXISTS)] [(.ref w_OK), (.long q0)])) _
      refine st18 _ ?_
      show Steps p.tables e below (T18.setTop (mkF m 45 #[.val (.long q0), .second, .val (.long q1), .second, .val (.ref b1), .val (.ref w_OK), .val (.ref w_OK), .val (.long (q1 ||| (1 : Int64))), .second, .val (.ref w_KEY_EXISTS)] [(.int (1 : Int32))])) _
      refine XS.ifNo X18.here hx rfl (hb hby at_45) rfl ((if0 _ _).trans (feq (by decide : ¬ ((1 : Int32) = (0 : Int32)))).1) ?_
      show Steps p.tables e below (T18.setTop (mkF m 48 #[.val (.long q0), .second, .val (.long q1), .second, .val (.ref b1), .val (.ref w_OK), .val (.ref w_OK), .val (.long (q1 ||| (1 : Int64))), .second, .val (.ref w_KEY_EXISTS)] [])) _
      refine XS.aload X18.here hx rfl (hb hby at_48) rfl rfl ?_
      show Steps p.tables e below (T18.setTop (mkF m 50 #[.val (.long q0), .second, .val (.long q1), .second, .val (.ref b1), .val (.ref w_OK), .val (.ref w_OK), .val (.long (q1 ||| (1 : Int64))), .second, .val (.ref w_KEY_EXISTS)] [(.ref w_OK)])) _
      refine st22 _ ?_
      show Steps p.tables e below (T22.setTop (mkF m 53 #[.val (.long q0), .second, .val (.long q1), .second, .val (.ref b1), .val (.ref w_OK), .val (.ref w_OK), .val (.long (q1 ||| (1 : Int64))), .second, .val (.ref w_KEY_EXISTS)] [(.ref w_OK), (.ref w_OK)])) _
      refine Jvm.RoadKit.acmp (g := (mkF m 53 #[.val (.long q0), .second, .val (.long q1), .second, .val (.ref b1), .val (.ref w_OK), .val (.ref w_OK), .val (.long (q1 ||| (1 : Int64))), .second, .val (.ref w_KEY_EXISTS)] [(.ref w_OK), (.ref w_OK)])) X22 hx rfl rfl rfl (pc0 := 53) (pc' := 56) (same := true) rfl (hb hby at_53) rfl (decide_eq_true rfl) (by decide) (by decide) ?_
      show Steps p.tables e below (T22.setTop (mkF m 56 #[.val (.long q0), .second, .val (.long q1), .second, .val (.ref b1), .val (.ref w_OK), .val (.ref w_OK), .val (.long (q1 ||| (1 : Int64))), .second, .val (.ref w_KEY_EXISTS)] [])) _
      refine XS.aload X22.here hx rfl (hb hby at_56) rfl rfl ?_
      show Steps p.tables e below (T22.setTop (mkF m 58 #[.val (.long q0), .second, .val (.long q1), .second, .val (.ref b1), .val (.ref w_OK), .val (.ref w_OK), .val (.long (q1 ||| (1 : Int64))), .second, .val (.ref w_KEY_EXISTS)] [(.ref w_KEY_EXISTS)])) _
      refine st23 _ ?_
      show Steps p.tables e below (T23.setTop (mkF m 61 #[.val (.long q0), .second, .val (.long q1), .second, .val (.ref b1), .val (.ref w_OK), .val (.ref w_OK), .val (.long (q1 ||| (1 : Int64))), .second, .val (.ref w_KEY_EXISTS)] [(.ref w_KEY_EXISTS), (.ref w_KEY_EXISTS)])) _
      refine Jvm.RoadKit.acmp (g := (mkF m 61 #[.val (.long q0), .second, .val (.long q1), .second, .val (.ref b1), .val (.ref w_OK), .val (.ref w_OK), .val (.long (q1 ||| (1 : Int64))), .second, .val (.ref w_KEY_EXISTS)] [(.ref w_KEY_EXISTS), (.ref w_KEY_EXISTS)])) X23 hx rfl rfl rfl (pc0 := 61) (pc' := 64) (same := true) rfl (hb hby at_61) rfl (decide_eq_true rfl) (by decide) (by decide) ?_
      show Steps p.tables e below (T23.setTop (mkF m 64 #[.val (.long q0), .second, .val (.long q1), .second, .val (.ref b1), .val (.ref w_OK), .val (.ref w_OK), .val (.long (q1 ||| (1 : Int64))), .second, .val (.ref w_KEY_EXISTS)] [])) _
      refine XS.lload X23.here hx rfl (hb hby at_64) rfl ?_
      show Steps p.tables e below (T23.setTop (mkF m 66 #[.val (.long q0), .second, .val (.long q1), .second, .val (.ref b1), .val (.ref w_OK), .val (.ref w_OK), .val (.long (q1 ||| (1 : Int64))), .second, .val (.ref w_KEY_EXISTS)] [(.long (q1 ||| (1 : Int64)))])) _
      refine XS.aload X23.here hx rfl (hb hby at_66) rfl rfl ?_
      show Steps p.tables e below (T23.setTop (mkF m 68 #[.val (.long q0), .second, .val (.long q1), .second, .val (.ref b1), .val (.ref w_OK), .val (.ref w_OK), .val (.long (q1 ||| (1 : Int64))), .second, .val (.ref w_KEY_EXISTS)] [(.ref w_KEY_EXISTS), (.long (q1 ||| (1 : Int64)))])) _
      refine st24 _ ?_
      show Steps p.tables e below (T24.setTop (mkF m 71 #[.val (.long q0), .second, .val (.long q1), .second, .val (.ref b1), .val (.ref w_OK), .val (.ref w_OK), .val (.long (q1 ||| (1 : Int64))), .second, .val (.ref w_KEY_EXISTS)] [(.int (1 : Int32))])) _
      refine XS.ifNo X24.here hx rfl (hb hby at_71) rfl ((if0 _ _).trans (feq (by decide : ¬ ((1 : Int32) = (0 : Int32)))).1) ?_
      show Steps p.tables e below (T24.setTop (mkF m 74 #[.val (.long q0), .second, .val (.long q1), .second, .val (.ref b1), .val (.ref w_OK), .val (.ref w_OK), .val (.long (q1 ||| (1 : Int64))), .second, .val (.ref w_KEY_EXISTS)] [])) _
      refine XS.iconst X24.here hx rfl (hb hby at_74) ?_
      show Steps p.tables e below (T24.setTop (mkF m 75 #[.val (.long q0), .second, .val (.long q1), .second, .val (.ref b1), .val (.ref w_OK), .val (.ref w_OK), .val (.long (q1 ||| (1 : Int64))), .second, .val (.ref w_KEY_EXISTS)] [(.int (1 : Int32))])) _
      refine XS.goto X24.here hx rfl (pc0 := 75) (pc' := 79) rfl (hb hby at_75) (by decide) (by decide) ?_
      exact kt
    obtain ⟨fs, hr, hrun, hended, hW, hsame⟩ := X24.leave (v := some (.int (1 : Int32))) (fun h => by rw [Bd.returns] at h; cases h)
    refine ⟨_, _, pre28 _ ?_, hrun, hended, _, _, rfl, ?_, ⟨_, rfl⟩, hW, hsame.mono (by decide) (by decide)⟩
    · show Steps p.tables e below (T24.setTop (mkF m 79 #[.val (.long q0), .second, .val (.long q1), .second, .val (.ref b1), .val (.ref w_OK), .val (.ref w_OK), .val (.long (q1 ||| (1 : Int64))), .second, .val (.ref w_KEY_EXISTS)] [(.int (1 : Int32))])) _
      exact retN X24 hx (t := .boolean) Bd.returns (by simp) (hb hby at_79) hr
    · show Q_rm0 Z q0 q1 w_OK w_KEY_EXISTS h0 n0 _ T24.heap _
      rw [e24]
      exact ⟨rfl, N24⟩
  · obtain ⟨T29, h29, X29, e29, E29, A29, D29, -, st29⟩ := newO X0 hx hZ hown (hw _ (List.mem_of_getElem? (i := 0) rfl)) (hw _ (List.mem_of_getElem? (i := 1) rfl)) (hw _ (List.mem_of_getElem? (i := 2) rfl)) e0 (g := (mkF m 0 #[.val (.long q0), .second, .val (.long q1), .second, .unset, .unset, .unset, .unset, .unset, .unset] [])) rfl (hb hby at_0) (by decide) (by decide)
    obtain ⟨b29, g29⟩ : ∃ z, z = h0.size := ⟨_, rfl⟩
    have ge_b29 : n0 ≤ b29 := Nat.le_trans (own_z O0) (Nat.le_of_eq g29.symm)
    rw [← g29] at A29 D29 st29
    have O29 := O0.ext E29
    have E_b29 := A29
    obtain ⟨_, _, ⟨T30, L30, k30, n30⟩, -, X30, ⟨Lc30, hQ30, l30, y30, z30⟩, st30⟩ := X29.specialBack hx (y := (⟨"com/example/anchordb/anchordb/Condition$Absent", "<init>", "()V"⟩ : MethodName)) rfl hown (mvT hZ (hw _ (List.mem_of_getElem? (i := 3) rfl))) (mvT hZ (hw _ (List.mem_of_getElem? (i := 4) rfl))) (mvT hZ (hw _ (List.mem_of_getElem? (i := 5) rfl))) (by decide) (backOf (W := 1) (rm_init_8 l Z a0 hw [] b29 h29 n0 O29  ) hZ (hw _ (List.mem_of_getElem? (i := 5) rfl)) (hw _ (List.mem_of_getElem? (i := 2) rfl)) (by decide) (by decide)) (g := (mkF m 4 #[.val (.long q0), .second, .val (.long q1), .second, .unset, .unset, .unset, .unset, .unset, .unset] [(.ref b29), (.ref b29)])) rfl (by rw [hml]; rfl) (Steps.refl _) (a := b29) (argsL := []) (rest := [(.ref b29)]) (lenOf pd___V rfl) rfl (by show 2 * 0 + _ ≤ _; exact Nat.le_of_eq rfl) (hb hby at_4) (fun _ _ => ⟨rfl, e29, (by decide : 1 + 0 ≤ _), (by decide : 0 + 0 ≤ _)⟩)
    dsimp only [Pt.U, Pt.locs, Pt.cells, Pt.slots] at X30 l30 y30 z30 st30 hQ30
    subst l30 y30 z30
    obtain ⟨rfl, N30q, e30⟩ := hQ30
    have N30 := Fr.app N0 N30q
    obtain ⟨cq33, kq33, q33a, q33b, q33c⟩ := isOf hZ e30 E_b29
    obtain ⟨_, _, ⟨T33, L33, k33, n33⟩, -, X33, ⟨Lc33, hQ33, l33, y33, z33⟩, st33⟩ := X30.virtualBack hx (y := (⟨"com/example/anchordb/anchordb/Condition$Absent", "check", "(J)Lcom/example/anchordb/anchordb/Status;"⟩ : MethodName)) (z := (⟨"com/example/anchordb/anchordb/Condition$Absent", "check", "(J)Lcom/example/anchordb/anchordb/Status;"⟩ : MethodName)) hown (mvT hZ (hw _ (List.mem_of_getElem? (i := 14) rfl))) (mvT hZ (hw _ (List.mem_of_getElem? (i := 15) rfl))) (notFace_of_selects (args := #[]) (mvT hZ (hw _ (List.mem_of_getElem? (i := 17) rfl)))) (mvT hZ (hw _ (List.mem_of_getElem? (i := 17) rfl))) (mvT hZ (hw _ (List.mem_of_getElem? (i := 16) rfl))) (by decide) (backOf (W := 0) (rm_check_5 l Z a0 hw [] b29 q0 w_KEY_EXISTS h29 n0 O29 (fun q => h0q ((lw_eq _ _).mp q)) S_KEY_EXISTS) hZ (hw _ (List.mem_of_getElem? (i := 18) rfl)) (hw _ (List.mem_of_getElem? (i := 2) rfl)) (by decide) (by decide)) q33a q33c (g := (mkF m 12 #[.val (.long q0), .second, .val (.long q1), .second, .val (.ref b29), .unset, .unset, .unset, .unset, .unset] [(.long q0), (.ref b29)])) rfl (by rw [hml]; rfl) (Steps.refl _) (argsL := [(.long q0)]) (rest := []) (lenOf pd__J_Lcom_example_anchordb_anchordb_Status_ rfl) rfl (by show 2 * 0 + _ ≤ _; exact Nat.le_of_eq rfl) (hb hby at_12) (fun _ _ => ⟨rfl, e30, (by decide : 1 + 0 ≤ _), (by decide : 0 + 0 ≤ _)⟩)
    dsimp only [Pt.U, Pt.locs, Pt.cells, Pt.slots] at X33 l33 y33 z33 st33 hQ33
    subst l33 y33 z33
    obtain ⟨rfl, N33q, e33⟩ := hQ33
    have N33 := Fr.app N30 N33q
    obtain ⟨cq34, kq34, q34a, q34b, q34c⟩ := isOf hZ e33 E_b29
    obtain ⟨_, _, ⟨T34, L34, k34, n34⟩, -, X34, ⟨Lc34, hQ34, l34, y34, z34⟩, st34⟩ := X33.virtualBack hx (y := (⟨"com/example/anchordb/anchordb/Condition$Absent", "check", "(J)Lcom/example/anchordb/anchordb/Status;"⟩ : MethodName)) (z := (⟨"com/example/anchordb/anchordb/Condition$Absent", "check", "(J)Lcom/example/anchordb/anchordb/Status;"⟩ : MethodName)) hown (mvT hZ (hw _ (List.mem_of_getElem? (i := 14) rfl))) (mvT hZ (hw _ (List.mem_of_getElem? (i := 15) rfl))) (notFace_of_selects (args := #[]) (mvT hZ (hw _ (List.mem_of_getElem? (i := 17) rfl)))) (mvT hZ (hw _ (List.mem_of_getElem? (i := 17) rfl))) (mvT hZ (hw _ (List.mem_of_getElem? (i := 16) rfl))) (by decide) (backOf (W := 0) (rm_check_4 l Z a0 hw [] b29 w_OK h29 n0 O29  S_OK) hZ (hw _ (List.mem_of_getElem? (i := 18) rfl)) (hw _ (List.mem_of_getElem? (i := 2) rfl)) (by decide) (by decide)) q34a q34c (g := (mkF m 20 #[.val (.long q0), .second, .val (.long q1), .second, .val (.ref b29), .val (.ref w_KEY_EXISTS), .unset, .unset, .unset, .unset] [(.long (0 : Int64)), (.ref b29)])) rfl (by rw [hml]; rfl) (Steps.refl _) (argsL := [(.long (0 : Int64))]) (rest := []) (lenOf pd__J_Lcom_example_anchordb_anchordb_Status_ rfl) rfl (by show 2 * 0 + _ ≤ _; exact Nat.le_of_eq rfl) (hb hby at_20) (fun _ _ => ⟨rfl, e33, (by decide : 1 + 0 ≤ _), (by decide : 0 + 0 ≤ _)⟩)
    dsimp only [Pt.U, Pt.locs, Pt.cells, Pt.slots] at X34 l34 y34 z34 st34 hQ34
    subst l34 y34 z34
    obtain ⟨rfl, N34q, e34⟩ := hQ34
    have N34 := Fr.app N33 N34q
    obtain ⟨cq35, kq35, q35a, q35b, q35c⟩ := isOf hZ e34 E_b29
    obtain ⟨_, _, ⟨T35, L35, k35, n35⟩, -, X35, ⟨Lc35, hQ35, l35, y35, z35⟩, st35⟩ := X34.virtualBack hx (y := (⟨"com/example/anchordb/anchordb/Condition$Absent", "check", "(J)Lcom/example/anchordb/anchordb/Status;"⟩ : MethodName)) (z := (⟨"com/example/anchordb/anchordb/Condition$Absent", "check", "(J)Lcom/example/anchordb/anchordb/Status;"⟩ : MethodName)) hown (mvT hZ (hw _ (List.mem_of_getElem? (i := 14) rfl))) (mvT hZ (hw _ (List.mem_of_getElem? (i := 15) rfl))) (notFace_of_selects (args := #[]) (mvT hZ (hw _ (List.mem_of_getElem? (i := 17) rfl)))) (mvT hZ (hw _ (List.mem_of_getElem? (i := 17) rfl))) (mvT hZ (hw _ (List.mem_of_getElem? (i := 16) rfl))) (by decide) (backOf (W := 0) (rm_check_5 l Z a0 hw [] b29 (q1 ||| (1 : Int64)) w_KEY_EXISTS h29 n0 O29 (fun q => own_nz q1 ((lw_eq _ _).mp q)) S_KEY_EXISTS) hZ (hw _ (List.mem_of_getElem? (i := 18) rfl)) (hw _ (List.mem_of_getElem? (i := 2) rfl)) (by decide) (by decide)) q35a q35c (g := (mkF m 34 #[.val (.long q0), .second, .val (.long q1), .second, .val (.ref b29), .val (.ref w_KEY_EXISTS), .val (.ref w_OK), .val (.long (q1 ||| (1 : Int64))), .second, .unset] [(.long (q1 ||| (1 : Int64))), (.ref b29)])) rfl (by rw [hml]; rfl) (Steps.refl _) (argsL := [(.long (q1 ||| (1 : Int64)))]) (rest := []) (lenOf pd__J_Lcom_example_anchordb_anchordb_Status_ rfl) rfl (by show 2 * 0 + _ ≤ _; exact Nat.le_of_eq rfl) (hb hby at_34) (fun _ _ => ⟨rfl, e34, (by decide : 1 + 0 ≤ _), (by decide : 0 + 0 ≤ _)⟩)
    dsimp only [Pt.U, Pt.locs, Pt.cells, Pt.slots] at X35 l35 y35 z35 st35 hQ35
    subst l35 y35 z35
    obtain ⟨rfl, N35q, e35⟩ := hQ35
    have N35 := Fr.app N34 N35q
    obtain ⟨_, _, ⟨T36, L36, k36, n36⟩, -, X36, ⟨Lc36, hQ36, l36, y36, z36⟩, st36⟩ := Jvm.LawKit.callS X35 hx (y := (⟨"com/example/anchordb/anchordb/AbsentCheckPinLaw", "expected", "(JLcom/example/anchordb/anchordb/Status;)Z"⟩ : MethodName)) hown (mvT hZ (hw _ (List.mem_of_getElem? (i := 24) rfl))) (mvT hZ (hw _ (List.mem_of_getElem? (i := 25) rfl))) (mvT hZ (hw _ (List.mem_of_getElem? (i := 26) rfl))) (mvT hZ (hw _ (List.mem_of_getElem? (i := 27) rfl))) (by decide) (backOf (W := 0) (rm_expected_7 l Z a0 hw [] q0 w_KEY_EXISTS h29 n0 O29 (fun q => h0q ((lw_eq _ _).mp q)) S_KEY_EXISTS) hZ (hw _ (List.mem_of_getElem? (i := 27) rfl)) (hw _ (List.mem_of_getElem? (i := 26) rfl)) (by decide) (by decide)) (g := (mkF m 42 #[.val (.long q0), .second, .val (.long q1), .second, .val (.ref b29), .val (.ref w_KEY_EXISTS), .val (.ref w_OK), .val (.long (q1 ||| (1 : Int64))), .second, .val (.ref w_KEY_EXISTS)] [(.ref w_KEY_EXISTS), (.long q0)])) rfl (by rw [hml]; rfl) (argsL := [(.long q0), (.ref w_KEY_EXISTS)]) (rest := []) (lenOf pd__JLcom_example_anchordb_anchordb_Status__Z rfl) rfl (by show 2 * 0 + _ ≤ _; exact Nat.le_of_eq rfl) (hb hby at_42) (fun _ _ => ⟨rfl, e35, (by decide : 1 + 0 ≤ _), (by decide : 0 + 0 ≤ _)⟩)
    dsimp only [Pt.U, Pt.locs, Pt.cells, Pt.slots] at X36 l36 y36 z36 st36 hQ36
    subst l36 y36 z36
    obtain ⟨rfl, N36q, e36⟩ := hQ36
    have N36 := Fr.app N35 N36q
    obtain ⟨T38, X38, e38, st38⟩ := getS2 X36 hx hZ hown (host := "") (Or.inl (hw _ (List.mem_of_getElem? (i := 29) rfl))) Via.refl e36 (S_OK.ext O29.2) (g := (mkF m 50 #[.val (.long q0), .second, .val (.long q1), .second, .val (.ref b29), .val (.ref w_KEY_EXISTS), .val (.ref w_OK), .val (.long (q1 ||| (1 : Int64))), .second, .val (.ref w_KEY_EXISTS)] [(.ref w_OK)])) rfl (hb hby at_50)
    obtain ⟨T39, X39, e39, st39⟩ := getS2 X38 hx hZ hown (host := "") (Or.inl (hw _ (List.mem_of_getElem? (i := 28) rfl))) Via.refl e38 (S_KEY_EXISTS.ext O29.2) (g := (mkF m 58 #[.val (.long q0), .second, .val (.long q1), .second, .val (.ref b29), .val (.ref w_KEY_EXISTS), .val (.ref w_OK), .val (.long (q1 ||| (1 : Int64))), .second, .val (.ref w_KEY_EXISTS)] [(.ref w_KEY_EXISTS)])) rfl (hb hby at_58)
    obtain ⟨_, _, ⟨T40, L40, k40, n40⟩, -, X40, ⟨Lc40, hQ40, l40, y40, z40⟩, st40⟩ := Jvm.LawKit.callS X39 hx (y := (⟨"com/example/anchordb/anchordb/AbsentCheckPinLaw", "expected", "(JLcom/example/anchordb/anchordb/Status;)Z"⟩ : MethodName)) hown (mvT hZ (hw _ (List.mem_of_getElem? (i := 24) rfl))) (mvT hZ (hw _ (List.mem_of_getElem? (i := 25) rfl))) (mvT hZ (hw _ (List.mem_of_getElem? (i := 26) rfl))) (mvT hZ (hw _ (List.mem_of_getElem? (i := 27) rfl))) (by decide) (backOf (W := 0) (rm_expected_7 l Z a0 hw [] (q1 ||| (1 : Int64)) w_KEY_EXISTS h29 n0 O29 (fun q => own_nz q1 ((lw_eq _ _).mp q)) S_KEY_EXISTS) hZ (hw _ (List.mem_of_getElem? (i := 27) rfl)) (hw _ (List.mem_of_getElem? (i := 26) rfl)) (by decide) (by decide)) (g := (mkF m 68 #[.val (.long q0), .second, .val (.long q1), .second, .val (.ref b29), .val (.ref w_KEY_EXISTS), .val (.ref w_OK), .val (.long (q1 ||| (1 : Int64))), .second, .val (.ref w_KEY_EXISTS)] [(.ref w_KEY_EXISTS), (.long (q1 ||| (1 : Int64)))])) rfl (by rw [hml]; rfl) (argsL := [(.long (q1 ||| (1 : Int64))), (.ref w_KEY_EXISTS)]) (rest := []) (lenOf pd__JLcom_example_anchordb_anchordb_Status__Z rfl) rfl (by show 2 * 0 + _ ≤ _; exact Nat.le_of_eq rfl) (hb hby at_68) (fun _ _ => ⟨rfl, e39, (by decide : 1 + 0 ≤ _), (by decide : 0 + 0 ≤ _)⟩)
    dsimp only [Pt.U, Pt.locs, Pt.cells, Pt.slots] at X40 l40 y40 z40 st40 hQ40
    subst l40 y40 z40
    obtain ⟨rfl, N40q, e40⟩ := hQ40
    have N40 := Fr.app N36 N40q
    have pre42 : ∀ t, Steps p.tables e below (T40.setTop (mkF m 79 #[.val (.long q0), .second, .val (.long q1), .second, .val (.ref b29), .val (.ref w_KEY_EXISTS), .val (.ref w_OK), .val (.long (q1 ||| (1 : Int64))), .second, .val (.ref w_KEY_EXISTS)] [(.int (1 : Int32))])) t → Steps p.tables e below (s₁.setTop (entryFrame m #[(.long q0), (.long q1)] maxLocals)) t := by
      intro t kt
      refine pre0 t ?_
      show Steps p.tables e below (s₁.setTop (mkF m 0 #[.val (.long q0), .second, .val (.long q1), .second, .unset, .unset, .unset, .unset, .unset, .unset] [])) _
      refine st29 _ ?_
      show Steps p.tables e below (T29.setTop (mkF m 3 #[.val (.long q0), .second, .val (.long q1), .second, .unset, .unset, .unset, .unset, .unset, .unset] [(.ref b29)])) _
      refine XS.dup X29.here hx rfl (hb hby at_3) rfl rfl ?_
      show Steps p.tables e below (T29.setTop (mkF m 4 #[.val (.long q0), .second, .val (.long q1), .second, .unset, .unset, .unset, .unset, .unset, .unset] [(.ref b29), (.ref b29)])) _
      refine st30.trans ?_
      show Steps p.tables e below (T30.setTop (mkF m 7 #[.val (.long q0), .second, .val (.long q1), .second, .unset, .unset, .unset, .unset, .unset, .unset] [(.ref b29)])) _
      refine XS.astore X30.here hx rfl (hb hby at_7) rfl rfl (l' := #[.val (.long q0), .second, .val (.long q1), .second, .val (.ref b29), .unset, .unset, .unset, .unset, .unset]) rfl ?_
      show Steps p.tables e below (T30.setTop (mkF m 9 #[.val (.long q0), .second, .val (.long q1), .second, .val (.ref b29), .unset, .unset, .unset, .unset, .unset] [])) _
      refine XS.aload X30.here hx rfl (hb hby at_9) rfl rfl ?_
      show Steps p.tables e below (T30.setTop (mkF m 11 #[.val (.long q0), .second, .val (.long q1), .second, .val (.ref b29), .unset, .unset, .unset, .unset, .unset] [(.ref b29)])) _
      refine XS.lloadN X30.here hx rfl (hb hby at_11) rfl ?_
      show Steps p.tables e below (T30.setTop (mkF m 12 #[.val (.long q0), .second, .val (.long q1), .second, .val (.ref b29), .unset, .unset, .unset, .unset, .unset] [(.long q0), (.ref b29)])) _
      refine st33.trans ?_
      show Steps p.tables e below (T33.setTop (mkF m 15 #[.val (.long q0), .second, .val (.long q1), .second, .val (.ref b29), .unset, .unset, .unset, .unset, .unset] [(.ref w_KEY_EXISTS)])) _
      refine XS.astore X33.here hx rfl (hb hby at_15) rfl rfl (l' := #[.val (.long q0), .second, .val (.long q1), .second, .val (.ref b29), .val (.ref w_KEY_EXISTS), .unset, .unset, .unset, .unset]) rfl ?_
      show Steps p.tables e below (T33.setTop (mkF m 17 #[.val (.long q0), .second, .val (.long q1), .second, .val (.ref b29), .val (.ref w_KEY_EXISTS), .unset, .unset, .unset, .unset] [])) _
      refine XS.aload X33.here hx rfl (hb hby at_17) rfl rfl ?_
      show Steps p.tables e below (T33.setTop (mkF m 19 #[.val (.long q0), .second, .val (.long q1), .second, .val (.ref b29), .val (.ref w_KEY_EXISTS), .unset, .unset, .unset, .unset] [(.ref b29)])) _
      refine XS.lconst X33.here hx rfl (hb hby at_19) ?_
      show Steps p.tables e below (T33.setTop (mkF m 20 #[.val (.long q0), .second, .val (.long q1), .second, .val (.ref b29), .val (.ref w_KEY_EXISTS), .unset, .unset, .unset, .unset] [(.long (0 : Int64)), (.ref b29)])) _
      refine st34.trans ?_
      show Steps p.tables e below (T34.setTop (mkF m 23 #[.val (.long q0), .second, .val (.long q1), .second, .val (.ref b29), .val (.ref w_KEY_EXISTS), .unset, .unset, .unset, .unset] [(.ref w_OK)])) _
      refine XS.astore X34.here hx rfl (hb hby at_23) rfl rfl (l' := #[.val (.long q0), .second, .val (.long q1), .second, .val (.ref b29), .val (.ref w_KEY_EXISTS), .val (.ref w_OK), .unset, .unset, .unset]) rfl ?_
      show Steps p.tables e below (T34.setTop (mkF m 25 #[.val (.long q0), .second, .val (.long q1), .second, .val (.ref b29), .val (.ref w_KEY_EXISTS), .val (.ref w_OK), .unset, .unset, .unset] [])) _
      refine XS.lloadN X34.here hx rfl (hb hby at_25) rfl ?_
      show Steps p.tables e below (T34.setTop (mkF m 26 #[.val (.long q0), .second, .val (.long q1), .second, .val (.ref b29), .val (.ref w_KEY_EXISTS), .val (.ref w_OK), .unset, .unset, .unset] [(.long q1)])) _
      refine XS.lconst X34.here hx rfl (hb hby at_26) ?_
      show Steps p.tables e below (T34.setTop (mkF m 27 #[.val (.long q0), .second, .val (.long q1), .second, .val (.ref b29), .val (.ref w_KEY_EXISTS), .val (.ref w_OK), .unset, .unset, .unset] [(.long (1 : Int64)), (.long q1)])) _
      refine XS.lor X34.here hx rfl (hb hby at_27) rfl ?_
      show Steps p.tables e below (T34.setTop (mkF m 28 #[.val (.long q0), .second, .val (.long q1), .second, .val (.ref b29), .val (.ref w_KEY_EXISTS), .val (.ref w_OK), .unset, .unset, .unset] [(.long (q1 ||| (1 : Int64)))])) _
      refine XS.lstore X34.here hx rfl (hb hby at_28) rfl (l' := #[.val (.long q0), .second, .val (.long q1), .second, .val (.ref b29), .val (.ref w_KEY_EXISTS), .val (.ref w_OK), .val (.long (q1 ||| (1 : Int64))), .second, .unset]) rfl ?_
      show Steps p.tables e below (T34.setTop (mkF m 30 #[.val (.long q0), .second, .val (.long q1), .second, .val (.ref b29), .val (.ref w_KEY_EXISTS), .val (.ref w_OK), .val (.long (q1 ||| (1 : Int64))), .second, .unset] [])) _
      refine XS.aload X34.here hx rfl (hb hby at_30) rfl rfl ?_
      show Steps p.tables e below (T34.setTop (mkF m 32 #[.val (.long q0), .second, .val (.long q1), .second, .val (.ref b29), .val (.ref w_KEY_EXISTS), .val (.ref w_OK), .val (.long (q1 ||| (1 : Int64))), .second, .unset] [(.ref b29)])) _
      refine XS.lload X34.here hx rfl (hb hby at_32) rfl ?_
      show Steps p.tables e below (T34.setTop (mkF m 34 #[.val (.long q0), .second, .val (.long q1), .second, .val (.ref b29), .val (.ref w_KEY_EXISTS), .val (.ref w_OK), .val (.long (q1 ||| (1 : Int64))), .second, .unset] [(.long (q1 ||| (1 : Int64))), (.ref b29)])) _
      refine st35.trans ?_
      show Steps p.tables e below (T35.setTop (mkF m 37 #[.val (.long q0), .second, .val (.long q1), .second, .val (.ref b29), .val (.ref w_KEY_EXISTS), .val (.ref w_OK), .val (.long (q1 ||| (1 : Int64))), .second, .unset] [(.ref w_KEY_EXISTS)])) _
      refine XS.astore X35.here hx rfl (hb hby at_37) rfl rfl (l' := #[.val (.long q0), .second, .val (.long q1), .second, .val (.ref b29), .val (.ref w_KEY_EXISTS), .val (.ref w_OK), .val (.long (q1 ||| (1 : Int64))), .second, .val (.ref w_KEY_EXISTS)]) rfl ?_
      show Steps p.tables e below (T35.setTop (mkF m 39 #[.val (.long q0), .second, .val (.long q1), .second, .val (.ref b29), .val (.ref w_KEY_EXISTS), .val (.ref w_OK), .val (.long (q1 ||| (1 : Int64))), .second, .val (.ref w_KEY_EXISTS)] [])) _
      refine XS.lloadN X35.here hx rfl (hb hby at_39) rfl ?_
      show Steps p.tables e below (T35.setTop (mkF m 40 #[.val (.long q0), .second, .val (.long q1), .second, .val (.ref b29), .val (.ref w_KEY_EXISTS), .val (.ref w_OK), .val (.long (q1 ||| (1 : Int64))), .second, .val (.ref w_KEY_EXISTS)] [(.long q0)])) _
      refine XS.aload X35.here hx rfl (hb hby at_40) rfl rfl ?_
      show Steps p.tables e below (T35.setTop (mkF m 42 #[.val (.long q0), .second, .val (.long q1), .second, .val (.ref b29), .val (.ref w_KEY_EXISTS), .val (.ref w_OK), .val (.long (q1 ||| (1 : Int64))), .second, .val (.ref w_KEY_EXISTS)] [(.ref w_KEY_EXISTS), (.long q0)])) _
      refine st36 _ ?_
      show Steps p.tables e below (T36.setTop (mkF m 45 #[.val (.long q0), .second, .val (.long q1), .second, .val (.ref b29), .val (.ref w_KEY_EXISTS), .val (.ref w_OK), .val (.long (q1 ||| (1 : Int64))), .second, .val (.ref w_KEY_EXISTS)] [(.int (1 : Int32))])) _
      refine XS.ifNo X36.here hx rfl (hb hby at_45) rfl ((if0 _ _).trans (feq (by decide : ¬ ((1 : Int32) = (0 : Int32)))).1) ?_
      show Steps p.tables e below (T36.setTop (mkF m 48 #[.val (.long q0), .second, .val (.long q1), .second, .val (.ref b29), .val (.ref w_KEY_EXISTS), .val (.ref w_OK), .val (.long (q1 ||| (1 : Int64))), .second, .val (.ref w_KEY_EXISTS)] [])) _
      refine XS.aload X36.here hx rfl (hb hby at_48) rfl rfl ?_
      show Steps p.tables e below (T36.setTop (mkF m 50 #[.val (.long q0), .second, .val (.long q1), .second, .val (.ref b29), .val (.ref w_KEY_EXISTS), .val (.ref w_OK), .val (.long (q1 ||| (1 : Int64))), .second, .val (.ref w_KEY_EXISTS)] [(.ref w_OK)])) _
      refine st38 _ ?_
      show Steps p.tables e below (T38.setTop (mkF m 53 #[.val (.long q0), .second, .val (.long q1), .second, .val (.ref b29), .val (.ref w_KEY_EXISTS), .val (.ref w_OK), .val (.long (q1 ||| (1 : Int64))), .second, .val (.ref w_KEY_EXISTS)] [(.ref w_OK), (.ref w_OK)])) _
      refine Jvm.RoadKit.acmp (g := (mkF m 53 #[.val (.long q0), .second, .val (.long q1), .second, .val (.ref b29), .val (.ref w_KEY_EXISTS), .val (.ref w_OK), .val (.long (q1 ||| (1 : Int64))), .second, .val (.ref w_KEY_EXISTS)] [(.ref w_OK), (.ref w_OK)])) X38 hx rfl rfl rfl (pc0 := 53) (pc' := 56) (same := true) rfl (hb hby at_53) rfl (decide_eq_true rfl) (by decide) (by decide) ?_
      show Steps p.tables e below (T38.setTop (mkF m 56 #[.val (.long q0), .second, .val (.long q1), .second, .val (.ref b29), .val (.ref w_KEY_EXISTS), .val (.ref w_OK), .val (.long (q1 ||| (1 : Int64))), .second, .val (.ref w_KEY_EXISTS)] [])) _
      refine XS.aload X38.here hx rfl (hb hby at_56) rfl rfl ?_
      show Steps p.tables e below (T38.setTop (mkF m 58 #[.val (.long q0), .second, .val (.long q1), .second, .val (.ref b29), .val (.ref w_KEY_EXISTS), .val (.ref w_OK), .val (.long (q1 ||| (1 : Int64))), .second, .val (.ref w_KEY_EXISTS)] [(.ref w_KEY_EXISTS)])) _
      refine st39 _ ?_
      show Steps p.tables e below (T39.setTop (mkF m 61 #[.val (.long q0), .second, .val (.long q1), .second, .val (.ref b29), .val (.ref w_KEY_EXISTS), .val (.ref w_OK), .val (.long (q1 ||| (1 : Int64))), .second, .val (.ref w_KEY_EXISTS)] [(.ref w_KEY_EXISTS), (.ref w_KEY_EXISTS)])) _
      refine Jvm.RoadKit.acmp (g := (mkF m 61 #[.val (.long q0), .second, .val (.long q1), .second, .val (.ref b29), .val (.ref w_KEY_EXISTS), .val (.ref w_OK), .val (.long (q1 ||| (1 : Int64))), .second, .val (.ref w_KEY_EXISTS)] [(.ref w_KEY_EXISTS), (.ref w_KEY_EXISTS)])) X39 hx rfl rfl rfl (pc0 := 61) (pc' := 64) (same := true) rfl (hb hby at_61) rfl (decide_eq_true rfl) (by decide) (by decide) ?_
      show Steps p.tables e below (T39.setTop (mkF m 64 #[.val (.long q0), .second, .val (.long q1), .second, .val (.ref b29), .val (.ref w_KEY_EXISTS), .val (.ref w_OK), .val (.long (q1 ||| (1 : Int64))), .second, .val (.ref w_KEY_EXISTS)] [])) _
      refine XS.lload X39.here hx rfl (hb hby at_64) rfl ?_
      show Steps p.tables e below (T39.setTop (mkF m 66 #[.val (.long q0), .second, .val (.long q1), .second, .val (.ref b29), .val (.ref w_KEY_EXISTS), .val (.ref w_OK), .val (.long (q1 ||| (1 : Int64))), .second, .val (.ref w_KEY_EXISTS)] [(.long (q1 ||| (1 : Int64)))])) _
      refine XS.aload X39.here hx rfl (hb hby at_66) rfl rfl ?_
      show Steps p.tables e below (T39.setTop (mkF m 68 #[.val (.long q0), .second, .val (.long q1), .second, .val (.ref b29), .val (.ref w_KEY_EXISTS), .val (.ref w_OK), .val (.long (q1 ||| (1 : Int64))), .second, .val (.ref w_KEY_EXISTS)] [(.ref w_KEY_EXISTS), (.long (q1 ||| (1 : Int64)))])) _
      refine st40 _ ?_
      show Steps p.tables e below (T40.setTop (mkF m 71 #[.val (.long q0), .second, .val (.long q1), .second, .val (.ref b29), .val (.ref w_KEY_EXISTS), .val (.ref w_OK), .val (.long (q1 ||| (1 : Int64))), .second, .val (.ref w_KEY_EXISTS)] [(.int (1 : Int32))])) _
      refine XS.ifNo X40.here hx rfl (hb hby at_71) rfl ((if0 _ _).trans (feq (by decide : ¬ ((1 : Int32) = (0 : Int32)))).1) ?_
      show Steps p.tables e below (T40.setTop (mkF m 74 #[.val (.long q0), .second, .val (.long q1), .second, .val (.ref b29), .val (.ref w_KEY_EXISTS), .val (.ref w_OK), .val (.long (q1 ||| (1 : Int64))), .second, .val (.ref w_KEY_EXISTS)] [])) _
      refine XS.iconst X40.here hx rfl (hb hby at_74) ?_
      show Steps p.tables e below (T40.setTop (mkF m 75 #[.val (.long q0), .second, .val (.long q1), .second, .val (.ref b29), .val (.ref w_KEY_EXISTS), .val (.ref w_OK), .val (.long (q1 ||| (1 : Int64))), .second, .val (.ref w_KEY_EXISTS)] [(.int (1 : Int32))])) _
      refine XS.goto X40.here hx rfl (pc0 := 75) (pc' := 79) rfl (hb hby at_75) (by decide) (by decide) ?_
      exact kt
    obtain ⟨fs, hr, hrun, hended, hW, hsame⟩ := X40.leave (v := some (.int (1 : Int32))) (fun h => by rw [Bd.returns] at h; cases h)
    refine ⟨_, _, pre42 _ ?_, hrun, hended, _, _, rfl, ?_, ⟨_, rfl⟩, hW, hsame.mono (by decide) (by decide)⟩
    · show Steps p.tables e below (T40.setTop (mkF m 79 #[.val (.long q0), .second, .val (.long q1), .second, .val (.ref b29), .val (.ref w_KEY_EXISTS), .val (.ref w_OK), .val (.long (q1 ||| (1 : Int64))), .second, .val (.ref w_KEY_EXISTS)] [(.int (1 : Int32))])) _
      exact retN X40 hx (t := .boolean) Bd.returns (by simp) (hb hby at_79) hr
    · show Q_rm0 Z q0 q1 w_OK w_KEY_EXISTS h0 n0 _ T40.heap _
      rw [e40]
      exact ⟨rfl, N40⟩
set_option maxRecDepth 65536 in
set_option maxHeartbeats 40000000 in
theorem comes_1 {Post : Tables → Env → Array Value → State → Outcome → State → Prop} (hpost : ∀ tb e args s v u, (limb_1_1.after args s (.returned v) u = true ∧ limb_1_2.after args s (.returned v) u = true ∧ True) → FrameEnd s (.returned v) u (Jvm.fieldLocs frame_1_writes args s ++ Jvm.arrayLocs frame_1_arrays args s ++ Jvm.staticLocs frame_1_statics s) 16 64 → Post tb e args s (.returned v) u) :
    ArmFor flags0 classFile x code maxLocals ret World_1 tables_1 room_1 Calls_1 rest_1 Pre_1 Post := by
  intro l hfl _ _ p e ha hc hk s m args below hf hA hF happ hP
  obtain ⟨hcalls, hrest, hpre⟩ := hP
  obtain ⟨-, -, -, hnamed, -, -, -, hat⟩ := (Spec.applies_iff hf).mp happ
  obtain ⟨hg, hn⟩ := and_e (Cond.before_iff.mp (show (Jvm.Cond.and given_1 narrow_1).before args s = true from hpre))
  have hw := fun d (hd : d ∈ tables_1) => atoms_spec (ws := Jvm.Cond.code x code maxLocals ret :: tables_1) hat d (List.mem_cons_of_mem _ hd)
  obtain ⟨g1, g2⟩ := and_e hg
  obtain ⟨g3, g4⟩ := and_e g2
  obtain ⟨g5, g6⟩ := and_e hn
  obtain ⟨w_KEY_EXISTS, ev_KEY_EXISTS⟩ := exa_v g5
  have S_KEY_EXISTS : Sta s s.heap "com/example/anchordb/anchordb/Status" "KEY_EXISTS" "Lcom/example/anchordb/anchordb/Status;" (.ref w_KEY_EXISTS) := Sta.start ev_KEY_EXISTS (Or.inr ⟨(hw _ (List.mem_of_getElem? (i := 20) rfl)), (hw _ (List.mem_of_getElem? (i := 21) rfl))⟩)
  have E_KEY_EXISTS := Exa.start ev_KEY_EXISTS g5
  obtain ⟨w_OK, ev_OK⟩ := exa_v g6
  have S_OK : Sta s s.heap "com/example/anchordb/anchordb/Status" "OK" "Lcom/example/anchordb/anchordb/Status;" (.ref w_OK) := Sta.start ev_OK (Or.inr ⟨(hw _ (List.mem_of_getElem? (i := 20) rfl)), (hw _ (List.mem_of_getElem? (i := 23) rfl))⟩)
  have E_OK := Exa.start ev_OK g6
  obtain ⟨v0, v1, rfl⟩ : ∃ v0 v1 : Value, args = #[v0, v1] := by
    have hs : args.size = 2 := by simpa [Cond.value, given_1] using g1
    obtain ⟨L⟩ := args
    match L, hs with
    | [v0, v1], _ => exact ⟨v0, v1, rfl⟩
  have hfit : Fit s := fun {y c} hc i hi => by
    obtain ⟨ha, rfl⟩ := Array.getElem?_eq_some_iff.mp hc
    have q := List.all_eq_true.mp ((Array.all_eq_true_iff_forall_mem.mp hF) _ (Array.getElem_mem ha)) i (List.mem_range.mpr hi)
    simpa [Array.getElem?_eq_getElem hi] using q
  obtain ⟨i0, ei0⟩ := isL_v g3
  obtain rfl : v0 = (.long i0) := Option.some.inj ei0
  obtain ⟨i1, ei1⟩ := isL_v g4
  obtain rfl : v1 = (.long i1) := Option.some.inj ei1
  obtain ⟨n, o, h1, h2, h3, _, L, rfl, ⟨rfl, N⟩, hq⟩ := rm0 l s _ hw tables_1 i0 i1 w_OK w_KEY_EXISTS s.heap s.heap.size (Old.start s) S_OK S_KEY_EXISTS p e ha hc hk s m _ below hf ((Spec.applies_iff_loose hf).mp happ).1 ⟨rfl, State.Warmed39.refl s, rfl⟩ trivial
  refine ⟨n, _, h1, h2, h3, hpost _ _ _ _ _ _ ⟨Cond.after_iff.mpr rfl, Cond.after_iff.mpr (eq_i res_at (Term.int_eval (1)) rfl), trivial⟩ ⟨hq.1, hq.2.1, (hq.2.2.sift fun y hy => Or.inr (N y hy)).mono (by decide) (by decide)⟩⟩
theorem main_1_1 : Claimed_1_1 := comes_1 fun _ _ _ _ _ _ h hF => ⟨h.1, hF⟩
theorem main_1_2 : Claimed_1_2 := comes_1 fun _ _ _ _ _ _ h hF => ⟨h.2.1, hF⟩
end Jvm.Pilot.@@N@@
namespace Jvm.Pilot.@@N@@
open Jvm Jvm.ClassFile Sem Op Lib Jvm.Free Jvm.Stand Jvm.Pilot.@@N@@.Jvm.D
/-! MADE BY PROGRAM (witnessworld.py) out of the Statement's table words and the real class files: 15 classes; the members and pool entries that the words name. The judged class is class 1, her method 2. -/
namespace start1
open Jvm.ClassFile
def u (s : String) : CpInfo := .utf8 (stringToUtf16 s)
/-- a pool by its gaps: so many unusable entries, then the entry; so many at the end -/
def gap : Nat → List CpInfo → List CpInfo
  | 0, r => r
  | n + 1, r => .unusable :: gap n r
def poolList (es : List (Nat × CpInfo)) (last : Nat) : List CpInfo := es.foldr (fun e r => gap e.1 (e.2 :: r)) (gap last [])
def pool (es : List (Nat × CpInfo)) (last : Nat) : Array CpInfo := ⟨poolList es last⟩
def fileOf (pool : Array CpInfo) (this : Nat) (attrs : Array Attribute := #[]) (ms : Array MethodInfo := #[]) (fl : Nat := 33) (sup : Nat := 0) (ifs : Array Nat := #[]) (fds : Array FieldInfo := #[]) : ClassFile where
  minorVersion := 0
  majorVersion := 65
  constantPool := pool
  accessFlags := fl
  thisClass := this
  superClass := sup
  interfaces := ifs
  fields := fds
  methods := ms
  attributes := attrs
def plain (name : String) (sup : Option ClassId) : Class where
  name := name
  kind := .ordinary
  loader := none
  accessFlags := 33
  super := sup
  interfaces := #[]
  cf := none
  fields := #[]
  methods := #[]
  instanceTypes := #[]
  staticTypes := #[]
  resolved := #[]
  callSites := []
  init := .initialized
  statics := none
  mirror := none

def pool0 : Array CpInfo := pool [(5, u "<init>"), (0, u "()V"), (1, .class_ 10), (1, u "java/lang/Object")] 113

def k0c0 : Code := { maxStack := 0, maxLocals := 1, code := object_method_1_code, exceptionTable := #[], attributes := #[] }
def k0m0 : Method := { name := "<init>", desc := "()V", sig := { parameters := [], returnType := none }, accessFlags := 1, code := some k0c0 }
/-- java/lang/Object -/
def k0 : Class := { plain "java/lang/Object" none with
  accessFlags := 33
  interfaces := #[]
  cf := some (fileOf pool0 8 #[] #[{ accessFlags := 1, nameIndex := 5, descriptorIndex := 6, attributes := #[] }] 33 0 #[] #[])
  fields := #[]
  methods := #[k0m0]
  instanceTypes := #[]
  staticTypes := #[]
  resolved := Array.replicate 124 none
  statics := none }

def pool1 : Array CpInfo := pool [(2, .class_ 4), (0, .nameAndType 5 6), (0, u "java/lang/Object"), (0, u "<init>"), (0, u "()V"), (0, .fieldref 8 9), (0, .class_ 10), (0, .nameAndType 11 12), (0, u "com/example/anchordb/anchordb/Status"), (0, u "OK"), (0, u "Lcom/example/anchordb/anchordb/Status;"), (0, .fieldref 8 14), (0, .nameAndType 15 12), (0, u "KEY_EXISTS"), (0, .class_ 17), (0, u "com/example/anchordb/anchordb/Condition$Absent"), (0, .methodref 16 3), (0, .methodref 16 20), (0, .nameAndType 21 22), (0, u "check"), (0, u "(J)Lcom/example/anchordb/anchordb/Status;"), (0, .methodref 24 25), (0, .class_ 26), (0, .nameAndType 27 28), (0, u "com/example/anchordb/anchordb/AbsentCheckPinLaw"), (0, u "expected"), (0, u "(JLcom/example/anchordb/anchordb/Status;)Z"), (3, u "law"), (0, u "(JJ)Z")] 6

def k1m0 : Method := { name := "<init>", desc := "()V", sig := { parameters := [], returnType := none }, accessFlags := 2, code := none }
def k1c1 : Code := { maxStack := 4, maxLocals := 3, code := method_2_code, exceptionTable := #[], attributes := #[] }
def k1m1 : Method := { name := "expected", desc := "(JLcom/example/anchordb/anchordb/Status;)Z", sig := { parameters := [.long, (.object "com/example/anchordb/anchordb/Status")], returnType := some .boolean }, accessFlags := 10, code := some k1c1 }
def k1c2 : Code := { maxStack := 4, maxLocals := 10, code := code, exceptionTable := #[], attributes := #[] }
def k1m2 : Method := { name := "law", desc := "(JJ)Z", sig := { parameters := [.long, .long], returnType := some .boolean }, accessFlags := 9, code := some k1c2 }
/-- com/example/anchordb/anchordb/AbsentCheckPinLaw -/
def k1 : Class := { plain "com/example/anchordb/anchordb/AbsentCheckPinLaw" (some 0) with
  accessFlags := 49
  interfaces := #[]
  cf := some (fileOf pool1 24 #[] #[{ accessFlags := 2, nameIndex := 5, descriptorIndex := 6, attributes := #[] }, { accessFlags := 10, nameIndex := 27, descriptorIndex := 28, attributes := #[] }, { accessFlags := 9, nameIndex := 32, descriptorIndex := 33, attributes := #[] }] 49 2 #[] #[])
  fields := #[]
  methods := #[k1m0, k1m1, k1m2]
  instanceTypes := #[]
  staticTypes := #[]
  resolved := Array.replicate 40 none
  statics := none }

def pool2 : Array CpInfo := pool [(1, .methodref 2 3), (0, .class_ 4), (0, .nameAndType 5 6), (0, u "java/lang/Object"), (0, u "<init>"), (0, u "()V"), (0, .class_ 8), (0, u "java/lang/Record")] 13

def k2c0 : Code := { maxStack := 1, maxLocals := 1, code := jdk_30_method_1_code, exceptionTable := #[], attributes := #[] }
def k2m0 : Method := { name := "<init>", desc := "()V", sig := { parameters := [], returnType := none }, accessFlags := 4, code := some k2c0 }
/-- java/lang/Record -/
def k2 : Class := { plain "java/lang/Record" (some 0) with
  accessFlags := 1057
  interfaces := #[]
  cf := some (fileOf pool2 7 #[] #[{ accessFlags := 4, nameIndex := 5, descriptorIndex := 6, attributes := #[] }] 1057 2 #[] #[])
  fields := #[]
  methods := #[k2m0]
  instanceTypes := #[]
  staticTypes := #[]
  resolved := Array.replicate 22 none
  statics := none }

def pool3 : Array CpInfo := pool [(1, .class_ 2), (0, u "com/example/anchordb/anchordb/Condition$Expect"), (4, .class_ 8), (0, u "com/example/anchordb/anchordb/Condition$None"), (4, .class_ 15), (1, u "com/example/anchordb/anchordb/Condition"), (0, u "NONE"), (0, u "Lcom/example/anchordb/anchordb/Condition;"), (0, .class_ 19), (0, u "com/example/anchordb/anchordb/Condition$Absent"), (3, u "ABSENT"), (0, .class_ 25), (0, u "java/lang/Object")] 15

/-- com/example/anchordb/anchordb/Condition -/
def k3 : Class := { plain "com/example/anchordb/anchordb/Condition" (some 0) with
  accessFlags := 1537
  interfaces := #[]
  cf := some (fileOf pool3 13 #[.nestMembers #[1, 18, 7]] #[] 1537 24 #[] #[{ accessFlags := 25, nameIndex := 16, descriptorIndex := 17, attributes := #[] }, { accessFlags := 25, nameIndex := 23, descriptorIndex := 17, attributes := #[] }])
  fields := #[{ name := "NONE", type := (.object "com/example/anchordb/anchordb/Condition"), accessFlags := 25, slot := 0, constantValue := 0 }, { name := "ABSENT", type := (.object "com/example/anchordb/anchordb/Condition"), accessFlags := 25, slot := 1, constantValue := 0 }]
  methods := #[]
  instanceTypes := #[]
  staticTypes := #[(.object "com/example/anchordb/anchordb/Condition"), (.object "com/example/anchordb/anchordb/Condition")]
  resolved := Array.replicate 41 none
  statics := none }

def pool4 : Array CpInfo := pool [(1, .methodref 2 3), (0, .class_ 4), (0, .nameAndType 5 6), (0, u "java/lang/Record"), (0, u "<init>"), (0, u "()V"), (0, .fieldref 8 9), (0, .class_ 10), (0, .nameAndType 11 12), (0, u "com/example/anchordb/anchordb/Status"), (0, u "OK"), (0, u "Lcom/example/anchordb/anchordb/Status;"), (0, .fieldref 8 14), (0, .nameAndType 15 12), (0, u "KEY_EXISTS"), (12, .class_ 29), (0, u "com/example/anchordb/anchordb/Condition$Absent"), (0, .class_ 31), (0, u "com/example/anchordb/anchordb/Condition"), (2, u "check"), (0, u "(J)Lcom/example/anchordb/anchordb/Status;")] 25

def k4c0 : Code := { maxStack := 1, maxLocals := 1, code := prog_3_method_1_code, exceptionTable := #[], attributes := #[] }
def k4m0 : Method := { name := "<init>", desc := "()V", sig := { parameters := [], returnType := none }, accessFlags := 1, code := some k4c0 }
def k4c1 : Code := { maxStack := 4, maxLocals := 3, code := prog_3_method_2_code, exceptionTable := #[], attributes := #[] }
def k4m1 : Method := { name := "check", desc := "(J)Lcom/example/anchordb/anchordb/Status;", sig := { parameters := [.long], returnType := some (.object "com/example/anchordb/anchordb/Status") }, accessFlags := 1, code := some k4c1 }
/-- com/example/anchordb/anchordb/Condition$Absent -/
def k4 : Class := { plain "com/example/anchordb/anchordb/Condition$Absent" (some 2) with
  accessFlags := 49
  interfaces := #[3]
  cf := some (fileOf pool4 28 #[.nestHost 30] #[{ accessFlags := 1, nameIndex := 5, descriptorIndex := 6, attributes := #[] }, { accessFlags := 1, nameIndex := 34, descriptorIndex := 35, attributes := #[] }] 49 2 #[30] #[])
  fields := #[]
  methods := #[k4m0, k4m1]
  instanceTypes := #[]
  staticTypes := #[]
  resolved := Array.replicate 61 none
  statics := none }

def pool5 : Array CpInfo := pool [(1, .class_ 2), (0, u "java/lang/constant/Constable"), (0, .class_ 4), (0, u "java/lang/Object")] 6

/-- java/lang/constant/Constable -/
def k5 : Class := { plain "java/lang/constant/Constable" (some 0) with
  accessFlags := 1537
  interfaces := #[]
  cf := some (fileOf pool5 1 #[] #[] 1537 3 #[] #[])
  fields := #[]
  methods := #[]
  instanceTypes := #[]
  staticTypes := #[]
  resolved := Array.replicate 11 none
  statics := none }

def pool6 : Array CpInfo := pool [(1, .class_ 2), (0, u "java/lang/Comparable"), (0, .class_ 4), (0, u "java/lang/Object")] 7

/-- java/lang/Comparable -/
def k6 : Class := { plain "java/lang/Comparable" (some 0) with
  accessFlags := 1537
  interfaces := #[]
  cf := some (fileOf pool6 1 #[] #[] 1537 3 #[] #[])
  fields := #[]
  methods := #[]
  instanceTypes := #[]
  staticTypes := #[]
  resolved := Array.replicate 12 none
  statics := none }

def pool7 : Array CpInfo := pool [(1, .class_ 2), (0, u "java/io/Serializable"), (0, .class_ 4), (0, u "java/lang/Object")] 2

/-- java/io/Serializable -/
def k7 : Class := { plain "java/io/Serializable" (some 0) with
  accessFlags := 1537
  interfaces := #[]
  cf := some (fileOf pool7 1 #[] #[] 1537 3 #[] #[])
  fields := #[]
  methods := #[]
  instanceTypes := #[]
  staticTypes := #[]
  resolved := Array.replicate 7 none
  statics := none }

def pool8 : Array CpInfo := pool [(2, .class_ 4), (1, u "java/lang/Enum"), (0, u "name"), (0, u "Ljava/lang/String;"), (2, u "ordinal"), (0, u "I"), (1, .class_ 14), (1, u "java/lang/Object"), (4, u "hash"), (86, .class_ 108), (1, u "java/lang/Enum$EnumDesc"), (2, .class_ 112), (0, u "java/lang/constant/Constable"), (0, .class_ 114), (0, u "java/lang/Comparable"), (0, .class_ 116), (0, u "java/io/Serializable")] 87

/-- java/lang/Enum -/
def k8 : Class := { plain "java/lang/Enum" (some 0) with
  accessFlags := 1057
  interfaces := #[5, 6, 7]
  cf := some (fileOf pool8 2 #[.nestMembers #[106]] #[] 1057 12 #[111, 113, 115] #[{ accessFlags := 18, nameIndex := 5, descriptorIndex := 6, attributes := #[] }, { accessFlags := 18, nameIndex := 9, descriptorIndex := 10, attributes := #[] }, { accessFlags := 2, nameIndex := 19, descriptorIndex := 10, attributes := #[] }])
  fields := #[{ name := "name", type := (.object "java/lang/String"), accessFlags := 18, slot := 0, constantValue := 0 }, { name := "ordinal", type := .int, accessFlags := 18, slot := 1, constantValue := 0 }, { name := "hash", type := .int, accessFlags := 2, slot := 2, constantValue := 0 }]
  methods := #[]
  instanceTypes := #[(.object "java/lang/String"), .int, .int]
  staticTypes := #[]
  resolved := Array.replicate 204 none
  statics := none }

def pool9 : Array CpInfo := pool [(1, .class_ 2), (0, u "com/example/anchordb/anchordb/Status"), (2, u "OK"), (0, u "Lcom/example/anchordb/anchordb/Status;"), (2, u "BAD_VERSION"), (2, u "NO_KEY"), (2, u "KEY_EXISTS"), (2, u "INVALID"), (2, u "TOO_LARGE"), (2, u "IO_ERROR"), (2, u "NO_SESSION"), (2, u "$VALUES"), (0, u "[Lcom/example/anchordb/anchordb/Status;"), (6, .class_ 40), (1, u "java/lang/Enum"), (8, u "text"), (0, u "Ljava/lang/String;"), (2, u "exitCode"), (0, u "I")] 66

/-- com/example/anchordb/anchordb/Status -/
def k9 : Class := { plain "com/example/anchordb/anchordb/Status" (some 8) with
  accessFlags := 16433
  interfaces := #[]
  cf := some (fileOf pool9 1 #[] #[] 16433 38 #[] #[{ accessFlags := 16409, nameIndex := 5, descriptorIndex := 6, attributes := #[] }, { accessFlags := 16409, nameIndex := 9, descriptorIndex := 6, attributes := #[] }, { accessFlags := 16409, nameIndex := 12, descriptorIndex := 6, attributes := #[] }, { accessFlags := 16409, nameIndex := 15, descriptorIndex := 6, attributes := #[] }, { accessFlags := 16409, nameIndex := 18, descriptorIndex := 6, attributes := #[] }, { accessFlags := 16409, nameIndex := 21, descriptorIndex := 6, attributes := #[] }, { accessFlags := 16409, nameIndex := 24, descriptorIndex := 6, attributes := #[] }, { accessFlags := 16409, nameIndex := 27, descriptorIndex := 6, attributes := #[] }, { accessFlags := 18, nameIndex := 49, descriptorIndex := 50, attributes := #[] }, { accessFlags := 18, nameIndex := 53, descriptorIndex := 54, attributes := #[] }, { accessFlags := 4122, nameIndex := 30, descriptorIndex := 31, attributes := #[] }])
  fields := #[{ name := "OK", type := (.object "com/example/anchordb/anchordb/Status"), accessFlags := 16409, slot := 0, constantValue := 0 }, { name := "BAD_VERSION", type := (.object "com/example/anchordb/anchordb/Status"), accessFlags := 16409, slot := 1, constantValue := 0 }, { name := "NO_KEY", type := (.object "com/example/anchordb/anchordb/Status"), accessFlags := 16409, slot := 2, constantValue := 0 }, { name := "KEY_EXISTS", type := (.object "com/example/anchordb/anchordb/Status"), accessFlags := 16409, slot := 3, constantValue := 0 }, { name := "INVALID", type := (.object "com/example/anchordb/anchordb/Status"), accessFlags := 16409, slot := 4, constantValue := 0 }, { name := "TOO_LARGE", type := (.object "com/example/anchordb/anchordb/Status"), accessFlags := 16409, slot := 5, constantValue := 0 }, { name := "IO_ERROR", type := (.object "com/example/anchordb/anchordb/Status"), accessFlags := 16409, slot := 6, constantValue := 0 }, { name := "NO_SESSION", type := (.object "com/example/anchordb/anchordb/Status"), accessFlags := 16409, slot := 7, constantValue := 0 }, { name := "text", type := (.object "java/lang/String"), accessFlags := 18, slot := 3, constantValue := 0 }, { name := "exitCode", type := .int, accessFlags := 18, slot := 4, constantValue := 0 }, { name := "$VALUES", type := (.array (.object "com/example/anchordb/anchordb/Status")), accessFlags := 4122, slot := 8, constantValue := 0 }]
  methods := #[]
  instanceTypes := #[(.object "java/lang/String"), .int, .int, (.object "java/lang/String"), .int]
  staticTypes := #[(.object "com/example/anchordb/anchordb/Status"), (.object "com/example/anchordb/anchordb/Status"), (.object "com/example/anchordb/anchordb/Status"), (.object "com/example/anchordb/anchordb/Status"), (.object "com/example/anchordb/anchordb/Status"), (.object "com/example/anchordb/anchordb/Status"), (.object "com/example/anchordb/anchordb/Status"), (.object "com/example/anchordb/anchordb/Status"), (.array (.object "com/example/anchordb/anchordb/Status"))]
  resolved := Array.replicate 121 none
  statics := some 0 }

def pool10 : Array CpInfo := pool [(1, u "java/lang/Cloneable"), (0, .class_ 1), (0, u "java/lang/Object"), (0, .class_ 3)] 3

/-- java/lang/Cloneable -/
def k10 : Class := { plain "java/lang/Cloneable" (some 0) with
  accessFlags := 1537
  interfaces := #[]
  cf := some (fileOf pool10 2 #[] #[] 1537 4 #[] #[])
  fields := #[]
  methods := #[]
  instanceTypes := #[]
  staticTypes := #[]
  resolved := Array.replicate 8 none
  statics := none }

/-- the primitive byte -/
def k11 : Class := { plain "byte" none with kind := .primitive 'B', accessFlags := 0x411 }
/-- [B -/
def k12 : Class := { plain "[B" (some 0) with kind := .array 11 .byte, interfaces := #[10, 7], accessFlags := 1041 }

/-- the primitive int -/
def k13 : Class := { plain "int" none with kind := .primitive 'I', accessFlags := 0x411 }
/-- [I -/
def k14 : Class := { plain "[I" (some 0) with kind := .array 13 .int, interfaces := #[10, 7], accessFlags := 1041 }

def heap : Heap := #[{ cls := 9, slots := #[.ref 2, .null, .null, .ref 1, .null, .null, .null, .null, .null], vm := .statics 9 },
  { cls := 9, slots := #[.null, .int 0, .int 0, .null, .int 0], vm := .none },
  { cls := 9, slots := #[.null, .int 0, .int 0, .null, .int 0], vm := .none }]
def classes : Array Class := #[k0, k1, k2, k3, k4, k5, k6, k7, k8, k9, k10, k11, k12, k13, k14]
def interned : List (Array UInt16 × Addr) := []
def slotsUsed : Nat := 19
def theMethod : MethodId := ⟨1, 2⟩
def args0 : Array Value := #[.long 5, .long 7]
def aboutOver (below : List Frame) : State where
  vm := { classes := classes, interned := interned.toArray }
  heap := heap
  slotsUsed := slotsUsed
  threads := #[{ frames := .invoking theMethod args0 :: below }]
def below0 : List Frame := [.native { method := ⟨0, 0⟩, args := #[] }]
def about1 : State := aboutOver below0
def p0 : Program := .bare "" "" ""
def e0 : Env := launch0.env 0 0 0
theorem w_frames : about1.frames = Frame.invoking theMethod args0 :: below0 := rfl
set_option maxRecDepth 65536 in
theorem w_args : argsFit about1.vm theMethod args0 = true := by decide +kernel
set_option maxRecDepth 65536 in
theorem w_heap : heapFits about1 = true := by decide +kernel
set_option maxRecDepth 65536 in
theorem w_runnable : about1.curStatus? = some .runnable := by decide +kernel
set_option maxRecDepth 65536 in
theorem w_alone : about1.alone = true := by decide +kernel
set_option maxRecDepth 65536 in
theorem w_named : about1.methodNamed? x = some theMethod := by decide +kernel
set_option maxRecDepth 65536 in
theorem w_hears : about1.hears theMethod below0 = true := by decide +kernel
set_option maxRecDepth 65536 in
theorem w_ripe : about1.ripe theMethod args0 below0 = true := by decide +kernel
theorem w_running : about1.status = .running := rfl
set_option maxRecDepth 65536 in
theorem w_room : about1.hasRoom e0.platform room_1 = true :=
  launch0.hasRoom_least _ room_1 (by decide +kernel) (by decide +kernel) (by decide +kernel) (by decide +kernel) (by decide +kernel) (by decide +kernel)
theorem allAtoms_all (ts : List Jvm.Cond) (a : Array Jvm.Value) (st : Jvm.State) : (allAtoms ts).before a st = ts.all (fun c => c.before a st) := by
  induction ts with
  | nil => rfl
  | cons c t ih =>
    show (Jvm.Cond.and c (allAtoms t)).before a st = _
    rw [Jvm.Cond.before_and, ih, List.all_cons]
def words1 : List Jvm.Cond := Jvm.Cond.code x code maxLocals ret :: tables_1
/-- a 'code' word, met by the world's own term for the bytes: nothing is compared byte by byte -/
theorem code_word {y : MethodName} {bytes : ByteArray} {mx : Nat} {rt : Option FieldType} {a : Array Value} {s : State} {m : MethodId} {meth : Method} {c : Code} (h1 : s.methodNamed? y = some m) (h2 : s.vm.method? m = some meth) (h3 : meth.code = some c) (h4 : c.code = bytes)
    (h5 : (c.maxLocals == mx && c.exceptionTable.isEmpty && decide (c.maxStack ≤ mostOperands) && decide (meth.sig.returnType = rt) && !meth.locks && decide (parseMethodDescriptor y.desc = some meth.sig)) = true) : (Jvm.Cond.code y bytes mx rt).before a s = true := by
  simp only [Bool.and_eq_true, beq_iff_eq, Bool.not_eq_true', decide_eq_true_eq] at h5
  obtain ⟨⟨⟨⟨⟨g1, g2⟩, g3⟩, g4⟩, g5⟩, g6⟩ := h5
  simp [Cond.before, Cond.holds, Cond.value, h1, h2, h3, h4, g1, g2, g3, g4, g5, g6]
def isCode : Jvm.Cond → Bool
  | .code _ _ _ _ => true
  | _ => false
theorem all_split {L : List Jvm.Cond} {P : Jvm.Cond → Bool} (h1 : L.all (fun c => isCode c || P c) = true) (h2 : ∀ c ∈ L.filter isCode, P c = true) : L.all P = true := by
  refine List.all_eq_true.mpr fun c hc => ?_
  have h := List.all_eq_true.mp h1 c hc
  rcases Bool.eq_false_or_eq_true (isCode c) with hi | hi
  · exact h2 c (List.mem_filter.mpr ⟨hc, hi⟩)
  · simpa [hi] using h
set_option maxRecDepth 65536 in
theorem w_c0 : (Jvm.Cond.code x code maxLocals ret).before args0 about1 = true := code_word (m := ⟨1, 2⟩) (meth := k1m2) (c := k1c2) (by decide +kernel) rfl rfl rfl (by decide +kernel)
set_option maxRecDepth 65536 in
theorem w_c1 : (Jvm.Cond.code ({ cls := "com/example/anchordb/anchordb/Condition$Absent", name := "<init>", desc := "()V" } : Jvm.MethodName) prog_3_method_1_code (1 : Nat) (Option.none : Option Jvm.ClassFile.FieldType)).before args0 about1 = true := code_word (m := ⟨4, 0⟩) (meth := k4m0) (c := k4c0) (by decide +kernel) rfl rfl rfl (by decide +kernel)
set_option maxRecDepth 65536 in
theorem w_c2 : (Jvm.Cond.code ({ cls := "java/lang/Record", name := "<init>", desc := "()V" } : Jvm.MethodName) jdk_30_method_1_code (1 : Nat) (Option.none : Option Jvm.ClassFile.FieldType)).before args0 about1 = true := code_word (m := ⟨2, 0⟩) (meth := k2m0) (c := k2c0) (by decide +kernel) rfl rfl rfl (by decide +kernel)
set_option maxRecDepth 65536 in
theorem w_c3 : (Jvm.Cond.code ({ cls := "java/lang/Object", name := "<init>", desc := "()V" } : Jvm.MethodName) object_method_1_code (1 : Nat) (Option.none : Option Jvm.ClassFile.FieldType)).before args0 about1 = true := code_word (m := ⟨0, 0⟩) (meth := k0m0) (c := k0c0) (by decide +kernel) rfl rfl rfl (by decide +kernel)
set_option maxRecDepth 65536 in
theorem w_c4 : (Jvm.Cond.code ({ cls := "com/example/anchordb/anchordb/Condition$Absent", name := "check", desc := "(J)Lcom/example/anchordb/anchordb/Status;" } : Jvm.MethodName) prog_3_method_2_code (3 : Nat) (Option.some (Jvm.ClassFile.FieldType.object "com/example/anchordb/anchordb/Status"))).before args0 about1 = true := code_word (m := ⟨4, 1⟩) (meth := k4m1) (c := k4c1) (by decide +kernel) rfl rfl rfl (by decide +kernel)
set_option maxRecDepth 65536 in
theorem w_c5 : (Jvm.Cond.code ({ cls := "com/example/anchordb/anchordb/AbsentCheckPinLaw", name := "expected", desc := "(JLcom/example/anchordb/anchordb/Status;)Z" } : Jvm.MethodName) method_2_code (3 : Nat) (Option.some Jvm.ClassFile.FieldType.boolean)).before args0 about1 = true := code_word (m := ⟨1, 1⟩) (meth := k1m1) (c := k1c1) (by decide +kernel) rfl rfl rfl (by decide +kernel)
def codes1 : List Jvm.Cond := [Jvm.Cond.code x code maxLocals ret, Jvm.Cond.code ({ cls := "com/example/anchordb/anchordb/Condition$Absent", name := "<init>", desc := "()V" } : Jvm.MethodName) prog_3_method_1_code (1 : Nat) (Option.none : Option Jvm.ClassFile.FieldType), Jvm.Cond.code ({ cls := "java/lang/Record", name := "<init>", desc := "()V" } : Jvm.MethodName) jdk_30_method_1_code (1 : Nat) (Option.none : Option Jvm.ClassFile.FieldType), Jvm.Cond.code ({ cls := "java/lang/Object", name := "<init>", desc := "()V" } : Jvm.MethodName) object_method_1_code (1 : Nat) (Option.none : Option Jvm.ClassFile.FieldType), Jvm.Cond.code ({ cls := "com/example/anchordb/anchordb/Condition$Absent", name := "check", desc := "(J)Lcom/example/anchordb/anchordb/Status;" } : Jvm.MethodName) prog_3_method_2_code (3 : Nat) (Option.some (Jvm.ClassFile.FieldType.object "com/example/anchordb/anchordb/Status")), Jvm.Cond.code ({ cls := "com/example/anchordb/anchordb/AbsentCheckPinLaw", name := "expected", desc := "(JLcom/example/anchordb/anchordb/Status;)Z" } : Jvm.MethodName) method_2_code (3 : Nat) (Option.some Jvm.ClassFile.FieldType.boolean)]
set_option maxRecDepth 65536 in
theorem codes_eq : words1.filter isCode = codes1 := rfl
theorem w_codes : ∀ c ∈ words1.filter isCode, c.before args0 about1 = true := by
  rw [codes_eq]
  intro c hc
  simp only [codes1, List.mem_cons, List.not_mem_nil, or_false] at hc
  rcases hc with rfl | rfl | rfl | rfl | rfl | rfl
  · exact w_c0
  · exact w_c1
  · exact w_c2
  · exact w_c3
  · exact w_c4
  · exact w_c5
set_option maxRecDepth 65536 in
theorem w_t1 : (words1.take 24).all (fun c => isCode c || c.before args0 about1) = true := by decide +kernel
set_option maxRecDepth 65536 in
theorem w_t2 : (words1.drop 24).all (fun c => isCode c || c.before args0 about1) = true := by decide +kernel
theorem w_tables : (allAtoms (Jvm.Cond.code x code maxLocals ret :: tables_1)).before args0 about1 = true := by
  rw [allAtoms_all]
  show words1.all (fun c => c.before args0 about1) = true
  refine all_split ?_ w_codes
  rw [← List.take_append_drop 24 words1, List.all_append, w_t1, w_t2]
  rfl
set_option maxRecDepth 65536 in
theorem w_case : (Jvm.Cond.and given_1 narrow_1).before args0 about1 = true := by decide +kernel
theorem w_applies : (headSpec (Jvm.Cond.code x code maxLocals ret :: tables_1) room_1).applies x e0.platform about1 = true :=
  (Spec.applies_iff w_frames).mpr ⟨w_running, w_runnable, w_alone, w_named, w_hears, w_ripe, w_room, w_tables⟩
theorem atStart : AtStart classFile x code maxLocals ret World_1 tables_1 room_1 Calls_1 rest_1 Pre_1 launch0 p0 e0 about1 theMethod args0 below0 :=
  ⟨lists_1, trivial, launch0.admits_env _ _ _, launch0.least_env, fairChoices_fair.cas, fairChoices_fair.clock, w_frames, w_args, w_heap, w_applies, trivial, trivial, w_case⟩
end start1
theorem witness_1 : WitnessClaimed_1 := ⟨start1.p0, start1.e0, start1.about1, start1.theMethod, start1.args0, start1.below0, start1.atStart⟩
end Jvm.Pilot.@@N@@
