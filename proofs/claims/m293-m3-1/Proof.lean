import JvmDerived
import JvmDerived.Pilot.@@N@@Statement
import JvmDerived.Pilot.@@N@@Code
set_option linter.unusedVariables false
set_option linter.unusedSimpArgs false
namespace Jvm.Pilot.@@N@@
open Jvm Jvm.ClassFile Sem Op Lib Jvm.Free Jvm.Stand Jvm.LawKit Jvm.RoadKit Bundle Jvm.Pilot.@@N@@.Jvm.D
theorem own_eq {args : Array Value} {first s : State} {o : Option Outcome} {idx : List Nat} {a b : Term} (h : (Jvm.Cond.eq a b).value args first o s idx = some true) : a.eval args first o idx s = b.eval args first o idx s := by
  obtain ⟨x, y, h1, h2, k1, k2⟩ := cmp_v (Or.inl h)
  rw [h1, h2]
  simp only [Jvm.Cond.value, h1, h2] at h
  cases x <;> cases y <;> simp_all
theorem own_fld {args : Array Value} {s : State} {t u : Term} {a : Addr} {C n d : String} {v : Value} (ev : t.eval args s none [] s = some (.ref a)) (eu : u.eval args s none [] s = some v) (h : (Jvm.Cond.eq (.field t C n d) u).value args s none s [] = some true) : Fld s s.heap a C n d v :=
  Fld.start ((fld_at ev).symm.trans ((own_eq h).trans eu))
theorem own_pack {p : Program} {l : Launch} {e : Env} {R : Room} {s : State} {m : MethodId} {args : Array Value} {below : List Frame} {meth : Method} {c : ClassFile.Code} {T : State} {locs : List Loc} {cells slots k : Nat} (X : Stand p l e R s m args below meth c T locs cells slots) (N : Fr k locs) : ∃ lc, Stand p l e R s m args below meth c T lc cells slots ∧ Fr k lc := ⟨_, X, N⟩
theorem own_z {Z : State} {n0 : Nat} {h : Heap} (O : Old Z n0 h) : n0 ≤ h.size := O.1 ▸ O.2.1
theorem own_rem22 (x : Int32) : 0 ≤ ((x &&& (2147483647 : Int32)) % (22 : Int32)).toInt ∧ ((x &&& (2147483647 : Int32)) % (22 : Int32)).toInt < 22 := by
  have h1 := c_mask x (2147483647 : Int32) 31 (by decide) (by decide)
  have h2 := (c_irem (x &&& (2147483647 : Int32)) (22 : Int32) 22 (by decide)).1 (by omega)
  omega
theorem own_cases22 {z : Int32} (h0 : 0 ≤ z.toInt) (h1 : z.toInt < 22) : z = (0 : Int32) ∨ z = (1 : Int32) ∨ z = (2 : Int32) ∨ z = (3 : Int32) ∨ z = (4 : Int32) ∨ z = (5 : Int32) ∨ z = (6 : Int32) ∨ z = (7 : Int32) ∨ z = (8 : Int32) ∨ z = (9 : Int32) ∨ z = (10 : Int32) ∨ z = (11 : Int32) ∨ z = (12 : Int32) ∨ z = (13 : Int32) ∨ z = (14 : Int32) ∨ z = (15 : Int32) ∨ z = (16 : Int32) ∨ z = (17 : Int32) ∨ z = (18 : Int32) ∨ z = (19 : Int32) ∨ z = (20 : Int32) ∨ z = (21 : Int32) := by
  rcases (by omega : z.toInt = 0 ∨ 1 ≤ z.toInt) with h | h0
  · exact Or.inl (Int32.toInt_inj.mp (h.trans (by decide)))
  rcases (by omega : z.toInt = 1 ∨ 2 ≤ z.toInt) with h | h0
  · exact Or.inr (Or.inl (Int32.toInt_inj.mp (h.trans (by decide))))
  rcases (by omega : z.toInt = 2 ∨ 3 ≤ z.toInt) with h | h0
  · exact Or.inr (Or.inr (Or.inl (Int32.toInt_inj.mp (h.trans (by decide)))))
  rcases (by omega : z.toInt = 3 ∨ 4 ≤ z.toInt) with h | h0
  · exact Or.inr (Or.inr (Or.inr (Or.inl (Int32.toInt_inj.mp (h.trans (by decide))))))
  rcases (by omega : z.toInt = 4 ∨ 5 ≤ z.toInt) with h | h0
  · exact Or.inr (Or.inr (Or.inr (Or.inr (Or.inl (Int32.toInt_inj.mp (h.trans (by decide)))))))
  rcases (by omega : z.toInt = 5 ∨ 6 ≤ z.toInt) with h | h0
  · exact Or.inr (Or.inr (Or.inr (Or.inr (Or.inr (Or.inl (Int32.toInt_inj.mp (h.trans (by decide))))))))
  rcases (by omega : z.toInt = 6 ∨ 7 ≤ z.toInt) with h | h0
  · exact Or.inr (Or.inr (Or.inr (Or.inr (Or.inr (Or.inr (Or.inl (Int32.toInt_inj.mp (h.trans (by decide)))))))))
  rcases (by omega : z.toInt = 7 ∨ 8 ≤ z.toInt) with h | h0
  · exact Or.inr (Or.inr (Or.inr (Or.inr (Or.inr (Or.inr (Or.inr (Or.inl (Int32.toInt_inj.mp (h.trans (by decide))))))))))
  rcases (by omega : z.toInt = 8 ∨ 9 ≤ z.toInt) with h | h0
  · exact Or.inr (Or.inr (Or.inr (Or.inr (Or.inr (Or.inr (Or.inr (Or.inr (Or.inl (Int32.toInt_inj.mp (h.trans (by decide)))))))))))
  rcases (by omega : z.toInt = 9 ∨ 10 ≤ z.toInt) with h | h0
  · exact Or.inr (Or.inr (Or.inr (Or.inr (Or.inr (Or.inr (Or.inr (Or.inr (Or.inr (Or.inl (Int32.toInt_inj.mp (h.trans (by decide))))))))))))
  rcases (by omega : z.toInt = 10 ∨ 11 ≤ z.toInt) with h | h0
  · exact Or.inr (Or.inr (Or.inr (Or.inr (Or.inr (Or.inr (Or.inr (Or.inr (Or.inr (Or.inr (Or.inl (Int32.toInt_inj.mp (h.trans (by decide)))))))))))))
  rcases (by omega : z.toInt = 11 ∨ 12 ≤ z.toInt) with h | h0
  · exact Or.inr (Or.inr (Or.inr (Or.inr (Or.inr (Or.inr (Or.inr (Or.inr (Or.inr (Or.inr (Or.inr (Or.inl (Int32.toInt_inj.mp (h.trans (by decide))))))))))))))
  rcases (by omega : z.toInt = 12 ∨ 13 ≤ z.toInt) with h | h0
  · exact Or.inr (Or.inr (Or.inr (Or.inr (Or.inr (Or.inr (Or.inr (Or.inr (Or.inr (Or.inr (Or.inr (Or.inr (Or.inl (Int32.toInt_inj.mp (h.trans (by decide)))))))))))))))
  rcases (by omega : z.toInt = 13 ∨ 14 ≤ z.toInt) with h | h0
  · exact Or.inr (Or.inr (Or.inr (Or.inr (Or.inr (Or.inr (Or.inr (Or.inr (Or.inr (Or.inr (Or.inr (Or.inr (Or.inr (Or.inl (Int32.toInt_inj.mp (h.trans (by decide))))))))))))))))
  rcases (by omega : z.toInt = 14 ∨ 15 ≤ z.toInt) with h | h0
  · exact Or.inr (Or.inr (Or.inr (Or.inr (Or.inr (Or.inr (Or.inr (Or.inr (Or.inr (Or.inr (Or.inr (Or.inr (Or.inr (Or.inr (Or.inl (Int32.toInt_inj.mp (h.trans (by decide)))))))))))))))))
  rcases (by omega : z.toInt = 15 ∨ 16 ≤ z.toInt) with h | h0
  · exact Or.inr (Or.inr (Or.inr (Or.inr (Or.inr (Or.inr (Or.inr (Or.inr (Or.inr (Or.inr (Or.inr (Or.inr (Or.inr (Or.inr (Or.inr (Or.inl (Int32.toInt_inj.mp (h.trans (by decide))))))))))))))))))
  rcases (by omega : z.toInt = 16 ∨ 17 ≤ z.toInt) with h | h0
  · exact Or.inr (Or.inr (Or.inr (Or.inr (Or.inr (Or.inr (Or.inr (Or.inr (Or.inr (Or.inr (Or.inr (Or.inr (Or.inr (Or.inr (Or.inr (Or.inr (Or.inl (Int32.toInt_inj.mp (h.trans (by decide)))))))))))))))))))
  rcases (by omega : z.toInt = 17 ∨ 18 ≤ z.toInt) with h | h0
  · exact Or.inr (Or.inr (Or.inr (Or.inr (Or.inr (Or.inr (Or.inr (Or.inr (Or.inr (Or.inr (Or.inr (Or.inr (Or.inr (Or.inr (Or.inr (Or.inr (Or.inr (Or.inl (Int32.toInt_inj.mp (h.trans (by decide))))))))))))))))))))
  rcases (by omega : z.toInt = 18 ∨ 19 ≤ z.toInt) with h | h0
  · exact Or.inr (Or.inr (Or.inr (Or.inr (Or.inr (Or.inr (Or.inr (Or.inr (Or.inr (Or.inr (Or.inr (Or.inr (Or.inr (Or.inr (Or.inr (Or.inr (Or.inr (Or.inr (Or.inl (Int32.toInt_inj.mp (h.trans (by decide)))))))))))))))))))))
  rcases (by omega : z.toInt = 19 ∨ 20 ≤ z.toInt) with h | h0
  · exact Or.inr (Or.inr (Or.inr (Or.inr (Or.inr (Or.inr (Or.inr (Or.inr (Or.inr (Or.inr (Or.inr (Or.inr (Or.inr (Or.inr (Or.inr (Or.inr (Or.inr (Or.inr (Or.inr (Or.inl (Int32.toInt_inj.mp (h.trans (by decide))))))))))))))))))))))
  rcases (by omega : z.toInt = 20 ∨ 21 ≤ z.toInt) with h | h0
  · exact Or.inr (Or.inr (Or.inr (Or.inr (Or.inr (Or.inr (Or.inr (Or.inr (Or.inr (Or.inr (Or.inr (Or.inr (Or.inr (Or.inr (Or.inr (Or.inr (Or.inr (Or.inr (Or.inr (Or.inr (Or.inl (Int32.toInt_inj.mp (h.trans (by decide)))))))))))))))))))))))
  have h : z.toInt = 21 := by omega
  exact Or.inr (Or.inr (Or.inr (Or.inr (Or.inr (Or.inr (Or.inr (Or.inr (Or.inr (Or.inr (Or.inr (Or.inr (Or.inr (Or.inr (Or.inr (Or.inr (Or.inr (Or.inr (Or.inr (Or.inr (Or.inr ((Int32.toInt_inj.mp (h.trans (by decide))))))))))))))))))))))))
theorem d_prog_45_method_7_code_0 : decode prog_45_method_7_code 0 = .ok (.aload_n 0, 1) := by decide +kernel
theorem d_prog_45_method_7_code_1 : decode prog_45_method_7_code 1 = .ok (.getfield 93, 3) := by decide +kernel
theorem d_prog_45_method_7_code_4 : decode prog_45_method_7_code 4 = .ok (.ifnonnull 7, 3) := by decide +kernel
theorem d_prog_45_method_7_code_11 : decode prog_45_method_7_code 11 = .ok (.iconst 0, 1) := by decide +kernel
theorem d_prog_45_method_7_code_12 : decode prog_45_method_7_code 12 = .ok (.ireturn, 1) := by decide +kernel
theorem pn_com_example_shapewright_shapewright_model_ShapeType : plainName "com/example/shapewright/shapewright/model/ShapeType" = true := by first | (simp [plainName, overriddenIn]; done) | decide +kernel
theorem ef_rm_namesItsMembers_1 (m : MethodId) (w_BLOB : Addr) : entryFrame m #[(.ref w_BLOB)] 1 = mkF m 0 #[.val (.ref w_BLOB)] [] := by first | (simp [entryFrame, mkF, argsToLocals, Value.category]; done) | rfl
def Q_rm_namesItsMembers_1 (Z : State) (w_BLOB : Addr) (r_fixedMembers_BLOB : Addr) (h0 : Heap) (n0 : Nat) (v : Option Value) (h : Heap) (L : List Loc) : Prop := v = some (.int (0 : Int32)) ∧ Fr n0 L ∧ h = h0
set_option maxRecDepth 65536 in
set_option maxHeartbeats 40000000 in
theorem rm_namesItsMembers_1 (l : Launch) (Z : State) (a0 : Array Value) (hw : ∀ d ∈ tables_1, d.before a0 Z = true) (ws : List Jvm.Cond) (w_BLOB : Addr) (r_fixedMembers_BLOB : Addr) (h0 : Heap) (n0 : Nat) (O0 : Old Z n0 h0)  (F_fixedMembers_BLOB : Fld Z Z.heap w_BLOB "com/example/shapewright/shapewright/model/ShapeType" "fixedMembers" "Ljava/util/List;" (.ref r_fixedMembers_BLOB)) :
    MetFree l (⟨"com/example/shapewright/shapewright/model/ShapeType", "namesItsMembers", "()Z"⟩ : MethodName) (head1 (Jvm.Cond.code (⟨"com/example/shapewright/shapewright/model/ShapeType", "namesItsMembers", "()Z"⟩ : MethodName) prog_45_method_7_code 1 (some .boolean) :: ws) ({ frames := 0, cells := 0, slots := 0, locals := 0 } : Room)) (fun a U => a = #[(.ref w_BLOB)] ∧ Z.Warmed39 U.vm ∧ U.heap = h0) (fun _ _ _ _ _ => True) (fun _ U o U' => ∃ v L, o = .returned v ∧ Q_rm_namesItsMembers_1 Z w_BLOB r_fixedMembers_BLOB h0 n0 v U'.heap L ∧ FrameEnd U o U' L ({ frames := 0, cells := 0, slots := 0, locals := 0 } : Room).cells ({ frames := 0, cells := 0, slots := 0, locals := 0 } : Room).slots) := by
  refine MetFree.of_bodySF (plainFor_of_name pn_com_example_shapewright_shapewright_model_ShapeType) hisR ?_
  intro p e s m args below meth c s₁ Bd hml0 hP hK
  obtain ⟨rfl, hZ, hh⟩ := hP
  have hx := Bd.exec
  have hby := Bd.bytes
  have hml : c.maxLocals = 1 := hml0
  have hown : s.vm.findClass "com/example/shapewright/shapewright/model/ShapeType" = some m.cls := findClass_of_methodNamed Bd.named
  have hnm := (name_of_methodNamed Bd.named Bd.method).1
  have X0 : Stand p l e ({ frames := 0, cells := 0, slots := 0, locals := 0 } : Room) s m #[(.ref w_BLOB)] below meth c s₁ [] 0 0 := Stand.of_body Bd
  have e0 : s₁.heap = h0 := by rw [← hh, Bd.state]; rfl
  have N0 := Fr.nil n0
  have pre0 : ∀ t, Steps p.tables e below (s₁.setTop (mkF m 0 #[.val (.ref w_BLOB)] [])) t → Steps p.tables e below (s₁.setTop (entryFrame m #[(.ref w_BLOB)] 1)) t := fun t k => castTop (ef_rm_namesItsMembers_1 m w_BLOB) k
  have K0 := Keep.refl h0 []
  obtain ⟨T76, X76, e76, st76⟩ := getF X0 hx hZ hown (host := "") (Or.inl (hw _ (List.mem_of_getElem? (i := 54) rfl))) Via.refl e0 (F_fixedMembers_BLOB.ext O0.2) (g := (mkF m 1 #[.val (.ref w_BLOB)] [(.ref w_BLOB)])) rfl rfl (hb hby d_prog_45_method_7_code_1)
  have pre77 : ∀ t, Steps p.tables e below (T76.setTop (mkF m 12 #[.val (.ref w_BLOB)] [(.int (0 : Int32))])) t → Steps p.tables e below (s₁.setTop (entryFrame m #[(.ref w_BLOB)] 1)) t := by
    intro t kt
    refine pre0 t ?_
    show Steps p.tables e below (s₁.setTop (mkF m 0 #[.val (.ref w_BLOB)] [])) _
    refine XS.aloadN X0.here hx rfl (hb hby d_prog_45_method_7_code_0) rfl rfl ?_
    show Steps p.tables e below (s₁.setTop (mkF m 1 #[.val (.ref w_BLOB)] [(.ref w_BLOB)])) _
    refine st76 _ ?_
    show Steps p.tables e below (T76.setTop (mkF m 4 #[.val (.ref w_BLOB)] [(.ref r_fixedMembers_BLOB)])) _
    refine XS.ifnonnullYes X76.here hx rfl (pc0 := 4) (pc' := 11) rfl (hb hby d_prog_45_method_7_code_4) rfl (by decide) (by decide) ?_
    show Steps p.tables e below (T76.setTop (mkF m 11 #[.val (.ref w_BLOB)] [])) _
    refine XS.iconst X76.here hx rfl (hb hby d_prog_45_method_7_code_11) ?_
    exact kt
  obtain ⟨fs, hr, hrun, hended, hW, hsame⟩ := X76.leave (v := some (.int (0 : Int32))) (fun h => by rw [Bd.returns] at h; cases h)
  refine ⟨_, _, pre77 _ ?_, hrun, hended, _, _, rfl, ?_, ⟨_, rfl⟩, hW, hsame.mono (by decide) (by decide)⟩
  · show Steps p.tables e below (T76.setTop (mkF m 12 #[.val (.ref w_BLOB)] [(.int (0 : Int32))])) _
    exact retN X76 hx (t := .boolean) Bd.returns (by simp) (hb hby d_prog_45_method_7_code_12) hr
  · show Q_rm_namesItsMembers_1 Z w_BLOB r_fixedMembers_BLOB h0 n0 _ T76.heap _
    rw [e76]
    exact ⟨rfl, N0, rfl⟩
theorem ef_rm_namesItsMembers_2 (m : MethodId) (w_BOOLEAN : Addr) : entryFrame m #[(.ref w_BOOLEAN)] 1 = mkF m 0 #[.val (.ref w_BOOLEAN)] [] := by first | (simp [entryFrame, mkF, argsToLocals, Value.category]; done) | rfl
def Q_rm_namesItsMembers_2 (Z : State) (r_fixedMembers_BLOB : Addr) (w_BOOLEAN : Addr) (h0 : Heap) (n0 : Nat) (v : Option Value) (h : Heap) (L : List Loc) : Prop := v = some (.int (0 : Int32)) ∧ Fr n0 L ∧ h = h0
set_option maxRecDepth 65536 in
set_option maxHeartbeats 40000000 in
theorem rm_namesItsMembers_2 (l : Launch) (Z : State) (a0 : Array Value) (hw : ∀ d ∈ tables_1, d.before a0 Z = true) (ws : List Jvm.Cond) (r_fixedMembers_BLOB : Addr) (w_BOOLEAN : Addr) (h0 : Heap) (n0 : Nat) (O0 : Old Z n0 h0)  (F_fixedMembers_BOOLEAN : Fld Z Z.heap w_BOOLEAN "com/example/shapewright/shapewright/model/ShapeType" "fixedMembers" "Ljava/util/List;" (.ref r_fixedMembers_BLOB)) :
    MetFree l (⟨"com/example/shapewright/shapewright/model/ShapeType", "namesItsMembers", "()Z"⟩ : MethodName) (head1 (Jvm.Cond.code (⟨"com/example/shapewright/shapewright/model/ShapeType", "namesItsMembers", "()Z"⟩ : MethodName) prog_45_method_7_code 1 (some .boolean) :: ws) ({ frames := 0, cells := 0, slots := 0, locals := 0 } : Room)) (fun a U => a = #[(.ref w_BOOLEAN)] ∧ Z.Warmed39 U.vm ∧ U.heap = h0) (fun _ _ _ _ _ => True) (fun _ U o U' => ∃ v L, o = .returned v ∧ Q_rm_namesItsMembers_2 Z r_fixedMembers_BLOB w_BOOLEAN h0 n0 v U'.heap L ∧ FrameEnd U o U' L ({ frames := 0, cells := 0, slots := 0, locals := 0 } : Room).cells ({ frames := 0, cells := 0, slots := 0, locals := 0 } : Room).slots) := by
  refine MetFree.of_bodySF (plainFor_of_name pn_com_example_shapewright_shapewright_model_ShapeType) hisR ?_
  intro p e s m args below meth c s₁ Bd hml0 hP hK
  obtain ⟨rfl, hZ, hh⟩ := hP
  have hx := Bd.exec
  have hby := Bd.bytes
  have hml : c.maxLocals = 1 := hml0
  have hown : s.vm.findClass "com/example/shapewright/shapewright/model/ShapeType" = some m.cls := findClass_of_methodNamed Bd.named
  have hnm := (name_of_methodNamed Bd.named Bd.method).1
  have X0 : Stand p l e ({ frames := 0, cells := 0, slots := 0, locals := 0 } : Room) s m #[(.ref w_BOOLEAN)] below meth c s₁ [] 0 0 := Stand.of_body Bd
  have e0 : s₁.heap = h0 := by rw [← hh, Bd.state]; rfl
  have N0 := Fr.nil n0
  have pre0 : ∀ t, Steps p.tables e below (s₁.setTop (mkF m 0 #[.val (.ref w_BOOLEAN)] [])) t → Steps p.tables e below (s₁.setTop (entryFrame m #[(.ref w_BOOLEAN)] 1)) t := fun t k => castTop (ef_rm_namesItsMembers_2 m w_BOOLEAN) k
  have K0 := Keep.refl h0 []
  obtain ⟨T87, X87, e87, st87⟩ := getF X0 hx hZ hown (host := "") (Or.inl (hw _ (List.mem_of_getElem? (i := 54) rfl))) Via.refl e0 (F_fixedMembers_BOOLEAN.ext O0.2) (g := (mkF m 1 #[.val (.ref w_BOOLEAN)] [(.ref w_BOOLEAN)])) rfl rfl (hb hby d_prog_45_method_7_code_1)
  have pre88 : ∀ t, Steps p.tables e below (T87.setTop (mkF m 12 #[.val (.ref w_BOOLEAN)] [(.int (0 : Int32))])) t → Steps p.tables e below (s₁.setTop (entryFrame m #[(.ref w_BOOLEAN)] 1)) t := by
    intro t kt
    refine pre0 t ?_
    show Steps p.tables e below (s₁.setTop (mkF m 0 #[.val (.ref w_BOOLEAN)] [])) _
    refine XS.aloadN X0.here hx rfl (hb hby d_prog_45_method_7_code_0) rfl rfl ?_
    show Steps p.tables e below (s₁.setTop (mkF m 1 #[.val (.ref w_BOOLEAN)] [(.ref w_BOOLEAN)])) _
    refine st87 _ ?_
    show Steps p.tables e below (T87.setTop (mkF m 4 #[.val (.ref w_BOOLEAN)] [(.ref r_fixedMembers_BLOB)])) _
    refine XS.ifnonnullYes X87.here hx rfl (pc0 := 4) (pc' := 11) rfl (hb hby d_prog_45_method_7_code_4) rfl (by decide) (by decide) ?_
    show Steps p.tables e below (T87.setTop (mkF m 11 #[.val (.ref w_BOOLEAN)] [])) _
    refine XS.iconst X87.here hx rfl (hb hby d_prog_45_method_7_code_11) ?_
    exact kt
  obtain ⟨fs, hr, hrun, hended, hW, hsame⟩ := X87.leave (v := some (.int (0 : Int32))) (fun h => by rw [Bd.returns] at h; cases h)
  refine ⟨_, _, pre88 _ ?_, hrun, hended, _, _, rfl, ?_, ⟨_, rfl⟩, hW, hsame.mono (by decide) (by decide)⟩
  · show Steps p.tables e below (T87.setTop (mkF m 12 #[.val (.ref w_BOOLEAN)] [(.int (0 : Int32))])) _
    exact retN X87 hx (t := .boolean) Bd.returns (by simp) (hb hby d_prog_45_method_7_code_12) hr
  · show Q_rm_namesItsMembers_2 Z r_fixedMembers_BLOB w_BOOLEAN h0 n0 _ T87.heap _
    rw [e87]
    exact ⟨rfl, N0, rfl⟩
theorem ef_rm_namesItsMembers_3 (m : MethodId) (w_DOCUMENT : Addr) : entryFrame m #[(.ref w_DOCUMENT)] 1 = mkF m 0 #[.val (.ref w_DOCUMENT)] [] := by first | (simp [entryFrame, mkF, argsToLocals, Value.category]; done) | rfl
def Q_rm_namesItsMembers_3 (Z : State) (w_DOCUMENT : Addr) (r_fixedMembers_BLOB : Addr) (h0 : Heap) (n0 : Nat) (v : Option Value) (h : Heap) (L : List Loc) : Prop := v = some (.int (0 : Int32)) ∧ Fr n0 L ∧ h = h0
set_option maxRecDepth 65536 in
set_option maxHeartbeats 40000000 in
theorem rm_namesItsMembers_3 (l : Launch) (Z : State) (a0 : Array Value) (hw : ∀ d ∈ tables_1, d.before a0 Z = true) (ws : List Jvm.Cond) (w_DOCUMENT : Addr) (r_fixedMembers_BLOB : Addr) (h0 : Heap) (n0 : Nat) (O0 : Old Z n0 h0)  (F_fixedMembers_DOCUMENT : Fld Z Z.heap w_DOCUMENT "com/example/shapewright/shapewright/model/ShapeType" "fixedMembers" "Ljava/util/List;" (.ref r_fixedMembers_BLOB)) :
    MetFree l (⟨"com/example/shapewright/shapewright/model/ShapeType", "namesItsMembers", "()Z"⟩ : MethodName) (head1 (Jvm.Cond.code (⟨"com/example/shapewright/shapewright/model/ShapeType", "namesItsMembers", "()Z"⟩ : MethodName) prog_45_method_7_code 1 (some .boolean) :: ws) ({ frames := 0, cells := 0, slots := 0, locals := 0 } : Room)) (fun a U => a = #[(.ref w_DOCUMENT)] ∧ Z.Warmed39 U.vm ∧ U.heap = h0) (fun _ _ _ _ _ => True) (fun _ U o U' => ∃ v L, o = .returned v ∧ Q_rm_namesItsMembers_3 Z w_DOCUMENT r_fixedMembers_BLOB h0 n0 v U'.heap L ∧ FrameEnd U o U' L ({ frames := 0, cells := 0, slots := 0, locals := 0 } : Room).cells ({ frames := 0, cells := 0, slots := 0, locals := 0 } : Room).slots) := by
  refine MetFree.of_bodySF (plainFor_of_name pn_com_example_shapewright_shapewright_model_ShapeType) hisR ?_
  intro p e s m args below meth c s₁ Bd hml0 hP hK
  obtain ⟨rfl, hZ, hh⟩ := hP
  have hx := Bd.exec
  have hby := Bd.bytes
  have hml : c.maxLocals = 1 := hml0
  have hown : s.vm.findClass "com/example/shapewright/shapewright/model/ShapeType" = some m.cls := findClass_of_methodNamed Bd.named
  have hnm := (name_of_methodNamed Bd.named Bd.method).1
  have X0 : Stand p l e ({ frames := 0, cells := 0, slots := 0, locals := 0 } : Room) s m #[(.ref w_DOCUMENT)] below meth c s₁ [] 0 0 := Stand.of_body Bd
  have e0 : s₁.heap = h0 := by rw [← hh, Bd.state]; rfl
  have N0 := Fr.nil n0
  have pre0 : ∀ t, Steps p.tables e below (s₁.setTop (mkF m 0 #[.val (.ref w_DOCUMENT)] [])) t → Steps p.tables e below (s₁.setTop (entryFrame m #[(.ref w_DOCUMENT)] 1)) t := fun t k => castTop (ef_rm_namesItsMembers_3 m w_DOCUMENT) k
  have K0 := Keep.refl h0 []
  obtain ⟨T98, X98, e98, st98⟩ := getF X0 hx hZ hown (host := "") (Or.inl (hw _ (List.mem_of_getElem? (i := 54) rfl))) Via.refl e0 (F_fixedMembers_DOCUMENT.ext O0.2) (g := (mkF m 1 #[.val (.ref w_DOCUMENT)] [(.ref w_DOCUMENT)])) rfl rfl (hb hby d_prog_45_method_7_code_1)
  have pre99 : ∀ t, Steps p.tables e below (T98.setTop (mkF m 12 #[.val (.ref w_DOCUMENT)] [(.int (0 : Int32))])) t → Steps p.tables e below (s₁.setTop (entryFrame m #[(.ref w_DOCUMENT)] 1)) t := by
    intro t kt
    refine pre0 t ?_
    show Steps p.tables e below (s₁.setTop (mkF m 0 #[.val (.ref w_DOCUMENT)] [])) _
    refine XS.aloadN X0.here hx rfl (hb hby d_prog_45_method_7_code_0) rfl rfl ?_
    show Steps p.tables e below (s₁.setTop (mkF m 1 #[.val (.ref w_DOCUMENT)] [(.ref w_DOCUMENT)])) _
    refine st98 _ ?_
    show Steps p.tables e below (T98.setTop (mkF m 4 #[.val (.ref w_DOCUMENT)] [(.ref r_fixedMembers_BLOB)])) _
    refine XS.ifnonnullYes X98.here hx rfl (pc0 := 4) (pc' := 11) rfl (hb hby d_prog_45_method_7_code_4) rfl (by decide) (by decide) ?_
    show Steps p.tables e below (T98.setTop (mkF m 11 #[.val (.ref w_DOCUMENT)] [])) _
    refine XS.iconst X98.here hx rfl (hb hby d_prog_45_method_7_code_11) ?_
    exact kt
  obtain ⟨fs, hr, hrun, hended, hW, hsame⟩ := X98.leave (v := some (.int (0 : Int32))) (fun h => by rw [Bd.returns] at h; cases h)
  refine ⟨_, _, pre99 _ ?_, hrun, hended, _, _, rfl, ?_, ⟨_, rfl⟩, hW, hsame.mono (by decide) (by decide)⟩
  · show Steps p.tables e below (T98.setTop (mkF m 12 #[.val (.ref w_DOCUMENT)] [(.int (0 : Int32))])) _
    exact retN X98 hx (t := .boolean) Bd.returns (by simp) (hb hby d_prog_45_method_7_code_12) hr
  · show Q_rm_namesItsMembers_3 Z w_DOCUMENT r_fixedMembers_BLOB h0 n0 _ T98.heap _
    rw [e98]
    exact ⟨rfl, N0, rfl⟩
theorem ef_rm_namesItsMembers_4 (m : MethodId) (w_STRING : Addr) : entryFrame m #[(.ref w_STRING)] 1 = mkF m 0 #[.val (.ref w_STRING)] [] := by first | (simp [entryFrame, mkF, argsToLocals, Value.category]; done) | rfl
def Q_rm_namesItsMembers_4 (Z : State) (r_fixedMembers_BLOB : Addr) (w_STRING : Addr) (h0 : Heap) (n0 : Nat) (v : Option Value) (h : Heap) (L : List Loc) : Prop := v = some (.int (0 : Int32)) ∧ Fr n0 L ∧ h = h0
set_option maxRecDepth 65536 in
set_option maxHeartbeats 40000000 in
theorem rm_namesItsMembers_4 (l : Launch) (Z : State) (a0 : Array Value) (hw : ∀ d ∈ tables_1, d.before a0 Z = true) (ws : List Jvm.Cond) (r_fixedMembers_BLOB : Addr) (w_STRING : Addr) (h0 : Heap) (n0 : Nat) (O0 : Old Z n0 h0)  (F_fixedMembers_STRING : Fld Z Z.heap w_STRING "com/example/shapewright/shapewright/model/ShapeType" "fixedMembers" "Ljava/util/List;" (.ref r_fixedMembers_BLOB)) :
    MetFree l (⟨"com/example/shapewright/shapewright/model/ShapeType", "namesItsMembers", "()Z"⟩ : MethodName) (head1 (Jvm.Cond.code (⟨"com/example/shapewright/shapewright/model/ShapeType", "namesItsMembers", "()Z"⟩ : MethodName) prog_45_method_7_code 1 (some .boolean) :: ws) ({ frames := 0, cells := 0, slots := 0, locals := 0 } : Room)) (fun a U => a = #[(.ref w_STRING)] ∧ Z.Warmed39 U.vm ∧ U.heap = h0) (fun _ _ _ _ _ => True) (fun _ U o U' => ∃ v L, o = .returned v ∧ Q_rm_namesItsMembers_4 Z r_fixedMembers_BLOB w_STRING h0 n0 v U'.heap L ∧ FrameEnd U o U' L ({ frames := 0, cells := 0, slots := 0, locals := 0 } : Room).cells ({ frames := 0, cells := 0, slots := 0, locals := 0 } : Room).slots) := by
  refine MetFree.of_bodySF (plainFor_of_name pn_com_example_shapewright_shapewright_model_ShapeType) hisR ?_
  intro p e s m args below meth c s₁ Bd hml0 hP hK
  obtain ⟨rfl, hZ, hh⟩ := hP
  have hx := Bd.exec
  have hby := Bd.bytes
  have hml : c.maxLocals = 1 := hml0
  have hown : s.vm.findClass "com/example/shapewright/shapewright/model/ShapeType" = some m.cls := findClass_of_methodNamed Bd.named
  have hnm := (name_of_methodNamed Bd.named Bd.method).1
  have X0 : Stand p l e ({ frames := 0, cells := 0, slots := 0, locals := 0 } : Room) s m #[(.ref w_STRING)] below meth c s₁ [] 0 0 := Stand.of_body Bd
  have e0 : s₁.heap = h0 := by rw [← hh, Bd.state]; rfl
  have N0 := Fr.nil n0
  have pre0 : ∀ t, Steps p.tables e below (s₁.setTop (mkF m 0 #[.val (.ref w_STRING)] [])) t → Steps p.tables e below (s₁.setTop (entryFrame m #[(.ref w_STRING)] 1)) t := fun t k => castTop (ef_rm_namesItsMembers_4 m w_STRING) k
  have K0 := Keep.refl h0 []
  obtain ⟨T109, X109, e109, st109⟩ := getF X0 hx hZ hown (host := "") (Or.inl (hw _ (List.mem_of_getElem? (i := 54) rfl))) Via.refl e0 (F_fixedMembers_STRING.ext O0.2) (g := (mkF m 1 #[.val (.ref w_STRING)] [(.ref w_STRING)])) rfl rfl (hb hby d_prog_45_method_7_code_1)
  have pre110 : ∀ t, Steps p.tables e below (T109.setTop (mkF m 12 #[.val (.ref w_STRING)] [(.int (0 : Int32))])) t → Steps p.tables e below (s₁.setTop (entryFrame m #[(.ref w_STRING)] 1)) t := by
    intro t kt
    refine pre0 t ?_
    show Steps p.tables e below (s₁.setTop (mkF m 0 #[.val (.ref w_STRING)] [])) _
    refine XS.aloadN X0.here hx rfl (hb hby d_prog_45_method_7_code_0) rfl rfl ?_
    show Steps p.tables e below (s₁.setTop (mkF m 1 #[.val (.ref w_STRING)] [(.ref w_STRING)])) _
    refine st109 _ ?_
    show Steps p.tables e below (T109.setTop (mkF m 4 #[.val (.ref w_STRING)] [(.ref r_fixedMembers_BLOB)])) _
    refine XS.ifnonnullYes X109.here hx rfl (pc0 := 4) (pc' := 11) rfl (hb hby d_prog_45_method_7_code_4) rfl (by decide) (by decide) ?_
    show Steps p.tables e below (T109.setTop (mkF m 11 #[.val (.ref w_STRING)] [])) _
    refine XS.iconst X109.here hx rfl (hb hby d_prog_45_method_7_code_11) ?_
    exact kt
  obtain ⟨fs, hr, hrun, hended, hW, hsame⟩ := X109.leave (v := some (.int (0 : Int32))) (fun h => by rw [Bd.returns] at h; cases h)
  refine ⟨_, _, pre110 _ ?_, hrun, hended, _, _, rfl, ?_, ⟨_, rfl⟩, hW, hsame.mono (by decide) (by decide)⟩
  · show Steps p.tables e below (T109.setTop (mkF m 12 #[.val (.ref w_STRING)] [(.int (0 : Int32))])) _
    exact retN X109 hx (t := .boolean) Bd.returns (by simp) (hb hby d_prog_45_method_7_code_12) hr
  · show Q_rm_namesItsMembers_4 Z r_fixedMembers_BLOB w_STRING h0 n0 _ T109.heap _
    rw [e109]
    exact ⟨rfl, N0, rfl⟩
theorem ef_rm_namesItsMembers_5 (m : MethodId) (w_BYTE : Addr) : entryFrame m #[(.ref w_BYTE)] 1 = mkF m 0 #[.val (.ref w_BYTE)] [] := by first | (simp [entryFrame, mkF, argsToLocals, Value.category]; done) | rfl
def Q_rm_namesItsMembers_5 (Z : State) (r_fixedMembers_BLOB : Addr) (w_BYTE : Addr) (h0 : Heap) (n0 : Nat) (v : Option Value) (h : Heap) (L : List Loc) : Prop := v = some (.int (0 : Int32)) ∧ Fr n0 L ∧ h = h0
set_option maxRecDepth 65536 in
set_option maxHeartbeats 40000000 in
theorem rm_namesItsMembers_5 (l : Launch) (Z : State) (a0 : Array Value) (hw : ∀ d ∈ tables_1, d.before a0 Z = true) (ws : List Jvm.Cond) (r_fixedMembers_BLOB : Addr) (w_BYTE : Addr) (h0 : Heap) (n0 : Nat) (O0 : Old Z n0 h0)  (F_fixedMembers_BYTE : Fld Z Z.heap w_BYTE "com/example/shapewright/shapewright/model/ShapeType" "fixedMembers" "Ljava/util/List;" (.ref r_fixedMembers_BLOB)) :
    MetFree l (⟨"com/example/shapewright/shapewright/model/ShapeType", "namesItsMembers", "()Z"⟩ : MethodName) (head1 (Jvm.Cond.code (⟨"com/example/shapewright/shapewright/model/ShapeType", "namesItsMembers", "()Z"⟩ : MethodName) prog_45_method_7_code 1 (some .boolean) :: ws) ({ frames := 0, cells := 0, slots := 0, locals := 0 } : Room)) (fun a U => a = #[(.ref w_BYTE)] ∧ Z.Warmed39 U.vm ∧ U.heap = h0) (fun _ _ _ _ _ => True) (fun _ U o U' => ∃ v L, o = .returned v ∧ Q_rm_namesItsMembers_5 Z r_fixedMembers_BLOB w_BYTE h0 n0 v U'.heap L ∧ FrameEnd U o U' L ({ frames := 0, cells := 0, slots := 0, locals := 0 } : Room).cells ({ frames := 0, cells := 0, slots := 0, locals := 0 } : Room).slots) := by
  refine MetFree.of_bodySF (plainFor_of_name pn_com_example_shapewright_shapewright_model_ShapeType) hisR ?_
  intro p e s m args below meth c s₁ Bd hml0 hP hK
  obtain ⟨rfl, hZ, hh⟩ := hP
  have hx := Bd.exec
  have hby := Bd.bytes
  have hml : c.maxLocals = 1 := hml0
  have hown : s.vm.findClass "com/example/shapewright/shapewright/model/ShapeType" = some m.cls := findClass_of_methodNamed Bd.named
  have hnm := (name_of_methodNamed Bd.named Bd.method).1
  have X0 : Stand p l e ({ frames := 0, cells := 0, slots := 0, locals := 0 } : Room) s m #[(.ref w_BYTE)] below meth c s₁ [] 0 0 := Stand.of_body Bd
  have e0 : s₁.heap = h0 := by rw [← hh, Bd.state]; rfl
  have N0 := Fr.nil n0
  have pre0 : ∀ t, Steps p.tables e below (s₁.setTop (mkF m 0 #[.val (.ref w_BYTE)] [])) t → Steps p.tables e below (s₁.setTop (entryFrame m #[(.ref w_BYTE)] 1)) t := fun t k => castTop (ef_rm_namesItsMembers_5 m w_BYTE) k
  have K0 := Keep.refl h0 []
  obtain ⟨T120, X120, e120, st120⟩ := getF X0 hx hZ hown (host := "") (Or.inl (hw _ (List.mem_of_getElem? (i := 54) rfl))) Via.refl e0 (F_fixedMembers_BYTE.ext O0.2) (g := (mkF m 1 #[.val (.ref w_BYTE)] [(.ref w_BYTE)])) rfl rfl (hb hby d_prog_45_method_7_code_1)
  have pre121 : ∀ t, Steps p.tables e below (T120.setTop (mkF m 12 #[.val (.ref w_BYTE)] [(.int (0 : Int32))])) t → Steps p.tables e below (s₁.setTop (entryFrame m #[(.ref w_BYTE)] 1)) t := by
    intro t kt
    refine pre0 t ?_
    show Steps p.tables e below (s₁.setTop (mkF m 0 #[.val (.ref w_BYTE)] [])) _
    refine XS.aloadN X0.here hx rfl (hb hby d_prog_45_method_7_code_0) rfl rfl ?_
    show Steps p.tables e below (s₁.setTop (mkF m 1 #[.val (.ref w_BYTE)] [(.ref w_BYTE)])) _
    refine st120 _ ?_
    show Steps p.tables e below (T120.setTop (mkF m 4 #[.val (.ref w_BYTE)] [(.ref r_fixedMembers_BLOB)])) _
    refine XS.ifnonnullYes X120.here hx rfl (pc0 := 4) (pc' := 11) rfl (hb hby d_prog_45_method_7_code_4) rfl (by decide) (by decide) ?_
    show Steps p.tables e below (T120.setTop (mkF m 11 #[.val (.ref w_BYTE)] [])) _
    refine XS.iconst X120.here hx rfl (hb hby d_prog_45_method_7_code_11) ?_
    exact kt
  obtain ⟨fs, hr, hrun, hended, hW, hsame⟩ := X120.leave (v := some (.int (0 : Int32))) (fun h => by rw [Bd.returns] at h; cases h)
  refine ⟨_, _, pre121 _ ?_, hrun, hended, _, _, rfl, ?_, ⟨_, rfl⟩, hW, hsame.mono (by decide) (by decide)⟩
  · show Steps p.tables e below (T120.setTop (mkF m 12 #[.val (.ref w_BYTE)] [(.int (0 : Int32))])) _
    exact retN X120 hx (t := .boolean) Bd.returns (by simp) (hb hby d_prog_45_method_7_code_12) hr
  · show Q_rm_namesItsMembers_5 Z r_fixedMembers_BLOB w_BYTE h0 n0 _ T120.heap _
    rw [e120]
    exact ⟨rfl, N0, rfl⟩
theorem ef_rm_namesItsMembers_6 (m : MethodId) (w_SHORT : Addr) : entryFrame m #[(.ref w_SHORT)] 1 = mkF m 0 #[.val (.ref w_SHORT)] [] := by first | (simp [entryFrame, mkF, argsToLocals, Value.category]; done) | rfl
def Q_rm_namesItsMembers_6 (Z : State) (r_fixedMembers_BLOB : Addr) (w_SHORT : Addr) (h0 : Heap) (n0 : Nat) (v : Option Value) (h : Heap) (L : List Loc) : Prop := v = some (.int (0 : Int32)) ∧ Fr n0 L ∧ h = h0
set_option maxRecDepth 65536 in
set_option maxHeartbeats 40000000 in
theorem rm_namesItsMembers_6 (l : Launch) (Z : State) (a0 : Array Value) (hw : ∀ d ∈ tables_1, d.before a0 Z = true) (ws : List Jvm.Cond) (r_fixedMembers_BLOB : Addr) (w_SHORT : Addr) (h0 : Heap) (n0 : Nat) (O0 : Old Z n0 h0)  (F_fixedMembers_SHORT : Fld Z Z.heap w_SHORT "com/example/shapewright/shapewright/model/ShapeType" "fixedMembers" "Ljava/util/List;" (.ref r_fixedMembers_BLOB)) :
    MetFree l (⟨"com/example/shapewright/shapewright/model/ShapeType", "namesItsMembers", "()Z"⟩ : MethodName) (head1 (Jvm.Cond.code (⟨"com/example/shapewright/shapewright/model/ShapeType", "namesItsMembers", "()Z"⟩ : MethodName) prog_45_method_7_code 1 (some .boolean) :: ws) ({ frames := 0, cells := 0, slots := 0, locals := 0 } : Room)) (fun a U => a = #[(.ref w_SHORT)] ∧ Z.Warmed39 U.vm ∧ U.heap = h0) (fun _ _ _ _ _ => True) (fun _ U o U' => ∃ v L, o = .returned v ∧ Q_rm_namesItsMembers_6 Z r_fixedMembers_BLOB w_SHORT h0 n0 v U'.heap L ∧ FrameEnd U o U' L ({ frames := 0, cells := 0, slots := 0, locals := 0 } : Room).cells ({ frames := 0, cells := 0, slots := 0, locals := 0 } : Room).slots) := by
  refine MetFree.of_bodySF (plainFor_of_name pn_com_example_shapewright_shapewright_model_ShapeType) hisR ?_
  intro p e s m args below meth c s₁ Bd hml0 hP hK
  obtain ⟨rfl, hZ, hh⟩ := hP
  have hx := Bd.exec
  have hby := Bd.bytes
  have hml : c.maxLocals = 1 := hml0
  have hown : s.vm.findClass "com/example/shapewright/shapewright/model/ShapeType" = some m.cls := findClass_of_methodNamed Bd.named
  have hnm := (name_of_methodNamed Bd.named Bd.method).1
  have X0 : Stand p l e ({ frames := 0, cells := 0, slots := 0, locals := 0 } : Room) s m #[(.ref w_SHORT)] below meth c s₁ [] 0 0 := Stand.of_body Bd
  have e0 : s₁.heap = h0 := by rw [← hh, Bd.state]; rfl
  have N0 := Fr.nil n0
  have pre0 : ∀ t, Steps p.tables e below (s₁.setTop (mkF m 0 #[.val (.ref w_SHORT)] [])) t → Steps p.tables e below (s₁.setTop (entryFrame m #[(.ref w_SHORT)] 1)) t := fun t k => castTop (ef_rm_namesItsMembers_6 m w_SHORT) k
  have K0 := Keep.refl h0 []
  obtain ⟨T131, X131, e131, st131⟩ := getF X0 hx hZ hown (host := "") (Or.inl (hw _ (List.mem_of_getElem? (i := 54) rfl))) Via.refl e0 (F_fixedMembers_SHORT.ext O0.2) (g := (mkF m 1 #[.val (.ref w_SHORT)] [(.ref w_SHORT)])) rfl rfl (hb hby d_prog_45_method_7_code_1)
  have pre132 : ∀ t, Steps p.tables e below (T131.setTop (mkF m 12 #[.val (.ref w_SHORT)] [(.int (0 : Int32))])) t → Steps p.tables e below (s₁.setTop (entryFrame m #[(.ref w_SHORT)] 1)) t := by
    intro t kt
    refine pre0 t ?_
    show Steps p.tables e below (s₁.setTop (mkF m 0 #[.val (.ref w_SHORT)] [])) _
    refine XS.aloadN X0.here hx rfl (hb hby d_prog_45_method_7_code_0) rfl rfl ?_
    show Steps p.tables e below (s₁.setTop (mkF m 1 #[.val (.ref w_SHORT)] [(.ref w_SHORT)])) _
    refine st131 _ ?_
    show Steps p.tables e below (T131.setTop (mkF m 4 #[.val (.ref w_SHORT)] [(.ref r_fixedMembers_BLOB)])) _
    refine XS.ifnonnullYes X131.here hx rfl (pc0 := 4) (pc' := 11) rfl (hb hby d_prog_45_method_7_code_4) rfl (by decide) (by decide) ?_
    show Steps p.tables e below (T131.setTop (mkF m 11 #[.val (.ref w_SHORT)] [])) _
    refine XS.iconst X131.here hx rfl (hb hby d_prog_45_method_7_code_11) ?_
    exact kt
  obtain ⟨fs, hr, hrun, hended, hW, hsame⟩ := X131.leave (v := some (.int (0 : Int32))) (fun h => by rw [Bd.returns] at h; cases h)
  refine ⟨_, _, pre132 _ ?_, hrun, hended, _, _, rfl, ?_, ⟨_, rfl⟩, hW, hsame.mono (by decide) (by decide)⟩
  · show Steps p.tables e below (T131.setTop (mkF m 12 #[.val (.ref w_SHORT)] [(.int (0 : Int32))])) _
    exact retN X131 hx (t := .boolean) Bd.returns (by simp) (hb hby d_prog_45_method_7_code_12) hr
  · show Q_rm_namesItsMembers_6 Z r_fixedMembers_BLOB w_SHORT h0 n0 _ T131.heap _
    rw [e131]
    exact ⟨rfl, N0, rfl⟩
theorem ef_rm_namesItsMembers_7 (m : MethodId) (w_INTEGER : Addr) : entryFrame m #[(.ref w_INTEGER)] 1 = mkF m 0 #[.val (.ref w_INTEGER)] [] := by first | (simp [entryFrame, mkF, argsToLocals, Value.category]; done) | rfl
def Q_rm_namesItsMembers_7 (Z : State) (w_INTEGER : Addr) (r_fixedMembers_BLOB : Addr) (h0 : Heap) (n0 : Nat) (v : Option Value) (h : Heap) (L : List Loc) : Prop := v = some (.int (0 : Int32)) ∧ Fr n0 L ∧ h = h0
set_option maxRecDepth 65536 in
set_option maxHeartbeats 40000000 in
theorem rm_namesItsMembers_7 (l : Launch) (Z : State) (a0 : Array Value) (hw : ∀ d ∈ tables_1, d.before a0 Z = true) (ws : List Jvm.Cond) (w_INTEGER : Addr) (r_fixedMembers_BLOB : Addr) (h0 : Heap) (n0 : Nat) (O0 : Old Z n0 h0)  (F_fixedMembers_INTEGER : Fld Z Z.heap w_INTEGER "com/example/shapewright/shapewright/model/ShapeType" "fixedMembers" "Ljava/util/List;" (.ref r_fixedMembers_BLOB)) :
    MetFree l (⟨"com/example/shapewright/shapewright/model/ShapeType", "namesItsMembers", "()Z"⟩ : MethodName) (head1 (Jvm.Cond.code (⟨"com/example/shapewright/shapewright/model/ShapeType", "namesItsMembers", "()Z"⟩ : MethodName) prog_45_method_7_code 1 (some .boolean) :: ws) ({ frames := 0, cells := 0, slots := 0, locals := 0 } : Room)) (fun a U => a = #[(.ref w_INTEGER)] ∧ Z.Warmed39 U.vm ∧ U.heap = h0) (fun _ _ _ _ _ => True) (fun _ U o U' => ∃ v L, o = .returned v ∧ Q_rm_namesItsMembers_7 Z w_INTEGER r_fixedMembers_BLOB h0 n0 v U'.heap L ∧ FrameEnd U o U' L ({ frames := 0, cells := 0, slots := 0, locals := 0 } : Room).cells ({ frames := 0, cells := 0, slots := 0, locals := 0 } : Room).slots) := by
  refine MetFree.of_bodySF (plainFor_of_name pn_com_example_shapewright_shapewright_model_ShapeType) hisR ?_
  intro p e s m args below meth c s₁ Bd hml0 hP hK
  obtain ⟨rfl, hZ, hh⟩ := hP
  have hx := Bd.exec
  have hby := Bd.bytes
  have hml : c.maxLocals = 1 := hml0
  have hown : s.vm.findClass "com/example/shapewright/shapewright/model/ShapeType" = some m.cls := findClass_of_methodNamed Bd.named
  have hnm := (name_of_methodNamed Bd.named Bd.method).1
  have X0 : Stand p l e ({ frames := 0, cells := 0, slots := 0, locals := 0 } : Room) s m #[(.ref w_INTEGER)] below meth c s₁ [] 0 0 := Stand.of_body Bd
  have e0 : s₁.heap = h0 := by rw [← hh, Bd.state]; rfl
  have N0 := Fr.nil n0
  have pre0 : ∀ t, Steps p.tables e below (s₁.setTop (mkF m 0 #[.val (.ref w_INTEGER)] [])) t → Steps p.tables e below (s₁.setTop (entryFrame m #[(.ref w_INTEGER)] 1)) t := fun t k => castTop (ef_rm_namesItsMembers_7 m w_INTEGER) k
  have K0 := Keep.refl h0 []
  obtain ⟨T142, X142, e142, st142⟩ := getF X0 hx hZ hown (host := "") (Or.inl (hw _ (List.mem_of_getElem? (i := 54) rfl))) Via.refl e0 (F_fixedMembers_INTEGER.ext O0.2) (g := (mkF m 1 #[.val (.ref w_INTEGER)] [(.ref w_INTEGER)])) rfl rfl (hb hby d_prog_45_method_7_code_1)
  have pre143 : ∀ t, Steps p.tables e below (T142.setTop (mkF m 12 #[.val (.ref w_INTEGER)] [(.int (0 : Int32))])) t → Steps p.tables e below (s₁.setTop (entryFrame m #[(.ref w_INTEGER)] 1)) t := by
    intro t kt
    refine pre0 t ?_
    show Steps p.tables e below (s₁.setTop (mkF m 0 #[.val (.ref w_INTEGER)] [])) _
    refine XS.aloadN X0.here hx rfl (hb hby d_prog_45_method_7_code_0) rfl rfl ?_
    show Steps p.tables e below (s₁.setTop (mkF m 1 #[.val (.ref w_INTEGER)] [(.ref w_INTEGER)])) _
    refine st142 _ ?_
    show Steps p.tables e below (T142.setTop (mkF m 4 #[.val (.ref w_INTEGER)] [(.ref r_fixedMembers_BLOB)])) _
    refine XS.ifnonnullYes X142.here hx rfl (pc0 := 4) (pc' := 11) rfl (hb hby d_prog_45_method_7_code_4) rfl (by decide) (by decide) ?_
    show Steps p.tables e below (T142.setTop (mkF m 11 #[.val (.ref w_INTEGER)] [])) _
    refine XS.iconst X142.here hx rfl (hb hby d_prog_45_method_7_code_11) ?_
    exact kt
  obtain ⟨fs, hr, hrun, hended, hW, hsame⟩ := X142.leave (v := some (.int (0 : Int32))) (fun h => by rw [Bd.returns] at h; cases h)
  refine ⟨_, _, pre143 _ ?_, hrun, hended, _, _, rfl, ?_, ⟨_, rfl⟩, hW, hsame.mono (by decide) (by decide)⟩
  · show Steps p.tables e below (T142.setTop (mkF m 12 #[.val (.ref w_INTEGER)] [(.int (0 : Int32))])) _
    exact retN X142 hx (t := .boolean) Bd.returns (by simp) (hb hby d_prog_45_method_7_code_12) hr
  · show Q_rm_namesItsMembers_7 Z w_INTEGER r_fixedMembers_BLOB h0 n0 _ T142.heap _
    rw [e142]
    exact ⟨rfl, N0, rfl⟩
theorem ef_rm_namesItsMembers_8 (m : MethodId) (w_LONG : Addr) : entryFrame m #[(.ref w_LONG)] 1 = mkF m 0 #[.val (.ref w_LONG)] [] := by first | (simp [entryFrame, mkF, argsToLocals, Value.category]; done) | rfl
def Q_rm_namesItsMembers_8 (Z : State) (r_fixedMembers_BLOB : Addr) (w_LONG : Addr) (h0 : Heap) (n0 : Nat) (v : Option Value) (h : Heap) (L : List Loc) : Prop := v = some (.int (0 : Int32)) ∧ Fr n0 L ∧ h = h0
set_option maxRecDepth 65536 in
set_option maxHeartbeats 40000000 in
theorem rm_namesItsMembers_8 (l : Launch) (Z : State) (a0 : Array Value) (hw : ∀ d ∈ tables_1, d.before a0 Z = true) (ws : List Jvm.Cond) (r_fixedMembers_BLOB : Addr) (w_LONG : Addr) (h0 : Heap) (n0 : Nat) (O0 : Old Z n0 h0)  (F_fixedMembers_LONG : Fld Z Z.heap w_LONG "com/example/shapewright/shapewright/model/ShapeType" "fixedMembers" "Ljava/util/List;" (.ref r_fixedMembers_BLOB)) :
    MetFree l (⟨"com/example/shapewright/shapewright/model/ShapeType", "namesItsMembers", "()Z"⟩ : MethodName) (head1 (Jvm.Cond.code (⟨"com/example/shapewright/shapewright/model/ShapeType", "namesItsMembers", "()Z"⟩ : MethodName) prog_45_method_7_code 1 (some .boolean) :: ws) ({ frames := 0, cells := 0, slots := 0, locals := 0 } : Room)) (fun a U => a = #[(.ref w_LONG)] ∧ Z.Warmed39 U.vm ∧ U.heap = h0) (fun _ _ _ _ _ => True) (fun _ U o U' => ∃ v L, o = .returned v ∧ Q_rm_namesItsMembers_8 Z r_fixedMembers_BLOB w_LONG h0 n0 v U'.heap L ∧ FrameEnd U o U' L ({ frames := 0, cells := 0, slots := 0, locals := 0 } : Room).cells ({ frames := 0, cells := 0, slots := 0, locals := 0 } : Room).slots) := by
  refine MetFree.of_bodySF (plainFor_of_name pn_com_example_shapewright_shapewright_model_ShapeType) hisR ?_
  intro p e s m args below meth c s₁ Bd hml0 hP hK
  obtain ⟨rfl, hZ, hh⟩ := hP
  have hx := Bd.exec
  have hby := Bd.bytes
  have hml : c.maxLocals = 1 := hml0
  have hown : s.vm.findClass "com/example/shapewright/shapewright/model/ShapeType" = some m.cls := findClass_of_methodNamed Bd.named
  have hnm := (name_of_methodNamed Bd.named Bd.method).1
  have X0 : Stand p l e ({ frames := 0, cells := 0, slots := 0, locals := 0 } : Room) s m #[(.ref w_LONG)] below meth c s₁ [] 0 0 := Stand.of_body Bd
  have e0 : s₁.heap = h0 := by rw [← hh, Bd.state]; rfl
  have N0 := Fr.nil n0
  have pre0 : ∀ t, Steps p.tables e below (s₁.setTop (mkF m 0 #[.val (.ref w_LONG)] [])) t → Steps p.tables e below (s₁.setTop (entryFrame m #[(.ref w_LONG)] 1)) t := fun t k => castTop (ef_rm_namesItsMembers_8 m w_LONG) k
  have K0 := Keep.refl h0 []
  obtain ⟨T153, X153, e153, st153⟩ := getF X0 hx hZ hown (host := "") (Or.inl (hw _ (List.mem_of_getElem? (i := 54) rfl))) Via.refl e0 (F_fixedMembers_LONG.ext O0.2) (g := (mkF m 1 #[.val (.ref w_LONG)] [(.ref w_LONG)])) rfl rfl (hb hby d_prog_45_method_7_code_1)
  have pre154 : ∀ t, Steps p.tables e below (T153.setTop (mkF m 12 #[.val (.ref w_LONG)] [(.int (0 : Int32))])) t → Steps p.tables e below (s₁.setTop (entryFrame m #[(.ref w_LONG)] 1)) t := by
    intro t kt
    refine pre0 t ?_
    show Steps p.tables e below (s₁.setTop (mkF m 0 #[.val (.ref w_LONG)] [])) _
    refine XS.aloadN X0.here hx rfl (hb hby d_prog_45_method_7_code_0) rfl rfl ?_
    show Steps p.tables e below (s₁.setTop (mkF m 1 #[.val (.ref w_LONG)] [(.ref w_LONG)])) _
    refine st153 _ ?_
    show Steps p.tables e below (T153.setTop (mkF m 4 #[.val (.ref w_LONG)] [(.ref r_fixedMembers_BLOB)])) _
    refine XS.ifnonnullYes X153.here hx rfl (pc0 := 4) (pc' := 11) rfl (hb hby d_prog_45_method_7_code_4) rfl (by decide) (by decide) ?_
    show Steps p.tables e below (T153.setTop (mkF m 11 #[.val (.ref w_LONG)] [])) _
    refine XS.iconst X153.here hx rfl (hb hby d_prog_45_method_7_code_11) ?_
    exact kt
  obtain ⟨fs, hr, hrun, hended, hW, hsame⟩ := X153.leave (v := some (.int (0 : Int32))) (fun h => by rw [Bd.returns] at h; cases h)
  refine ⟨_, _, pre154 _ ?_, hrun, hended, _, _, rfl, ?_, ⟨_, rfl⟩, hW, hsame.mono (by decide) (by decide)⟩
  · show Steps p.tables e below (T153.setTop (mkF m 12 #[.val (.ref w_LONG)] [(.int (0 : Int32))])) _
    exact retN X153 hx (t := .boolean) Bd.returns (by simp) (hb hby d_prog_45_method_7_code_12) hr
  · show Q_rm_namesItsMembers_8 Z r_fixedMembers_BLOB w_LONG h0 n0 _ T153.heap _
    rw [e153]
    exact ⟨rfl, N0, rfl⟩
theorem ef_rm_namesItsMembers_9 (m : MethodId) (w_FLOAT : Addr) : entryFrame m #[(.ref w_FLOAT)] 1 = mkF m 0 #[.val (.ref w_FLOAT)] [] := by first | (simp [entryFrame, mkF, argsToLocals, Value.category]; done) | rfl
def Q_rm_namesItsMembers_9 (Z : State) (r_fixedMembers_BLOB : Addr) (w_FLOAT : Addr) (h0 : Heap) (n0 : Nat) (v : Option Value) (h : Heap) (L : List Loc) : Prop := v = some (.int (0 : Int32)) ∧ Fr n0 L ∧ h = h0
set_option maxRecDepth 65536 in
set_option maxHeartbeats 40000000 in
theorem rm_namesItsMembers_9 (l : Launch) (Z : State) (a0 : Array Value) (hw : ∀ d ∈ tables_1, d.before a0 Z = true) (ws : List Jvm.Cond) (r_fixedMembers_BLOB : Addr) (w_FLOAT : Addr) (h0 : Heap) (n0 : Nat) (O0 : Old Z n0 h0)  (F_fixedMembers_FLOAT : Fld Z Z.heap w_FLOAT "com/example/shapewright/shapewright/model/ShapeType" "fixedMembers" "Ljava/util/List;" (.ref r_fixedMembers_BLOB)) :
    MetFree l (⟨"com/example/shapewright/shapewright/model/ShapeType", "namesItsMembers", "()Z"⟩ : MethodName) (head1 (Jvm.Cond.code (⟨"com/example/shapewright/shapewright/model/ShapeType", "namesItsMembers", "()Z"⟩ : MethodName) prog_45_method_7_code 1 (some .boolean) :: ws) ({ frames := 0, cells := 0, slots := 0, locals := 0 } : Room)) (fun a U => a = #[(.ref w_FLOAT)] ∧ Z.Warmed39 U.vm ∧ U.heap = h0) (fun _ _ _ _ _ => True) (fun _ U o U' => ∃ v L, o = .returned v ∧ Q_rm_namesItsMembers_9 Z r_fixedMembers_BLOB w_FLOAT h0 n0 v U'.heap L ∧ FrameEnd U o U' L ({ frames := 0, cells := 0, slots := 0, locals := 0 } : Room).cells ({ frames := 0, cells := 0, slots := 0, locals := 0 } : Room).slots) := by
  refine MetFree.of_bodySF (plainFor_of_name pn_com_example_shapewright_shapewright_model_ShapeType) hisR ?_
  intro p e s m args below meth c s₁ Bd hml0 hP hK
  obtain ⟨rfl, hZ, hh⟩ := hP
  have hx := Bd.exec
  have hby := Bd.bytes
  have hml : c.maxLocals = 1 := hml0
  have hown : s.vm.findClass "com/example/shapewright/shapewright/model/ShapeType" = some m.cls := findClass_of_methodNamed Bd.named
  have hnm := (name_of_methodNamed Bd.named Bd.method).1
  have X0 : Stand p l e ({ frames := 0, cells := 0, slots := 0, locals := 0 } : Room) s m #[(.ref w_FLOAT)] below meth c s₁ [] 0 0 := Stand.of_body Bd
  have e0 : s₁.heap = h0 := by rw [← hh, Bd.state]; rfl
  have N0 := Fr.nil n0
  have pre0 : ∀ t, Steps p.tables e below (s₁.setTop (mkF m 0 #[.val (.ref w_FLOAT)] [])) t → Steps p.tables e below (s₁.setTop (entryFrame m #[(.ref w_FLOAT)] 1)) t := fun t k => castTop (ef_rm_namesItsMembers_9 m w_FLOAT) k
  have K0 := Keep.refl h0 []
  obtain ⟨T164, X164, e164, st164⟩ := getF X0 hx hZ hown (host := "") (Or.inl (hw _ (List.mem_of_getElem? (i := 54) rfl))) Via.refl e0 (F_fixedMembers_FLOAT.ext O0.2) (g := (mkF m 1 #[.val (.ref w_FLOAT)] [(.ref w_FLOAT)])) rfl rfl (hb hby d_prog_45_method_7_code_1)
  have pre165 : ∀ t, Steps p.tables e below (T164.setTop (mkF m 12 #[.val (.ref w_FLOAT)] [(.int (0 : Int32))])) t → Steps p.tables e below (s₁.setTop (entryFrame m #[(.ref w_FLOAT)] 1)) t := by
    intro t kt
    refine pre0 t ?_
    show Steps p.tables e below (s₁.setTop (mkF m 0 #[.val (.ref w_FLOAT)] [])) _
    refine XS.aloadN X0.here hx rfl (hb hby d_prog_45_method_7_code_0) rfl rfl ?_
    show Steps p.tables e below (s₁.setTop (mkF m 1 #[.val (.ref w_FLOAT)] [(.ref w_FLOAT)])) _
    refine st164 _ ?_
    show Steps p.tables e below (T164.setTop (mkF m 4 #[.val (.ref w_FLOAT)] [(.ref r_fixedMembers_BLOB)])) _
    refine XS.ifnonnullYes X164.here hx rfl (pc0 := 4) (pc' := 11) rfl (hb hby d_prog_45_method_7_code_4) rfl (by decide) (by decide) ?_
    show Steps p.tables e below (T164.setTop (mkF m 11 #[.val (.ref w_FLOAT)] [])) _
    refine XS.iconst X164.here hx rfl (hb hby d_prog_45_method_7_code_11) ?_
    exact kt
  obtain ⟨fs, hr, hrun, hended, hW, hsame⟩ := X164.leave (v := some (.int (0 : Int32))) (fun h => by rw [Bd.returns] at h; cases h)
  refine ⟨_, _, pre165 _ ?_, hrun, hended, _, _, rfl, ?_, ⟨_, rfl⟩, hW, hsame.mono (by decide) (by decide)⟩
  · show Steps p.tables e below (T164.setTop (mkF m 12 #[.val (.ref w_FLOAT)] [(.int (0 : Int32))])) _
    exact retN X164 hx (t := .boolean) Bd.returns (by simp) (hb hby d_prog_45_method_7_code_12) hr
  · show Q_rm_namesItsMembers_9 Z r_fixedMembers_BLOB w_FLOAT h0 n0 _ T164.heap _
    rw [e164]
    exact ⟨rfl, N0, rfl⟩
theorem ef_rm_namesItsMembers_10 (m : MethodId) (w_DOUBLE : Addr) : entryFrame m #[(.ref w_DOUBLE)] 1 = mkF m 0 #[.val (.ref w_DOUBLE)] [] := by first | (simp [entryFrame, mkF, argsToLocals, Value.category]; done) | rfl
def Q_rm_namesItsMembers_10 (Z : State) (r_fixedMembers_BLOB : Addr) (w_DOUBLE : Addr) (h0 : Heap) (n0 : Nat) (v : Option Value) (h : Heap) (L : List Loc) : Prop := v = some (.int (0 : Int32)) ∧ Fr n0 L ∧ h = h0
set_option maxRecDepth 65536 in
set_option maxHeartbeats 40000000 in
theorem rm_namesItsMembers_10 (l : Launch) (Z : State) (a0 : Array Value) (hw : ∀ d ∈ tables_1, d.before a0 Z = true) (ws : List Jvm.Cond) (r_fixedMembers_BLOB : Addr) (w_DOUBLE : Addr) (h0 : Heap) (n0 : Nat) (O0 : Old Z n0 h0)  (F_fixedMembers_DOUBLE : Fld Z Z.heap w_DOUBLE "com/example/shapewright/shapewright/model/ShapeType" "fixedMembers" "Ljava/util/List;" (.ref r_fixedMembers_BLOB)) :
    MetFree l (⟨"com/example/shapewright/shapewright/model/ShapeType", "namesItsMembers", "()Z"⟩ : MethodName) (head1 (Jvm.Cond.code (⟨"com/example/shapewright/shapewright/model/ShapeType", "namesItsMembers", "()Z"⟩ : MethodName) prog_45_method_7_code 1 (some .boolean) :: ws) ({ frames := 0, cells := 0, slots := 0, locals := 0 } : Room)) (fun a U => a = #[(.ref w_DOUBLE)] ∧ Z.Warmed39 U.vm ∧ U.heap = h0) (fun _ _ _ _ _ => True) (fun _ U o U' => ∃ v L, o = .returned v ∧ Q_rm_namesItsMembers_10 Z r_fixedMembers_BLOB w_DOUBLE h0 n0 v U'.heap L ∧ FrameEnd U o U' L ({ frames := 0, cells := 0, slots := 0, locals := 0 } : Room).cells ({ frames := 0, cells := 0, slots := 0, locals := 0 } : Room).slots) := by
  refine MetFree.of_bodySF (plainFor_of_name pn_com_example_shapewright_shapewright_model_ShapeType) hisR ?_
  intro p e s m args below meth c s₁ Bd hml0 hP hK
  obtain ⟨rfl, hZ, hh⟩ := hP
  have hx := Bd.exec
  have hby := Bd.bytes
  have hml : c.maxLocals = 1 := hml0
  have hown : s.vm.findClass "com/example/shapewright/shapewright/model/ShapeType" = some m.cls := findClass_of_methodNamed Bd.named
  have hnm := (name_of_methodNamed Bd.named Bd.method).1
  have X0 : Stand p l e ({ frames := 0, cells := 0, slots := 0, locals := 0 } : Room) s m #[(.ref w_DOUBLE)] below meth c s₁ [] 0 0 := Stand.of_body Bd
  have e0 : s₁.heap = h0 := by rw [← hh, Bd.state]; rfl
  have N0 := Fr.nil n0
  have pre0 : ∀ t, Steps p.tables e below (s₁.setTop (mkF m 0 #[.val (.ref w_DOUBLE)] [])) t → Steps p.tables e below (s₁.setTop (entryFrame m #[(.ref w_DOUBLE)] 1)) t := fun t k => castTop (ef_rm_namesItsMembers_10 m w_DOUBLE) k
  have K0 := Keep.refl h0 []
  obtain ⟨T175, X175, e175, st175⟩ := getF X0 hx hZ hown (host := "") (Or.inl (hw _ (List.mem_of_getElem? (i := 54) rfl))) Via.refl e0 (F_fixedMembers_DOUBLE.ext O0.2) (g := (mkF m 1 #[.val (.ref w_DOUBLE)] [(.ref w_DOUBLE)])) rfl rfl (hb hby d_prog_45_method_7_code_1)
  have pre176 : ∀ t, Steps p.tables e below (T175.setTop (mkF m 12 #[.val (.ref w_DOUBLE)] [(.int (0 : Int32))])) t → Steps p.tables e below (s₁.setTop (entryFrame m #[(.ref w_DOUBLE)] 1)) t := by
    intro t kt
    refine pre0 t ?_
    show Steps p.tables e below (s₁.setTop (mkF m 0 #[.val (.ref w_DOUBLE)] [])) _
    refine XS.aloadN X0.here hx rfl (hb hby d_prog_45_method_7_code_0) rfl rfl ?_
    show Steps p.tables e below (s₁.setTop (mkF m 1 #[.val (.ref w_DOUBLE)] [(.ref w_DOUBLE)])) _
    refine st175 _ ?_
    show Steps p.tables e below (T175.setTop (mkF m 4 #[.val (.ref w_DOUBLE)] [(.ref r_fixedMembers_BLOB)])) _
    refine XS.ifnonnullYes X175.here hx rfl (pc0 := 4) (pc' := 11) rfl (hb hby d_prog_45_method_7_code_4) rfl (by decide) (by decide) ?_
    show Steps p.tables e below (T175.setTop (mkF m 11 #[.val (.ref w_DOUBLE)] [])) _
    refine XS.iconst X175.here hx rfl (hb hby d_prog_45_method_7_code_11) ?_
    exact kt
  obtain ⟨fs, hr, hrun, hended, hW, hsame⟩ := X175.leave (v := some (.int (0 : Int32))) (fun h => by rw [Bd.returns] at h; cases h)
  refine ⟨_, _, pre176 _ ?_, hrun, hended, _, _, rfl, ?_, ⟨_, rfl⟩, hW, hsame.mono (by decide) (by decide)⟩
  · show Steps p.tables e below (T175.setTop (mkF m 12 #[.val (.ref w_DOUBLE)] [(.int (0 : Int32))])) _
    exact retN X175 hx (t := .boolean) Bd.returns (by simp) (hb hby d_prog_45_method_7_code_12) hr
  · show Q_rm_namesItsMembers_10 Z r_fixedMembers_BLOB w_DOUBLE h0 n0 _ T175.heap _
    rw [e175]
    exact ⟨rfl, N0, rfl⟩
theorem ef_rm_namesItsMembers_11 (m : MethodId) (w_BIG_INTEGER : Addr) : entryFrame m #[(.ref w_BIG_INTEGER)] 1 = mkF m 0 #[.val (.ref w_BIG_INTEGER)] [] := by first | (simp [entryFrame, mkF, argsToLocals, Value.category]; done) | rfl
def Q_rm_namesItsMembers_11 (Z : State) (w_BIG_INTEGER : Addr) (r_fixedMembers_BLOB : Addr) (h0 : Heap) (n0 : Nat) (v : Option Value) (h : Heap) (L : List Loc) : Prop := v = some (.int (0 : Int32)) ∧ Fr n0 L ∧ h = h0
set_option maxRecDepth 65536 in
set_option maxHeartbeats 40000000 in
theorem rm_namesItsMembers_11 (l : Launch) (Z : State) (a0 : Array Value) (hw : ∀ d ∈ tables_1, d.before a0 Z = true) (ws : List Jvm.Cond) (w_BIG_INTEGER : Addr) (r_fixedMembers_BLOB : Addr) (h0 : Heap) (n0 : Nat) (O0 : Old Z n0 h0)  (F_fixedMembers_BIG_INTEGER : Fld Z Z.heap w_BIG_INTEGER "com/example/shapewright/shapewright/model/ShapeType" "fixedMembers" "Ljava/util/List;" (.ref r_fixedMembers_BLOB)) :
    MetFree l (⟨"com/example/shapewright/shapewright/model/ShapeType", "namesItsMembers", "()Z"⟩ : MethodName) (head1 (Jvm.Cond.code (⟨"com/example/shapewright/shapewright/model/ShapeType", "namesItsMembers", "()Z"⟩ : MethodName) prog_45_method_7_code 1 (some .boolean) :: ws) ({ frames := 0, cells := 0, slots := 0, locals := 0 } : Room)) (fun a U => a = #[(.ref w_BIG_INTEGER)] ∧ Z.Warmed39 U.vm ∧ U.heap = h0) (fun _ _ _ _ _ => True) (fun _ U o U' => ∃ v L, o = .returned v ∧ Q_rm_namesItsMembers_11 Z w_BIG_INTEGER r_fixedMembers_BLOB h0 n0 v U'.heap L ∧ FrameEnd U o U' L ({ frames := 0, cells := 0, slots := 0, locals := 0 } : Room).cells ({ frames := 0, cells := 0, slots := 0, locals := 0 } : Room).slots) := by
  refine MetFree.of_bodySF (plainFor_of_name pn_com_example_shapewright_shapewright_model_ShapeType) hisR ?_
  intro p e s m args below meth c s₁ Bd hml0 hP hK
  obtain ⟨rfl, hZ, hh⟩ := hP
  have hx := Bd.exec
  have hby := Bd.bytes
  have hml : c.maxLocals = 1 := hml0
  have hown : s.vm.findClass "com/example/shapewright/shapewright/model/ShapeType" = some m.cls := findClass_of_methodNamed Bd.named
  have hnm := (name_of_methodNamed Bd.named Bd.method).1
  have X0 : Stand p l e ({ frames := 0, cells := 0, slots := 0, locals := 0 } : Room) s m #[(.ref w_BIG_INTEGER)] below meth c s₁ [] 0 0 := Stand.of_body Bd
  have e0 : s₁.heap = h0 := by rw [← hh, Bd.state]; rfl
  have N0 := Fr.nil n0
  have pre0 : ∀ t, Steps p.tables e below (s₁.setTop (mkF m 0 #[.val (.ref w_BIG_INTEGER)] [])) t → Steps p.tables e below (s₁.setTop (entryFrame m #[(.ref w_BIG_INTEGER)] 1)) t := fun t k => castTop (ef_rm_namesItsMembers_11 m w_BIG_INTEGER) k
  have K0 := Keep.refl h0 []
  obtain ⟨T186, X186, e186, st186⟩ := getF X0 hx hZ hown (host := "") (Or.inl (hw _ (List.mem_of_getElem? (i := 54) rfl))) Via.refl e0 (F_fixedMembers_BIG_INTEGER.ext O0.2) (g := (mkF m 1 #[.val (.ref w_BIG_INTEGER)] [(.ref w_BIG_INTEGER)])) rfl rfl (hb hby d_prog_45_method_7_code_1)
  have pre187 : ∀ t, Steps p.tables e below (T186.setTop (mkF m 12 #[.val (.ref w_BIG_INTEGER)] [(.int (0 : Int32))])) t → Steps p.tables e below (s₁.setTop (entryFrame m #[(.ref w_BIG_INTEGER)] 1)) t := by
    intro t kt
    refine pre0 t ?_
    show Steps p.tables e below (s₁.setTop (mkF m 0 #[.val (.ref w_BIG_INTEGER)] [])) _
    refine XS.aloadN X0.here hx rfl (hb hby d_prog_45_method_7_code_0) rfl rfl ?_
    show Steps p.tables e below (s₁.setTop (mkF m 1 #[.val (.ref w_BIG_INTEGER)] [(.ref w_BIG_INTEGER)])) _
    refine st186 _ ?_
    show Steps p.tables e below (T186.setTop (mkF m 4 #[.val (.ref w_BIG_INTEGER)] [(.ref r_fixedMembers_BLOB)])) _
    refine XS.ifnonnullYes X186.here hx rfl (pc0 := 4) (pc' := 11) rfl (hb hby d_prog_45_method_7_code_4) rfl (by decide) (by decide) ?_
    show Steps p.tables e below (T186.setTop (mkF m 11 #[.val (.ref w_BIG_INTEGER)] [])) _
    refine XS.iconst X186.here hx rfl (hb hby d_prog_45_method_7_code_11) ?_
    exact kt
  obtain ⟨fs, hr, hrun, hended, hW, hsame⟩ := X186.leave (v := some (.int (0 : Int32))) (fun h => by rw [Bd.returns] at h; cases h)
  refine ⟨_, _, pre187 _ ?_, hrun, hended, _, _, rfl, ?_, ⟨_, rfl⟩, hW, hsame.mono (by decide) (by decide)⟩
  · show Steps p.tables e below (T186.setTop (mkF m 12 #[.val (.ref w_BIG_INTEGER)] [(.int (0 : Int32))])) _
    exact retN X186 hx (t := .boolean) Bd.returns (by simp) (hb hby d_prog_45_method_7_code_12) hr
  · show Q_rm_namesItsMembers_11 Z w_BIG_INTEGER r_fixedMembers_BLOB h0 n0 _ T186.heap _
    rw [e186]
    exact ⟨rfl, N0, rfl⟩
theorem ef_rm_namesItsMembers_12 (m : MethodId) (w_BIG_DECIMAL : Addr) : entryFrame m #[(.ref w_BIG_DECIMAL)] 1 = mkF m 0 #[.val (.ref w_BIG_DECIMAL)] [] := by first | (simp [entryFrame, mkF, argsToLocals, Value.category]; done) | rfl
def Q_rm_namesItsMembers_12 (Z : State) (w_BIG_DECIMAL : Addr) (r_fixedMembers_BLOB : Addr) (h0 : Heap) (n0 : Nat) (v : Option Value) (h : Heap) (L : List Loc) : Prop := v = some (.int (0 : Int32)) ∧ Fr n0 L ∧ h = h0
set_option maxRecDepth 65536 in
set_option maxHeartbeats 40000000 in
theorem rm_namesItsMembers_12 (l : Launch) (Z : State) (a0 : Array Value) (hw : ∀ d ∈ tables_1, d.before a0 Z = true) (ws : List Jvm.Cond) (w_BIG_DECIMAL : Addr) (r_fixedMembers_BLOB : Addr) (h0 : Heap) (n0 : Nat) (O0 : Old Z n0 h0)  (F_fixedMembers_BIG_DECIMAL : Fld Z Z.heap w_BIG_DECIMAL "com/example/shapewright/shapewright/model/ShapeType" "fixedMembers" "Ljava/util/List;" (.ref r_fixedMembers_BLOB)) :
    MetFree l (⟨"com/example/shapewright/shapewright/model/ShapeType", "namesItsMembers", "()Z"⟩ : MethodName) (head1 (Jvm.Cond.code (⟨"com/example/shapewright/shapewright/model/ShapeType", "namesItsMembers", "()Z"⟩ : MethodName) prog_45_method_7_code 1 (some .boolean) :: ws) ({ frames := 0, cells := 0, slots := 0, locals := 0 } : Room)) (fun a U => a = #[(.ref w_BIG_DECIMAL)] ∧ Z.Warmed39 U.vm ∧ U.heap = h0) (fun _ _ _ _ _ => True) (fun _ U o U' => ∃ v L, o = .returned v ∧ Q_rm_namesItsMembers_12 Z w_BIG_DECIMAL r_fixedMembers_BLOB h0 n0 v U'.heap L ∧ FrameEnd U o U' L ({ frames := 0, cells := 0, slots := 0, locals := 0 } : Room).cells ({ frames := 0, cells := 0, slots := 0, locals := 0 } : Room).slots) := by
  refine MetFree.of_bodySF (plainFor_of_name pn_com_example_shapewright_shapewright_model_ShapeType) hisR ?_
  intro p e s m args below meth c s₁ Bd hml0 hP hK
  obtain ⟨rfl, hZ, hh⟩ := hP
  have hx := Bd.exec
  have hby := Bd.bytes
  have hml : c.maxLocals = 1 := hml0
  have hown : s.vm.findClass "com/example/shapewright/shapewright/model/ShapeType" = some m.cls := findClass_of_methodNamed Bd.named
  have hnm := (name_of_methodNamed Bd.named Bd.method).1
  have X0 : Stand p l e ({ frames := 0, cells := 0, slots := 0, locals := 0 } : Room) s m #[(.ref w_BIG_DECIMAL)] below meth c s₁ [] 0 0 := Stand.of_body Bd
  have e0 : s₁.heap = h0 := by rw [← hh, Bd.state]; rfl
  have N0 := Fr.nil n0
  have pre0 : ∀ t, Steps p.tables e below (s₁.setTop (mkF m 0 #[.val (.ref w_BIG_DECIMAL)] [])) t → Steps p.tables e below (s₁.setTop (entryFrame m #[(.ref w_BIG_DECIMAL)] 1)) t := fun t k => castTop (ef_rm_namesItsMembers_12 m w_BIG_DECIMAL) k
  have K0 := Keep.refl h0 []
  obtain ⟨T197, X197, e197, st197⟩ := getF X0 hx hZ hown (host := "") (Or.inl (hw _ (List.mem_of_getElem? (i := 54) rfl))) Via.refl e0 (F_fixedMembers_BIG_DECIMAL.ext O0.2) (g := (mkF m 1 #[.val (.ref w_BIG_DECIMAL)] [(.ref w_BIG_DECIMAL)])) rfl rfl (hb hby d_prog_45_method_7_code_1)
  have pre198 : ∀ t, Steps p.tables e below (T197.setTop (mkF m 12 #[.val (.ref w_BIG_DECIMAL)] [(.int (0 : Int32))])) t → Steps p.tables e below (s₁.setTop (entryFrame m #[(.ref w_BIG_DECIMAL)] 1)) t := by
    intro t kt
    refine pre0 t ?_
    show Steps p.tables e below (s₁.setTop (mkF m 0 #[.val (.ref w_BIG_DECIMAL)] [])) _
    refine XS.aloadN X0.here hx rfl (hb hby d_prog_45_method_7_code_0) rfl rfl ?_
    show Steps p.tables e below (s₁.setTop (mkF m 1 #[.val (.ref w_BIG_DECIMAL)] [(.ref w_BIG_DECIMAL)])) _
    refine st197 _ ?_
    show Steps p.tables e below (T197.setTop (mkF m 4 #[.val (.ref w_BIG_DECIMAL)] [(.ref r_fixedMembers_BLOB)])) _
    refine XS.ifnonnullYes X197.here hx rfl (pc0 := 4) (pc' := 11) rfl (hb hby d_prog_45_method_7_code_4) rfl (by decide) (by decide) ?_
    show Steps p.tables e below (T197.setTop (mkF m 11 #[.val (.ref w_BIG_DECIMAL)] [])) _
    refine XS.iconst X197.here hx rfl (hb hby d_prog_45_method_7_code_11) ?_
    exact kt
  obtain ⟨fs, hr, hrun, hended, hW, hsame⟩ := X197.leave (v := some (.int (0 : Int32))) (fun h => by rw [Bd.returns] at h; cases h)
  refine ⟨_, _, pre198 _ ?_, hrun, hended, _, _, rfl, ?_, ⟨_, rfl⟩, hW, hsame.mono (by decide) (by decide)⟩
  · show Steps p.tables e below (T197.setTop (mkF m 12 #[.val (.ref w_BIG_DECIMAL)] [(.int (0 : Int32))])) _
    exact retN X197 hx (t := .boolean) Bd.returns (by simp) (hb hby d_prog_45_method_7_code_12) hr
  · show Q_rm_namesItsMembers_12 Z w_BIG_DECIMAL r_fixedMembers_BLOB h0 n0 _ T197.heap _
    rw [e197]
    exact ⟨rfl, N0, rfl⟩
theorem ef_rm_namesItsMembers_13 (m : MethodId) (w_TIMESTAMP : Addr) : entryFrame m #[(.ref w_TIMESTAMP)] 1 = mkF m 0 #[.val (.ref w_TIMESTAMP)] [] := by first | (simp [entryFrame, mkF, argsToLocals, Value.category]; done) | rfl
def Q_rm_namesItsMembers_13 (Z : State) (r_fixedMembers_BLOB : Addr) (w_TIMESTAMP : Addr) (h0 : Heap) (n0 : Nat) (v : Option Value) (h : Heap) (L : List Loc) : Prop := v = some (.int (0 : Int32)) ∧ Fr n0 L ∧ h = h0
set_option maxRecDepth 65536 in
set_option maxHeartbeats 40000000 in
theorem rm_namesItsMembers_13 (l : Launch) (Z : State) (a0 : Array Value) (hw : ∀ d ∈ tables_1, d.before a0 Z = true) (ws : List Jvm.Cond) (r_fixedMembers_BLOB : Addr) (w_TIMESTAMP : Addr) (h0 : Heap) (n0 : Nat) (O0 : Old Z n0 h0)  (F_fixedMembers_TIMESTAMP : Fld Z Z.heap w_TIMESTAMP "com/example/shapewright/shapewright/model/ShapeType" "fixedMembers" "Ljava/util/List;" (.ref r_fixedMembers_BLOB)) :
    MetFree l (⟨"com/example/shapewright/shapewright/model/ShapeType", "namesItsMembers", "()Z"⟩ : MethodName) (head1 (Jvm.Cond.code (⟨"com/example/shapewright/shapewright/model/ShapeType", "namesItsMembers", "()Z"⟩ : MethodName) prog_45_method_7_code 1 (some .boolean) :: ws) ({ frames := 0, cells := 0, slots := 0, locals := 0 } : Room)) (fun a U => a = #[(.ref w_TIMESTAMP)] ∧ Z.Warmed39 U.vm ∧ U.heap = h0) (fun _ _ _ _ _ => True) (fun _ U o U' => ∃ v L, o = .returned v ∧ Q_rm_namesItsMembers_13 Z r_fixedMembers_BLOB w_TIMESTAMP h0 n0 v U'.heap L ∧ FrameEnd U o U' L ({ frames := 0, cells := 0, slots := 0, locals := 0 } : Room).cells ({ frames := 0, cells := 0, slots := 0, locals := 0 } : Room).slots) := by
  refine MetFree.of_bodySF (plainFor_of_name pn_com_example_shapewright_shapewright_model_ShapeType) hisR ?_
  intro p e s m args below meth c s₁ Bd hml0 hP hK
  obtain ⟨rfl, hZ, hh⟩ := hP
  have hx := Bd.exec
  have hby := Bd.bytes
  have hml : c.maxLocals = 1 := hml0
  have hown : s.vm.findClass "com/example/shapewright/shapewright/model/ShapeType" = some m.cls := findClass_of_methodNamed Bd.named
  have hnm := (name_of_methodNamed Bd.named Bd.method).1
  have X0 : Stand p l e ({ frames := 0, cells := 0, slots := 0, locals := 0 } : Room) s m #[(.ref w_TIMESTAMP)] below meth c s₁ [] 0 0 := Stand.of_body Bd
  have e0 : s₁.heap = h0 := by rw [← hh, Bd.state]; rfl
  have N0 := Fr.nil n0
  have pre0 : ∀ t, Steps p.tables e below (s₁.setTop (mkF m 0 #[.val (.ref w_TIMESTAMP)] [])) t → Steps p.tables e below (s₁.setTop (entryFrame m #[(.ref w_TIMESTAMP)] 1)) t := fun t k => castTop (ef_rm_namesItsMembers_13 m w_TIMESTAMP) k
  have K0 := Keep.refl h0 []
  obtain ⟨T208, X208, e208, st208⟩ := getF X0 hx hZ hown (host := "") (Or.inl (hw _ (List.mem_of_getElem? (i := 54) rfl))) Via.refl e0 (F_fixedMembers_TIMESTAMP.ext O0.2) (g := (mkF m 1 #[.val (.ref w_TIMESTAMP)] [(.ref w_TIMESTAMP)])) rfl rfl (hb hby d_prog_45_method_7_code_1)
  have pre209 : ∀ t, Steps p.tables e below (T208.setTop (mkF m 12 #[.val (.ref w_TIMESTAMP)] [(.int (0 : Int32))])) t → Steps p.tables e below (s₁.setTop (entryFrame m #[(.ref w_TIMESTAMP)] 1)) t := by
    intro t kt
    refine pre0 t ?_
    show Steps p.tables e below (s₁.setTop (mkF m 0 #[.val (.ref w_TIMESTAMP)] [])) _
    refine XS.aloadN X0.here hx rfl (hb hby d_prog_45_method_7_code_0) rfl rfl ?_
    show Steps p.tables e below (s₁.setTop (mkF m 1 #[.val (.ref w_TIMESTAMP)] [(.ref w_TIMESTAMP)])) _
    refine st208 _ ?_
    show Steps p.tables e below (T208.setTop (mkF m 4 #[.val (.ref w_TIMESTAMP)] [(.ref r_fixedMembers_BLOB)])) _
    refine XS.ifnonnullYes X208.here hx rfl (pc0 := 4) (pc' := 11) rfl (hb hby d_prog_45_method_7_code_4) rfl (by decide) (by decide) ?_
    show Steps p.tables e below (T208.setTop (mkF m 11 #[.val (.ref w_TIMESTAMP)] [])) _
    refine XS.iconst X208.here hx rfl (hb hby d_prog_45_method_7_code_11) ?_
    exact kt
  obtain ⟨fs, hr, hrun, hended, hW, hsame⟩ := X208.leave (v := some (.int (0 : Int32))) (fun h => by rw [Bd.returns] at h; cases h)
  refine ⟨_, _, pre209 _ ?_, hrun, hended, _, _, rfl, ?_, ⟨_, rfl⟩, hW, hsame.mono (by decide) (by decide)⟩
  · show Steps p.tables e below (T208.setTop (mkF m 12 #[.val (.ref w_TIMESTAMP)] [(.int (0 : Int32))])) _
    exact retN X208 hx (t := .boolean) Bd.returns (by simp) (hb hby d_prog_45_method_7_code_12) hr
  · show Q_rm_namesItsMembers_13 Z r_fixedMembers_BLOB w_TIMESTAMP h0 n0 _ T208.heap _
    rw [e208]
    exact ⟨rfl, N0, rfl⟩
theorem d_prog_45_method_7_code_7 : decode prog_45_method_7_code 7 = .ok (.iconst 1, 1) := by decide +kernel
theorem d_prog_45_method_7_code_8 : decode prog_45_method_7_code 8 = .ok (.goto 4, 3) := by decide +kernel
theorem ef_rm_namesItsMembers_14 (m : MethodId) (w_ENUM : Addr) : entryFrame m #[(.ref w_ENUM)] 1 = mkF m 0 #[.val (.ref w_ENUM)] [] := by first | (simp [entryFrame, mkF, argsToLocals, Value.category]; done) | rfl
def Q_rm_namesItsMembers_14 (Z : State) (w_ENUM : Addr) (h0 : Heap) (n0 : Nat) (v : Option Value) (h : Heap) (L : List Loc) : Prop := v = some (.int (1 : Int32)) ∧ Fr n0 L ∧ h = h0
set_option maxRecDepth 65536 in
set_option maxHeartbeats 40000000 in
theorem rm_namesItsMembers_14 (l : Launch) (Z : State) (a0 : Array Value) (hw : ∀ d ∈ tables_1, d.before a0 Z = true) (ws : List Jvm.Cond) (w_ENUM : Addr) (h0 : Heap) (n0 : Nat) (O0 : Old Z n0 h0)  (F_fixedMembers_ENUM : Fld Z Z.heap w_ENUM "com/example/shapewright/shapewright/model/ShapeType" "fixedMembers" "Ljava/util/List;" .null) :
    MetFree l (⟨"com/example/shapewright/shapewright/model/ShapeType", "namesItsMembers", "()Z"⟩ : MethodName) (head1 (Jvm.Cond.code (⟨"com/example/shapewright/shapewright/model/ShapeType", "namesItsMembers", "()Z"⟩ : MethodName) prog_45_method_7_code 1 (some .boolean) :: ws) ({ frames := 0, cells := 0, slots := 0, locals := 0 } : Room)) (fun a U => a = #[(.ref w_ENUM)] ∧ Z.Warmed39 U.vm ∧ U.heap = h0) (fun _ _ _ _ _ => True) (fun _ U o U' => ∃ v L, o = .returned v ∧ Q_rm_namesItsMembers_14 Z w_ENUM h0 n0 v U'.heap L ∧ FrameEnd U o U' L ({ frames := 0, cells := 0, slots := 0, locals := 0 } : Room).cells ({ frames := 0, cells := 0, slots := 0, locals := 0 } : Room).slots) := by
  refine MetFree.of_bodySF (plainFor_of_name pn_com_example_shapewright_shapewright_model_ShapeType) hisR ?_
  intro p e s m args below meth c s₁ Bd hml0 hP hK
  obtain ⟨rfl, hZ, hh⟩ := hP
  have hx := Bd.exec
  have hby := Bd.bytes
  have hml : c.maxLocals = 1 := hml0
  have hown : s.vm.findClass "com/example/shapewright/shapewright/model/ShapeType" = some m.cls := findClass_of_methodNamed Bd.named
  have hnm := (name_of_methodNamed Bd.named Bd.method).1
  have X0 : Stand p l e ({ frames := 0, cells := 0, slots := 0, locals := 0 } : Room) s m #[(.ref w_ENUM)] below meth c s₁ [] 0 0 := Stand.of_body Bd
  have e0 : s₁.heap = h0 := by rw [← hh, Bd.state]; rfl
  have N0 := Fr.nil n0
  have pre0 : ∀ t, Steps p.tables e below (s₁.setTop (mkF m 0 #[.val (.ref w_ENUM)] [])) t → Steps p.tables e below (s₁.setTop (entryFrame m #[(.ref w_ENUM)] 1)) t := fun t k => castTop (ef_rm_namesItsMembers_14 m w_ENUM) k
  have K0 := Keep.refl h0 []
  obtain ⟨T218, X218, e218, st218⟩ := getF X0 hx hZ hown (host := "") (Or.inl (hw _ (List.mem_of_getElem? (i := 54) rfl))) Via.refl e0 (F_fixedMembers_ENUM.ext O0.2) (g := (mkF m 1 #[.val (.ref w_ENUM)] [(.ref w_ENUM)])) rfl rfl (hb hby d_prog_45_method_7_code_1)
  have pre219 : ∀ t, Steps p.tables e below (T218.setTop (mkF m 12 #[.val (.ref w_ENUM)] [(.int (1 : Int32))])) t → Steps p.tables e below (s₁.setTop (entryFrame m #[(.ref w_ENUM)] 1)) t := by
    intro t kt
    refine pre0 t ?_
    show Steps p.tables e below (s₁.setTop (mkF m 0 #[.val (.ref w_ENUM)] [])) _
    refine XS.aloadN X0.here hx rfl (hb hby d_prog_45_method_7_code_0) rfl rfl ?_
    show Steps p.tables e below (s₁.setTop (mkF m 1 #[.val (.ref w_ENUM)] [(.ref w_ENUM)])) _
    refine st218 _ ?_
    show Steps p.tables e below (T218.setTop (mkF m 4 #[.val (.ref w_ENUM)] [.null])) _
    refine XS.ifnonnullNo X218.here hx rfl (hb hby d_prog_45_method_7_code_4) rfl ?_
    show Steps p.tables e below (T218.setTop (mkF m 7 #[.val (.ref w_ENUM)] [])) _
    refine XS.iconst X218.here hx rfl (hb hby d_prog_45_method_7_code_7) ?_
    show Steps p.tables e below (T218.setTop (mkF m 8 #[.val (.ref w_ENUM)] [(.int (1 : Int32))])) _
    refine XS.goto X218.here hx rfl (pc0 := 8) (pc' := 12) rfl (hb hby d_prog_45_method_7_code_8) (by decide) (by decide) ?_
    exact kt
  obtain ⟨fs, hr, hrun, hended, hW, hsame⟩ := X218.leave (v := some (.int (1 : Int32))) (fun h => by rw [Bd.returns] at h; cases h)
  refine ⟨_, _, pre219 _ ?_, hrun, hended, _, _, rfl, ?_, ⟨_, rfl⟩, hW, hsame.mono (by decide) (by decide)⟩
  · show Steps p.tables e below (T218.setTop (mkF m 12 #[.val (.ref w_ENUM)] [(.int (1 : Int32))])) _
    exact retN X218 hx (t := .boolean) Bd.returns (by simp) (hb hby d_prog_45_method_7_code_12) hr
  · show Q_rm_namesItsMembers_14 Z w_ENUM h0 n0 _ T218.heap _
    rw [e218]
    exact ⟨rfl, N0, rfl⟩
theorem ef_rm_namesItsMembers_15 (m : MethodId) (w_INT_ENUM : Addr) : entryFrame m #[(.ref w_INT_ENUM)] 1 = mkF m 0 #[.val (.ref w_INT_ENUM)] [] := by first | (simp [entryFrame, mkF, argsToLocals, Value.category]; done) | rfl
def Q_rm_namesItsMembers_15 (Z : State) (w_INT_ENUM : Addr) (h0 : Heap) (n0 : Nat) (v : Option Value) (h : Heap) (L : List Loc) : Prop := v = some (.int (1 : Int32)) ∧ Fr n0 L ∧ h = h0
set_option maxRecDepth 65536 in
set_option maxHeartbeats 40000000 in
theorem rm_namesItsMembers_15 (l : Launch) (Z : State) (a0 : Array Value) (hw : ∀ d ∈ tables_1, d.before a0 Z = true) (ws : List Jvm.Cond) (w_INT_ENUM : Addr) (h0 : Heap) (n0 : Nat) (O0 : Old Z n0 h0)  (F_fixedMembers_INT_ENUM : Fld Z Z.heap w_INT_ENUM "com/example/shapewright/shapewright/model/ShapeType" "fixedMembers" "Ljava/util/List;" .null) :
    MetFree l (⟨"com/example/shapewright/shapewright/model/ShapeType", "namesItsMembers", "()Z"⟩ : MethodName) (head1 (Jvm.Cond.code (⟨"com/example/shapewright/shapewright/model/ShapeType", "namesItsMembers", "()Z"⟩ : MethodName) prog_45_method_7_code 1 (some .boolean) :: ws) ({ frames := 0, cells := 0, slots := 0, locals := 0 } : Room)) (fun a U => a = #[(.ref w_INT_ENUM)] ∧ Z.Warmed39 U.vm ∧ U.heap = h0) (fun _ _ _ _ _ => True) (fun _ U o U' => ∃ v L, o = .returned v ∧ Q_rm_namesItsMembers_15 Z w_INT_ENUM h0 n0 v U'.heap L ∧ FrameEnd U o U' L ({ frames := 0, cells := 0, slots := 0, locals := 0 } : Room).cells ({ frames := 0, cells := 0, slots := 0, locals := 0 } : Room).slots) := by
  refine MetFree.of_bodySF (plainFor_of_name pn_com_example_shapewright_shapewright_model_ShapeType) hisR ?_
  intro p e s m args below meth c s₁ Bd hml0 hP hK
  obtain ⟨rfl, hZ, hh⟩ := hP
  have hx := Bd.exec
  have hby := Bd.bytes
  have hml : c.maxLocals = 1 := hml0
  have hown : s.vm.findClass "com/example/shapewright/shapewright/model/ShapeType" = some m.cls := findClass_of_methodNamed Bd.named
  have hnm := (name_of_methodNamed Bd.named Bd.method).1
  have X0 : Stand p l e ({ frames := 0, cells := 0, slots := 0, locals := 0 } : Room) s m #[(.ref w_INT_ENUM)] below meth c s₁ [] 0 0 := Stand.of_body Bd
  have e0 : s₁.heap = h0 := by rw [← hh, Bd.state]; rfl
  have N0 := Fr.nil n0
  have pre0 : ∀ t, Steps p.tables e below (s₁.setTop (mkF m 0 #[.val (.ref w_INT_ENUM)] [])) t → Steps p.tables e below (s₁.setTop (entryFrame m #[(.ref w_INT_ENUM)] 1)) t := fun t k => castTop (ef_rm_namesItsMembers_15 m w_INT_ENUM) k
  have K0 := Keep.refl h0 []
  obtain ⟨T229, X229, e229, st229⟩ := getF X0 hx hZ hown (host := "") (Or.inl (hw _ (List.mem_of_getElem? (i := 54) rfl))) Via.refl e0 (F_fixedMembers_INT_ENUM.ext O0.2) (g := (mkF m 1 #[.val (.ref w_INT_ENUM)] [(.ref w_INT_ENUM)])) rfl rfl (hb hby d_prog_45_method_7_code_1)
  have pre230 : ∀ t, Steps p.tables e below (T229.setTop (mkF m 12 #[.val (.ref w_INT_ENUM)] [(.int (1 : Int32))])) t → Steps p.tables e below (s₁.setTop (entryFrame m #[(.ref w_INT_ENUM)] 1)) t := by
    intro t kt
    refine pre0 t ?_
    show Steps p.tables e below (s₁.setTop (mkF m 0 #[.val (.ref w_INT_ENUM)] [])) _
    refine XS.aloadN X0.here hx rfl (hb hby d_prog_45_method_7_code_0) rfl rfl ?_
    show Steps p.tables e below (s₁.setTop (mkF m 1 #[.val (.ref w_INT_ENUM)] [(.ref w_INT_ENUM)])) _
    refine st229 _ ?_
    show Steps p.tables e below (T229.setTop (mkF m 4 #[.val (.ref w_INT_ENUM)] [.null])) _
    refine XS.ifnonnullNo X229.here hx rfl (hb hby d_prog_45_method_7_code_4) rfl ?_
    show Steps p.tables e below (T229.setTop (mkF m 7 #[.val (.ref w_INT_ENUM)] [])) _
    refine XS.iconst X229.here hx rfl (hb hby d_prog_45_method_7_code_7) ?_
    show Steps p.tables e below (T229.setTop (mkF m 8 #[.val (.ref w_INT_ENUM)] [(.int (1 : Int32))])) _
    refine XS.goto X229.here hx rfl (pc0 := 8) (pc' := 12) rfl (hb hby d_prog_45_method_7_code_8) (by decide) (by decide) ?_
    exact kt
  obtain ⟨fs, hr, hrun, hended, hW, hsame⟩ := X229.leave (v := some (.int (1 : Int32))) (fun h => by rw [Bd.returns] at h; cases h)
  refine ⟨_, _, pre230 _ ?_, hrun, hended, _, _, rfl, ?_, ⟨_, rfl⟩, hW, hsame.mono (by decide) (by decide)⟩
  · show Steps p.tables e below (T229.setTop (mkF m 12 #[.val (.ref w_INT_ENUM)] [(.int (1 : Int32))])) _
    exact retN X229 hx (t := .boolean) Bd.returns (by simp) (hb hby d_prog_45_method_7_code_12) hr
  · show Q_rm_namesItsMembers_15 Z w_INT_ENUM h0 n0 _ T229.heap _
    rw [e229]
    exact ⟨rfl, N0, rfl⟩
theorem ef_rm_namesItsMembers_16 (m : MethodId) (w_LIST : Addr) : entryFrame m #[(.ref w_LIST)] 1 = mkF m 0 #[.val (.ref w_LIST)] [] := by first | (simp [entryFrame, mkF, argsToLocals, Value.category]; done) | rfl
def Q_rm_namesItsMembers_16 (Z : State) (w_LIST : Addr) (r_fixedMembers_LIST : Addr) (h0 : Heap) (n0 : Nat) (v : Option Value) (h : Heap) (L : List Loc) : Prop := v = some (.int (0 : Int32)) ∧ Fr n0 L ∧ h = h0
set_option maxRecDepth 65536 in
set_option maxHeartbeats 40000000 in
theorem rm_namesItsMembers_16 (l : Launch) (Z : State) (a0 : Array Value) (hw : ∀ d ∈ tables_1, d.before a0 Z = true) (ws : List Jvm.Cond) (w_LIST : Addr) (r_fixedMembers_LIST : Addr) (h0 : Heap) (n0 : Nat) (O0 : Old Z n0 h0)  (F_fixedMembers_LIST : Fld Z Z.heap w_LIST "com/example/shapewright/shapewright/model/ShapeType" "fixedMembers" "Ljava/util/List;" (.ref r_fixedMembers_LIST)) :
    MetFree l (⟨"com/example/shapewright/shapewright/model/ShapeType", "namesItsMembers", "()Z"⟩ : MethodName) (head1 (Jvm.Cond.code (⟨"com/example/shapewright/shapewright/model/ShapeType", "namesItsMembers", "()Z"⟩ : MethodName) prog_45_method_7_code 1 (some .boolean) :: ws) ({ frames := 0, cells := 0, slots := 0, locals := 0 } : Room)) (fun a U => a = #[(.ref w_LIST)] ∧ Z.Warmed39 U.vm ∧ U.heap = h0) (fun _ _ _ _ _ => True) (fun _ U o U' => ∃ v L, o = .returned v ∧ Q_rm_namesItsMembers_16 Z w_LIST r_fixedMembers_LIST h0 n0 v U'.heap L ∧ FrameEnd U o U' L ({ frames := 0, cells := 0, slots := 0, locals := 0 } : Room).cells ({ frames := 0, cells := 0, slots := 0, locals := 0 } : Room).slots) := by
  refine MetFree.of_bodySF (plainFor_of_name pn_com_example_shapewright_shapewright_model_ShapeType) hisR ?_
  intro p e s m args below meth c s₁ Bd hml0 hP hK
  obtain ⟨rfl, hZ, hh⟩ := hP
  have hx := Bd.exec
  have hby := Bd.bytes
  have hml : c.maxLocals = 1 := hml0
  have hown : s.vm.findClass "com/example/shapewright/shapewright/model/ShapeType" = some m.cls := findClass_of_methodNamed Bd.named
  have hnm := (name_of_methodNamed Bd.named Bd.method).1
  have X0 : Stand p l e ({ frames := 0, cells := 0, slots := 0, locals := 0 } : Room) s m #[(.ref w_LIST)] below meth c s₁ [] 0 0 := Stand.of_body Bd
  have e0 : s₁.heap = h0 := by rw [← hh, Bd.state]; rfl
  have N0 := Fr.nil n0
  have pre0 : ∀ t, Steps p.tables e below (s₁.setTop (mkF m 0 #[.val (.ref w_LIST)] [])) t → Steps p.tables e below (s₁.setTop (entryFrame m #[(.ref w_LIST)] 1)) t := fun t k => castTop (ef_rm_namesItsMembers_16 m w_LIST) k
  have K0 := Keep.refl h0 []
  obtain ⟨T240, X240, e240, st240⟩ := getF X0 hx hZ hown (host := "") (Or.inl (hw _ (List.mem_of_getElem? (i := 54) rfl))) Via.refl e0 (F_fixedMembers_LIST.ext O0.2) (g := (mkF m 1 #[.val (.ref w_LIST)] [(.ref w_LIST)])) rfl rfl (hb hby d_prog_45_method_7_code_1)
  have pre241 : ∀ t, Steps p.tables e below (T240.setTop (mkF m 12 #[.val (.ref w_LIST)] [(.int (0 : Int32))])) t → Steps p.tables e below (s₁.setTop (entryFrame m #[(.ref w_LIST)] 1)) t := by
    intro t kt
    refine pre0 t ?_
    show Steps p.tables e below (s₁.setTop (mkF m 0 #[.val (.ref w_LIST)] [])) _
    refine XS.aloadN X0.here hx rfl (hb hby d_prog_45_method_7_code_0) rfl rfl ?_
    show Steps p.tables e below (s₁.setTop (mkF m 1 #[.val (.ref w_LIST)] [(.ref w_LIST)])) _
    refine st240 _ ?_
    show Steps p.tables e below (T240.setTop (mkF m 4 #[.val (.ref w_LIST)] [(.ref r_fixedMembers_LIST)])) _
    refine XS.ifnonnullYes X240.here hx rfl (pc0 := 4) (pc' := 11) rfl (hb hby d_prog_45_method_7_code_4) rfl (by decide) (by decide) ?_
    show Steps p.tables e below (T240.setTop (mkF m 11 #[.val (.ref w_LIST)] [])) _
    refine XS.iconst X240.here hx rfl (hb hby d_prog_45_method_7_code_11) ?_
    exact kt
  obtain ⟨fs, hr, hrun, hended, hW, hsame⟩ := X240.leave (v := some (.int (0 : Int32))) (fun h => by rw [Bd.returns] at h; cases h)
  refine ⟨_, _, pre241 _ ?_, hrun, hended, _, _, rfl, ?_, ⟨_, rfl⟩, hW, hsame.mono (by decide) (by decide)⟩
  · show Steps p.tables e below (T240.setTop (mkF m 12 #[.val (.ref w_LIST)] [(.int (0 : Int32))])) _
    exact retN X240 hx (t := .boolean) Bd.returns (by simp) (hb hby d_prog_45_method_7_code_12) hr
  · show Q_rm_namesItsMembers_16 Z w_LIST r_fixedMembers_LIST h0 n0 _ T240.heap _
    rw [e240]
    exact ⟨rfl, N0, rfl⟩
theorem ef_rm_namesItsMembers_17 (m : MethodId) (w_MAP : Addr) : entryFrame m #[(.ref w_MAP)] 1 = mkF m 0 #[.val (.ref w_MAP)] [] := by first | (simp [entryFrame, mkF, argsToLocals, Value.category]; done) | rfl
def Q_rm_namesItsMembers_17 (Z : State) (r_fixedMembers_MAP : Addr) (w_MAP : Addr) (h0 : Heap) (n0 : Nat) (v : Option Value) (h : Heap) (L : List Loc) : Prop := v = some (.int (0 : Int32)) ∧ Fr n0 L ∧ h = h0
set_option maxRecDepth 65536 in
set_option maxHeartbeats 40000000 in
theorem rm_namesItsMembers_17 (l : Launch) (Z : State) (a0 : Array Value) (hw : ∀ d ∈ tables_1, d.before a0 Z = true) (ws : List Jvm.Cond) (r_fixedMembers_MAP : Addr) (w_MAP : Addr) (h0 : Heap) (n0 : Nat) (O0 : Old Z n0 h0)  (F_fixedMembers_MAP : Fld Z Z.heap w_MAP "com/example/shapewright/shapewright/model/ShapeType" "fixedMembers" "Ljava/util/List;" (.ref r_fixedMembers_MAP)) :
    MetFree l (⟨"com/example/shapewright/shapewright/model/ShapeType", "namesItsMembers", "()Z"⟩ : MethodName) (head1 (Jvm.Cond.code (⟨"com/example/shapewright/shapewright/model/ShapeType", "namesItsMembers", "()Z"⟩ : MethodName) prog_45_method_7_code 1 (some .boolean) :: ws) ({ frames := 0, cells := 0, slots := 0, locals := 0 } : Room)) (fun a U => a = #[(.ref w_MAP)] ∧ Z.Warmed39 U.vm ∧ U.heap = h0) (fun _ _ _ _ _ => True) (fun _ U o U' => ∃ v L, o = .returned v ∧ Q_rm_namesItsMembers_17 Z r_fixedMembers_MAP w_MAP h0 n0 v U'.heap L ∧ FrameEnd U o U' L ({ frames := 0, cells := 0, slots := 0, locals := 0 } : Room).cells ({ frames := 0, cells := 0, slots := 0, locals := 0 } : Room).slots) := by
  refine MetFree.of_bodySF (plainFor_of_name pn_com_example_shapewright_shapewright_model_ShapeType) hisR ?_
  intro p e s m args below meth c s₁ Bd hml0 hP hK
  obtain ⟨rfl, hZ, hh⟩ := hP
  have hx := Bd.exec
  have hby := Bd.bytes
  have hml : c.maxLocals = 1 := hml0
  have hown : s.vm.findClass "com/example/shapewright/shapewright/model/ShapeType" = some m.cls := findClass_of_methodNamed Bd.named
  have hnm := (name_of_methodNamed Bd.named Bd.method).1
  have X0 : Stand p l e ({ frames := 0, cells := 0, slots := 0, locals := 0 } : Room) s m #[(.ref w_MAP)] below meth c s₁ [] 0 0 := Stand.of_body Bd
  have e0 : s₁.heap = h0 := by rw [← hh, Bd.state]; rfl
  have N0 := Fr.nil n0
  have pre0 : ∀ t, Steps p.tables e below (s₁.setTop (mkF m 0 #[.val (.ref w_MAP)] [])) t → Steps p.tables e below (s₁.setTop (entryFrame m #[(.ref w_MAP)] 1)) t := fun t k => castTop (ef_rm_namesItsMembers_17 m w_MAP) k
  have K0 := Keep.refl h0 []
  obtain ⟨T251, X251, e251, st251⟩ := getF X0 hx hZ hown (host := "") (Or.inl (hw _ (List.mem_of_getElem? (i := 54) rfl))) Via.refl e0 (F_fixedMembers_MAP.ext O0.2) (g := (mkF m 1 #[.val (.ref w_MAP)] [(.ref w_MAP)])) rfl rfl (hb hby d_prog_45_method_7_code_1)
  have pre252 : ∀ t, Steps p.tables e below (T251.setTop (mkF m 12 #[.val (.ref w_MAP)] [(.int (0 : Int32))])) t → Steps p.tables e below (s₁.setTop (entryFrame m #[(.ref w_MAP)] 1)) t := by
    intro t kt
    refine pre0 t ?_
    show Steps p.tables e below (s₁.setTop (mkF m 0 #[.val (.ref w_MAP)] [])) _
    refine XS.aloadN X0.here hx rfl (hb hby d_prog_45_method_7_code_0) rfl rfl ?_
    show Steps p.tables e below (s₁.setTop (mkF m 1 #[.val (.ref w_MAP)] [(.ref w_MAP)])) _
    refine st251 _ ?_
    show Steps p.tables e below (T251.setTop (mkF m 4 #[.val (.ref w_MAP)] [(.ref r_fixedMembers_MAP)])) _
    refine XS.ifnonnullYes X251.here hx rfl (pc0 := 4) (pc' := 11) rfl (hb hby d_prog_45_method_7_code_4) rfl (by decide) (by decide) ?_
    show Steps p.tables e below (T251.setTop (mkF m 11 #[.val (.ref w_MAP)] [])) _
    refine XS.iconst X251.here hx rfl (hb hby d_prog_45_method_7_code_11) ?_
    exact kt
  obtain ⟨fs, hr, hrun, hended, hW, hsame⟩ := X251.leave (v := some (.int (0 : Int32))) (fun h => by rw [Bd.returns] at h; cases h)
  refine ⟨_, _, pre252 _ ?_, hrun, hended, _, _, rfl, ?_, ⟨_, rfl⟩, hW, hsame.mono (by decide) (by decide)⟩
  · show Steps p.tables e below (T251.setTop (mkF m 12 #[.val (.ref w_MAP)] [(.int (0 : Int32))])) _
    exact retN X251 hx (t := .boolean) Bd.returns (by simp) (hb hby d_prog_45_method_7_code_12) hr
  · show Q_rm_namesItsMembers_17 Z r_fixedMembers_MAP w_MAP h0 n0 _ T251.heap _
    rw [e251]
    exact ⟨rfl, N0, rfl⟩
theorem ef_rm_namesItsMembers_18 (m : MethodId) (w_STRUCTURE : Addr) : entryFrame m #[(.ref w_STRUCTURE)] 1 = mkF m 0 #[.val (.ref w_STRUCTURE)] [] := by first | (simp [entryFrame, mkF, argsToLocals, Value.category]; done) | rfl
def Q_rm_namesItsMembers_18 (Z : State) (w_STRUCTURE : Addr) (h0 : Heap) (n0 : Nat) (v : Option Value) (h : Heap) (L : List Loc) : Prop := v = some (.int (1 : Int32)) ∧ Fr n0 L ∧ h = h0
set_option maxRecDepth 65536 in
set_option maxHeartbeats 40000000 in
theorem rm_namesItsMembers_18 (l : Launch) (Z : State) (a0 : Array Value) (hw : ∀ d ∈ tables_1, d.before a0 Z = true) (ws : List Jvm.Cond) (w_STRUCTURE : Addr) (h0 : Heap) (n0 : Nat) (O0 : Old Z n0 h0)  (F_fixedMembers_STRUCTURE : Fld Z Z.heap w_STRUCTURE "com/example/shapewright/shapewright/model/ShapeType" "fixedMembers" "Ljava/util/List;" .null) :
    MetFree l (⟨"com/example/shapewright/shapewright/model/ShapeType", "namesItsMembers", "()Z"⟩ : MethodName) (head1 (Jvm.Cond.code (⟨"com/example/shapewright/shapewright/model/ShapeType", "namesItsMembers", "()Z"⟩ : MethodName) prog_45_method_7_code 1 (some .boolean) :: ws) ({ frames := 0, cells := 0, slots := 0, locals := 0 } : Room)) (fun a U => a = #[(.ref w_STRUCTURE)] ∧ Z.Warmed39 U.vm ∧ U.heap = h0) (fun _ _ _ _ _ => True) (fun _ U o U' => ∃ v L, o = .returned v ∧ Q_rm_namesItsMembers_18 Z w_STRUCTURE h0 n0 v U'.heap L ∧ FrameEnd U o U' L ({ frames := 0, cells := 0, slots := 0, locals := 0 } : Room).cells ({ frames := 0, cells := 0, slots := 0, locals := 0 } : Room).slots) := by
  refine MetFree.of_bodySF (plainFor_of_name pn_com_example_shapewright_shapewright_model_ShapeType) hisR ?_
  intro p e s m args below meth c s₁ Bd hml0 hP hK
  obtain ⟨rfl, hZ, hh⟩ := hP
  have hx := Bd.exec
  have hby := Bd.bytes
  have hml : c.maxLocals = 1 := hml0
  have hown : s.vm.findClass "com/example/shapewright/shapewright/model/ShapeType" = some m.cls := findClass_of_methodNamed Bd.named
  have hnm := (name_of_methodNamed Bd.named Bd.method).1
  have X0 : Stand p l e ({ frames := 0, cells := 0, slots := 0, locals := 0 } : Room) s m #[(.ref w_STRUCTURE)] below meth c s₁ [] 0 0 := Stand.of_body Bd
  have e0 : s₁.heap = h0 := by rw [← hh, Bd.state]; rfl
  have N0 := Fr.nil n0
  have pre0 : ∀ t, Steps p.tables e below (s₁.setTop (mkF m 0 #[.val (.ref w_STRUCTURE)] [])) t → Steps p.tables e below (s₁.setTop (entryFrame m #[(.ref w_STRUCTURE)] 1)) t := fun t k => castTop (ef_rm_namesItsMembers_18 m w_STRUCTURE) k
  have K0 := Keep.refl h0 []
  obtain ⟨T259, X259, e259, st259⟩ := getF X0 hx hZ hown (host := "") (Or.inl (hw _ (List.mem_of_getElem? (i := 54) rfl))) Via.refl e0 (F_fixedMembers_STRUCTURE.ext O0.2) (g := (mkF m 1 #[.val (.ref w_STRUCTURE)] [(.ref w_STRUCTURE)])) rfl rfl (hb hby d_prog_45_method_7_code_1)
  have pre260 : ∀ t, Steps p.tables e below (T259.setTop (mkF m 12 #[.val (.ref w_STRUCTURE)] [(.int (1 : Int32))])) t → Steps p.tables e below (s₁.setTop (entryFrame m #[(.ref w_STRUCTURE)] 1)) t := by
    intro t kt
    refine pre0 t ?_
    show Steps p.tables e below (s₁.setTop (mkF m 0 #[.val (.ref w_STRUCTURE)] [])) _
    refine XS.aloadN X0.here hx rfl (hb hby d_prog_45_method_7_code_0) rfl rfl ?_
    show Steps p.tables e below (s₁.setTop (mkF m 1 #[.val (.ref w_STRUCTURE)] [(.ref w_STRUCTURE)])) _
    refine st259 _ ?_
    show Steps p.tables e below (T259.setTop (mkF m 4 #[.val (.ref w_STRUCTURE)] [.null])) _
    refine XS.ifnonnullNo X259.here hx rfl (hb hby d_prog_45_method_7_code_4) rfl ?_
    show Steps p.tables e below (T259.setTop (mkF m 7 #[.val (.ref w_STRUCTURE)] [])) _
    refine XS.iconst X259.here hx rfl (hb hby d_prog_45_method_7_code_7) ?_
    show Steps p.tables e below (T259.setTop (mkF m 8 #[.val (.ref w_STRUCTURE)] [(.int (1 : Int32))])) _
    refine XS.goto X259.here hx rfl (pc0 := 8) (pc' := 12) rfl (hb hby d_prog_45_method_7_code_8) (by decide) (by decide) ?_
    exact kt
  obtain ⟨fs, hr, hrun, hended, hW, hsame⟩ := X259.leave (v := some (.int (1 : Int32))) (fun h => by rw [Bd.returns] at h; cases h)
  refine ⟨_, _, pre260 _ ?_, hrun, hended, _, _, rfl, ?_, ⟨_, rfl⟩, hW, hsame.mono (by decide) (by decide)⟩
  · show Steps p.tables e below (T259.setTop (mkF m 12 #[.val (.ref w_STRUCTURE)] [(.int (1 : Int32))])) _
    exact retN X259 hx (t := .boolean) Bd.returns (by simp) (hb hby d_prog_45_method_7_code_12) hr
  · show Q_rm_namesItsMembers_18 Z w_STRUCTURE h0 n0 _ T259.heap _
    rw [e259]
    exact ⟨rfl, N0, rfl⟩
theorem ef_rm_namesItsMembers_19 (m : MethodId) (w_UNION : Addr) : entryFrame m #[(.ref w_UNION)] 1 = mkF m 0 #[.val (.ref w_UNION)] [] := by first | (simp [entryFrame, mkF, argsToLocals, Value.category]; done) | rfl
def Q_rm_namesItsMembers_19 (Z : State) (w_UNION : Addr) (h0 : Heap) (n0 : Nat) (v : Option Value) (h : Heap) (L : List Loc) : Prop := v = some (.int (1 : Int32)) ∧ Fr n0 L ∧ h = h0
set_option maxRecDepth 65536 in
set_option maxHeartbeats 40000000 in
theorem rm_namesItsMembers_19 (l : Launch) (Z : State) (a0 : Array Value) (hw : ∀ d ∈ tables_1, d.before a0 Z = true) (ws : List Jvm.Cond) (w_UNION : Addr) (h0 : Heap) (n0 : Nat) (O0 : Old Z n0 h0)  (F_fixedMembers_UNION : Fld Z Z.heap w_UNION "com/example/shapewright/shapewright/model/ShapeType" "fixedMembers" "Ljava/util/List;" .null) :
    MetFree l (⟨"com/example/shapewright/shapewright/model/ShapeType", "namesItsMembers", "()Z"⟩ : MethodName) (head1 (Jvm.Cond.code (⟨"com/example/shapewright/shapewright/model/ShapeType", "namesItsMembers", "()Z"⟩ : MethodName) prog_45_method_7_code 1 (some .boolean) :: ws) ({ frames := 0, cells := 0, slots := 0, locals := 0 } : Room)) (fun a U => a = #[(.ref w_UNION)] ∧ Z.Warmed39 U.vm ∧ U.heap = h0) (fun _ _ _ _ _ => True) (fun _ U o U' => ∃ v L, o = .returned v ∧ Q_rm_namesItsMembers_19 Z w_UNION h0 n0 v U'.heap L ∧ FrameEnd U o U' L ({ frames := 0, cells := 0, slots := 0, locals := 0 } : Room).cells ({ frames := 0, cells := 0, slots := 0, locals := 0 } : Room).slots) := by
  refine MetFree.of_bodySF (plainFor_of_name pn_com_example_shapewright_shapewright_model_ShapeType) hisR ?_
  intro p e s m args below meth c s₁ Bd hml0 hP hK
  obtain ⟨rfl, hZ, hh⟩ := hP
  have hx := Bd.exec
  have hby := Bd.bytes
  have hml : c.maxLocals = 1 := hml0
  have hown : s.vm.findClass "com/example/shapewright/shapewright/model/ShapeType" = some m.cls := findClass_of_methodNamed Bd.named
  have hnm := (name_of_methodNamed Bd.named Bd.method).1
  have X0 : Stand p l e ({ frames := 0, cells := 0, slots := 0, locals := 0 } : Room) s m #[(.ref w_UNION)] below meth c s₁ [] 0 0 := Stand.of_body Bd
  have e0 : s₁.heap = h0 := by rw [← hh, Bd.state]; rfl
  have N0 := Fr.nil n0
  have pre0 : ∀ t, Steps p.tables e below (s₁.setTop (mkF m 0 #[.val (.ref w_UNION)] [])) t → Steps p.tables e below (s₁.setTop (entryFrame m #[(.ref w_UNION)] 1)) t := fun t k => castTop (ef_rm_namesItsMembers_19 m w_UNION) k
  have K0 := Keep.refl h0 []
  obtain ⟨T268, X268, e268, st268⟩ := getF X0 hx hZ hown (host := "") (Or.inl (hw _ (List.mem_of_getElem? (i := 54) rfl))) Via.refl e0 (F_fixedMembers_UNION.ext O0.2) (g := (mkF m 1 #[.val (.ref w_UNION)] [(.ref w_UNION)])) rfl rfl (hb hby d_prog_45_method_7_code_1)
  have pre269 : ∀ t, Steps p.tables e below (T268.setTop (mkF m 12 #[.val (.ref w_UNION)] [(.int (1 : Int32))])) t → Steps p.tables e below (s₁.setTop (entryFrame m #[(.ref w_UNION)] 1)) t := by
    intro t kt
    refine pre0 t ?_
    show Steps p.tables e below (s₁.setTop (mkF m 0 #[.val (.ref w_UNION)] [])) _
    refine XS.aloadN X0.here hx rfl (hb hby d_prog_45_method_7_code_0) rfl rfl ?_
    show Steps p.tables e below (s₁.setTop (mkF m 1 #[.val (.ref w_UNION)] [(.ref w_UNION)])) _
    refine st268 _ ?_
    show Steps p.tables e below (T268.setTop (mkF m 4 #[.val (.ref w_UNION)] [.null])) _
    refine XS.ifnonnullNo X268.here hx rfl (hb hby d_prog_45_method_7_code_4) rfl ?_
    show Steps p.tables e below (T268.setTop (mkF m 7 #[.val (.ref w_UNION)] [])) _
    refine XS.iconst X268.here hx rfl (hb hby d_prog_45_method_7_code_7) ?_
    show Steps p.tables e below (T268.setTop (mkF m 8 #[.val (.ref w_UNION)] [(.int (1 : Int32))])) _
    refine XS.goto X268.here hx rfl (pc0 := 8) (pc' := 12) rfl (hb hby d_prog_45_method_7_code_8) (by decide) (by decide) ?_
    exact kt
  obtain ⟨fs, hr, hrun, hended, hW, hsame⟩ := X268.leave (v := some (.int (1 : Int32))) (fun h => by rw [Bd.returns] at h; cases h)
  refine ⟨_, _, pre269 _ ?_, hrun, hended, _, _, rfl, ?_, ⟨_, rfl⟩, hW, hsame.mono (by decide) (by decide)⟩
  · show Steps p.tables e below (T268.setTop (mkF m 12 #[.val (.ref w_UNION)] [(.int (1 : Int32))])) _
    exact retN X268 hx (t := .boolean) Bd.returns (by simp) (hb hby d_prog_45_method_7_code_12) hr
  · show Q_rm_namesItsMembers_19 Z w_UNION h0 n0 _ T268.heap _
    rw [e268]
    exact ⟨rfl, N0, rfl⟩
theorem ef_rm_namesItsMembers_20 (m : MethodId) (w_SERVICE : Addr) : entryFrame m #[(.ref w_SERVICE)] 1 = mkF m 0 #[.val (.ref w_SERVICE)] [] := by first | (simp [entryFrame, mkF, argsToLocals, Value.category]; done) | rfl
def Q_rm_namesItsMembers_20 (Z : State) (r_fixedMembers_BLOB : Addr) (w_SERVICE : Addr) (h0 : Heap) (n0 : Nat) (v : Option Value) (h : Heap) (L : List Loc) : Prop := v = some (.int (0 : Int32)) ∧ Fr n0 L ∧ h = h0
set_option maxRecDepth 65536 in
set_option maxHeartbeats 40000000 in
theorem rm_namesItsMembers_20 (l : Launch) (Z : State) (a0 : Array Value) (hw : ∀ d ∈ tables_1, d.before a0 Z = true) (ws : List Jvm.Cond) (r_fixedMembers_BLOB : Addr) (w_SERVICE : Addr) (h0 : Heap) (n0 : Nat) (O0 : Old Z n0 h0)  (F_fixedMembers_SERVICE : Fld Z Z.heap w_SERVICE "com/example/shapewright/shapewright/model/ShapeType" "fixedMembers" "Ljava/util/List;" (.ref r_fixedMembers_BLOB)) :
    MetFree l (⟨"com/example/shapewright/shapewright/model/ShapeType", "namesItsMembers", "()Z"⟩ : MethodName) (head1 (Jvm.Cond.code (⟨"com/example/shapewright/shapewright/model/ShapeType", "namesItsMembers", "()Z"⟩ : MethodName) prog_45_method_7_code 1 (some .boolean) :: ws) ({ frames := 0, cells := 0, slots := 0, locals := 0 } : Room)) (fun a U => a = #[(.ref w_SERVICE)] ∧ Z.Warmed39 U.vm ∧ U.heap = h0) (fun _ _ _ _ _ => True) (fun _ U o U' => ∃ v L, o = .returned v ∧ Q_rm_namesItsMembers_20 Z r_fixedMembers_BLOB w_SERVICE h0 n0 v U'.heap L ∧ FrameEnd U o U' L ({ frames := 0, cells := 0, slots := 0, locals := 0 } : Room).cells ({ frames := 0, cells := 0, slots := 0, locals := 0 } : Room).slots) := by
  refine MetFree.of_bodySF (plainFor_of_name pn_com_example_shapewright_shapewright_model_ShapeType) hisR ?_
  intro p e s m args below meth c s₁ Bd hml0 hP hK
  obtain ⟨rfl, hZ, hh⟩ := hP
  have hx := Bd.exec
  have hby := Bd.bytes
  have hml : c.maxLocals = 1 := hml0
  have hown : s.vm.findClass "com/example/shapewright/shapewright/model/ShapeType" = some m.cls := findClass_of_methodNamed Bd.named
  have hnm := (name_of_methodNamed Bd.named Bd.method).1
  have X0 : Stand p l e ({ frames := 0, cells := 0, slots := 0, locals := 0 } : Room) s m #[(.ref w_SERVICE)] below meth c s₁ [] 0 0 := Stand.of_body Bd
  have e0 : s₁.heap = h0 := by rw [← hh, Bd.state]; rfl
  have N0 := Fr.nil n0
  have pre0 : ∀ t, Steps p.tables e below (s₁.setTop (mkF m 0 #[.val (.ref w_SERVICE)] [])) t → Steps p.tables e below (s₁.setTop (entryFrame m #[(.ref w_SERVICE)] 1)) t := fun t k => castTop (ef_rm_namesItsMembers_20 m w_SERVICE) k
  have K0 := Keep.refl h0 []
  obtain ⟨T279, X279, e279, st279⟩ := getF X0 hx hZ hown (host := "") (Or.inl (hw _ (List.mem_of_getElem? (i := 54) rfl))) Via.refl e0 (F_fixedMembers_SERVICE.ext O0.2) (g := (mkF m 1 #[.val (.ref w_SERVICE)] [(.ref w_SERVICE)])) rfl rfl (hb hby d_prog_45_method_7_code_1)
  have pre280 : ∀ t, Steps p.tables e below (T279.setTop (mkF m 12 #[.val (.ref w_SERVICE)] [(.int (0 : Int32))])) t → Steps p.tables e below (s₁.setTop (entryFrame m #[(.ref w_SERVICE)] 1)) t := by
    intro t kt
    refine pre0 t ?_
    show Steps p.tables e below (s₁.setTop (mkF m 0 #[.val (.ref w_SERVICE)] [])) _
    refine XS.aloadN X0.here hx rfl (hb hby d_prog_45_method_7_code_0) rfl rfl ?_
    show Steps p.tables e below (s₁.setTop (mkF m 1 #[.val (.ref w_SERVICE)] [(.ref w_SERVICE)])) _
    refine st279 _ ?_
    show Steps p.tables e below (T279.setTop (mkF m 4 #[.val (.ref w_SERVICE)] [(.ref r_fixedMembers_BLOB)])) _
    refine XS.ifnonnullYes X279.here hx rfl (pc0 := 4) (pc' := 11) rfl (hb hby d_prog_45_method_7_code_4) rfl (by decide) (by decide) ?_
    show Steps p.tables e below (T279.setTop (mkF m 11 #[.val (.ref w_SERVICE)] [])) _
    refine XS.iconst X279.here hx rfl (hb hby d_prog_45_method_7_code_11) ?_
    exact kt
  obtain ⟨fs, hr, hrun, hended, hW, hsame⟩ := X279.leave (v := some (.int (0 : Int32))) (fun h => by rw [Bd.returns] at h; cases h)
  refine ⟨_, _, pre280 _ ?_, hrun, hended, _, _, rfl, ?_, ⟨_, rfl⟩, hW, hsame.mono (by decide) (by decide)⟩
  · show Steps p.tables e below (T279.setTop (mkF m 12 #[.val (.ref w_SERVICE)] [(.int (0 : Int32))])) _
    exact retN X279 hx (t := .boolean) Bd.returns (by simp) (hb hby d_prog_45_method_7_code_12) hr
  · show Q_rm_namesItsMembers_20 Z r_fixedMembers_BLOB w_SERVICE h0 n0 _ T279.heap _
    rw [e279]
    exact ⟨rfl, N0, rfl⟩
theorem ef_rm_namesItsMembers_21 (m : MethodId) (w_OPERATION : Addr) : entryFrame m #[(.ref w_OPERATION)] 1 = mkF m 0 #[.val (.ref w_OPERATION)] [] := by first | (simp [entryFrame, mkF, argsToLocals, Value.category]; done) | rfl
def Q_rm_namesItsMembers_21 (Z : State) (r_fixedMembers_BLOB : Addr) (w_OPERATION : Addr) (h0 : Heap) (n0 : Nat) (v : Option Value) (h : Heap) (L : List Loc) : Prop := v = some (.int (0 : Int32)) ∧ Fr n0 L ∧ h = h0
set_option maxRecDepth 65536 in
set_option maxHeartbeats 40000000 in
theorem rm_namesItsMembers_21 (l : Launch) (Z : State) (a0 : Array Value) (hw : ∀ d ∈ tables_1, d.before a0 Z = true) (ws : List Jvm.Cond) (r_fixedMembers_BLOB : Addr) (w_OPERATION : Addr) (h0 : Heap) (n0 : Nat) (O0 : Old Z n0 h0)  (F_fixedMembers_OPERATION : Fld Z Z.heap w_OPERATION "com/example/shapewright/shapewright/model/ShapeType" "fixedMembers" "Ljava/util/List;" (.ref r_fixedMembers_BLOB)) :
    MetFree l (⟨"com/example/shapewright/shapewright/model/ShapeType", "namesItsMembers", "()Z"⟩ : MethodName) (head1 (Jvm.Cond.code (⟨"com/example/shapewright/shapewright/model/ShapeType", "namesItsMembers", "()Z"⟩ : MethodName) prog_45_method_7_code 1 (some .boolean) :: ws) ({ frames := 0, cells := 0, slots := 0, locals := 0 } : Room)) (fun a U => a = #[(.ref w_OPERATION)] ∧ Z.Warmed39 U.vm ∧ U.heap = h0) (fun _ _ _ _ _ => True) (fun _ U o U' => ∃ v L, o = .returned v ∧ Q_rm_namesItsMembers_21 Z r_fixedMembers_BLOB w_OPERATION h0 n0 v U'.heap L ∧ FrameEnd U o U' L ({ frames := 0, cells := 0, slots := 0, locals := 0 } : Room).cells ({ frames := 0, cells := 0, slots := 0, locals := 0 } : Room).slots) := by
  refine MetFree.of_bodySF (plainFor_of_name pn_com_example_shapewright_shapewright_model_ShapeType) hisR ?_
  intro p e s m args below meth c s₁ Bd hml0 hP hK
  obtain ⟨rfl, hZ, hh⟩ := hP
  have hx := Bd.exec
  have hby := Bd.bytes
  have hml : c.maxLocals = 1 := hml0
  have hown : s.vm.findClass "com/example/shapewright/shapewright/model/ShapeType" = some m.cls := findClass_of_methodNamed Bd.named
  have hnm := (name_of_methodNamed Bd.named Bd.method).1
  have X0 : Stand p l e ({ frames := 0, cells := 0, slots := 0, locals := 0 } : Room) s m #[(.ref w_OPERATION)] below meth c s₁ [] 0 0 := Stand.of_body Bd
  have e0 : s₁.heap = h0 := by rw [← hh, Bd.state]; rfl
  have N0 := Fr.nil n0
  have pre0 : ∀ t, Steps p.tables e below (s₁.setTop (mkF m 0 #[.val (.ref w_OPERATION)] [])) t → Steps p.tables e below (s₁.setTop (entryFrame m #[(.ref w_OPERATION)] 1)) t := fun t k => castTop (ef_rm_namesItsMembers_21 m w_OPERATION) k
  have K0 := Keep.refl h0 []
  obtain ⟨T290, X290, e290, st290⟩ := getF X0 hx hZ hown (host := "") (Or.inl (hw _ (List.mem_of_getElem? (i := 54) rfl))) Via.refl e0 (F_fixedMembers_OPERATION.ext O0.2) (g := (mkF m 1 #[.val (.ref w_OPERATION)] [(.ref w_OPERATION)])) rfl rfl (hb hby d_prog_45_method_7_code_1)
  have pre291 : ∀ t, Steps p.tables e below (T290.setTop (mkF m 12 #[.val (.ref w_OPERATION)] [(.int (0 : Int32))])) t → Steps p.tables e below (s₁.setTop (entryFrame m #[(.ref w_OPERATION)] 1)) t := by
    intro t kt
    refine pre0 t ?_
    show Steps p.tables e below (s₁.setTop (mkF m 0 #[.val (.ref w_OPERATION)] [])) _
    refine XS.aloadN X0.here hx rfl (hb hby d_prog_45_method_7_code_0) rfl rfl ?_
    show Steps p.tables e below (s₁.setTop (mkF m 1 #[.val (.ref w_OPERATION)] [(.ref w_OPERATION)])) _
    refine st290 _ ?_
    show Steps p.tables e below (T290.setTop (mkF m 4 #[.val (.ref w_OPERATION)] [(.ref r_fixedMembers_BLOB)])) _
    refine XS.ifnonnullYes X290.here hx rfl (pc0 := 4) (pc' := 11) rfl (hb hby d_prog_45_method_7_code_4) rfl (by decide) (by decide) ?_
    show Steps p.tables e below (T290.setTop (mkF m 11 #[.val (.ref w_OPERATION)] [])) _
    refine XS.iconst X290.here hx rfl (hb hby d_prog_45_method_7_code_11) ?_
    exact kt
  obtain ⟨fs, hr, hrun, hended, hW, hsame⟩ := X290.leave (v := some (.int (0 : Int32))) (fun h => by rw [Bd.returns] at h; cases h)
  refine ⟨_, _, pre291 _ ?_, hrun, hended, _, _, rfl, ?_, ⟨_, rfl⟩, hW, hsame.mono (by decide) (by decide)⟩
  · show Steps p.tables e below (T290.setTop (mkF m 12 #[.val (.ref w_OPERATION)] [(.int (0 : Int32))])) _
    exact retN X290 hx (t := .boolean) Bd.returns (by simp) (hb hby d_prog_45_method_7_code_12) hr
  · show Q_rm_namesItsMembers_21 Z r_fixedMembers_BLOB w_OPERATION h0 n0 _ T290.heap _
    rw [e290]
    exact ⟨rfl, N0, rfl⟩
theorem ef_rm_namesItsMembers_22 (m : MethodId) (w_RESOURCE : Addr) : entryFrame m #[(.ref w_RESOURCE)] 1 = mkF m 0 #[.val (.ref w_RESOURCE)] [] := by first | (simp [entryFrame, mkF, argsToLocals, Value.category]; done) | rfl
def Q_rm_namesItsMembers_22 (Z : State) (r_fixedMembers_BLOB : Addr) (w_RESOURCE : Addr) (h0 : Heap) (n0 : Nat) (v : Option Value) (h : Heap) (L : List Loc) : Prop := v = some (.int (0 : Int32)) ∧ Fr n0 L ∧ h = h0
set_option maxRecDepth 65536 in
set_option maxHeartbeats 40000000 in
theorem rm_namesItsMembers_22 (l : Launch) (Z : State) (a0 : Array Value) (hw : ∀ d ∈ tables_1, d.before a0 Z = true) (ws : List Jvm.Cond) (r_fixedMembers_BLOB : Addr) (w_RESOURCE : Addr) (h0 : Heap) (n0 : Nat) (O0 : Old Z n0 h0)  (F_fixedMembers_RESOURCE : Fld Z Z.heap w_RESOURCE "com/example/shapewright/shapewright/model/ShapeType" "fixedMembers" "Ljava/util/List;" (.ref r_fixedMembers_BLOB)) :
    MetFree l (⟨"com/example/shapewright/shapewright/model/ShapeType", "namesItsMembers", "()Z"⟩ : MethodName) (head1 (Jvm.Cond.code (⟨"com/example/shapewright/shapewright/model/ShapeType", "namesItsMembers", "()Z"⟩ : MethodName) prog_45_method_7_code 1 (some .boolean) :: ws) ({ frames := 0, cells := 0, slots := 0, locals := 0 } : Room)) (fun a U => a = #[(.ref w_RESOURCE)] ∧ Z.Warmed39 U.vm ∧ U.heap = h0) (fun _ _ _ _ _ => True) (fun _ U o U' => ∃ v L, o = .returned v ∧ Q_rm_namesItsMembers_22 Z r_fixedMembers_BLOB w_RESOURCE h0 n0 v U'.heap L ∧ FrameEnd U o U' L ({ frames := 0, cells := 0, slots := 0, locals := 0 } : Room).cells ({ frames := 0, cells := 0, slots := 0, locals := 0 } : Room).slots) := by
  refine MetFree.of_bodySF (plainFor_of_name pn_com_example_shapewright_shapewright_model_ShapeType) hisR ?_
  intro p e s m args below meth c s₁ Bd hml0 hP hK
  obtain ⟨rfl, hZ, hh⟩ := hP
  have hx := Bd.exec
  have hby := Bd.bytes
  have hml : c.maxLocals = 1 := hml0
  have hown : s.vm.findClass "com/example/shapewright/shapewright/model/ShapeType" = some m.cls := findClass_of_methodNamed Bd.named
  have hnm := (name_of_methodNamed Bd.named Bd.method).1
  have X0 : Stand p l e ({ frames := 0, cells := 0, slots := 0, locals := 0 } : Room) s m #[(.ref w_RESOURCE)] below meth c s₁ [] 0 0 := Stand.of_body Bd
  have e0 : s₁.heap = h0 := by rw [← hh, Bd.state]; rfl
  have N0 := Fr.nil n0
  have pre0 : ∀ t, Steps p.tables e below (s₁.setTop (mkF m 0 #[.val (.ref w_RESOURCE)] [])) t → Steps p.tables e below (s₁.setTop (entryFrame m #[(.ref w_RESOURCE)] 1)) t := fun t k => castTop (ef_rm_namesItsMembers_22 m w_RESOURCE) k
  have K0 := Keep.refl h0 []
  obtain ⟨T301, X301, e301, st301⟩ := getF X0 hx hZ hown (host := "") (Or.inl (hw _ (List.mem_of_getElem? (i := 54) rfl))) Via.refl e0 (F_fixedMembers_RESOURCE.ext O0.2) (g := (mkF m 1 #[.val (.ref w_RESOURCE)] [(.ref w_RESOURCE)])) rfl rfl (hb hby d_prog_45_method_7_code_1)
  have pre302 : ∀ t, Steps p.tables e below (T301.setTop (mkF m 12 #[.val (.ref w_RESOURCE)] [(.int (0 : Int32))])) t → Steps p.tables e below (s₁.setTop (entryFrame m #[(.ref w_RESOURCE)] 1)) t := by
    intro t kt
    refine pre0 t ?_
    show Steps p.tables e below (s₁.setTop (mkF m 0 #[.val (.ref w_RESOURCE)] [])) _
    refine XS.aloadN X0.here hx rfl (hb hby d_prog_45_method_7_code_0) rfl rfl ?_
    show Steps p.tables e below (s₁.setTop (mkF m 1 #[.val (.ref w_RESOURCE)] [(.ref w_RESOURCE)])) _
    refine st301 _ ?_
    show Steps p.tables e below (T301.setTop (mkF m 4 #[.val (.ref w_RESOURCE)] [(.ref r_fixedMembers_BLOB)])) _
    refine XS.ifnonnullYes X301.here hx rfl (pc0 := 4) (pc' := 11) rfl (hb hby d_prog_45_method_7_code_4) rfl (by decide) (by decide) ?_
    show Steps p.tables e below (T301.setTop (mkF m 11 #[.val (.ref w_RESOURCE)] [])) _
    refine XS.iconst X301.here hx rfl (hb hby d_prog_45_method_7_code_11) ?_
    exact kt
  obtain ⟨fs, hr, hrun, hended, hW, hsame⟩ := X301.leave (v := some (.int (0 : Int32))) (fun h => by rw [Bd.returns] at h; cases h)
  refine ⟨_, _, pre302 _ ?_, hrun, hended, _, _, rfl, ?_, ⟨_, rfl⟩, hW, hsame.mono (by decide) (by decide)⟩
  · show Steps p.tables e below (T301.setTop (mkF m 12 #[.val (.ref w_RESOURCE)] [(.int (0 : Int32))])) _
    exact retN X301 hx (t := .boolean) Bd.returns (by simp) (hb hby d_prog_45_method_7_code_12) hr
  · show Q_rm_namesItsMembers_22 Z r_fixedMembers_BLOB w_RESOURCE h0 n0 _ T301.heap _
    rw [e301]
    exact ⟨rfl, N0, rfl⟩
theorem pd___Z : parseMethodDescriptor "()Z" = some ⟨[], some .boolean⟩ := by decide +kernel
theorem pn_com_example_shapewright_shapewright_model_ShapeTypeNamesItsMembersPinLaw : plainName "com/example/shapewright/shapewright/model/ShapeTypeNamesItsMembersPinLaw" = true := by first | (simp [plainName, overriddenIn]; done) | decide +kernel
theorem ef_rm0 (m : MethodId) (p0 : Int32) : entryFrame m #[(.int p0)] maxLocals = mkF m 0 #[.val (.int p0), .unset, .unset, .unset, .unset] [] := by first | (simp [entryFrame, mkF, argsToLocals, Value.category, maxLocals]; done) | rfl
def Q_rm0 (Z : State) (p0 : Int32) (w_BLOB : Addr) (w_BOOLEAN : Addr) (w_DOCUMENT : Addr) (w_STRING : Addr) (w_BYTE : Addr) (w_SHORT : Addr) (w_INTEGER : Addr) (w_LONG : Addr) (w_FLOAT : Addr) (w_DOUBLE : Addr) (w_BIG_INTEGER : Addr) (w_BIG_DECIMAL : Addr) (w_TIMESTAMP : Addr) (w_ENUM : Addr) (w_INT_ENUM : Addr) (w_LIST : Addr) (w_MAP : Addr) (w_STRUCTURE : Addr) (w_UNION : Addr) (w_SERVICE : Addr) (w_OPERATION : Addr) (w_RESOURCE : Addr) (r_fixedMembers_BLOB : Addr) (r_fixedMembers_LIST : Addr) (r_fixedMembers_MAP : Addr) (h0 : Heap) (n0 : Nat) (v : Option Value) (h : Heap) (L : List Loc) : Prop := v = some (.int 1) ∧ Fr n0 L
set_option maxRecDepth 65536 in
set_option maxHeartbeats 40000000 in
theorem rm0 (l : Launch) (Z : State) (a0 : Array Value) (hw : ∀ d ∈ tables_1, d.before a0 Z = true) (ws : List Jvm.Cond) (p0 : Int32) (w_BLOB : Addr) (w_BOOLEAN : Addr) (w_DOCUMENT : Addr) (w_STRING : Addr) (w_BYTE : Addr) (w_SHORT : Addr) (w_INTEGER : Addr) (w_LONG : Addr) (w_FLOAT : Addr) (w_DOUBLE : Addr) (w_BIG_INTEGER : Addr) (w_BIG_DECIMAL : Addr) (w_TIMESTAMP : Addr) (w_ENUM : Addr) (w_INT_ENUM : Addr) (w_LIST : Addr) (w_MAP : Addr) (w_STRUCTURE : Addr) (w_UNION : Addr) (w_SERVICE : Addr) (w_OPERATION : Addr) (w_RESOURCE : Addr) (r_fixedMembers_BLOB : Addr) (r_fixedMembers_LIST : Addr) (r_fixedMembers_MAP : Addr) (h0 : Heap) (n0 : Nat) (O0 : Old Z n0 h0) (S_BLOB : Sta Z Z.heap "com/example/shapewright/shapewright/model/ShapeType" "BLOB" "Lcom/example/shapewright/shapewright/model/ShapeType;" (.ref w_BLOB)) (E_BLOB : Exa Z Z.heap w_BLOB "com/example/shapewright/shapewright/model/ShapeType") (S_BOOLEAN : Sta Z Z.heap "com/example/shapewright/shapewright/model/ShapeType" "BOOLEAN" "Lcom/example/shapewright/shapewright/model/ShapeType;" (.ref w_BOOLEAN)) (E_BOOLEAN : Exa Z Z.heap w_BOOLEAN "com/example/shapewright/shapewright/model/ShapeType") (S_DOCUMENT : Sta Z Z.heap "com/example/shapewright/shapewright/model/ShapeType" "DOCUMENT" "Lcom/example/shapewright/shapewright/model/ShapeType;" (.ref w_DOCUMENT)) (E_DOCUMENT : Exa Z Z.heap w_DOCUMENT "com/example/shapewright/shapewright/model/ShapeType") (S_STRING : Sta Z Z.heap "com/example/shapewright/shapewright/model/ShapeType" "STRING" "Lcom/example/shapewright/shapewright/model/ShapeType;" (.ref w_STRING)) (E_STRING : Exa Z Z.heap w_STRING "com/example/shapewright/shapewright/model/ShapeType") (S_BYTE : Sta Z Z.heap "com/example/shapewright/shapewright/model/ShapeType" "BYTE" "Lcom/example/shapewright/shapewright/model/ShapeType;" (.ref w_BYTE)) (E_BYTE : Exa Z Z.heap w_BYTE "com/example/shapewright/shapewright/model/ShapeType") (S_SHORT : Sta Z Z.heap "com/example/shapewright/shapewright/model/ShapeType" "SHORT" "Lcom/example/shapewright/shapewright/model/ShapeType;" (.ref w_SHORT)) (E_SHORT : Exa Z Z.heap w_SHORT "com/example/shapewright/shapewright/model/ShapeType") (S_INTEGER : Sta Z Z.heap "com/example/shapewright/shapewright/model/ShapeType" "INTEGER" "Lcom/example/shapewright/shapewright/model/ShapeType;" (.ref w_INTEGER)) (E_INTEGER : Exa Z Z.heap w_INTEGER "com/example/shapewright/shapewright/model/ShapeType") (S_LONG : Sta Z Z.heap "com/example/shapewright/shapewright/model/ShapeType" "LONG" "Lcom/example/shapewright/shapewright/model/ShapeType;" (.ref w_LONG)) (E_LONG : Exa Z Z.heap w_LONG "com/example/shapewright/shapewright/model/ShapeType") (S_FLOAT : Sta Z Z.heap "com/example/shapewright/shapewright/model/ShapeType" "FLOAT" "Lcom/example/shapewright/shapewright/model/ShapeType;" (.ref w_FLOAT)) (E_FLOAT : Exa Z Z.heap w_FLOAT "com/example/shapewright/shapewright/model/ShapeType") (S_DOUBLE : Sta Z Z.heap "com/example/shapewright/shapewright/model/ShapeType" "DOUBLE" "Lcom/example/shapewright/shapewright/model/ShapeType;" (.ref w_DOUBLE)) (E_DOUBLE : Exa Z Z.heap w_DOUBLE "com/example/shapewright/shapewright/model/ShapeType") (S_BIG_INTEGER : Sta Z Z.heap "com/example/shapewright/shapewright/model/ShapeType" "BIG_INTEGER" "Lcom/example/shapewright/shapewright/model/ShapeType;" (.ref w_BIG_INTEGER)) (E_BIG_INTEGER : Exa Z Z.heap w_BIG_INTEGER "com/example/shapewright/shapewright/model/ShapeType") (S_BIG_DECIMAL : Sta Z Z.heap "com/example/shapewright/shapewright/model/ShapeType" "BIG_DECIMAL" "Lcom/example/shapewright/shapewright/model/ShapeType;" (.ref w_BIG_DECIMAL)) (E_BIG_DECIMAL : Exa Z Z.heap w_BIG_DECIMAL "com/example/shapewright/shapewright/model/ShapeType") (S_TIMESTAMP : Sta Z Z.heap "com/example/shapewright/shapewright/model/ShapeType" "TIMESTAMP" "Lcom/example/shapewright/shapewright/model/ShapeType;" (.ref w_TIMESTAMP)) (E_TIMESTAMP : Exa Z Z.heap w_TIMESTAMP "com/example/shapewright/shapewright/model/ShapeType") (S_ENUM : Sta Z Z.heap "com/example/shapewright/shapewright/model/ShapeType" "ENUM" "Lcom/example/shapewright/shapewright/model/ShapeType;" (.ref w_ENUM)) (E_ENUM : Exa Z Z.heap w_ENUM "com/example/shapewright/shapewright/model/ShapeType") (S_INT_ENUM : Sta Z Z.heap "com/example/shapewright/shapewright/model/ShapeType" "INT_ENUM" "Lcom/example/shapewright/shapewright/model/ShapeType;" (.ref w_INT_ENUM)) (E_INT_ENUM : Exa Z Z.heap w_INT_ENUM "com/example/shapewright/shapewright/model/ShapeType") (S_LIST : Sta Z Z.heap "com/example/shapewright/shapewright/model/ShapeType" "LIST" "Lcom/example/shapewright/shapewright/model/ShapeType;" (.ref w_LIST)) (E_LIST : Exa Z Z.heap w_LIST "com/example/shapewright/shapewright/model/ShapeType") (S_MAP : Sta Z Z.heap "com/example/shapewright/shapewright/model/ShapeType" "MAP" "Lcom/example/shapewright/shapewright/model/ShapeType;" (.ref w_MAP)) (E_MAP : Exa Z Z.heap w_MAP "com/example/shapewright/shapewright/model/ShapeType") (S_STRUCTURE : Sta Z Z.heap "com/example/shapewright/shapewright/model/ShapeType" "STRUCTURE" "Lcom/example/shapewright/shapewright/model/ShapeType;" (.ref w_STRUCTURE)) (E_STRUCTURE : Exa Z Z.heap w_STRUCTURE "com/example/shapewright/shapewright/model/ShapeType") (S_UNION : Sta Z Z.heap "com/example/shapewright/shapewright/model/ShapeType" "UNION" "Lcom/example/shapewright/shapewright/model/ShapeType;" (.ref w_UNION)) (E_UNION : Exa Z Z.heap w_UNION "com/example/shapewright/shapewright/model/ShapeType") (S_SERVICE : Sta Z Z.heap "com/example/shapewright/shapewright/model/ShapeType" "SERVICE" "Lcom/example/shapewright/shapewright/model/ShapeType;" (.ref w_SERVICE)) (E_SERVICE : Exa Z Z.heap w_SERVICE "com/example/shapewright/shapewright/model/ShapeType") (S_OPERATION : Sta Z Z.heap "com/example/shapewright/shapewright/model/ShapeType" "OPERATION" "Lcom/example/shapewright/shapewright/model/ShapeType;" (.ref w_OPERATION)) (E_OPERATION : Exa Z Z.heap w_OPERATION "com/example/shapewright/shapewright/model/ShapeType") (S_RESOURCE : Sta Z Z.heap "com/example/shapewright/shapewright/model/ShapeType" "RESOURCE" "Lcom/example/shapewright/shapewright/model/ShapeType;" (.ref w_RESOURCE)) (E_RESOURCE : Exa Z Z.heap w_RESOURCE "com/example/shapewright/shapewright/model/ShapeType") (F_ordinal_BLOB : Fld Z Z.heap w_BLOB "java/lang/Enum" "ordinal" "I" (.int (0 : Int32))) (F_ordinal_STRUCTURE : Fld Z Z.heap w_STRUCTURE "java/lang/Enum" "ordinal" "I" (.int (17 : Int32))) (F_ordinal_UNION : Fld Z Z.heap w_UNION "java/lang/Enum" "ordinal" "I" (.int (18 : Int32))) (F_ordinal_ENUM : Fld Z Z.heap w_ENUM "java/lang/Enum" "ordinal" "I" (.int (13 : Int32))) (F_ordinal_INT_ENUM : Fld Z Z.heap w_INT_ENUM "java/lang/Enum" "ordinal" "I" (.int (14 : Int32))) (F_fixedMembers_BLOB : Fld Z Z.heap w_BLOB "com/example/shapewright/shapewright/model/ShapeType" "fixedMembers" "Ljava/util/List;" (.ref r_fixedMembers_BLOB)) (F_ordinal_BOOLEAN : Fld Z Z.heap w_BOOLEAN "java/lang/Enum" "ordinal" "I" (.int (1 : Int32))) (F_fixedMembers_BOOLEAN : Fld Z Z.heap w_BOOLEAN "com/example/shapewright/shapewright/model/ShapeType" "fixedMembers" "Ljava/util/List;" (.ref r_fixedMembers_BLOB)) (F_ordinal_DOCUMENT : Fld Z Z.heap w_DOCUMENT "java/lang/Enum" "ordinal" "I" (.int (2 : Int32))) (F_fixedMembers_DOCUMENT : Fld Z Z.heap w_DOCUMENT "com/example/shapewright/shapewright/model/ShapeType" "fixedMembers" "Ljava/util/List;" (.ref r_fixedMembers_BLOB)) (F_ordinal_STRING : Fld Z Z.heap w_STRING "java/lang/Enum" "ordinal" "I" (.int (3 : Int32))) (F_fixedMembers_STRING : Fld Z Z.heap w_STRING "com/example/shapewright/shapewright/model/ShapeType" "fixedMembers" "Ljava/util/List;" (.ref r_fixedMembers_BLOB)) (F_ordinal_BYTE : Fld Z Z.heap w_BYTE "java/lang/Enum" "ordinal" "I" (.int (4 : Int32))) (F_fixedMembers_BYTE : Fld Z Z.heap w_BYTE "com/example/shapewright/shapewright/model/ShapeType" "fixedMembers" "Ljava/util/List;" (.ref r_fixedMembers_BLOB)) (F_ordinal_SHORT : Fld Z Z.heap w_SHORT "java/lang/Enum" "ordinal" "I" (.int (5 : Int32))) (F_fixedMembers_SHORT : Fld Z Z.heap w_SHORT "com/example/shapewright/shapewright/model/ShapeType" "fixedMembers" "Ljava/util/List;" (.ref r_fixedMembers_BLOB)) (F_ordinal_INTEGER : Fld Z Z.heap w_INTEGER "java/lang/Enum" "ordinal" "I" (.int (6 : Int32))) (F_fixedMembers_INTEGER : Fld Z Z.heap w_INTEGER "com/example/shapewright/shapewright/model/ShapeType" "fixedMembers" "Ljava/util/List;" (.ref r_fixedMembers_BLOB)) (F_ordinal_LONG : Fld Z Z.heap w_LONG "java/lang/Enum" "ordinal" "I" (.int (7 : Int32))) (F_fixedMembers_LONG : Fld Z Z.heap w_LONG "com/example/shapewright/shapewright/model/ShapeType" "fixedMembers" "Ljava/util/List;" (.ref r_fixedMembers_BLOB)) (F_ordinal_FLOAT : Fld Z Z.heap w_FLOAT "java/lang/Enum" "ordinal" "I" (.int (8 : Int32))) (F_fixedMembers_FLOAT : Fld Z Z.heap w_FLOAT "com/example/shapewright/shapewright/model/ShapeType" "fixedMembers" "Ljava/util/List;" (.ref r_fixedMembers_BLOB)) (F_ordinal_DOUBLE : Fld Z Z.heap w_DOUBLE "java/lang/Enum" "ordinal" "I" (.int (9 : Int32))) (F_fixedMembers_DOUBLE : Fld Z Z.heap w_DOUBLE "com/example/shapewright/shapewright/model/ShapeType" "fixedMembers" "Ljava/util/List;" (.ref r_fixedMembers_BLOB)) (F_ordinal_BIG_INTEGER : Fld Z Z.heap w_BIG_INTEGER "java/lang/Enum" "ordinal" "I" (.int (10 : Int32))) (F_fixedMembers_BIG_INTEGER : Fld Z Z.heap w_BIG_INTEGER "com/example/shapewright/shapewright/model/ShapeType" "fixedMembers" "Ljava/util/List;" (.ref r_fixedMembers_BLOB)) (F_ordinal_BIG_DECIMAL : Fld Z Z.heap w_BIG_DECIMAL "java/lang/Enum" "ordinal" "I" (.int (11 : Int32))) (F_fixedMembers_BIG_DECIMAL : Fld Z Z.heap w_BIG_DECIMAL "com/example/shapewright/shapewright/model/ShapeType" "fixedMembers" "Ljava/util/List;" (.ref r_fixedMembers_BLOB)) (F_ordinal_TIMESTAMP : Fld Z Z.heap w_TIMESTAMP "java/lang/Enum" "ordinal" "I" (.int (12 : Int32))) (F_fixedMembers_TIMESTAMP : Fld Z Z.heap w_TIMESTAMP "com/example/shapewright/shapewright/model/ShapeType" "fixedMembers" "Ljava/util/List;" (.ref r_fixedMembers_BLOB)) (F_fixedMembers_ENUM : Fld Z Z.heap w_ENUM "com/example/shapewright/shapewright/model/ShapeType" "fixedMembers" "Ljava/util/List;" .null) (F_fixedMembers_INT_ENUM : Fld Z Z.heap w_INT_ENUM "com/example/shapewright/shapewright/model/ShapeType" "fixedMembers" "Ljava/util/List;" .null) (F_ordinal_LIST : Fld Z Z.heap w_LIST "java/lang/Enum" "ordinal" "I" (.int (15 : Int32))) (F_fixedMembers_LIST : Fld Z Z.heap w_LIST "com/example/shapewright/shapewright/model/ShapeType" "fixedMembers" "Ljava/util/List;" (.ref r_fixedMembers_LIST)) (F_ordinal_MAP : Fld Z Z.heap w_MAP "java/lang/Enum" "ordinal" "I" (.int (16 : Int32))) (F_fixedMembers_MAP : Fld Z Z.heap w_MAP "com/example/shapewright/shapewright/model/ShapeType" "fixedMembers" "Ljava/util/List;" (.ref r_fixedMembers_MAP)) (F_fixedMembers_STRUCTURE : Fld Z Z.heap w_STRUCTURE "com/example/shapewright/shapewright/model/ShapeType" "fixedMembers" "Ljava/util/List;" .null) (F_fixedMembers_UNION : Fld Z Z.heap w_UNION "com/example/shapewright/shapewright/model/ShapeType" "fixedMembers" "Ljava/util/List;" .null) (F_ordinal_SERVICE : Fld Z Z.heap w_SERVICE "java/lang/Enum" "ordinal" "I" (.int (19 : Int32))) (F_fixedMembers_SERVICE : Fld Z Z.heap w_SERVICE "com/example/shapewright/shapewright/model/ShapeType" "fixedMembers" "Ljava/util/List;" (.ref r_fixedMembers_BLOB)) (F_ordinal_OPERATION : Fld Z Z.heap w_OPERATION "java/lang/Enum" "ordinal" "I" (.int (20 : Int32))) (F_fixedMembers_OPERATION : Fld Z Z.heap w_OPERATION "com/example/shapewright/shapewright/model/ShapeType" "fixedMembers" "Ljava/util/List;" (.ref r_fixedMembers_BLOB)) (F_ordinal_RESOURCE : Fld Z Z.heap w_RESOURCE "java/lang/Enum" "ordinal" "I" (.int (21 : Int32))) (F_fixedMembers_RESOURCE : Fld Z Z.heap w_RESOURCE "com/example/shapewright/shapewright/model/ShapeType" "fixedMembers" "Ljava/util/List;" (.ref r_fixedMembers_BLOB)) :
    MetFree l x (head1 (Jvm.Cond.code x code maxLocals ret :: ws) room_1) (fun a U => a = #[(.int p0)] ∧ Z.Warmed39 U.vm ∧ U.heap = h0) (fun _ _ _ _ _ => True) (fun _ U o U' => ∃ v L, o = .returned v ∧ Q_rm0 Z p0 w_BLOB w_BOOLEAN w_DOCUMENT w_STRING w_BYTE w_SHORT w_INTEGER w_LONG w_FLOAT w_DOUBLE w_BIG_INTEGER w_BIG_DECIMAL w_TIMESTAMP w_ENUM w_INT_ENUM w_LIST w_MAP w_STRUCTURE w_UNION w_SERVICE w_OPERATION w_RESOURCE r_fixedMembers_BLOB r_fixedMembers_LIST r_fixedMembers_MAP h0 n0 v U'.heap L ∧ FrameEnd U o U' L room_1.cells room_1.slots) := by
  refine MetFree.of_bodySF (plainFor_of_name pn_com_example_shapewright_shapewright_model_ShapeTypeNamesItsMembersPinLaw) hisR ?_
  intro p e s m args below meth c s₁ Bd hml0 hP hK
  obtain ⟨rfl, hZ, hh⟩ := hP
  have hx := Bd.exec
  have hby := Bd.bytes
  have hml : c.maxLocals = 5 := hml0
  have hown : s.vm.findClass "com/example/shapewright/shapewright/model/ShapeTypeNamesItsMembersPinLaw" = some m.cls := findClass_of_methodNamed Bd.named
  have hnm := (name_of_methodNamed Bd.named Bd.method).1
  have X0 : Stand p l e room_1 s m #[(.int p0)] below meth c s₁ [] 0 0 := Stand.of_body Bd
  have e0 : s₁.heap = h0 := by rw [← hh, Bd.state]; rfl
  have N0 := Fr.nil n0
  have pre0 : ∀ t, Steps p.tables e below (s₁.setTop (mkF m 0 #[.val (.int p0), .unset, .unset, .unset, .unset] [])) t → Steps p.tables e below (s₁.setTop (entryFrame m #[(.int p0)] maxLocals)) t := fun t k => castTop (ef_rm0 m p0) k
  obtain ⟨T1, h1, k1, X1, e1, E1, A1, Ov1, st1⟩ := newR X0 hx hZ hown (hw _ (List.mem_of_getElem? (i := 0) rfl)) (hw _ (List.mem_of_getElem? (i := 1) rfl)) e0 (g := (mkF m 2 #[.val (.int p0), .unset, .unset, .unset, .unset] [(.int (22 : Int32))])) rfl (hb hby at_2) rfl (by decide) (cap := 22) (by decide) (by decide) (by decide) (by decide)
  obtain ⟨b1, g1⟩ : ∃ z, z = h0.size := ⟨_, rfl⟩
  have ge_b1 : n0 ≤ b1 := Nat.le_trans (own_z O0) (Nat.le_of_eq g1.symm)
  rw [← g1] at A1 st1
  have O1 := O0.ext E1
  have V_b1 : Arv Z h1 b1 k1 (.object "com/example/shapewright/shapewright/model/ShapeType") (22 : Int32) [.null, .null, .null, .null, .null, .null, .null, .null, .null, .null, .null, .null, .null, .null, .null, .null, .null, .null, .null, .null, .null, .null] .null := (Arv.new A1 (by decide)).pad (pad_rep [] .null 22)
  obtain ⟨T2, X2, e2, st2⟩ := getS2 X1 hx hZ hown (host := "") (Or.inl (hw _ (List.mem_of_getElem? (i := 2) rfl))) Via.refl e1 (S_BLOB.ext O1.2) (g := (mkF m 7 #[.val (.int p0), .unset, .unset, .unset, .unset] [(.int (0 : Int32)), (.ref b1), (.ref b1)])) rfl (hb hby at_7)
  have vt3 := V_b1
  obtain ⟨cl3, Ar3, q3, S3, Ng3, Ha3, G3⟩ := vt3
  have hin3 : ¬ ((0 : Int32) < 0 ∨ cl3.slots.size ≤ ((0 : Int32)).toNatClampNeg) := inb_of S3 ⟨by decide, by decide⟩
  obtain ⟨T4, h4, X4, e4, W4, st4⟩ := stR X2 hx hZ e2 Ar3 (j := (0 : Int32)) hin3 rfl (Sto.ofV Ar3 q3 Ov1 (Ins.self (E_BLOB.ext O1.2))) (g := (mkF m 10 #[.val (.int p0), .unset, .unset, .unset, .unset] [(.ref w_BLOB), (.int (0 : Int32)), (.ref b1), (.ref b1)])) rfl rfl (hb hby at_10)
  have V_b1 : Arv Z h4 b1 k1 (.object "com/example/shapewright/shapewright/model/ShapeType") (22 : Int32) [(.ref w_BLOB), .null, .null, .null, .null, .null, .null, .null, .null, .null, .null, .null, .null, .null, .null, .null, .null, .null, .null, .null, .null, .null] .null := Arv.set Ar3 q3 S3 Ng3 Ha3 G3 rfl W4 0 rfl (Nat.le_of_ble_eq_true rfl)
  have O4 := O1.wr W4 ge_b1
  have N4 := Fr.snoc X4 N0 ge_b1
  obtain ⟨T5, X5, e5, st5⟩ := getS2 X4 hx hZ hown (host := "") (Or.inl (hw _ (List.mem_of_getElem? (i := 6) rfl))) Via.refl e4 (S_BOOLEAN.ext O4.2) (g := (mkF m 13 #[.val (.int p0), .unset, .unset, .unset, .unset] [(.int (1 : Int32)), (.ref b1), (.ref b1)])) rfl (hb hby at_13)
  have vt6 := V_b1
  obtain ⟨cl6, Ar6, q6, S6, Ng6, Ha6, G6⟩ := vt6
  have hin6 : ¬ ((1 : Int32) < 0 ∨ cl6.slots.size ≤ ((1 : Int32)).toNatClampNeg) := inb_of S6 ⟨by decide, by decide⟩
  obtain ⟨T7, h7, X7, e7, W7, st7⟩ := stR X5 hx hZ e5 Ar6 (j := (1 : Int32)) hin6 rfl (Sto.ofV Ar6 q6 Ov1 (Ins.self (E_BOOLEAN.ext O4.2))) (g := (mkF m 16 #[.val (.int p0), .unset, .unset, .unset, .unset] [(.ref w_BOOLEAN), (.int (1 : Int32)), (.ref b1), (.ref b1)])) rfl rfl (hb hby at_16)
  have V_b1 : Arv Z h7 b1 k1 (.object "com/example/shapewright/shapewright/model/ShapeType") (22 : Int32) [(.ref w_BLOB), (.ref w_BOOLEAN), .null, .null, .null, .null, .null, .null, .null, .null, .null, .null, .null, .null, .null, .null, .null, .null, .null, .null, .null, .null] .null := Arv.set Ar6 q6 S6 Ng6 Ha6 G6 rfl W7 1 rfl (Nat.le_of_ble_eq_true rfl)
  have O7 := O4.wr W7 ge_b1
  have N7 := Fr.snoc X7 N4 ge_b1
  obtain ⟨T8, X8, e8, st8⟩ := getS2 X7 hx hZ hown (host := "") (Or.inl (hw _ (List.mem_of_getElem? (i := 8) rfl))) Via.refl e7 (S_DOCUMENT.ext O7.2) (g := (mkF m 19 #[.val (.int p0), .unset, .unset, .unset, .unset] [(.int (2 : Int32)), (.ref b1), (.ref b1)])) rfl (hb hby at_19)
  have vt9 := V_b1
  obtain ⟨cl9, Ar9, q9, S9, Ng9, Ha9, G9⟩ := vt9
  have hin9 : ¬ ((2 : Int32) < 0 ∨ cl9.slots.size ≤ ((2 : Int32)).toNatClampNeg) := inb_of S9 ⟨by decide, by decide⟩
  obtain ⟨T10, h10, X10, e10, W10, st10⟩ := stR X8 hx hZ e8 Ar9 (j := (2 : Int32)) hin9 rfl (Sto.ofV Ar9 q9 Ov1 (Ins.self (E_DOCUMENT.ext O7.2))) (g := (mkF m 22 #[.val (.int p0), .unset, .unset, .unset, .unset] [(.ref w_DOCUMENT), (.int (2 : Int32)), (.ref b1), (.ref b1)])) rfl rfl (hb hby at_22)
  have V_b1 : Arv Z h10 b1 k1 (.object "com/example/shapewright/shapewright/model/ShapeType") (22 : Int32) [(.ref w_BLOB), (.ref w_BOOLEAN), (.ref w_DOCUMENT), .null, .null, .null, .null, .null, .null, .null, .null, .null, .null, .null, .null, .null, .null, .null, .null, .null, .null, .null] .null := Arv.set Ar9 q9 S9 Ng9 Ha9 G9 rfl W10 2 rfl (Nat.le_of_ble_eq_true rfl)
  have O10 := O7.wr W10 ge_b1
  have N10 := Fr.snoc X10 N7 ge_b1
  obtain ⟨T11, X11, e11, st11⟩ := getS2 X10 hx hZ hown (host := "") (Or.inl (hw _ (List.mem_of_getElem? (i := 10) rfl))) Via.refl e10 (S_STRING.ext O10.2) (g := (mkF m 25 #[.val (.int p0), .unset, .unset, .unset, .unset] [(.int (3 : Int32)), (.ref b1), (.ref b1)])) rfl (hb hby at_25)
  have vt12 := V_b1
  obtain ⟨cl12, Ar12, q12, S12, Ng12, Ha12, G12⟩ := vt12
  have hin12 : ¬ ((3 : Int32) < 0 ∨ cl12.slots.size ≤ ((3 : Int32)).toNatClampNeg) := inb_of S12 ⟨by decide, by decide⟩
  obtain ⟨T13, h13, X13, e13, W13, st13⟩ := stR X11 hx hZ e11 Ar12 (j := (3 : Int32)) hin12 rfl (Sto.ofV Ar12 q12 Ov1 (Ins.self (E_STRING.ext O10.2))) (g := (mkF m 28 #[.val (.int p0), .unset, .unset, .unset, .unset] [(.ref w_STRING), (.int (3 : Int32)), (.ref b1), (.ref b1)])) rfl rfl (hb hby at_28)
  have V_b1 : Arv Z h13 b1 k1 (.object "com/example/shapewright/shapewright/model/ShapeType") (22 : Int32) [(.ref w_BLOB), (.ref w_BOOLEAN), (.ref w_DOCUMENT), (.ref w_STRING), .null, .null, .null, .null, .null, .null, .null, .null, .null, .null, .null, .null, .null, .null, .null, .null, .null, .null] .null := Arv.set Ar12 q12 S12 Ng12 Ha12 G12 rfl W13 3 rfl (Nat.le_of_ble_eq_true rfl)
  have O13 := O10.wr W13 ge_b1
  have N13 := Fr.snoc X13 N10 ge_b1
  obtain ⟨T14, X14, e14, st14⟩ := getS2 X13 hx hZ hown (host := "") (Or.inl (hw _ (List.mem_of_getElem? (i := 12) rfl))) Via.refl e13 (S_BYTE.ext O13.2) (g := (mkF m 31 #[.val (.int p0), .unset, .unset, .unset, .unset] [(.int (4 : Int32)), (.ref b1), (.ref b1)])) rfl (hb hby at_31)
  have vt15 := V_b1
  obtain ⟨cl15, Ar15, q15, S15, Ng15, Ha15, G15⟩ := vt15
  have hin15 : ¬ ((4 : Int32) < 0 ∨ cl15.slots.size ≤ ((4 : Int32)).toNatClampNeg) := inb_of S15 ⟨by decide, by decide⟩
  obtain ⟨T16, h16, X16, e16, W16, st16⟩ := stR X14 hx hZ e14 Ar15 (j := (4 : Int32)) hin15 rfl (Sto.ofV Ar15 q15 Ov1 (Ins.self (E_BYTE.ext O13.2))) (g := (mkF m 34 #[.val (.int p0), .unset, .unset, .unset, .unset] [(.ref w_BYTE), (.int (4 : Int32)), (.ref b1), (.ref b1)])) rfl rfl (hb hby at_34)
  have V_b1 : Arv Z h16 b1 k1 (.object "com/example/shapewright/shapewright/model/ShapeType") (22 : Int32) [(.ref w_BLOB), (.ref w_BOOLEAN), (.ref w_DOCUMENT), (.ref w_STRING), (.ref w_BYTE), .null, .null, .null, .null, .null, .null, .null, .null, .null, .null, .null, .null, .null, .null, .null, .null, .null] .null := Arv.set Ar15 q15 S15 Ng15 Ha15 G15 rfl W16 4 rfl (Nat.le_of_ble_eq_true rfl)
  have O16 := O13.wr W16 ge_b1
  have N16 := Fr.snoc X16 N13 ge_b1
  obtain ⟨T17, X17, e17, st17⟩ := getS2 X16 hx hZ hown (host := "") (Or.inl (hw _ (List.mem_of_getElem? (i := 14) rfl))) Via.refl e16 (S_SHORT.ext O16.2) (g := (mkF m 37 #[.val (.int p0), .unset, .unset, .unset, .unset] [(.int (5 : Int32)), (.ref b1), (.ref b1)])) rfl (hb hby at_37)
  have vt18 := V_b1
  obtain ⟨cl18, Ar18, q18, S18, Ng18, Ha18, G18⟩ := vt18
  have hin18 : ¬ ((5 : Int32) < 0 ∨ cl18.slots.size ≤ ((5 : Int32)).toNatClampNeg) := inb_of S18 ⟨by decide, by decide⟩
  obtain ⟨T19, h19, X19, e19, W19, st19⟩ := stR X17 hx hZ e17 Ar18 (j := (5 : Int32)) hin18 rfl (Sto.ofV Ar18 q18 Ov1 (Ins.self (E_SHORT.ext O16.2))) (g := (mkF m 40 #[.val (.int p0), .unset, .unset, .unset, .unset] [(.ref w_SHORT), (.int (5 : Int32)), (.ref b1), (.ref b1)])) rfl rfl (hb hby at_40)
  have V_b1 : Arv Z h19 b1 k1 (.object "com/example/shapewright/shapewright/model/ShapeType") (22 : Int32) [(.ref w_BLOB), (.ref w_BOOLEAN), (.ref w_DOCUMENT), (.ref w_STRING), (.ref w_BYTE), (.ref w_SHORT), .null, .null, .null, .null, .null, .null, .null, .null, .null, .null, .null, .null, .null, .null, .null, .null] .null := Arv.set Ar18 q18 S18 Ng18 Ha18 G18 rfl W19 5 rfl (Nat.le_of_ble_eq_true rfl)
  have O19 := O16.wr W19 ge_b1
  have N19 := Fr.snoc X19 N16 ge_b1
  obtain ⟨T20, X20, e20, st20⟩ := getS2 X19 hx hZ hown (host := "") (Or.inl (hw _ (List.mem_of_getElem? (i := 16) rfl))) Via.refl e19 (S_INTEGER.ext O19.2) (g := (mkF m 44 #[.val (.int p0), .unset, .unset, .unset, .unset] [(.int (6 : Int32)), (.ref b1), (.ref b1)])) rfl (hb hby at_44)
  have vt21 := V_b1
  obtain ⟨cl21, Ar21, q21, S21, Ng21, Ha21, G21⟩ := vt21
  have hin21 : ¬ ((6 : Int32) < 0 ∨ cl21.slots.size ≤ ((6 : Int32)).toNatClampNeg) := inb_of S21 ⟨by decide, by decide⟩
  obtain ⟨T22, h22, X22, e22, W22, st22⟩ := stR X20 hx hZ e20 Ar21 (j := (6 : Int32)) hin21 rfl (Sto.ofV Ar21 q21 Ov1 (Ins.self (E_INTEGER.ext O19.2))) (g := (mkF m 47 #[.val (.int p0), .unset, .unset, .unset, .unset] [(.ref w_INTEGER), (.int (6 : Int32)), (.ref b1), (.ref b1)])) rfl rfl (hb hby at_47)
  have V_b1 : Arv Z h22 b1 k1 (.object "com/example/shapewright/shapewright/model/ShapeType") (22 : Int32) [(.ref w_BLOB), (.ref w_BOOLEAN), (.ref w_DOCUMENT), (.ref w_STRING), (.ref w_BYTE), (.ref w_SHORT), (.ref w_INTEGER), .null, .null, .null, .null, .null, .null, .null, .null, .null, .null, .null, .null, .null, .null, .null] .null := Arv.set Ar21 q21 S21 Ng21 Ha21 G21 rfl W22 6 rfl (Nat.le_of_ble_eq_true rfl)
  have O22 := O19.wr W22 ge_b1
  have N22 := Fr.snoc X22 N19 ge_b1
  obtain ⟨T23, X23, e23, st23⟩ := getS2 X22 hx hZ hown (host := "") (Or.inl (hw _ (List.mem_of_getElem? (i := 18) rfl))) Via.refl e22 (S_LONG.ext O22.2) (g := (mkF m 51 #[.val (.int p0), .unset, .unset, .unset, .unset] [(.int (7 : Int32)), (.ref b1), (.ref b1)])) rfl (hb hby at_51)
  have vt24 := V_b1
  obtain ⟨cl24, Ar24, q24, S24, Ng24, Ha24, G24⟩ := vt24
  have hin24 : ¬ ((7 : Int32) < 0 ∨ cl24.slots.size ≤ ((7 : Int32)).toNatClampNeg) := inb_of S24 ⟨by decide, by decide⟩
  obtain ⟨T25, h25, X25, e25, W25, st25⟩ := stR X23 hx hZ e23 Ar24 (j := (7 : Int32)) hin24 rfl (Sto.ofV Ar24 q24 Ov1 (Ins.self (E_LONG.ext O22.2))) (g := (mkF m 54 #[.val (.int p0), .unset, .unset, .unset, .unset] [(.ref w_LONG), (.int (7 : Int32)), (.ref b1), (.ref b1)])) rfl rfl (hb hby at_54)
  have V_b1 : Arv Z h25 b1 k1 (.object "com/example/shapewright/shapewright/model/ShapeType") (22 : Int32) [(.ref w_BLOB), (.ref w_BOOLEAN), (.ref w_DOCUMENT), (.ref w_STRING), (.ref w_BYTE), (.ref w_SHORT), (.ref w_INTEGER), (.ref w_LONG), .null, .null, .null, .null, .null, .null, .null, .null, .null, .null, .null, .null, .null, .null] .null := Arv.set Ar24 q24 S24 Ng24 Ha24 G24 rfl W25 7 rfl (Nat.le_of_ble_eq_true rfl)
  have O25 := O22.wr W25 ge_b1
  have N25 := Fr.snoc X25 N22 ge_b1
  obtain ⟨T26, X26, e26, st26⟩ := getS2 X25 hx hZ hown (host := "") (Or.inl (hw _ (List.mem_of_getElem? (i := 20) rfl))) Via.refl e25 (S_FLOAT.ext O25.2) (g := (mkF m 58 #[.val (.int p0), .unset, .unset, .unset, .unset] [(.int (8 : Int32)), (.ref b1), (.ref b1)])) rfl (hb hby at_58)
  have vt27 := V_b1
  obtain ⟨cl27, Ar27, q27, S27, Ng27, Ha27, G27⟩ := vt27
  have hin27 : ¬ ((8 : Int32) < 0 ∨ cl27.slots.size ≤ ((8 : Int32)).toNatClampNeg) := inb_of S27 ⟨by decide, by decide⟩
  obtain ⟨T28, h28, X28, e28, W28, st28⟩ := stR X26 hx hZ e26 Ar27 (j := (8 : Int32)) hin27 rfl (Sto.ofV Ar27 q27 Ov1 (Ins.self (E_FLOAT.ext O25.2))) (g := (mkF m 61 #[.val (.int p0), .unset, .unset, .unset, .unset] [(.ref w_FLOAT), (.int (8 : Int32)), (.ref b1), (.ref b1)])) rfl rfl (hb hby at_61)
  have V_b1 : Arv Z h28 b1 k1 (.object "com/example/shapewright/shapewright/model/ShapeType") (22 : Int32) [(.ref w_BLOB), (.ref w_BOOLEAN), (.ref w_DOCUMENT), (.ref w_STRING), (.ref w_BYTE), (.ref w_SHORT), (.ref w_INTEGER), (.ref w_LONG), (.ref w_FLOAT), .null, .null, .null, .null, .null, .null, .null, .null, .null, .null, .null, .null, .null] .null := Arv.set Ar27 q27 S27 Ng27 Ha27 G27 rfl W28 8 rfl (Nat.le_of_ble_eq_true rfl)
  have O28 := O25.wr W28 ge_b1
  have N28 := Fr.snoc X28 N25 ge_b1
  obtain ⟨T29, X29, e29, st29⟩ := getS2 X28 hx hZ hown (host := "") (Or.inl (hw _ (List.mem_of_getElem? (i := 22) rfl))) Via.refl e28 (S_DOUBLE.ext O28.2) (g := (mkF m 65 #[.val (.int p0), .unset, .unset, .unset, .unset] [(.int (9 : Int32)), (.ref b1), (.ref b1)])) rfl (hb hby at_65)
  have vt30 := V_b1
  obtain ⟨cl30, Ar30, q30, S30, Ng30, Ha30, G30⟩ := vt30
  have hin30 : ¬ ((9 : Int32) < 0 ∨ cl30.slots.size ≤ ((9 : Int32)).toNatClampNeg) := inb_of S30 ⟨by decide, by decide⟩
  obtain ⟨T31, h31, X31, e31, W31, st31⟩ := stR X29 hx hZ e29 Ar30 (j := (9 : Int32)) hin30 rfl (Sto.ofV Ar30 q30 Ov1 (Ins.self (E_DOUBLE.ext O28.2))) (g := (mkF m 68 #[.val (.int p0), .unset, .unset, .unset, .unset] [(.ref w_DOUBLE), (.int (9 : Int32)), (.ref b1), (.ref b1)])) rfl rfl (hb hby at_68)
  have V_b1 : Arv Z h31 b1 k1 (.object "com/example/shapewright/shapewright/model/ShapeType") (22 : Int32) [(.ref w_BLOB), (.ref w_BOOLEAN), (.ref w_DOCUMENT), (.ref w_STRING), (.ref w_BYTE), (.ref w_SHORT), (.ref w_INTEGER), (.ref w_LONG), (.ref w_FLOAT), (.ref w_DOUBLE), .null, .null, .null, .null, .null, .null, .null, .null, .null, .null, .null, .null] .null := Arv.set Ar30 q30 S30 Ng30 Ha30 G30 rfl W31 9 rfl (Nat.le_of_ble_eq_true rfl)
  have O31 := O28.wr W31 ge_b1
  have N31 := Fr.snoc X31 N28 ge_b1
  obtain ⟨T32, X32, e32, st32⟩ := getS2 X31 hx hZ hown (host := "") (Or.inl (hw _ (List.mem_of_getElem? (i := 24) rfl))) Via.refl e31 (S_BIG_INTEGER.ext O31.2) (g := (mkF m 72 #[.val (.int p0), .unset, .unset, .unset, .unset] [(.int (10 : Int32)), (.ref b1), (.ref b1)])) rfl (hb hby at_72)
  have vt33 := V_b1
  obtain ⟨cl33, Ar33, q33, S33, Ng33, Ha33, G33⟩ := vt33
  have hin33 : ¬ ((10 : Int32) < 0 ∨ cl33.slots.size ≤ ((10 : Int32)).toNatClampNeg) := inb_of S33 ⟨by decide, by decide⟩
  obtain ⟨T34, h34, X34, e34, W34, st34⟩ := stR X32 hx hZ e32 Ar33 (j := (10 : Int32)) hin33 rfl (Sto.ofV Ar33 q33 Ov1 (Ins.self (E_BIG_INTEGER.ext O31.2))) (g := (mkF m 75 #[.val (.int p0), .unset, .unset, .unset, .unset] [(.ref w_BIG_INTEGER), (.int (10 : Int32)), (.ref b1), (.ref b1)])) rfl rfl (hb hby at_75)
  have V_b1 : Arv Z h34 b1 k1 (.object "com/example/shapewright/shapewright/model/ShapeType") (22 : Int32) [(.ref w_BLOB), (.ref w_BOOLEAN), (.ref w_DOCUMENT), (.ref w_STRING), (.ref w_BYTE), (.ref w_SHORT), (.ref w_INTEGER), (.ref w_LONG), (.ref w_FLOAT), (.ref w_DOUBLE), (.ref w_BIG_INTEGER), .null, .null, .null, .null, .null, .null, .null, .null, .null, .null, .null] .null := Arv.set Ar33 q33 S33 Ng33 Ha33 G33 rfl W34 10 rfl (Nat.le_of_ble_eq_true rfl)
  have O34 := O31.wr W34 ge_b1
  have N34 := Fr.snoc X34 N31 ge_b1
  obtain ⟨T35, X35, e35, st35⟩ := getS2 X34 hx hZ hown (host := "") (Or.inl (hw _ (List.mem_of_getElem? (i := 26) rfl))) Via.refl e34 (S_BIG_DECIMAL.ext O34.2) (g := (mkF m 79 #[.val (.int p0), .unset, .unset, .unset, .unset] [(.int (11 : Int32)), (.ref b1), (.ref b1)])) rfl (hb hby at_79)
  have vt36 := V_b1
  obtain ⟨cl36, Ar36, q36, S36, Ng36, Ha36, G36⟩ := vt36
  have hin36 : ¬ ((11 : Int32) < 0 ∨ cl36.slots.size ≤ ((11 : Int32)).toNatClampNeg) := inb_of S36 ⟨by decide, by decide⟩
  obtain ⟨T37, h37, X37, e37, W37, st37⟩ := stR X35 hx hZ e35 Ar36 (j := (11 : Int32)) hin36 rfl (Sto.ofV Ar36 q36 Ov1 (Ins.self (E_BIG_DECIMAL.ext O34.2))) (g := (mkF m 82 #[.val (.int p0), .unset, .unset, .unset, .unset] [(.ref w_BIG_DECIMAL), (.int (11 : Int32)), (.ref b1), (.ref b1)])) rfl rfl (hb hby at_82)
  have V_b1 : Arv Z h37 b1 k1 (.object "com/example/shapewright/shapewright/model/ShapeType") (22 : Int32) [(.ref w_BLOB), (.ref w_BOOLEAN), (.ref w_DOCUMENT), (.ref w_STRING), (.ref w_BYTE), (.ref w_SHORT), (.ref w_INTEGER), (.ref w_LONG), (.ref w_FLOAT), (.ref w_DOUBLE), (.ref w_BIG_INTEGER), (.ref w_BIG_DECIMAL), .null, .null, .null, .null, .null, .null, .null, .null, .null, .null] .null := Arv.set Ar36 q36 S36 Ng36 Ha36 G36 rfl W37 11 rfl (Nat.le_of_ble_eq_true rfl)
  have O37 := O34.wr W37 ge_b1
  have N37 := Fr.snoc X37 N34 ge_b1
  obtain ⟨T38, X38, e38, st38⟩ := getS2 X37 hx hZ hown (host := "") (Or.inl (hw _ (List.mem_of_getElem? (i := 28) rfl))) Via.refl e37 (S_TIMESTAMP.ext O37.2) (g := (mkF m 86 #[.val (.int p0), .unset, .unset, .unset, .unset] [(.int (12 : Int32)), (.ref b1), (.ref b1)])) rfl (hb hby at_86)
  have vt39 := V_b1
  obtain ⟨cl39, Ar39, q39, S39, Ng39, Ha39, G39⟩ := vt39
  have hin39 : ¬ ((12 : Int32) < 0 ∨ cl39.slots.size ≤ ((12 : Int32)).toNatClampNeg) := inb_of S39 ⟨by decide, by decide⟩
  obtain ⟨T40, h40, X40, e40, W40, st40⟩ := stR X38 hx hZ e38 Ar39 (j := (12 : Int32)) hin39 rfl (Sto.ofV Ar39 q39 Ov1 (Ins.self (E_TIMESTAMP.ext O37.2))) (g := (mkF m 89 #[.val (.int p0), .unset, .unset, .unset, .unset] [(.ref w_TIMESTAMP), (.int (12 : Int32)), (.ref b1), (.ref b1)])) rfl rfl (hb hby at_89)
  have V_b1 : Arv Z h40 b1 k1 (.object "com/example/shapewright/shapewright/model/ShapeType") (22 : Int32) [(.ref w_BLOB), (.ref w_BOOLEAN), (.ref w_DOCUMENT), (.ref w_STRING), (.ref w_BYTE), (.ref w_SHORT), (.ref w_INTEGER), (.ref w_LONG), (.ref w_FLOAT), (.ref w_DOUBLE), (.ref w_BIG_INTEGER), (.ref w_BIG_DECIMAL), (.ref w_TIMESTAMP), .null, .null, .null, .null, .null, .null, .null, .null, .null] .null := Arv.set Ar39 q39 S39 Ng39 Ha39 G39 rfl W40 12 rfl (Nat.le_of_ble_eq_true rfl)
  have O40 := O37.wr W40 ge_b1
  have N40 := Fr.snoc X40 N37 ge_b1
  obtain ⟨T41, X41, e41, st41⟩ := getS2 X40 hx hZ hown (host := "") (Or.inl (hw _ (List.mem_of_getElem? (i := 30) rfl))) Via.refl e40 (S_ENUM.ext O40.2) (g := (mkF m 93 #[.val (.int p0), .unset, .unset, .unset, .unset] [(.int (13 : Int32)), (.ref b1), (.ref b1)])) rfl (hb hby at_93)
  have vt42 := V_b1
  obtain ⟨cl42, Ar42, q42, S42, Ng42, Ha42, G42⟩ := vt42
  have hin42 : ¬ ((13 : Int32) < 0 ∨ cl42.slots.size ≤ ((13 : Int32)).toNatClampNeg) := inb_of S42 ⟨by decide, by decide⟩
  obtain ⟨T43, h43, X43, e43, W43, st43⟩ := stR X41 hx hZ e41 Ar42 (j := (13 : Int32)) hin42 rfl (Sto.ofV Ar42 q42 Ov1 (Ins.self (E_ENUM.ext O40.2))) (g := (mkF m 96 #[.val (.int p0), .unset, .unset, .unset, .unset] [(.ref w_ENUM), (.int (13 : Int32)), (.ref b1), (.ref b1)])) rfl rfl (hb hby at_96)
  have V_b1 : Arv Z h43 b1 k1 (.object "com/example/shapewright/shapewright/model/ShapeType") (22 : Int32) [(.ref w_BLOB), (.ref w_BOOLEAN), (.ref w_DOCUMENT), (.ref w_STRING), (.ref w_BYTE), (.ref w_SHORT), (.ref w_INTEGER), (.ref w_LONG), (.ref w_FLOAT), (.ref w_DOUBLE), (.ref w_BIG_INTEGER), (.ref w_BIG_DECIMAL), (.ref w_TIMESTAMP), (.ref w_ENUM), .null, .null, .null, .null, .null, .null, .null, .null] .null := Arv.set Ar42 q42 S42 Ng42 Ha42 G42 rfl W43 13 rfl (Nat.le_of_ble_eq_true rfl)
  have O43 := O40.wr W43 ge_b1
  have N43 := Fr.snoc X43 N40 ge_b1
  obtain ⟨T44, X44, e44, st44⟩ := getS2 X43 hx hZ hown (host := "") (Or.inl (hw _ (List.mem_of_getElem? (i := 32) rfl))) Via.refl e43 (S_INT_ENUM.ext O43.2) (g := (mkF m 100 #[.val (.int p0), .unset, .unset, .unset, .unset] [(.int (14 : Int32)), (.ref b1), (.ref b1)])) rfl (hb hby at_100)
  have vt45 := V_b1
  obtain ⟨cl45, Ar45, q45, S45, Ng45, Ha45, G45⟩ := vt45
  have hin45 : ¬ ((14 : Int32) < 0 ∨ cl45.slots.size ≤ ((14 : Int32)).toNatClampNeg) := inb_of S45 ⟨by decide, by decide⟩
  obtain ⟨T46, h46, X46, e46, W46, st46⟩ := stR X44 hx hZ e44 Ar45 (j := (14 : Int32)) hin45 rfl (Sto.ofV Ar45 q45 Ov1 (Ins.self (E_INT_ENUM.ext O43.2))) (g := (mkF m 103 #[.val (.int p0), .unset, .unset, .unset, .unset] [(.ref w_INT_ENUM), (.int (14 : Int32)), (.ref b1), (.ref b1)])) rfl rfl (hb hby at_103)
  have V_b1 : Arv Z h46 b1 k1 (.object "com/example/shapewright/shapewright/model/ShapeType") (22 : Int32) [(.ref w_BLOB), (.ref w_BOOLEAN), (.ref w_DOCUMENT), (.ref w_STRING), (.ref w_BYTE), (.ref w_SHORT), (.ref w_INTEGER), (.ref w_LONG), (.ref w_FLOAT), (.ref w_DOUBLE), (.ref w_BIG_INTEGER), (.ref w_BIG_DECIMAL), (.ref w_TIMESTAMP), (.ref w_ENUM), (.ref w_INT_ENUM), .null, .null, .null, .null, .null, .null, .null] .null := Arv.set Ar45 q45 S45 Ng45 Ha45 G45 rfl W46 14 rfl (Nat.le_of_ble_eq_true rfl)
  have O46 := O43.wr W46 ge_b1
  have N46 := Fr.snoc X46 N43 ge_b1
  obtain ⟨T47, X47, e47, st47⟩ := getS2 X46 hx hZ hown (host := "") (Or.inl (hw _ (List.mem_of_getElem? (i := 34) rfl))) Via.refl e46 (S_LIST.ext O46.2) (g := (mkF m 107 #[.val (.int p0), .unset, .unset, .unset, .unset] [(.int (15 : Int32)), (.ref b1), (.ref b1)])) rfl (hb hby at_107)
  have vt48 := V_b1
  obtain ⟨cl48, Ar48, q48, S48, Ng48, Ha48, G48⟩ := vt48
  have hin48 : ¬ ((15 : Int32) < 0 ∨ cl48.slots.size ≤ ((15 : Int32)).toNatClampNeg) := inb_of S48 ⟨by decide, by decide⟩
  obtain ⟨T49, h49, X49, e49, W49, st49⟩ := stR X47 hx hZ e47 Ar48 (j := (15 : Int32)) hin48 rfl (Sto.ofV Ar48 q48 Ov1 (Ins.self (E_LIST.ext O46.2))) (g := (mkF m 110 #[.val (.int p0), .unset, .unset, .unset, .unset] [(.ref w_LIST), (.int (15 : Int32)), (.ref b1), (.ref b1)])) rfl rfl (hb hby at_110)
  have V_b1 : Arv Z h49 b1 k1 (.object "com/example/shapewright/shapewright/model/ShapeType") (22 : Int32) [(.ref w_BLOB), (.ref w_BOOLEAN), (.ref w_DOCUMENT), (.ref w_STRING), (.ref w_BYTE), (.ref w_SHORT), (.ref w_INTEGER), (.ref w_LONG), (.ref w_FLOAT), (.ref w_DOUBLE), (.ref w_BIG_INTEGER), (.ref w_BIG_DECIMAL), (.ref w_TIMESTAMP), (.ref w_ENUM), (.ref w_INT_ENUM), (.ref w_LIST), .null, .null, .null, .null, .null, .null] .null := Arv.set Ar48 q48 S48 Ng48 Ha48 G48 rfl W49 15 rfl (Nat.le_of_ble_eq_true rfl)
  have O49 := O46.wr W49 ge_b1
  have N49 := Fr.snoc X49 N46 ge_b1
  obtain ⟨T50, X50, e50, st50⟩ := getS2 X49 hx hZ hown (host := "") (Or.inl (hw _ (List.mem_of_getElem? (i := 36) rfl))) Via.refl e49 (S_MAP.ext O49.2) (g := (mkF m 114 #[.val (.int p0), .unset, .unset, .unset, .unset] [(.int (16 : Int32)), (.ref b1), (.ref b1)])) rfl (hb hby at_114)
  have vt51 := V_b1
  obtain ⟨cl51, Ar51, q51, S51, Ng51, Ha51, G51⟩ := vt51
  have hin51 : ¬ ((16 : Int32) < 0 ∨ cl51.slots.size ≤ ((16 : Int32)).toNatClampNeg) := inb_of S51 ⟨by decide, by decide⟩
  obtain ⟨T52, h52, X52, e52, W52, st52⟩ := stR X50 hx hZ e50 Ar51 (j := (16 : Int32)) hin51 rfl (Sto.ofV Ar51 q51 Ov1 (Ins.self (E_MAP.ext O49.2))) (g := (mkF m 117 #[.val (.int p0), .unset, .unset, .unset, .unset] [(.ref w_MAP), (.int (16 : Int32)), (.ref b1), (.ref b1)])) rfl rfl (hb hby at_117)
  have V_b1 : Arv Z h52 b1 k1 (.object "com/example/shapewright/shapewright/model/ShapeType") (22 : Int32) [(.ref w_BLOB), (.ref w_BOOLEAN), (.ref w_DOCUMENT), (.ref w_STRING), (.ref w_BYTE), (.ref w_SHORT), (.ref w_INTEGER), (.ref w_LONG), (.ref w_FLOAT), (.ref w_DOUBLE), (.ref w_BIG_INTEGER), (.ref w_BIG_DECIMAL), (.ref w_TIMESTAMP), (.ref w_ENUM), (.ref w_INT_ENUM), (.ref w_LIST), (.ref w_MAP), .null, .null, .null, .null, .null] .null := Arv.set Ar51 q51 S51 Ng51 Ha51 G51 rfl W52 16 rfl (Nat.le_of_ble_eq_true rfl)
  have O52 := O49.wr W52 ge_b1
  have N52 := Fr.snoc X52 N49 ge_b1
  obtain ⟨T53, X53, e53, st53⟩ := getS2 X52 hx hZ hown (host := "") (Or.inl (hw _ (List.mem_of_getElem? (i := 38) rfl))) Via.refl e52 (S_STRUCTURE.ext O52.2) (g := (mkF m 121 #[.val (.int p0), .unset, .unset, .unset, .unset] [(.int (17 : Int32)), (.ref b1), (.ref b1)])) rfl (hb hby at_121)
  have vt54 := V_b1
  obtain ⟨cl54, Ar54, q54, S54, Ng54, Ha54, G54⟩ := vt54
  have hin54 : ¬ ((17 : Int32) < 0 ∨ cl54.slots.size ≤ ((17 : Int32)).toNatClampNeg) := inb_of S54 ⟨by decide, by decide⟩
  obtain ⟨T55, h55, X55, e55, W55, st55⟩ := stR X53 hx hZ e53 Ar54 (j := (17 : Int32)) hin54 rfl (Sto.ofV Ar54 q54 Ov1 (Ins.self (E_STRUCTURE.ext O52.2))) (g := (mkF m 124 #[.val (.int p0), .unset, .unset, .unset, .unset] [(.ref w_STRUCTURE), (.int (17 : Int32)), (.ref b1), (.ref b1)])) rfl rfl (hb hby at_124)
  have V_b1 : Arv Z h55 b1 k1 (.object "com/example/shapewright/shapewright/model/ShapeType") (22 : Int32) [(.ref w_BLOB), (.ref w_BOOLEAN), (.ref w_DOCUMENT), (.ref w_STRING), (.ref w_BYTE), (.ref w_SHORT), (.ref w_INTEGER), (.ref w_LONG), (.ref w_FLOAT), (.ref w_DOUBLE), (.ref w_BIG_INTEGER), (.ref w_BIG_DECIMAL), (.ref w_TIMESTAMP), (.ref w_ENUM), (.ref w_INT_ENUM), (.ref w_LIST), (.ref w_MAP), (.ref w_STRUCTURE), .null, .null, .null, .null] .null := Arv.set Ar54 q54 S54 Ng54 Ha54 G54 rfl W55 17 rfl (Nat.le_of_ble_eq_true rfl)
  have O55 := O52.wr W55 ge_b1
  have N55 := Fr.snoc X55 N52 ge_b1
  obtain ⟨T56, X56, e56, st56⟩ := getS2 X55 hx hZ hown (host := "") (Or.inl (hw _ (List.mem_of_getElem? (i := 40) rfl))) Via.refl e55 (S_UNION.ext O55.2) (g := (mkF m 128 #[.val (.int p0), .unset, .unset, .unset, .unset] [(.int (18 : Int32)), (.ref b1), (.ref b1)])) rfl (hb hby at_128)
  have vt57 := V_b1
  obtain ⟨cl57, Ar57, q57, S57, Ng57, Ha57, G57⟩ := vt57
  have hin57 : ¬ ((18 : Int32) < 0 ∨ cl57.slots.size ≤ ((18 : Int32)).toNatClampNeg) := inb_of S57 ⟨by decide, by decide⟩
  obtain ⟨T58, h58, X58, e58, W58, st58⟩ := stR X56 hx hZ e56 Ar57 (j := (18 : Int32)) hin57 rfl (Sto.ofV Ar57 q57 Ov1 (Ins.self (E_UNION.ext O55.2))) (g := (mkF m 131 #[.val (.int p0), .unset, .unset, .unset, .unset] [(.ref w_UNION), (.int (18 : Int32)), (.ref b1), (.ref b1)])) rfl rfl (hb hby at_131)
  have V_b1 : Arv Z h58 b1 k1 (.object "com/example/shapewright/shapewright/model/ShapeType") (22 : Int32) [(.ref w_BLOB), (.ref w_BOOLEAN), (.ref w_DOCUMENT), (.ref w_STRING), (.ref w_BYTE), (.ref w_SHORT), (.ref w_INTEGER), (.ref w_LONG), (.ref w_FLOAT), (.ref w_DOUBLE), (.ref w_BIG_INTEGER), (.ref w_BIG_DECIMAL), (.ref w_TIMESTAMP), (.ref w_ENUM), (.ref w_INT_ENUM), (.ref w_LIST), (.ref w_MAP), (.ref w_STRUCTURE), (.ref w_UNION), .null, .null, .null] .null := Arv.set Ar57 q57 S57 Ng57 Ha57 G57 rfl W58 18 rfl (Nat.le_of_ble_eq_true rfl)
  have O58 := O55.wr W58 ge_b1
  have N58 := Fr.snoc X58 N55 ge_b1
  obtain ⟨T59, X59, e59, st59⟩ := getS2 X58 hx hZ hown (host := "") (Or.inl (hw _ (List.mem_of_getElem? (i := 42) rfl))) Via.refl e58 (S_SERVICE.ext O58.2) (g := (mkF m 135 #[.val (.int p0), .unset, .unset, .unset, .unset] [(.int (19 : Int32)), (.ref b1), (.ref b1)])) rfl (hb hby at_135)
  have vt60 := V_b1
  obtain ⟨cl60, Ar60, q60, S60, Ng60, Ha60, G60⟩ := vt60
  have hin60 : ¬ ((19 : Int32) < 0 ∨ cl60.slots.size ≤ ((19 : Int32)).toNatClampNeg) := inb_of S60 ⟨by decide, by decide⟩
  obtain ⟨T61, h61, X61, e61, W61, st61⟩ := stR X59 hx hZ e59 Ar60 (j := (19 : Int32)) hin60 rfl (Sto.ofV Ar60 q60 Ov1 (Ins.self (E_SERVICE.ext O58.2))) (g := (mkF m 138 #[.val (.int p0), .unset, .unset, .unset, .unset] [(.ref w_SERVICE), (.int (19 : Int32)), (.ref b1), (.ref b1)])) rfl rfl (hb hby at_138)
  have V_b1 : Arv Z h61 b1 k1 (.object "com/example/shapewright/shapewright/model/ShapeType") (22 : Int32) [(.ref w_BLOB), (.ref w_BOOLEAN), (.ref w_DOCUMENT), (.ref w_STRING), (.ref w_BYTE), (.ref w_SHORT), (.ref w_INTEGER), (.ref w_LONG), (.ref w_FLOAT), (.ref w_DOUBLE), (.ref w_BIG_INTEGER), (.ref w_BIG_DECIMAL), (.ref w_TIMESTAMP), (.ref w_ENUM), (.ref w_INT_ENUM), (.ref w_LIST), (.ref w_MAP), (.ref w_STRUCTURE), (.ref w_UNION), (.ref w_SERVICE), .null, .null] .null := Arv.set Ar60 q60 S60 Ng60 Ha60 G60 rfl W61 19 rfl (Nat.le_of_ble_eq_true rfl)
  have O61 := O58.wr W61 ge_b1
  have N61 := Fr.snoc X61 N58 ge_b1
  obtain ⟨T62, X62, e62, st62⟩ := getS2 X61 hx hZ hown (host := "") (Or.inl (hw _ (List.mem_of_getElem? (i := 44) rfl))) Via.refl e61 (S_OPERATION.ext O61.2) (g := (mkF m 142 #[.val (.int p0), .unset, .unset, .unset, .unset] [(.int (20 : Int32)), (.ref b1), (.ref b1)])) rfl (hb hby at_142)
  have vt63 := V_b1
  obtain ⟨cl63, Ar63, q63, S63, Ng63, Ha63, G63⟩ := vt63
  have hin63 : ¬ ((20 : Int32) < 0 ∨ cl63.slots.size ≤ ((20 : Int32)).toNatClampNeg) := inb_of S63 ⟨by decide, by decide⟩
  obtain ⟨T64, h64, X64, e64, W64, st64⟩ := stR X62 hx hZ e62 Ar63 (j := (20 : Int32)) hin63 rfl (Sto.ofV Ar63 q63 Ov1 (Ins.self (E_OPERATION.ext O61.2))) (g := (mkF m 145 #[.val (.int p0), .unset, .unset, .unset, .unset] [(.ref w_OPERATION), (.int (20 : Int32)), (.ref b1), (.ref b1)])) rfl rfl (hb hby at_145)
  have V_b1 : Arv Z h64 b1 k1 (.object "com/example/shapewright/shapewright/model/ShapeType") (22 : Int32) [(.ref w_BLOB), (.ref w_BOOLEAN), (.ref w_DOCUMENT), (.ref w_STRING), (.ref w_BYTE), (.ref w_SHORT), (.ref w_INTEGER), (.ref w_LONG), (.ref w_FLOAT), (.ref w_DOUBLE), (.ref w_BIG_INTEGER), (.ref w_BIG_DECIMAL), (.ref w_TIMESTAMP), (.ref w_ENUM), (.ref w_INT_ENUM), (.ref w_LIST), (.ref w_MAP), (.ref w_STRUCTURE), (.ref w_UNION), (.ref w_SERVICE), (.ref w_OPERATION), .null] .null := Arv.set Ar63 q63 S63 Ng63 Ha63 G63 rfl W64 20 rfl (Nat.le_of_ble_eq_true rfl)
  have O64 := O61.wr W64 ge_b1
  have N64 := Fr.snoc X64 N61 ge_b1
  obtain ⟨T65, X65, e65, st65⟩ := getS2 X64 hx hZ hown (host := "") (Or.inl (hw _ (List.mem_of_getElem? (i := 46) rfl))) Via.refl e64 (S_RESOURCE.ext O64.2) (g := (mkF m 149 #[.val (.int p0), .unset, .unset, .unset, .unset] [(.int (21 : Int32)), (.ref b1), (.ref b1)])) rfl (hb hby at_149)
  have vt66 := V_b1
  obtain ⟨cl66, Ar66, q66, S66, Ng66, Ha66, G66⟩ := vt66
  have hin66 : ¬ ((21 : Int32) < 0 ∨ cl66.slots.size ≤ ((21 : Int32)).toNatClampNeg) := inb_of S66 ⟨by decide, by decide⟩
  obtain ⟨T67, h67, X67, e67, W67, st67⟩ := stR X65 hx hZ e65 Ar66 (j := (21 : Int32)) hin66 rfl (Sto.ofV Ar66 q66 Ov1 (Ins.self (E_RESOURCE.ext O64.2))) (g := (mkF m 152 #[.val (.int p0), .unset, .unset, .unset, .unset] [(.ref w_RESOURCE), (.int (21 : Int32)), (.ref b1), (.ref b1)])) rfl rfl (hb hby at_152)
  have V_b1 : Arv Z h67 b1 k1 (.object "com/example/shapewright/shapewright/model/ShapeType") (22 : Int32) [(.ref w_BLOB), (.ref w_BOOLEAN), (.ref w_DOCUMENT), (.ref w_STRING), (.ref w_BYTE), (.ref w_SHORT), (.ref w_INTEGER), (.ref w_LONG), (.ref w_FLOAT), (.ref w_DOUBLE), (.ref w_BIG_INTEGER), (.ref w_BIG_DECIMAL), (.ref w_TIMESTAMP), (.ref w_ENUM), (.ref w_INT_ENUM), (.ref w_LIST), (.ref w_MAP), (.ref w_STRUCTURE), (.ref w_UNION), (.ref w_SERVICE), (.ref w_OPERATION), (.ref w_RESOURCE)] .null := Arv.set Ar66 q66 S66 Ng66 Ha66 G66 rfl W67 21 rfl (Nat.le_of_ble_eq_true rfl)
  have O67 := O64.wr W67 ge_b1
  have N67 := Fr.snoc X67 N64 ge_b1
  have pre68 : ∀ t, Steps p.tables e below (T67.setTop (mkF m 162 #[.val (.int p0), .val (.ref b1), .val (.int ((p0 &&& (2147483647 : Int32)) % (22 : Int32))), .unset, .unset] [])) t → Steps p.tables e below (s₁.setTop (entryFrame m #[(.int p0)] maxLocals)) t := by
    intro t kt
    refine pre0 t ?_
    show Steps p.tables e below (s₁.setTop (mkF m 0 #[.val (.int p0), .unset, .unset, .unset, .unset] [])) _
    refine XS.bipush X0.here hx rfl (hb hby at_0) ?_
    show Steps p.tables e below (s₁.setTop (mkF m 2 #[.val (.int p0), .unset, .unset, .unset, .unset] [(.int (22 : Int32))])) _
    refine st1 _ ?_
    show Steps p.tables e below (T1.setTop (mkF m 5 #[.val (.int p0), .unset, .unset, .unset, .unset] [(.ref b1)])) _
    refine XS.dup X1.here hx rfl (hb hby at_5) rfl rfl ?_
    show Steps p.tables e below (T1.setTop (mkF m 6 #[.val (.int p0), .unset, .unset, .unset, .unset] [(.ref b1), (.ref b1)])) _
    refine XS.iconst X1.here hx rfl (hb hby at_6) ?_
    show Steps p.tables e below (T1.setTop (mkF m 7 #[.val (.int p0), .unset, .unset, .unset, .unset] [(.int (0 : Int32)), (.ref b1), (.ref b1)])) _
    refine st2 _ ?_
    show Steps p.tables e below (T2.setTop (mkF m 10 #[.val (.int p0), .unset, .unset, .unset, .unset] [(.ref w_BLOB), (.int (0 : Int32)), (.ref b1), (.ref b1)])) _
    refine st4 _ ?_
    show Steps p.tables e below (T4.setTop (mkF m 11 #[.val (.int p0), .unset, .unset, .unset, .unset] [(.ref b1)])) _
    refine XS.dup X4.here hx rfl (hb hby at_11) rfl rfl ?_
    show Steps p.tables e below (T4.setTop (mkF m 12 #[.val (.int p0), .unset, .unset, .unset, .unset] [(.ref b1), (.ref b1)])) _
    refine XS.iconst X4.here hx rfl (hb hby at_12) ?_
    show Steps p.tables e below (T4.setTop (mkF m 13 #[.val (.int p0), .unset, .unset, .unset, .unset] [(.int (1 : Int32)), (.ref b1), (.ref b1)])) _
    refine st5 _ ?_
    show Steps p.tables e below (T5.setTop (mkF m 16 #[.val (.int p0), .unset, .unset, .unset, .unset] [(.ref w_BOOLEAN), (.int (1 : Int32)), (.ref b1), (.ref b1)])) _
    refine st7 _ ?_
    show Steps p.tables e below (T7.setTop (mkF m 17 #[.val (.int p0), .unset, .unset, .unset, .unset] [(.ref b1)])) _
    refine XS.dup X7.here hx rfl (hb hby at_17) rfl rfl ?_
    show Steps p.tables e below (T7.setTop (mkF m 18 #[.val (.int p0), .unset, .unset, .unset, .unset] [(.ref b1), (.ref b1)])) _
    refine XS.iconst X7.here hx rfl (hb hby at_18) ?_
    show Steps p.tables e below (T7.setTop (mkF m 19 #[.val (.int p0), .unset, .unset, .unset, .unset] [(.int (2 : Int32)), (.ref b1), (.ref b1)])) _
    refine st8 _ ?_
    show Steps p.tables e below (T8.setTop (mkF m 22 #[.val (.int p0), .unset, .unset, .unset, .unset] [(.ref w_DOCUMENT), (.int (2 : Int32)), (.ref b1), (.ref b1)])) _
    refine st10 _ ?_
    show Steps p.tables e below (T10.setTop (mkF m 23 #[.val (.int p0), .unset, .unset, .unset, .unset] [(.ref b1)])) _
    refine XS.dup X10.here hx rfl (hb hby at_23) rfl rfl ?_
    show Steps p.tables e below (T10.setTop (mkF m 24 #[.val (.int p0), .unset, .unset, .unset, .unset] [(.ref b1), (.ref b1)])) _
    refine XS.iconst X10.here hx rfl (hb hby at_24) ?_
    show Steps p.tables e below (T10.setTop (mkF m 25 #[.val (.int p0), .unset, .unset, .unset, .unset] [(.int (3 : Int32)), (.ref b1), (.ref b1)])) _
    refine st11 _ ?_
    show Steps p.tables e below (T11.setTop (mkF m 28 #[.val (.int p0), .unset, .unset, .unset, .unset] [(.ref w_STRING), (.int (3 : Int32)), (.ref b1), (.ref b1)])) _
    refine st13 _ ?_
    show Steps p.tables e below (T13.setTop (mkF m 29 #[.val (.int p0), .unset, .unset, .unset, .unset] [(.ref b1)])) _
    refine XS.dup X13.here hx rfl (hb hby at_29) rfl rfl ?_
    show Steps p.tables e below (T13.setTop (mkF m 30 #[.val (.int p0), .unset, .unset, .unset, .unset] [(.ref b1), (.ref b1)])) _
    refine XS.iconst X13.here hx rfl (hb hby at_30) ?_
    show Steps p.tables e below (T13.setTop (mkF m 31 #[.val (.int p0), .unset, .unset, .unset, .unset] [(.int (4 : Int32)), (.ref b1), (.ref b1)])) _
    refine st14 _ ?_
    show Steps p.tables e below (T14.setTop (mkF m 34 #[.val (.int p0), .unset, .unset, .unset, .unset] [(.ref w_BYTE), (.int (4 : Int32)), (.ref b1), (.ref b1)])) _
    refine st16 _ ?_
    show Steps p.tables e below (T16.setTop (mkF m 35 #[.val (.int p0), .unset, .unset, .unset, .unset] [(.ref b1)])) _
    refine XS.dup X16.here hx rfl (hb hby at_35) rfl rfl ?_
    show Steps p.tables e below (T16.setTop (mkF m 36 #[.val (.int p0), .unset, .unset, .unset, .unset] [(.ref b1), (.ref b1)])) _
    refine XS.iconst X16.here hx rfl (hb hby at_36) ?_
    show Steps p.tables e below (T16.setTop (mkF m 37 #[.val (.int p0), .unset, .unset, .unset, .unset] [(.int (5 : Int32)), (.ref b1), (.ref b1)])) _
    refine st17 _ ?_
    show Steps p.tables e below (T17.setTop (mkF m 40 #[.val (.int p0), .unset, .unset, .unset, .unset] [(.ref w_SHORT), (.int (5 : Int32)), (.ref b1), (.ref b1)])) _
    refine st19 _ ?_
    show Steps p.tables e below (T19.setTop (mkF m 41 #[.val (.int p0), .unset, .unset, .unset, .unset] [(.ref b1)])) _
    refine XS.dup X19.here hx rfl (hb hby at_41) rfl rfl ?_
    show Steps p.tables e below (T19.setTop (mkF m 42 #[.val (.int p0), .unset, .unset, .unset, .unset] [(.ref b1), (.ref b1)])) _
    refine XS.bipush X19.here hx rfl (hb hby at_42) ?_
    show Steps p.tables e below (T19.setTop (mkF m 44 #[.val (.int p0), .unset, .unset, .unset, .unset] [(.int (6 : Int32)), (.ref b1), (.ref b1)])) _
    refine st20 _ ?_
    show Steps p.tables e below (T20.setTop (mkF m 47 #[.val (.int p0), .unset, .unset, .unset, .unset] [(.ref w_INTEGER), (.int (6 : Int32)), (.ref b1), (.ref b1)])) _
    refine st22 _ ?_
    show Steps p.tables e below (T22.setTop (mkF m 48 #[.val (.int p0), .unset, .unset, .unset, .unset] [(.ref b1)])) _
    refine XS.dup X22.here hx rfl (hb hby at_48) rfl rfl ?_
    show Steps p.tables e below (T22.setTop (mkF m 49 #[.val (.int p0), .unset, .unset, .unset, .unset] [(.ref b1), (.ref b1)])) _
    refine XS.bipush X22.here hx rfl (hb hby at_49) ?_
    show Steps p.tables e below (T22.setTop (mkF m 51 #[.val (.int p0), .unset, .unset, .unset, .unset] [(.int (7 : Int32)), (.ref b1), (.ref b1)])) _
    refine st23 _ ?_
    show Steps p.tables e below (T23.setTop (mkF m 54 #[.val (.int p0), .unset, .unset, .unset, .unset] [(.ref w_LONG), (.int (7 : Int32)), (.ref b1), (.ref b1)])) _
    refine st25 _ ?_
    show Steps p.tables e below (T25.setTop (mkF m 55 #[.val (.int p0), .unset, .unset, .unset, .unset] [(.ref b1)])) _
    refine XS.dup X25.here hx rfl (hb hby at_55) rfl rfl ?_
    show Steps p.tables e below (T25.setTop (mkF m 56 #[.val (.int p0), .unset, .unset, .unset, .unset] [(.ref b1), (.ref b1)])) _
    refine XS.bipush X25.here hx rfl (hb hby at_56) ?_
    show Steps p.tables e below (T25.setTop (mkF m 58 #[.val (.int p0), .unset, .unset, .unset, .unset] [(.int (8 : Int32)), (.ref b1), (.ref b1)])) _
    refine st26 _ ?_
    show Steps p.tables e below (T26.setTop (mkF m 61 #[.val (.int p0), .unset, .unset, .unset, .unset] [(.ref w_FLOAT), (.int (8 : Int32)), (.ref b1), (.ref b1)])) _
    refine st28 _ ?_
    show Steps p.tables e below (T28.setTop (mkF m 62 #[.val (.int p0), .unset, .unset, .unset, .unset] [(.ref b1)])) _
    refine XS.dup X28.here hx rfl (hb hby at_62) rfl rfl ?_
    show Steps p.tables e below (T28.setTop (mkF m 63 #[.val (.int p0), .unset, .unset, .unset, .unset] [(.ref b1), (.ref b1)])) _
    refine XS.bipush X28.here hx rfl (hb hby at_63) ?_
    show Steps p.tables e below (T28.setTop (mkF m 65 #[.val (.int p0), .unset, .unset, .unset, .unset] [(.int (9 : Int32)), (.ref b1), (.ref b1)])) _
    refine st29 _ ?_
    show Steps p.tables e below (T29.setTop (mkF m 68 #[.val (.int p0), .unset, .unset, .unset, .unset] [(.ref w_DOUBLE), (.int (9 : Int32)), (.ref b1), (.ref b1)])) _
    refine st31 _ ?_
    show Steps p.tables e below (T31.setTop (mkF m 69 #[.val (.int p0), .unset, .unset, .unset, .unset] [(.ref b1)])) _
    refine XS.dup X31.here hx rfl (hb hby at_69) rfl rfl ?_
    show Steps p.tables e below (T31.setTop (mkF m 70 #[.val (.int p0), .unset, .unset, .unset, .unset] [(.ref b1), (.ref b1)])) _
    refine XS.bipush X31.here hx rfl (hb hby at_70) ?_
    show Steps p.tables e below (T31.setTop (mkF m 72 #[.val (.int p0), .unset, .unset, .unset, .unset] [(.int (10 : Int32)), (.ref b1), (.ref b1)])) _
    refine st32 _ ?_
    show Steps p.tables e below (T32.setTop (mkF m 75 #[.val (.int p0), .unset, .unset, .unset, .unset] [(.ref w_BIG_INTEGER), (.int (10 : Int32)), (.ref b1), (.ref b1)])) _
    refine st34 _ ?_
    show Steps p.tables e below (T34.setTop (mkF m 76 #[.val (.int p0), .unset, .unset, .unset, .unset] [(.ref b1)])) _
    refine XS.dup X34.here hx rfl (hb hby at_76) rfl rfl ?_
    show Steps p.tables e below (T34.setTop (mkF m 77 #[.val (.int p0), .unset, .unset, .unset, .unset] [(.ref b1), (.ref b1)])) _
    refine XS.bipush X34.here hx rfl (hb hby at_77) ?_
    show Steps p.tables e below (T34.setTop (mkF m 79 #[.val (.int p0), .unset, .unset, .unset, .unset] [(.int (11 : Int32)), (.ref b1), (.ref b1)])) _
    refine st35 _ ?_
    show Steps p.tables e below (T35.setTop (mkF m 82 #[.val (.int p0), .unset, .unset, .unset, .unset] [(.ref w_BIG_DECIMAL), (.int (11 : Int32)), (.ref b1), (.ref b1)])) _
    refine st37 _ ?_
    show Steps p.tables e below (T37.setTop (mkF m 83 #[.val (.int p0), .unset, .unset, .unset, .unset] [(.ref b1)])) _
    refine XS.dup X37.here hx rfl (hb hby at_83) rfl rfl ?_
    show Steps p.tables e below (T37.setTop (mkF m 84 #[.val (.int p0), .unset, .unset, .unset, .unset] [(.ref b1), (.ref b1)])) _
    refine XS.bipush X37.here hx rfl (hb hby at_84) ?_
    show Steps p.tables e below (T37.setTop (mkF m 86 #[.val (.int p0), .unset, .unset, .unset, .unset] [(.int (12 : Int32)), (.ref b1), (.ref b1)])) _
    refine st38 _ ?_
    show Steps p.tables e below (T38.setTop (mkF m 89 #[.val (.int p0), .unset, .unset, .unset, .unset] [(.ref w_TIMESTAMP), (.int (12 : Int32)), (.ref b1), (.ref b1)])) _
    refine st40 _ ?_
    show Steps p.tables e below (T40.setTop (mkF m 90 #[.val (.int p0), .unset, .unset, .unset, .unset] [(.ref b1)])) _
    refine XS.dup X40.here hx rfl (hb hby at_90) rfl rfl ?_
    show Steps p.tables e below (T40.setTop (mkF m 91 #[.val (.int p0), .unset, .unset, .unset, .unset] [(.ref b1), (.ref b1)])) _
    refine XS.bipush X40.here hx rfl (hb hby at_91) ?_
    show Steps p.tables e below (T40.setTop (mkF m 93 #[.val (.int p0), .unset, .unset, .unset, .unset] [(.int (13 : Int32)), (.ref b1), (.ref b1)])) _
    refine st41 _ ?_
    show Steps p.tables e below (T41.setTop (mkF m 96 #[.val (.int p0), .unset, .unset, .unset, .unset] [(.ref w_ENUM), (.int (13 : Int32)), (.ref b1), (.ref b1)])) _
    refine st43 _ ?_
    show Steps p.tables e below (T43.setTop (mkF m 97 #[.val (.int p0), .unset, .unset, .unset, .unset] [(.ref b1)])) _
    refine XS.dup X43.here hx rfl (hb hby at_97) rfl rfl ?_
    show Steps p.tables e below (T43.setTop (mkF m 98 #[.val (.int p0), .unset, .unset, .unset, .unset] [(.ref b1), (.ref b1)])) _
    refine XS.bipush X43.here hx rfl (hb hby at_98) ?_
    show Steps p.tables e below (T43.setTop (mkF m 100 #[.val (.int p0), .unset, .unset, .unset, .unset] [(.int (14 : Int32)), (.ref b1), (.ref b1)])) _
    refine st44 _ ?_
    show Steps p.tables e below (T44.setTop (mkF m 103 #[.val (.int p0), .unset, .unset, .unset, .unset] [(.ref w_INT_ENUM), (.int (14 : Int32)), (.ref b1), (.ref b1)])) _
    refine st46 _ ?_
    show Steps p.tables e below (T46.setTop (mkF m 104 #[.val (.int p0), .unset, .unset, .unset, .unset] [(.ref b1)])) _
    refine XS.dup X46.here hx rfl (hb hby at_104) rfl rfl ?_
    show Steps p.tables e below (T46.setTop (mkF m 105 #[.val (.int p0), .unset, .unset, .unset, .unset] [(.ref b1), (.ref b1)])) _
    refine XS.bipush X46.here hx rfl (hb hby at_105) ?_
    show Steps p.tables e below (T46.setTop (mkF m 107 #[.val (.int p0), .unset, .unset, .unset, .unset] [(.int (15 : Int32)), (.ref b1), (.ref b1)])) _
    refine st47 _ ?_
    show Steps p.tables e below (T47.setTop (mkF m 110 #[.val (.int p0), .unset, .unset, .unset, .unset] [(.ref w_LIST), (.int (15 : Int32)), (.ref b1), (.ref b1)])) _
    refine st49 _ ?_
    show Steps p.tables e below (T49.setTop (mkF m 111 #[.val (.int p0), .unset, .unset, .unset, .unset] [(.ref b1)])) _
    refine XS.dup X49.here hx rfl (hb hby at_111) rfl rfl ?_
    show Steps p.tables e below (T49.setTop (mkF m 112 #[.val (.int p0), .unset, .unset, .unset, .unset] [(.ref b1), (.ref b1)])) _
    refine XS.bipush X49.here hx rfl (hb hby at_112) ?_
    show Steps p.tables e below (T49.setTop (mkF m 114 #[.val (.int p0), .unset, .unset, .unset, .unset] [(.int (16 : Int32)), (.ref b1), (.ref b1)])) _
    refine st50 _ ?_
    show Steps p.tables e below (T50.setTop (mkF m 117 #[.val (.int p0), .unset, .unset, .unset, .unset] [(.ref w_MAP), (.int (16 : Int32)), (.ref b1), (.ref b1)])) _
    refine st52 _ ?_
    show Steps p.tables e below (T52.setTop (mkF m 118 #[.val (.int p0), .unset, .unset, .unset, .unset] [(.ref b1)])) _
    refine XS.dup X52.here hx rfl (hb hby at_118) rfl rfl ?_
    show Steps p.tables e below (T52.setTop (mkF m 119 #[.val (.int p0), .unset, .unset, .unset, .unset] [(.ref b1), (.ref b1)])) _
    refine XS.bipush X52.here hx rfl (hb hby at_119) ?_
    show Steps p.tables e below (T52.setTop (mkF m 121 #[.val (.int p0), .unset, .unset, .unset, .unset] [(.int (17 : Int32)), (.ref b1), (.ref b1)])) _
    refine st53 _ ?_
    show Steps p.tables e below (T53.setTop (mkF m 124 #[.val (.int p0), .unset, .unset, .unset, .unset] [(.ref w_STRUCTURE), (.int (17 : Int32)), (.ref b1), (.ref b1)])) _
    refine st55 _ ?_
    show Steps p.tables e below (T55.setTop (mkF m 125 #[.val (.int p0), .unset, .unset, .unset, .unset] [(.ref b1)])) _
    refine XS.dup X55.here hx rfl (hb hby at_125) rfl rfl ?_
    show Steps p.tables e below (T55.setTop (mkF m 126 #[.val (.int p0), .unset, .unset, .unset, .unset] [(.ref b1), (.ref b1)])) _
    refine XS.bipush X55.here hx rfl (hb hby at_126) ?_
    show Steps p.tables e below (T55.setTop (mkF m 128 #[.val (.int p0), .unset, .unset, .unset, .unset] [(.int (18 : Int32)), (.ref b1), (.ref b1)])) _
    refine st56 _ ?_
    show Steps p.tables e below (T56.setTop (mkF m 131 #[.val (.int p0), .unset, .unset, .unset, .unset] [(.ref w_UNION), (.int (18 : Int32)), (.ref b1), (.ref b1)])) _
    refine st58 _ ?_
    show Steps p.tables e below (T58.setTop (mkF m 132 #[.val (.int p0), .unset, .unset, .unset, .unset] [(.ref b1)])) _
    refine XS.dup X58.here hx rfl (hb hby at_132) rfl rfl ?_
    show Steps p.tables e below (T58.setTop (mkF m 133 #[.val (.int p0), .unset, .unset, .unset, .unset] [(.ref b1), (.ref b1)])) _
    refine XS.bipush X58.here hx rfl (hb hby at_133) ?_
    show Steps p.tables e below (T58.setTop (mkF m 135 #[.val (.int p0), .unset, .unset, .unset, .unset] [(.int (19 : Int32)), (.ref b1), (.ref b1)])) _
    refine st59 _ ?_
    show Steps p.tables e below (T59.setTop (mkF m 138 #[.val (.int p0), .unset, .unset, .unset, .unset] [(.ref w_SERVICE), (.int (19 : Int32)), (.ref b1), (.ref b1)])) _
    refine st61 _ ?_
    show Steps p.tables e below (T61.setTop (mkF m 139 #[.val (.int p0), .unset, .unset, .unset, .unset] [(.ref b1)])) _
    refine XS.dup X61.here hx rfl (hb hby at_139) rfl rfl ?_
    show Steps p.tables e below (T61.setTop (mkF m 140 #[.val (.int p0), .unset, .unset, .unset, .unset] [(.ref b1), (.ref b1)])) _
    refine XS.bipush X61.here hx rfl (hb hby at_140) ?_
    show Steps p.tables e below (T61.setTop (mkF m 142 #[.val (.int p0), .unset, .unset, .unset, .unset] [(.int (20 : Int32)), (.ref b1), (.ref b1)])) _
    refine st62 _ ?_
    show Steps p.tables e below (T62.setTop (mkF m 145 #[.val (.int p0), .unset, .unset, .unset, .unset] [(.ref w_OPERATION), (.int (20 : Int32)), (.ref b1), (.ref b1)])) _
    refine st64 _ ?_
    show Steps p.tables e below (T64.setTop (mkF m 146 #[.val (.int p0), .unset, .unset, .unset, .unset] [(.ref b1)])) _
    refine XS.dup X64.here hx rfl (hb hby at_146) rfl rfl ?_
    show Steps p.tables e below (T64.setTop (mkF m 147 #[.val (.int p0), .unset, .unset, .unset, .unset] [(.ref b1), (.ref b1)])) _
    refine XS.bipush X64.here hx rfl (hb hby at_147) ?_
    show Steps p.tables e below (T64.setTop (mkF m 149 #[.val (.int p0), .unset, .unset, .unset, .unset] [(.int (21 : Int32)), (.ref b1), (.ref b1)])) _
    refine st65 _ ?_
    show Steps p.tables e below (T65.setTop (mkF m 152 #[.val (.int p0), .unset, .unset, .unset, .unset] [(.ref w_RESOURCE), (.int (21 : Int32)), (.ref b1), (.ref b1)])) _
    refine st67 _ ?_
    show Steps p.tables e below (T67.setTop (mkF m 153 #[.val (.int p0), .unset, .unset, .unset, .unset] [(.ref b1)])) _
    refine XS.astoreN X67.here hx rfl (hb hby at_153) rfl rfl (l' := #[.val (.int p0), .val (.ref b1), .unset, .unset, .unset]) rfl ?_
    show Steps p.tables e below (T67.setTop (mkF m 154 #[.val (.int p0), .val (.ref b1), .unset, .unset, .unset] [])) _
    refine XS.iloadN X67.here hx rfl (hb hby at_154) rfl ?_
    show Steps p.tables e below (T67.setTop (mkF m 155 #[.val (.int p0), .val (.ref b1), .unset, .unset, .unset] [(.int p0)])) _
    refine X67.ldcInt hx hown (mvT hZ (hw _ (List.mem_of_getElem? (i := 48) rfl))) (g := (mkF m 155 #[.val (.int p0), .val (.ref b1), .unset, .unset, .unset] [(.int p0)])) rfl (hb hby at_155) _ ?_
    show Steps p.tables e below (T67.setTop (mkF m 157 #[.val (.int p0), .val (.ref b1), .unset, .unset, .unset] [(.int (2147483647 : Int32)), (.int p0)])) _
    refine XS.iand X67.here hx rfl (hb hby at_157) rfl ?_
    show Steps p.tables e below (T67.setTop (mkF m 158 #[.val (.int p0), .val (.ref b1), .unset, .unset, .unset] [(.int (p0 &&& (2147483647 : Int32)))])) _
    refine XS.bipush X67.here hx rfl (hb hby at_158) ?_
    show Steps p.tables e below (T67.setTop (mkF m 160 #[.val (.int p0), .val (.ref b1), .unset, .unset, .unset] [(.int (22 : Int32)), (.int (p0 &&& (2147483647 : Int32)))])) _
    refine iremM X67 hx rfl (hb hby at_160) rfl (by decide) ?_
    show Steps p.tables e below (T67.setTop (mkF m 161 #[.val (.int p0), .val (.ref b1), .unset, .unset, .unset] [(.int ((p0 &&& (2147483647 : Int32)) % (22 : Int32)))])) _
    refine XS.istoreN X67.here hx rfl (hb hby at_161) rfl (l' := #[.val (.int p0), .val (.ref b1), .val (.int ((p0 &&& (2147483647 : Int32)) % (22 : Int32))), .unset, .unset]) rfl ?_
    exact kt
  rcases own_cases22 (own_rem22 p0).1 (own_rem22 p0).2 with hk | hk | hk | hk | hk | hk | hk | hk | hk | hk | hk | hk | hk | hk | hk | hk | hk | hk | hk | hk | hk | hk
  · rw [hk] at pre68
    have vt69 := V_b1
    obtain ⟨cl69, Ar69, q69, S69, Ng69, Ha69, G69⟩ := vt69
    have hin69 : ¬ ((0 : Int32) < 0 ∨ cl69.slots.size ≤ ((0 : Int32)).toNatClampNeg) := inb_of S69 ⟨by decide, by decide⟩
    have hat69 : cl69.slots[((0 : Int32)).toNatClampNeg]? = some (.ref w_BLOB) := Ha69.at hin69 rfl
    obtain ⟨T70, X70, e70, st70⟩ := getS2 X67 hx hZ hown (host := "") (Or.inl (hw _ (List.mem_of_getElem? (i := 38) rfl))) Via.refl e67 (S_STRUCTURE.ext O67.2) (g := (mkF m 167 #[.val (.int p0), .val (.ref b1), .val (.int (0 : Int32)), .val (.ref w_BLOB), .unset] [(.ref w_BLOB)])) rfl (hb hby at_167)
    obtain ⟨T71, X71, e71, st71⟩ := getS2 X70 hx hZ hown (host := "") (Or.inl (hw _ (List.mem_of_getElem? (i := 40) rfl))) Via.refl e70 (S_UNION.ext O67.2) (g := (mkF m 174 #[.val (.int p0), .val (.ref b1), .val (.int (0 : Int32)), .val (.ref w_BLOB), .unset] [(.ref w_BLOB)])) rfl (hb hby at_174)
    obtain ⟨T72, X72, e72, st72⟩ := getS2 X71 hx hZ hown (host := "") (Or.inl (hw _ (List.mem_of_getElem? (i := 30) rfl))) Via.refl e71 (S_ENUM.ext O67.2) (g := (mkF m 181 #[.val (.int p0), .val (.ref b1), .val (.int (0 : Int32)), .val (.ref w_BLOB), .unset] [(.ref w_BLOB)])) rfl (hb hby at_181)
    obtain ⟨T73, X73, e73, st73⟩ := getS2 X72 hx hZ hown (host := "") (Or.inl (hw _ (List.mem_of_getElem? (i := 32) rfl))) Via.refl e72 (S_INT_ENUM.ext O67.2) (g := (mkF m 188 #[.val (.int p0), .val (.ref b1), .val (.int (0 : Int32)), .val (.ref w_BLOB), .unset] [(.ref w_BLOB)])) rfl (hb hby at_188)
    obtain ⟨lc74, X74, N74⟩ := own_pack X73 N67
    obtain ⟨cq75, kq75, q75a, q75b, q75c⟩ := isOf hZ e73 (E_BLOB.ext O67.2)
    obtain ⟨_, _, ⟨T75, L75, k75, n75⟩, -, X75, ⟨Lc75, hQ75, l75, y75, z75⟩, st75⟩ := X74.virtualBack hx (y := (⟨"com/example/shapewright/shapewright/model/ShapeType", "namesItsMembers", "()Z"⟩ : MethodName)) (z := (⟨"com/example/shapewright/shapewright/model/ShapeType", "namesItsMembers", "()Z"⟩ : MethodName)) hown (mvT hZ (hw _ (List.mem_of_getElem? (i := 49) rfl))) (mvT hZ (hw _ (List.mem_of_getElem? (i := 50) rfl))) (notFace_of_selects (args := #[]) (mvT hZ (hw _ (List.mem_of_getElem? (i := 52) rfl)))) (mvT hZ (hw _ (List.mem_of_getElem? (i := 52) rfl))) (mvT hZ (hw _ (List.mem_of_getElem? (i := 51) rfl))) (by decide) (backOf (W := 0) (rm_namesItsMembers_1 l Z a0 hw [] w_BLOB r_fixedMembers_BLOB h67 n0 O67  F_fixedMembers_BLOB) hZ (hw _ (List.mem_of_getElem? (i := 53) rfl)) (hw _ (List.mem_of_getElem? (i := 3) rfl)) (by decide) (by decide)) q75a q75c (g := (mkF m 202 #[.val (.int p0), .val (.ref b1), .val (.int (0 : Int32)), .val (.ref w_BLOB), .val (.int (0 : Int32))] [(.ref w_BLOB)])) rfl (by rw [hml]; rfl) (Steps.refl _) (argsL := []) (rest := []) (lenOf pd___Z rfl) rfl (by show 2 * 0 + _ ≤ _; exact Nat.le_of_eq rfl) (hb hby at_202) (fun _ _ => ⟨rfl, e73, (by decide : 1 + 0 ≤ _), (by decide : 22 + 0 ≤ _)⟩)
    dsimp only [Pt.U, Pt.locs, Pt.cells, Pt.slots] at X75 l75 y75 z75 st75 hQ75
    subst l75 y75 z75
    obtain ⟨rfl, N75q, e75⟩ := hQ75
    have N75 := Fr.app N74 N75q
    have pre79 : ∀ t, Steps p.tables e below (T75.setTop (mkF m 215 #[.val (.int p0), .val (.ref b1), .val (.int (0 : Int32)), .val (.ref w_BLOB), .val (.int (0 : Int32))] [(.int (1 : Int32))])) t → Steps p.tables e below (s₁.setTop (entryFrame m #[(.int p0)] maxLocals)) t := by
      intro t kt
      refine pre68 t ?_
      show Steps p.tables e below (T67.setTop (mkF m 162 #[.val (.int p0), .val (.ref b1), .val (.int (0 : Int32)), .unset, .unset] [])) _
      refine XS.aloadN X67.here hx rfl (hb hby at_162) rfl rfl ?_
      show Steps p.tables e below (T67.setTop (mkF m 163 #[.val (.int p0), .val (.ref b1), .val (.int (0 : Int32)), .unset, .unset] [(.ref b1)])) _
      refine XS.iloadN X67.here hx rfl (hb hby at_163) rfl ?_
      show Steps p.tables e below (T67.setTop (mkF m 164 #[.val (.int p0), .val (.ref b1), .val (.int (0 : Int32)), .unset, .unset] [(.int (0 : Int32)), (.ref b1)])) _
      refine X67.aaload hx (j := (0 : Int32)) (v := (.ref w_BLOB)) (by rw [e67]; exact Ar69.1) (State.isArrayOf_alike hZ.alike Ar69.2.1) rfl Ar69.2.2 hin69 hat69 (g := (mkF m 164 #[.val (.int p0), .val (.ref b1), .val (.int (0 : Int32)), .unset, .unset] [(.int (0 : Int32)), (.ref b1)])) rfl rfl (hb hby at_164) _ ?_
      show Steps p.tables e below (T67.setTop (mkF m 165 #[.val (.int p0), .val (.ref b1), .val (.int (0 : Int32)), .unset, .unset] [(.ref w_BLOB)])) _
      refine XS.astoreN X67.here hx rfl (hb hby at_165) rfl rfl (l' := #[.val (.int p0), .val (.ref b1), .val (.int (0 : Int32)), .val (.ref w_BLOB), .unset]) rfl ?_
      show Steps p.tables e below (T67.setTop (mkF m 166 #[.val (.int p0), .val (.ref b1), .val (.int (0 : Int32)), .val (.ref w_BLOB), .unset] [])) _
      refine XS.aloadN X67.here hx rfl (hb hby at_166) rfl rfl ?_
      show Steps p.tables e below (T67.setTop (mkF m 167 #[.val (.int p0), .val (.ref b1), .val (.int (0 : Int32)), .val (.ref w_BLOB), .unset] [(.ref w_BLOB)])) _
      refine st70 _ ?_
      show Steps p.tables e below (T70.setTop (mkF m 170 #[.val (.int p0), .val (.ref b1), .val (.int (0 : Int32)), .val (.ref w_BLOB), .unset] [(.ref w_STRUCTURE), (.ref w_BLOB)])) _
      refine Jvm.RoadKit.acmp (g := (mkF m 170 #[.val (.int p0), .val (.ref b1), .val (.int (0 : Int32)), .val (.ref w_BLOB), .unset] [(.ref w_STRUCTURE), (.ref w_BLOB)])) X70 hx rfl rfl rfl (pc0 := 170) (pc' := 173) (same := false) rfl (hb hby at_170) rfl (decide_eq_false fun q => (Fld.ne F_ordinal_BLOB F_ordinal_STRUCTURE (fun q => absurd (Value.int.inj q) (by decide))) (Value.ref.inj q)) (by decide) (by decide) ?_
      show Steps p.tables e below (T70.setTop (mkF m 173 #[.val (.int p0), .val (.ref b1), .val (.int (0 : Int32)), .val (.ref w_BLOB), .unset] [])) _
      refine XS.aloadN X70.here hx rfl (hb hby at_173) rfl rfl ?_
      show Steps p.tables e below (T70.setTop (mkF m 174 #[.val (.int p0), .val (.ref b1), .val (.int (0 : Int32)), .val (.ref w_BLOB), .unset] [(.ref w_BLOB)])) _
      refine st71 _ ?_
      show Steps p.tables e below (T71.setTop (mkF m 177 #[.val (.int p0), .val (.ref b1), .val (.int (0 : Int32)), .val (.ref w_BLOB), .unset] [(.ref w_UNION), (.ref w_BLOB)])) _
      refine Jvm.RoadKit.acmp (g := (mkF m 177 #[.val (.int p0), .val (.ref b1), .val (.int (0 : Int32)), .val (.ref w_BLOB), .unset] [(.ref w_UNION), (.ref w_BLOB)])) X71 hx rfl rfl rfl (pc0 := 177) (pc' := 180) (same := false) rfl (hb hby at_177) rfl (decide_eq_false fun q => (Fld.ne F_ordinal_BLOB F_ordinal_UNION (fun q => absurd (Value.int.inj q) (by decide))) (Value.ref.inj q)) (by decide) (by decide) ?_
      show Steps p.tables e below (T71.setTop (mkF m 180 #[.val (.int p0), .val (.ref b1), .val (.int (0 : Int32)), .val (.ref w_BLOB), .unset] [])) _
      refine XS.aloadN X71.here hx rfl (hb hby at_180) rfl rfl ?_
      show Steps p.tables e below (T71.setTop (mkF m 181 #[.val (.int p0), .val (.ref b1), .val (.int (0 : Int32)), .val (.ref w_BLOB), .unset] [(.ref w_BLOB)])) _
      refine st72 _ ?_
      show Steps p.tables e below (T72.setTop (mkF m 184 #[.val (.int p0), .val (.ref b1), .val (.int (0 : Int32)), .val (.ref w_BLOB), .unset] [(.ref w_ENUM), (.ref w_BLOB)])) _
      refine Jvm.RoadKit.acmp (g := (mkF m 184 #[.val (.int p0), .val (.ref b1), .val (.int (0 : Int32)), .val (.ref w_BLOB), .unset] [(.ref w_ENUM), (.ref w_BLOB)])) X72 hx rfl rfl rfl (pc0 := 184) (pc' := 187) (same := false) rfl (hb hby at_184) rfl (decide_eq_false fun q => (Fld.ne F_ordinal_BLOB F_ordinal_ENUM (fun q => absurd (Value.int.inj q) (by decide))) (Value.ref.inj q)) (by decide) (by decide) ?_
      show Steps p.tables e below (T72.setTop (mkF m 187 #[.val (.int p0), .val (.ref b1), .val (.int (0 : Int32)), .val (.ref w_BLOB), .unset] [])) _
      refine XS.aloadN X72.here hx rfl (hb hby at_187) rfl rfl ?_
      show Steps p.tables e below (T72.setTop (mkF m 188 #[.val (.int p0), .val (.ref b1), .val (.int (0 : Int32)), .val (.ref w_BLOB), .unset] [(.ref w_BLOB)])) _
      refine st73 _ ?_
      show Steps p.tables e below (T73.setTop (mkF m 191 #[.val (.int p0), .val (.ref b1), .val (.int (0 : Int32)), .val (.ref w_BLOB), .unset] [(.ref w_INT_ENUM), (.ref w_BLOB)])) _
      refine Jvm.RoadKit.acmp (g := (mkF m 191 #[.val (.int p0), .val (.ref b1), .val (.int (0 : Int32)), .val (.ref w_BLOB), .unset] [(.ref w_INT_ENUM), (.ref w_BLOB)])) X73 hx rfl rfl rfl (pc0 := 191) (pc' := 198) (same := false) rfl (hb hby at_191) rfl (decide_eq_false fun q => (Fld.ne F_ordinal_BLOB F_ordinal_INT_ENUM (fun q => absurd (Value.int.inj q) (by decide))) (Value.ref.inj q)) (by decide) (by decide) ?_
      show Steps p.tables e below (T73.setTop (mkF m 198 #[.val (.int p0), .val (.ref b1), .val (.int (0 : Int32)), .val (.ref w_BLOB), .unset] [])) _
      refine XS.iconst X73.here hx rfl (hb hby at_198) ?_
      show Steps p.tables e below (T73.setTop (mkF m 199 #[.val (.int p0), .val (.ref b1), .val (.int (0 : Int32)), .val (.ref w_BLOB), .unset] [(.int (0 : Int32))])) _
      refine XS.istore X73.here hx rfl (hb hby at_199) rfl (l' := #[.val (.int p0), .val (.ref b1), .val (.int (0 : Int32)), .val (.ref w_BLOB), .val (.int (0 : Int32))]) rfl ?_
      show Steps p.tables e below (T73.setTop (mkF m 201 #[.val (.int p0), .val (.ref b1), .val (.int (0 : Int32)), .val (.ref w_BLOB), .val (.int (0 : Int32))] [])) _
      refine XS.aloadN X73.here hx rfl (hb hby at_201) rfl rfl ?_
      show Steps p.tables e below (T73.setTop (mkF m 202 #[.val (.int p0), .val (.ref b1), .val (.int (0 : Int32)), .val (.ref w_BLOB), .val (.int (0 : Int32))] [(.ref w_BLOB)])) _
      refine st75.trans ?_
      show Steps p.tables e below (T75.setTop (mkF m 205 #[.val (.int p0), .val (.ref b1), .val (.int (0 : Int32)), .val (.ref w_BLOB), .val (.int (0 : Int32))] [(.int (0 : Int32))])) _
      refine XS.iload X75.here hx rfl (hb hby at_205) rfl ?_
      show Steps p.tables e below (T75.setTop (mkF m 207 #[.val (.int p0), .val (.ref b1), .val (.int (0 : Int32)), .val (.ref w_BLOB), .val (.int (0 : Int32))] [(.int (0 : Int32)), (.int (0 : Int32))])) _
      refine XS.icmpNo X75.here hx rfl (hb hby at_207) rfl (teq (by decide : (0 : Int32) = (0 : Int32))).2 ?_
      show Steps p.tables e below (T75.setTop (mkF m 210 #[.val (.int p0), .val (.ref b1), .val (.int (0 : Int32)), .val (.ref w_BLOB), .val (.int (0 : Int32))] [])) _
      refine XS.iconst X75.here hx rfl (hb hby at_210) ?_
      show Steps p.tables e below (T75.setTop (mkF m 211 #[.val (.int p0), .val (.ref b1), .val (.int (0 : Int32)), .val (.ref w_BLOB), .val (.int (0 : Int32))] [(.int (1 : Int32))])) _
      refine XS.goto X75.here hx rfl (pc0 := 211) (pc' := 215) rfl (hb hby at_211) (by decide) (by decide) ?_
      exact kt
    obtain ⟨fs, hr, hrun, hended, hW, hsame⟩ := X75.leave (v := some (.int (1 : Int32))) (fun h => by rw [Bd.returns] at h; cases h)
    refine ⟨_, _, pre79 _ ?_, hrun, hended, _, _, rfl, ?_, ⟨_, rfl⟩, hW, hsame.mono (by decide) (by decide)⟩
    · show Steps p.tables e below (T75.setTop (mkF m 215 #[.val (.int p0), .val (.ref b1), .val (.int (0 : Int32)), .val (.ref w_BLOB), .val (.int (0 : Int32))] [(.int (1 : Int32))])) _
      exact retN X75 hx (t := .boolean) Bd.returns (by simp) (hb hby at_215) hr
    · show Q_rm0 Z p0 w_BLOB w_BOOLEAN w_DOCUMENT w_STRING w_BYTE w_SHORT w_INTEGER w_LONG w_FLOAT w_DOUBLE w_BIG_INTEGER w_BIG_DECIMAL w_TIMESTAMP w_ENUM w_INT_ENUM w_LIST w_MAP w_STRUCTURE w_UNION w_SERVICE w_OPERATION w_RESOURCE r_fixedMembers_BLOB r_fixedMembers_LIST r_fixedMembers_MAP h0 n0 _ T75.heap _
      rw [e75]
      exact ⟨rfl, N75⟩
  · rw [hk] at pre68
    have vt80 := V_b1
    obtain ⟨cl80, Ar80, q80, S80, Ng80, Ha80, G80⟩ := vt80
    have hin80 : ¬ ((1 : Int32) < 0 ∨ cl80.slots.size ≤ ((1 : Int32)).toNatClampNeg) := inb_of S80 ⟨by decide, by decide⟩
    have hat80 : cl80.slots[((1 : Int32)).toNatClampNeg]? = some (.ref w_BOOLEAN) := Ha80.at hin80 rfl
    obtain ⟨T81, X81, e81, st81⟩ := getS2 X67 hx hZ hown (host := "") (Or.inl (hw _ (List.mem_of_getElem? (i := 38) rfl))) Via.refl e67 (S_STRUCTURE.ext O67.2) (g := (mkF m 167 #[.val (.int p0), .val (.ref b1), .val (.int (1 : Int32)), .val (.ref w_BOOLEAN), .unset] [(.ref w_BOOLEAN)])) rfl (hb hby at_167)
    obtain ⟨T82, X82, e82, st82⟩ := getS2 X81 hx hZ hown (host := "") (Or.inl (hw _ (List.mem_of_getElem? (i := 40) rfl))) Via.refl e81 (S_UNION.ext O67.2) (g := (mkF m 174 #[.val (.int p0), .val (.ref b1), .val (.int (1 : Int32)), .val (.ref w_BOOLEAN), .unset] [(.ref w_BOOLEAN)])) rfl (hb hby at_174)
    obtain ⟨T83, X83, e83, st83⟩ := getS2 X82 hx hZ hown (host := "") (Or.inl (hw _ (List.mem_of_getElem? (i := 30) rfl))) Via.refl e82 (S_ENUM.ext O67.2) (g := (mkF m 181 #[.val (.int p0), .val (.ref b1), .val (.int (1 : Int32)), .val (.ref w_BOOLEAN), .unset] [(.ref w_BOOLEAN)])) rfl (hb hby at_181)
    obtain ⟨T84, X84, e84, st84⟩ := getS2 X83 hx hZ hown (host := "") (Or.inl (hw _ (List.mem_of_getElem? (i := 32) rfl))) Via.refl e83 (S_INT_ENUM.ext O67.2) (g := (mkF m 188 #[.val (.int p0), .val (.ref b1), .val (.int (1 : Int32)), .val (.ref w_BOOLEAN), .unset] [(.ref w_BOOLEAN)])) rfl (hb hby at_188)
    obtain ⟨lc85, X85, N85⟩ := own_pack X84 N67
    obtain ⟨cq86, kq86, q86a, q86b, q86c⟩ := isOf hZ e84 (E_BOOLEAN.ext O67.2)
    obtain ⟨_, _, ⟨T86, L86, k86, n86⟩, -, X86, ⟨Lc86, hQ86, l86, y86, z86⟩, st86⟩ := X85.virtualBack hx (y := (⟨"com/example/shapewright/shapewright/model/ShapeType", "namesItsMembers", "()Z"⟩ : MethodName)) (z := (⟨"com/example/shapewright/shapewright/model/ShapeType", "namesItsMembers", "()Z"⟩ : MethodName)) hown (mvT hZ (hw _ (List.mem_of_getElem? (i := 49) rfl))) (mvT hZ (hw _ (List.mem_of_getElem? (i := 50) rfl))) (notFace_of_selects (args := #[]) (mvT hZ (hw _ (List.mem_of_getElem? (i := 52) rfl)))) (mvT hZ (hw _ (List.mem_of_getElem? (i := 52) rfl))) (mvT hZ (hw _ (List.mem_of_getElem? (i := 51) rfl))) (by decide) (backOf (W := 0) (rm_namesItsMembers_2 l Z a0 hw [] r_fixedMembers_BLOB w_BOOLEAN h67 n0 O67  F_fixedMembers_BOOLEAN) hZ (hw _ (List.mem_of_getElem? (i := 53) rfl)) (hw _ (List.mem_of_getElem? (i := 3) rfl)) (by decide) (by decide)) q86a q86c (g := (mkF m 202 #[.val (.int p0), .val (.ref b1), .val (.int (1 : Int32)), .val (.ref w_BOOLEAN), .val (.int (0 : Int32))] [(.ref w_BOOLEAN)])) rfl (by rw [hml]; rfl) (Steps.refl _) (argsL := []) (rest := []) (lenOf pd___Z rfl) rfl (by show 2 * 0 + _ ≤ _; exact Nat.le_of_eq rfl) (hb hby at_202) (fun _ _ => ⟨rfl, e84, (by decide : 1 + 0 ≤ _), (by decide : 22 + 0 ≤ _)⟩)
    dsimp only [Pt.U, Pt.locs, Pt.cells, Pt.slots] at X86 l86 y86 z86 st86 hQ86
    subst l86 y86 z86
    obtain ⟨rfl, N86q, e86⟩ := hQ86
    have N86 := Fr.app N85 N86q
    have pre90 : ∀ t, Steps p.tables e below (T86.setTop (mkF m 215 #[.val (.int p0), .val (.ref b1), .val (.int (1 : Int32)), .val (.ref w_BOOLEAN), .val (.int (0 : Int32))] [(.int (1 : Int32))])) t → Steps p.tables e below (s₁.setTop (entryFrame m #[(.int p0)] maxLocals)) t := by
      intro t kt
      refine pre68 t ?_
      show Steps p.tables e below (T67.setTop (mkF m 162 #[.val (.int p0), .val (.ref b1), .val (.int (1 : Int32)), .unset, .unset] [])) _
      refine XS.aloadN X67.here hx rfl (hb hby at_162) rfl rfl ?_
      show Steps p.tables e below (T67.setTop (mkF m 163 #[.val (.int p0), .val (.ref b1), .val (.int (1 : Int32)), .unset, .unset] [(.ref b1)])) _
      refine XS.iloadN X67.here hx rfl (hb hby at_163) rfl ?_
      show Steps p.tables e below (T67.setTop (mkF m 164 #[.val (.int p0), .val (.ref b1), .val (.int (1 : Int32)), .unset, .unset] [(.int (1 : Int32)), (.ref b1)])) _
      refine X67.aaload hx (j := (1 : Int32)) (v := (.ref w_BOOLEAN)) (by rw [e67]; exact Ar80.1) (State.isArrayOf_alike hZ.alike Ar80.2.1) rfl Ar80.2.2 hin80 hat80 (g := (mkF m 164 #[.val (.int p0), .val (.ref b1), .val (.int (1 : Int32)), .unset, .unset] [(.int (1 : Int32)), (.ref b1)])) rfl rfl (hb hby at_164) _ ?_
      show Steps p.tables e below (T67.setTop (mkF m 165 #[.val (.int p0), .val (.ref b1), .val (.int (1 : Int32)), .unset, .unset] [(.ref w_BOOLEAN)])) _
      refine XS.astoreN X67.here hx rfl (hb hby at_165) rfl rfl (l' := #[.val (.int p0), .val (.ref b1), .val (.int (1 : Int32)), .val (.ref w_BOOLEAN), .unset]) rfl ?_
      show Steps p.tables e below (T67.setTop (mkF m 166 #[.val (.int p0), .val (.ref b1), .val (.int (1 : Int32)), .val (.ref w_BOOLEAN), .unset] [])) _
      refine XS.aloadN X67.here hx rfl (hb hby at_166) rfl rfl ?_
      show Steps p.tables e below (T67.setTop (mkF m 167 #[.val (.int p0), .val (.ref b1), .val (.int (1 : Int32)), .val (.ref w_BOOLEAN), .unset] [(.ref w_BOOLEAN)])) _
      refine st81 _ ?_
      show Steps p.tables e below (T81.setTop (mkF m 170 #[.val (.int p0), .val (.ref b1), .val (.int (1 : Int32)), .val (.ref w_BOOLEAN), .unset] [(.ref w_STRUCTURE), (.ref w_BOOLEAN)])) _
      refine Jvm.RoadKit.acmp (g := (mkF m 170 #[.val (.int p0), .val (.ref b1), .val (.int (1 : Int32)), .val (.ref w_BOOLEAN), .unset] [(.ref w_STRUCTURE), (.ref w_BOOLEAN)])) X81 hx rfl rfl rfl (pc0 := 170) (pc' := 173) (same := false) rfl (hb hby at_170) rfl (decide_eq_false fun q => (Fld.ne F_ordinal_BOOLEAN F_ordinal_STRUCTURE (fun q => absurd (Value.int.inj q) (by decide))) (Value.ref.inj q)) (by decide) (by decide) ?_
      show Steps p.tables e below (T81.setTop (mkF m 173 #[.val (.int p0), .val (.ref b1), .val (.int (1 : Int32)), .val (.ref w_BOOLEAN), .unset] [])) _
      refine XS.aloadN X81.here hx rfl (hb hby at_173) rfl rfl ?_
      show Steps p.tables e below (T81.setTop (mkF m 174 #[.val (.int p0), .val (.ref b1), .val (.int (1 : Int32)), .val (.ref w_BOOLEAN), .unset] [(.ref w_BOOLEAN)])) _
      refine st82 _ ?_
      show Steps p.tables e below (T82.setTop (mkF m 177 #[.val (.int p0), .val (.ref b1), .val (.int (1 : Int32)), .val (.ref w_BOOLEAN), .unset] [(.ref w_UNION), (.ref w_BOOLEAN)])) _
      refine Jvm.RoadKit.acmp (g := (mkF m 177 #[.val (.int p0), .val (.ref b1), .val (.int (1 : Int32)), .val (.ref w_BOOLEAN), .unset] [(.ref w_UNION), (.ref w_BOOLEAN)])) X82 hx rfl rfl rfl (pc0 := 177) (pc' := 180) (same := false) rfl (hb hby at_177) rfl (decide_eq_false fun q => (Fld.ne F_ordinal_BOOLEAN F_ordinal_UNION (fun q => absurd (Value.int.inj q) (by decide))) (Value.ref.inj q)) (by decide) (by decide) ?_
      show Steps p.tables e below (T82.setTop (mkF m 180 #[.val (.int p0), .val (.ref b1), .val (.int (1 : Int32)), .val (.ref w_BOOLEAN), .unset] [])) _
      refine XS.aloadN X82.here hx rfl (hb hby at_180) rfl rfl ?_
      show Steps p.tables e below (T82.setTop (mkF m 181 #[.val (.int p0), .val (.ref b1), .val (.int (1 : Int32)), .val (.ref w_BOOLEAN), .unset] [(.ref w_BOOLEAN)])) _
      refine st83 _ ?_
      show Steps p.tables e below (T83.setTop (mkF m 184 #[.val (.int p0), .val (.ref b1), .val (.int (1 : Int32)), .val (.ref w_BOOLEAN), .unset] [(.ref w_ENUM), (.ref w_BOOLEAN)])) _
      refine Jvm.RoadKit.acmp (g := (mkF m 184 #[.val (.int p0), .val (.ref b1), .val (.int (1 : Int32)), .val (.ref w_BOOLEAN), .unset] [(.ref w_ENUM), (.ref w_BOOLEAN)])) X83 hx rfl rfl rfl (pc0 := 184) (pc' := 187) (same := false) rfl (hb hby at_184) rfl (decide_eq_false fun q => (Fld.ne F_ordinal_BOOLEAN F_ordinal_ENUM (fun q => absurd (Value.int.inj q) (by decide))) (Value.ref.inj q)) (by decide) (by decide) ?_
      show Steps p.tables e below (T83.setTop (mkF m 187 #[.val (.int p0), .val (.ref b1), .val (.int (1 : Int32)), .val (.ref w_BOOLEAN), .unset] [])) _
      refine XS.aloadN X83.here hx rfl (hb hby at_187) rfl rfl ?_
      show Steps p.tables e below (T83.setTop (mkF m 188 #[.val (.int p0), .val (.ref b1), .val (.int (1 : Int32)), .val (.ref w_BOOLEAN), .unset] [(.ref w_BOOLEAN)])) _
      refine st84 _ ?_
      show Steps p.tables e below (T84.setTop (mkF m 191 #[.val (.int p0), .val (.ref b1), .val (.int (1 : Int32)), .val (.ref w_BOOLEAN), .unset] [(.ref w_INT_ENUM), (.ref w_BOOLEAN)])) _
      refine Jvm.RoadKit.acmp (g := (mkF m 191 #[.val (.int p0), .val (.ref b1), .val (.int (1 : Int32)), .val (.ref w_BOOLEAN), .unset] [(.ref w_INT_ENUM), (.ref w_BOOLEAN)])) X84 hx rfl rfl rfl (pc0 := 191) (pc' := 198) (same := false) rfl (hb hby at_191) rfl (decide_eq_false fun q => (Fld.ne F_ordinal_BOOLEAN F_ordinal_INT_ENUM (fun q => absurd (Value.int.inj q) (by decide))) (Value.ref.inj q)) (by decide) (by decide) ?_
      show Steps p.tables e below (T84.setTop (mkF m 198 #[.val (.int p0), .val (.ref b1), .val (.int (1 : Int32)), .val (.ref w_BOOLEAN), .unset] [])) _
      refine XS.iconst X84.here hx rfl (hb hby at_198) ?_
      show Steps p.tables e below (T84.setTop (mkF m 199 #[.val (.int p0), .val (.ref b1), .val (.int (1 : Int32)), .val (.ref w_BOOLEAN), .unset] [(.int (0 : Int32))])) _
      refine XS.istore X84.here hx rfl (hb hby at_199) rfl (l' := #[.val (.int p0), .val (.ref b1), .val (.int (1 : Int32)), .val (.ref w_BOOLEAN), .val (.int (0 : Int32))]) rfl ?_
      show Steps p.tables e below (T84.setTop (mkF m 201 #[.val (.int p0), .val (.ref b1), .val (.int (1 : Int32)), .val (.ref w_BOOLEAN), .val (.int (0 : Int32))] [])) _
      refine XS.aloadN X84.here hx rfl (hb hby at_201) rfl rfl ?_
      show Steps p.tables e below (T84.setTop (mkF m 202 #[.val (.int p0), .val (.ref b1), .val (.int (1 : Int32)), .val (.ref w_BOOLEAN), .val (.int (0 : Int32))] [(.ref w_BOOLEAN)])) _
      refine st86.trans ?_
      show Steps p.tables e below (T86.setTop (mkF m 205 #[.val (.int p0), .val (.ref b1), .val (.int (1 : Int32)), .val (.ref w_BOOLEAN), .val (.int (0 : Int32))] [(.int (0 : Int32))])) _
      refine XS.iload X86.here hx rfl (hb hby at_205) rfl ?_
      show Steps p.tables e below (T86.setTop (mkF m 207 #[.val (.int p0), .val (.ref b1), .val (.int (1 : Int32)), .val (.ref w_BOOLEAN), .val (.int (0 : Int32))] [(.int (0 : Int32)), (.int (0 : Int32))])) _
      refine XS.icmpNo X86.here hx rfl (hb hby at_207) rfl (teq (by decide : (0 : Int32) = (0 : Int32))).2 ?_
      show Steps p.tables e below (T86.setTop (mkF m 210 #[.val (.int p0), .val (.ref b1), .val (.int (1 : Int32)), .val (.ref w_BOOLEAN), .val (.int (0 : Int32))] [])) _
      refine XS.iconst X86.here hx rfl (hb hby at_210) ?_
      show Steps p.tables e below (T86.setTop (mkF m 211 #[.val (.int p0), .val (.ref b1), .val (.int (1 : Int32)), .val (.ref w_BOOLEAN), .val (.int (0 : Int32))] [(.int (1 : Int32))])) _
      refine XS.goto X86.here hx rfl (pc0 := 211) (pc' := 215) rfl (hb hby at_211) (by decide) (by decide) ?_
      exact kt
    obtain ⟨fs, hr, hrun, hended, hW, hsame⟩ := X86.leave (v := some (.int (1 : Int32))) (fun h => by rw [Bd.returns] at h; cases h)
    refine ⟨_, _, pre90 _ ?_, hrun, hended, _, _, rfl, ?_, ⟨_, rfl⟩, hW, hsame.mono (by decide) (by decide)⟩
    · show Steps p.tables e below (T86.setTop (mkF m 215 #[.val (.int p0), .val (.ref b1), .val (.int (1 : Int32)), .val (.ref w_BOOLEAN), .val (.int (0 : Int32))] [(.int (1 : Int32))])) _
      exact retN X86 hx (t := .boolean) Bd.returns (by simp) (hb hby at_215) hr
    · show Q_rm0 Z p0 w_BLOB w_BOOLEAN w_DOCUMENT w_STRING w_BYTE w_SHORT w_INTEGER w_LONG w_FLOAT w_DOUBLE w_BIG_INTEGER w_BIG_DECIMAL w_TIMESTAMP w_ENUM w_INT_ENUM w_LIST w_MAP w_STRUCTURE w_UNION w_SERVICE w_OPERATION w_RESOURCE r_fixedMembers_BLOB r_fixedMembers_LIST r_fixedMembers_MAP h0 n0 _ T86.heap _
      rw [e86]
      exact ⟨rfl, N86⟩
  · rw [hk] at pre68
    have vt91 := V_b1
    obtain ⟨cl91, Ar91, q91, S91, Ng91, Ha91, G91⟩ := vt91
    have hin91 : ¬ ((2 : Int32) < 0 ∨ cl91.slots.size ≤ ((2 : Int32)).toNatClampNeg) := inb_of S91 ⟨by decide, by decide⟩
    have hat91 : cl91.slots[((2 : Int32)).toNatClampNeg]? = some (.ref w_DOCUMENT) := Ha91.at hin91 rfl
    obtain ⟨T92, X92, e92, st92⟩ := getS2 X67 hx hZ hown (host := "") (Or.inl (hw _ (List.mem_of_getElem? (i := 38) rfl))) Via.refl e67 (S_STRUCTURE.ext O67.2) (g := (mkF m 167 #[.val (.int p0), .val (.ref b1), .val (.int (2 : Int32)), .val (.ref w_DOCUMENT), .unset] [(.ref w_DOCUMENT)])) rfl (hb hby at_167)
    obtain ⟨T93, X93, e93, st93⟩ := getS2 X92 hx hZ hown (host := "") (Or.inl (hw _ (List.mem_of_getElem? (i := 40) rfl))) Via.refl e92 (S_UNION.ext O67.2) (g := (mkF m 174 #[.val (.int p0), .val (.ref b1), .val (.int (2 : Int32)), .val (.ref w_DOCUMENT), .unset] [(.ref w_DOCUMENT)])) rfl (hb hby at_174)
    obtain ⟨T94, X94, e94, st94⟩ := getS2 X93 hx hZ hown (host := "") (Or.inl (hw _ (List.mem_of_getElem? (i := 30) rfl))) Via.refl e93 (S_ENUM.ext O67.2) (g := (mkF m 181 #[.val (.int p0), .val (.ref b1), .val (.int (2 : Int32)), .val (.ref w_DOCUMENT), .unset] [(.ref w_DOCUMENT)])) rfl (hb hby at_181)
    obtain ⟨T95, X95, e95, st95⟩ := getS2 X94 hx hZ hown (host := "") (Or.inl (hw _ (List.mem_of_getElem? (i := 32) rfl))) Via.refl e94 (S_INT_ENUM.ext O67.2) (g := (mkF m 188 #[.val (.int p0), .val (.ref b1), .val (.int (2 : Int32)), .val (.ref w_DOCUMENT), .unset] [(.ref w_DOCUMENT)])) rfl (hb hby at_188)
    obtain ⟨lc96, X96, N96⟩ := own_pack X95 N67
    obtain ⟨cq97, kq97, q97a, q97b, q97c⟩ := isOf hZ e95 (E_DOCUMENT.ext O67.2)
    obtain ⟨_, _, ⟨T97, L97, k97, n97⟩, -, X97, ⟨Lc97, hQ97, l97, y97, z97⟩, st97⟩ := X96.virtualBack hx (y := (⟨"com/example/shapewright/shapewright/model/ShapeType", "namesItsMembers", "()Z"⟩ : MethodName)) (z := (⟨"com/example/shapewright/shapewright/model/ShapeType", "namesItsMembers", "()Z"⟩ : MethodName)) hown (mvT hZ (hw _ (List.mem_of_getElem? (i := 49) rfl))) (mvT hZ (hw _ (List.mem_of_getElem? (i := 50) rfl))) (notFace_of_selects (args := #[]) (mvT hZ (hw _ (List.mem_of_getElem? (i := 52) rfl)))) (mvT hZ (hw _ (List.mem_of_getElem? (i := 52) rfl))) (mvT hZ (hw _ (List.mem_of_getElem? (i := 51) rfl))) (by decide) (backOf (W := 0) (rm_namesItsMembers_3 l Z a0 hw [] w_DOCUMENT r_fixedMembers_BLOB h67 n0 O67  F_fixedMembers_DOCUMENT) hZ (hw _ (List.mem_of_getElem? (i := 53) rfl)) (hw _ (List.mem_of_getElem? (i := 3) rfl)) (by decide) (by decide)) q97a q97c (g := (mkF m 202 #[.val (.int p0), .val (.ref b1), .val (.int (2 : Int32)), .val (.ref w_DOCUMENT), .val (.int (0 : Int32))] [(.ref w_DOCUMENT)])) rfl (by rw [hml]; rfl) (Steps.refl _) (argsL := []) (rest := []) (lenOf pd___Z rfl) rfl (by show 2 * 0 + _ ≤ _; exact Nat.le_of_eq rfl) (hb hby at_202) (fun _ _ => ⟨rfl, e95, (by decide : 1 + 0 ≤ _), (by decide : 22 + 0 ≤ _)⟩)
    dsimp only [Pt.U, Pt.locs, Pt.cells, Pt.slots] at X97 l97 y97 z97 st97 hQ97
    subst l97 y97 z97
    obtain ⟨rfl, N97q, e97⟩ := hQ97
    have N97 := Fr.app N96 N97q
    have pre101 : ∀ t, Steps p.tables e below (T97.setTop (mkF m 215 #[.val (.int p0), .val (.ref b1), .val (.int (2 : Int32)), .val (.ref w_DOCUMENT), .val (.int (0 : Int32))] [(.int (1 : Int32))])) t → Steps p.tables e below (s₁.setTop (entryFrame m #[(.int p0)] maxLocals)) t := by
      intro t kt
      refine pre68 t ?_
      show Steps p.tables e below (T67.setTop (mkF m 162 #[.val (.int p0), .val (.ref b1), .val (.int (2 : Int32)), .unset, .unset] [])) _
      refine XS.aloadN X67.here hx rfl (hb hby at_162) rfl rfl ?_
      show Steps p.tables e below (T67.setTop (mkF m 163 #[.val (.int p0), .val (.ref b1), .val (.int (2 : Int32)), .unset, .unset] [(.ref b1)])) _
      refine XS.iloadN X67.here hx rfl (hb hby at_163) rfl ?_
      show Steps p.tables e below (T67.setTop (mkF m 164 #[.val (.int p0), .val (.ref b1), .val (.int (2 : Int32)), .unset, .unset] [(.int (2 : Int32)), (.ref b1)])) _
      refine X67.aaload hx (j := (2 : Int32)) (v := (.ref w_DOCUMENT)) (by rw [e67]; exact Ar91.1) (State.isArrayOf_alike hZ.alike Ar91.2.1) rfl Ar91.2.2 hin91 hat91 (g := (mkF m 164 #[.val (.int p0), .val (.ref b1), .val (.int (2 : Int32)), .unset, .unset] [(.int (2 : Int32)), (.ref b1)])) rfl rfl (hb hby at_164) _ ?_
      show Steps p.tables e below (T67.setTop (mkF m 165 #[.val (.int p0), .val (.ref b1), .val (.int (2 : Int32)), .unset, .unset] [(.ref w_DOCUMENT)])) _
      refine XS.astoreN X67.here hx rfl (hb hby at_165) rfl rfl (l' := #[.val (.int p0), .val (.ref b1), .val (.int (2 : Int32)), .val (.ref w_DOCUMENT), .unset]) rfl ?_
      show Steps p.tables e below (T67.setTop (mkF m 166 #[.val (.int p0), .val (.ref b1), .val (.int (2 : Int32)), .val (.ref w_DOCUMENT), .unset] [])) _
      refine XS.aloadN X67.here hx rfl (hb hby at_166) rfl rfl ?_
      show Steps p.tables e below (T67.setTop (mkF m 167 #[.val (.int p0), .val (.ref b1), .val (.int (2 : Int32)), .val (.ref w_DOCUMENT), .unset] [(.ref w_DOCUMENT)])) _
      refine st92 _ ?_
      show Steps p.tables e below (T92.setTop (mkF m 170 #[.val (.int p0), .val (.ref b1), .val (.int (2 : Int32)), .val (.ref w_DOCUMENT), .unset] [(.ref w_STRUCTURE), (.ref w_DOCUMENT)])) _
      refine Jvm.RoadKit.acmp (g := (mkF m 170 #[.val (.int p0), .val (.ref b1), .val (.int (2 : Int32)), .val (.ref w_DOCUMENT), .unset] [(.ref w_STRUCTURE), (.ref w_DOCUMENT)])) X92 hx rfl rfl rfl (pc0 := 170) (pc' := 173) (same := false) rfl (hb hby at_170) rfl (decide_eq_false fun q => (Fld.ne F_ordinal_DOCUMENT F_ordinal_STRUCTURE (fun q => absurd (Value.int.inj q) (by decide))) (Value.ref.inj q)) (by decide) (by decide) ?_
      show Steps p.tables e below (T92.setTop (mkF m 173 #[.val (.int p0), .val (.ref b1), .val (.int (2 : Int32)), .val (.ref w_DOCUMENT), .unset] [])) _
      refine XS.aloadN X92.here hx rfl (hb hby at_173) rfl rfl ?_
      show Steps p.tables e below (T92.setTop (mkF m 174 #[.val (.int p0), .val (.ref b1), .val (.int (2 : Int32)), .val (.ref w_DOCUMENT), .unset] [(.ref w_DOCUMENT)])) _
      refine st93 _ ?_
      show Steps p.tables e below (T93.setTop (mkF m 177 #[.val (.int p0), .val (.ref b1), .val (.int (2 : Int32)), .val (.ref w_DOCUMENT), .unset] [(.ref w_UNION), (.ref w_DOCUMENT)])) _
      refine Jvm.RoadKit.acmp (g := (mkF m 177 #[.val (.int p0), .val (.ref b1), .val (.int (2 : Int32)), .val (.ref w_DOCUMENT), .unset] [(.ref w_UNION), (.ref w_DOCUMENT)])) X93 hx rfl rfl rfl (pc0 := 177) (pc' := 180) (same := false) rfl (hb hby at_177) rfl (decide_eq_false fun q => (Fld.ne F_ordinal_DOCUMENT F_ordinal_UNION (fun q => absurd (Value.int.inj q) (by decide))) (Value.ref.inj q)) (by decide) (by decide) ?_
      show Steps p.tables e below (T93.setTop (mkF m 180 #[.val (.int p0), .val (.ref b1), .val (.int (2 : Int32)), .val (.ref w_DOCUMENT), .unset] [])) _
      refine XS.aloadN X93.here hx rfl (hb hby at_180) rfl rfl ?_
      show Steps p.tables e below (T93.setTop (mkF m 181 #[.val (.int p0), .val (.ref b1), .val (.int (2 : Int32)), .val (.ref w_DOCUMENT), .unset] [(.ref w_DOCUMENT)])) _
      refine st94 _ ?_
      show Steps p.tables e below (T94.setTop (mkF m 184 #[.val (.int p0), .val (.ref b1), .val (.int (2 : Int32)), .val (.ref w_DOCUMENT), .unset] [(.ref w_ENUM), (.ref w_DOCUMENT)])) _
      refine Jvm.RoadKit.acmp (g := (mkF m 184 #[.val (.int p0), .val (.ref b1), .val (.int (2 : Int32)), .val (.ref w_DOCUMENT), .unset] [(.ref w_ENUM), (.ref w_DOCUMENT)])) X94 hx rfl rfl rfl (pc0 := 184) (pc' := 187) (same := false) rfl (hb hby at_184) rfl (decide_eq_false fun q => (Fld.ne F_ordinal_DOCUMENT F_ordinal_ENUM (fun q => absurd (Value.int.inj q) (by decide))) (Value.ref.inj q)) (by decide) (by decide) ?_
      show Steps p.tables e below (T94.setTop (mkF m 187 #[.val (.int p0), .val (.ref b1), .val (.int (2 : Int32)), .val (.ref w_DOCUMENT), .unset] [])) _
      refine XS.aloadN X94.here hx rfl (hb hby at_187) rfl rfl ?_
      show Steps p.tables e below (T94.setTop (mkF m 188 #[.val (.int p0), .val (.ref b1), .val (.int (2 : Int32)), .val (.ref w_DOCUMENT), .unset] [(.ref w_DOCUMENT)])) _
      refine st95 _ ?_
      show Steps p.tables e below (T95.setTop (mkF m 191 #[.val (.int p0), .val (.ref b1), .val (.int (2 : Int32)), .val (.ref w_DOCUMENT), .unset] [(.ref w_INT_ENUM), (.ref w_DOCUMENT)])) _
      refine Jvm.RoadKit.acmp (g := (mkF m 191 #[.val (.int p0), .val (.ref b1), .val (.int (2 : Int32)), .val (.ref w_DOCUMENT), .unset] [(.ref w_INT_ENUM), (.ref w_DOCUMENT)])) X95 hx rfl rfl rfl (pc0 := 191) (pc' := 198) (same := false) rfl (hb hby at_191) rfl (decide_eq_false fun q => (Fld.ne F_ordinal_DOCUMENT F_ordinal_INT_ENUM (fun q => absurd (Value.int.inj q) (by decide))) (Value.ref.inj q)) (by decide) (by decide) ?_
      show Steps p.tables e below (T95.setTop (mkF m 198 #[.val (.int p0), .val (.ref b1), .val (.int (2 : Int32)), .val (.ref w_DOCUMENT), .unset] [])) _
      refine XS.iconst X95.here hx rfl (hb hby at_198) ?_
      show Steps p.tables e below (T95.setTop (mkF m 199 #[.val (.int p0), .val (.ref b1), .val (.int (2 : Int32)), .val (.ref w_DOCUMENT), .unset] [(.int (0 : Int32))])) _
      refine XS.istore X95.here hx rfl (hb hby at_199) rfl (l' := #[.val (.int p0), .val (.ref b1), .val (.int (2 : Int32)), .val (.ref w_DOCUMENT), .val (.int (0 : Int32))]) rfl ?_
      show Steps p.tables e below (T95.setTop (mkF m 201 #[.val (.int p0), .val (.ref b1), .val (.int (2 : Int32)), .val (.ref w_DOCUMENT), .val (.int (0 : Int32))] [])) _
      refine XS.aloadN X95.here hx rfl (hb hby at_201) rfl rfl ?_
      show Steps p.tables e below (T95.setTop (mkF m 202 #[.val (.int p0), .val (.ref b1), .val (.int (2 : Int32)), .val (.ref w_DOCUMENT), .val (.int (0 : Int32))] [(.ref w_DOCUMENT)])) _
      refine st97.trans ?_
      show Steps p.tables e below (T97.setTop (mkF m 205 #[.val (.int p0), .val (.ref b1), .val (.int (2 : Int32)), .val (.ref w_DOCUMENT), .val (.int (0 : Int32))] [(.int (0 : Int32))])) _
      refine XS.iload X97.here hx rfl (hb hby at_205) rfl ?_
      show Steps p.tables e below (T97.setTop (mkF m 207 #[.val (.int p0), .val (.ref b1), .val (.int (2 : Int32)), .val (.ref w_DOCUMENT), .val (.int (0 : Int32))] [(.int (0 : Int32)), (.int (0 : Int32))])) _
      refine XS.icmpNo X97.here hx rfl (hb hby at_207) rfl (teq (by decide : (0 : Int32) = (0 : Int32))).2 ?_
      show Steps p.tables e below (T97.setTop (mkF m 210 #[.val (.int p0), .val (.ref b1), .val (.int (2 : Int32)), .val (.ref w_DOCUMENT), .val (.int (0 : Int32))] [])) _
      refine XS.iconst X97.here hx rfl (hb hby at_210) ?_
      show Steps p.tables e below (T97.setTop (mkF m 211 #[.val (.int p0), .val (.ref b1), .val (.int (2 : Int32)), .val (.ref w_DOCUMENT), .val (.int (0 : Int32))] [(.int (1 : Int32))])) _
      refine XS.goto X97.here hx rfl (pc0 := 211) (pc' := 215) rfl (hb hby at_211) (by decide) (by decide) ?_
      exact kt
    obtain ⟨fs, hr, hrun, hended, hW, hsame⟩ := X97.leave (v := some (.int (1 : Int32))) (fun h => by rw [Bd.returns] at h; cases h)
    refine ⟨_, _, pre101 _ ?_, hrun, hended, _, _, rfl, ?_, ⟨_, rfl⟩, hW, hsame.mono (by decide) (by decide)⟩
    · show Steps p.tables e below (T97.setTop (mkF m 215 #[.val (.int p0), .val (.ref b1), .val (.int (2 : Int32)), .val (.ref w_DOCUMENT), .val (.int (0 : Int32))] [(.int (1 : Int32))])) _
      exact retN X97 hx (t := .boolean) Bd.returns (by simp) (hb hby at_215) hr
    · show Q_rm0 Z p0 w_BLOB w_BOOLEAN w_DOCUMENT w_STRING w_BYTE w_SHORT w_INTEGER w_LONG w_FLOAT w_DOUBLE w_BIG_INTEGER w_BIG_DECIMAL w_TIMESTAMP w_ENUM w_INT_ENUM w_LIST w_MAP w_STRUCTURE w_UNION w_SERVICE w_OPERATION w_RESOURCE r_fixedMembers_BLOB r_fixedMembers_LIST r_fixedMembers_MAP h0 n0 _ T97.heap _
      rw [e97]
      exact ⟨rfl, N97⟩
  · rw [hk] at pre68
    have vt102 := V_b1
    obtain ⟨cl102, Ar102, q102, S102, Ng102, Ha102, G102⟩ := vt102
    have hin102 : ¬ ((3 : Int32) < 0 ∨ cl102.slots.size ≤ ((3 : Int32)).toNatClampNeg) := inb_of S102 ⟨by decide, by decide⟩
    have hat102 : cl102.slots[((3 : Int32)).toNatClampNeg]? = some (.ref w_STRING) := Ha102.at hin102 rfl
    obtain ⟨T103, X103, e103, st103⟩ := getS2 X67 hx hZ hown (host := "") (Or.inl (hw _ (List.mem_of_getElem? (i := 38) rfl))) Via.refl e67 (S_STRUCTURE.ext O67.2) (g := (mkF m 167 #[.val (.int p0), .val (.ref b1), .val (.int (3 : Int32)), .val (.ref w_STRING), .unset] [(.ref w_STRING)])) rfl (hb hby at_167)
    obtain ⟨T104, X104, e104, st104⟩ := getS2 X103 hx hZ hown (host := "") (Or.inl (hw _ (List.mem_of_getElem? (i := 40) rfl))) Via.refl e103 (S_UNION.ext O67.2) (g := (mkF m 174 #[.val (.int p0), .val (.ref b1), .val (.int (3 : Int32)), .val (.ref w_STRING), .unset] [(.ref w_STRING)])) rfl (hb hby at_174)
    obtain ⟨T105, X105, e105, st105⟩ := getS2 X104 hx hZ hown (host := "") (Or.inl (hw _ (List.mem_of_getElem? (i := 30) rfl))) Via.refl e104 (S_ENUM.ext O67.2) (g := (mkF m 181 #[.val (.int p0), .val (.ref b1), .val (.int (3 : Int32)), .val (.ref w_STRING), .unset] [(.ref w_STRING)])) rfl (hb hby at_181)
    obtain ⟨T106, X106, e106, st106⟩ := getS2 X105 hx hZ hown (host := "") (Or.inl (hw _ (List.mem_of_getElem? (i := 32) rfl))) Via.refl e105 (S_INT_ENUM.ext O67.2) (g := (mkF m 188 #[.val (.int p0), .val (.ref b1), .val (.int (3 : Int32)), .val (.ref w_STRING), .unset] [(.ref w_STRING)])) rfl (hb hby at_188)
    obtain ⟨lc107, X107, N107⟩ := own_pack X106 N67
    obtain ⟨cq108, kq108, q108a, q108b, q108c⟩ := isOf hZ e106 (E_STRING.ext O67.2)
    obtain ⟨_, _, ⟨T108, L108, k108, n108⟩, -, X108, ⟨Lc108, hQ108, l108, y108, z108⟩, st108⟩ := X107.virtualBack hx (y := (⟨"com/example/shapewright/shapewright/model/ShapeType", "namesItsMembers", "()Z"⟩ : MethodName)) (z := (⟨"com/example/shapewright/shapewright/model/ShapeType", "namesItsMembers", "()Z"⟩ : MethodName)) hown (mvT hZ (hw _ (List.mem_of_getElem? (i := 49) rfl))) (mvT hZ (hw _ (List.mem_of_getElem? (i := 50) rfl))) (notFace_of_selects (args := #[]) (mvT hZ (hw _ (List.mem_of_getElem? (i := 52) rfl)))) (mvT hZ (hw _ (List.mem_of_getElem? (i := 52) rfl))) (mvT hZ (hw _ (List.mem_of_getElem? (i := 51) rfl))) (by decide) (backOf (W := 0) (rm_namesItsMembers_4 l Z a0 hw [] r_fixedMembers_BLOB w_STRING h67 n0 O67  F_fixedMembers_STRING) hZ (hw _ (List.mem_of_getElem? (i := 53) rfl)) (hw _ (List.mem_of_getElem? (i := 3) rfl)) (by decide) (by decide)) q108a q108c (g := (mkF m 202 #[.val (.int p0), .val (.ref b1), .val (.int (3 : Int32)), .val (.ref w_STRING), .val (.int (0 : Int32))] [(.ref w_STRING)])) rfl (by rw [hml]; rfl) (Steps.refl _) (argsL := []) (rest := []) (lenOf pd___Z rfl) rfl (by show 2 * 0 + _ ≤ _; exact Nat.le_of_eq rfl) (hb hby at_202) (fun _ _ => ⟨rfl, e106, (by decide : 1 + 0 ≤ _), (by decide : 22 + 0 ≤ _)⟩)
    dsimp only [Pt.U, Pt.locs, Pt.cells, Pt.slots] at X108 l108 y108 z108 st108 hQ108
    subst l108 y108 z108
    obtain ⟨rfl, N108q, e108⟩ := hQ108
    have N108 := Fr.app N107 N108q
    have pre112 : ∀ t, Steps p.tables e below (T108.setTop (mkF m 215 #[.val (.int p0), .val (.ref b1), .val (.int (3 : Int32)), .val (.ref w_STRING), .val (.int (0 : Int32))] [(.int (1 : Int32))])) t → Steps p.tables e below (s₁.setTop (entryFrame m #[(.int p0)] maxLocals)) t := by
      intro t kt
      refine pre68 t ?_
      show Steps p.tables e below (T67.setTop (mkF m 162 #[.val (.int p0), .val (.ref b1), .val (.int (3 : Int32)), .unset, .unset] [])) _
      refine XS.aloadN X67.here hx rfl (hb hby at_162) rfl rfl ?_
      show Steps p.tables e below (T67.setTop (mkF m 163 #[.val (.int p0), .val (.ref b1), .val (.int (3 : Int32)), .unset, .unset] [(.ref b1)])) _
      refine XS.iloadN X67.here hx rfl (hb hby at_163) rfl ?_
      show Steps p.tables e below (T67.setTop (mkF m 164 #[.val (.int p0), .val (.ref b1), .val (.int (3 : Int32)), .unset, .unset] [(.int (3 : Int32)), (.ref b1)])) _
      refine X67.aaload hx (j := (3 : Int32)) (v := (.ref w_STRING)) (by rw [e67]; exact Ar102.1) (State.isArrayOf_alike hZ.alike Ar102.2.1) rfl Ar102.2.2 hin102 hat102 (g := (mkF m 164 #[.val (.int p0), .val (.ref b1), .val (.int (3 : Int32)), .unset, .unset] [(.int (3 : Int32)), (.ref b1)])) rfl rfl (hb hby at_164) _ ?_
      show Steps p.tables e below (T67.setTop (mkF m 165 #[.val (.int p0), .val (.ref b1), .val (.int (3 : Int32)), .unset, .unset] [(.ref w_STRING)])) _
      refine XS.astoreN X67.here hx rfl (hb hby at_165) rfl rfl (l' := #[.val (.int p0), .val (.ref b1), .val (.int (3 : Int32)), .val (.ref w_STRING), .unset]) rfl ?_
      show Steps p.tables e below (T67.setTop (mkF m 166 #[.val (.int p0), .val (.ref b1), .val (.int (3 : Int32)), .val (.ref w_STRING), .unset] [])) _
      refine XS.aloadN X67.here hx rfl (hb hby at_166) rfl rfl ?_
      show Steps p.tables e below (T67.setTop (mkF m 167 #[.val (.int p0), .val (.ref b1), .val (.int (3 : Int32)), .val (.ref w_STRING), .unset] [(.ref w_STRING)])) _
      refine st103 _ ?_
      show Steps p.tables e below (T103.setTop (mkF m 170 #[.val (.int p0), .val (.ref b1), .val (.int (3 : Int32)), .val (.ref w_STRING), .unset] [(.ref w_STRUCTURE), (.ref w_STRING)])) _
      refine Jvm.RoadKit.acmp (g := (mkF m 170 #[.val (.int p0), .val (.ref b1), .val (.int (3 : Int32)), .val (.ref w_STRING), .unset] [(.ref w_STRUCTURE), (.ref w_STRING)])) X103 hx rfl rfl rfl (pc0 := 170) (pc' := 173) (same := false) rfl (hb hby at_170) rfl (decide_eq_false fun q => (Fld.ne F_ordinal_STRING F_ordinal_STRUCTURE (fun q => absurd (Value.int.inj q) (by decide))) (Value.ref.inj q)) (by decide) (by decide) ?_
      show Steps p.tables e below (T103.setTop (mkF m 173 #[.val (.int p0), .val (.ref b1), .val (.int (3 : Int32)), .val (.ref w_STRING), .unset] [])) _
      refine XS.aloadN X103.here hx rfl (hb hby at_173) rfl rfl ?_
      show Steps p.tables e below (T103.setTop (mkF m 174 #[.val (.int p0), .val (.ref b1), .val (.int (3 : Int32)), .val (.ref w_STRING), .unset] [(.ref w_STRING)])) _
      refine st104 _ ?_
      show Steps p.tables e below (T104.setTop (mkF m 177 #[.val (.int p0), .val (.ref b1), .val (.int (3 : Int32)), .val (.ref w_STRING), .unset] [(.ref w_UNION), (.ref w_STRING)])) _
      refine Jvm.RoadKit.acmp (g := (mkF m 177 #[.val (.int p0), .val (.ref b1), .val (.int (3 : Int32)), .val (.ref w_STRING), .unset] [(.ref w_UNION), (.ref w_STRING)])) X104 hx rfl rfl rfl (pc0 := 177) (pc' := 180) (same := false) rfl (hb hby at_177) rfl (decide_eq_false fun q => (Fld.ne F_ordinal_STRING F_ordinal_UNION (fun q => absurd (Value.int.inj q) (by decide))) (Value.ref.inj q)) (by decide) (by decide) ?_
      show Steps p.tables e below (T104.setTop (mkF m 180 #[.val (.int p0), .val (.ref b1), .val (.int (3 : Int32)), .val (.ref w_STRING), .unset] [])) _
      refine XS.aloadN X104.here hx rfl (hb hby at_180) rfl rfl ?_
      show Steps p.tables e below (T104.setTop (mkF m 181 #[.val (.int p0), .val (.ref b1), .val (.int (3 : Int32)), .val (.ref w_STRING), .unset] [(.ref w_STRING)])) _
      refine st105 _ ?_
      show Steps p.tables e below (T105.setTop (mkF m 184 #[.val (.int p0), .val (.ref b1), .val (.int (3 : Int32)), .val (.ref w_STRING), .unset] [(.ref w_ENUM), (.ref w_STRING)])) _
      refine Jvm.RoadKit.acmp (g := (mkF m 184 #[.val (.int p0), .val (.ref b1), .val (.int (3 : Int32)), .val (.ref w_STRING), .unset] [(.ref w_ENUM), (.ref w_STRING)])) X105 hx rfl rfl rfl (pc0 := 184) (pc' := 187) (same := false) rfl (hb hby at_184) rfl (decide_eq_false fun q => (Fld.ne F_ordinal_STRING F_ordinal_ENUM (fun q => absurd (Value.int.inj q) (by decide))) (Value.ref.inj q)) (by decide) (by decide) ?_
      show Steps p.tables e below (T105.setTop (mkF m 187 #[.val (.int p0), .val (.ref b1), .val (.int (3 : Int32)), .val (.ref w_STRING), .unset] [])) _
      refine XS.aloadN X105.here hx rfl (hb hby at_187) rfl rfl ?_
      show Steps p.tables e below (T105.setTop (mkF m 188 #[.val (.int p0), .val (.ref b1), .val (.int (3 : Int32)), .val (.ref w_STRING), .unset] [(.ref w_STRING)])) _
      refine st106 _ ?_
      show Steps p.tables e below (T106.setTop (mkF m 191 #[.val (.int p0), .val (.ref b1), .val (.int (3 : Int32)), .val (.ref w_STRING), .unset] [(.ref w_INT_ENUM), (.ref w_STRING)])) _
      refine Jvm.RoadKit.acmp (g := (mkF m 191 #[.val (.int p0), .val (.ref b1), .val (.int (3 : Int32)), .val (.ref w_STRING), .unset] [(.ref w_INT_ENUM), (.ref w_STRING)])) X106 hx rfl rfl rfl (pc0 := 191) (pc' := 198) (same := false) rfl (hb hby at_191) rfl (decide_eq_false fun q => (Fld.ne F_ordinal_STRING F_ordinal_INT_ENUM (fun q => absurd (Value.int.inj q) (by decide))) (Value.ref.inj q)) (by decide) (by decide) ?_
      show Steps p.tables e below (T106.setTop (mkF m 198 #[.val (.int p0), .val (.ref b1), .val (.int (3 : Int32)), .val (.ref w_STRING), .unset] [])) _
      refine XS.iconst X106.here hx rfl (hb hby at_198) ?_
      show Steps p.tables e below (T106.setTop (mkF m 199 #[.val (.int p0), .val (.ref b1), .val (.int (3 : Int32)), .val (.ref w_STRING), .unset] [(.int (0 : Int32))])) _
      refine XS.istore X106.here hx rfl (hb hby at_199) rfl (l' := #[.val (.int p0), .val (.ref b1), .val (.int (3 : Int32)), .val (.ref w_STRING), .val (.int (0 : Int32))]) rfl ?_
      show Steps p.tables e below (T106.setTop (mkF m 201 #[.val (.int p0), .val (.ref b1), .val (.int (3 : Int32)), .val (.ref w_STRING), .val (.int (0 : Int32))] [])) _
      refine XS.aloadN X106.here hx rfl (hb hby at_201) rfl rfl ?_
      show Steps p.tables e below (T106.setTop (mkF m 202 #[.val (.int p0), .val (.ref b1), .val (.int (3 : Int32)), .val (.ref w_STRING), .val (.int (0 : Int32))] [(.ref w_STRING)])) _
      refine st108.trans ?_
      show Steps p.tables e below (T108.setTop (mkF m 205 #[.val (.int p0), .val (.ref b1), .val (.int (3 : Int32)), .val (.ref w_STRING), .val (.int (0 : Int32))] [(.int (0 : Int32))])) _
      refine XS.iload X108.here hx rfl (hb hby at_205) rfl ?_
      show Steps p.tables e below (T108.setTop (mkF m 207 #[.val (.int p0), .val (.ref b1), .val (.int (3 : Int32)), .val (.ref w_STRING), .val (.int (0 : Int32))] [(.int (0 : Int32)), (.int (0 : Int32))])) _
      refine XS.icmpNo X108.here hx rfl (hb hby at_207) rfl (teq (by decide : (0 : Int32) = (0 : Int32))).2 ?_
      show Steps p.tables e below (T108.setTop (mkF m 210 #[.val (.int p0), .val (.ref b1), .val (.int (3 : Int32)), .val (.ref w_STRING), .val (.int (0 : Int32))] [])) _
      refine XS.iconst X108.here hx rfl (hb hby at_210) ?_
      show Steps p.tables e below (T108.setTop (mkF m 211 #[.val (.int p0), .val (.ref b1), .val (.int (3 : Int32)), .val (.ref w_STRING), .val (.int (0 : Int32))] [(.int (1 : Int32))])) _
      refine XS.goto X108.here hx rfl (pc0 := 211) (pc' := 215) rfl (hb hby at_211) (by decide) (by decide) ?_
      exact kt
    obtain ⟨fs, hr, hrun, hended, hW, hsame⟩ := X108.leave (v := some (.int (1 : Int32))) (fun h => by rw [Bd.returns] at h; cases h)
    refine ⟨_, _, pre112 _ ?_, hrun, hended, _, _, rfl, ?_, ⟨_, rfl⟩, hW, hsame.mono (by decide) (by decide)⟩
    · show Steps p.tables e below (T108.setTop (mkF m 215 #[.val (.int p0), .val (.ref b1), .val (.int (3 : Int32)), .val (.ref w_STRING), .val (.int (0 : Int32))] [(.int (1 : Int32))])) _
      exact retN X108 hx (t := .boolean) Bd.returns (by simp) (hb hby at_215) hr
    · show Q_rm0 Z p0 w_BLOB w_BOOLEAN w_DOCUMENT w_STRING w_BYTE w_SHORT w_INTEGER w_LONG w_FLOAT w_DOUBLE w_BIG_INTEGER w_BIG_DECIMAL w_TIMESTAMP w_ENUM w_INT_ENUM w_LIST w_MAP w_STRUCTURE w_UNION w_SERVICE w_OPERATION w_RESOURCE r_fixedMembers_BLOB r_fixedMembers_LIST r_fixedMembers_MAP h0 n0 _ T108.heap _
      rw [e108]
      exact ⟨rfl, N108⟩
  · rw [hk] at pre68
    have vt113 := V_b1
    obtain ⟨cl113, Ar113, q113, S113, Ng113, Ha113, G113⟩ := vt113
    have hin113 : ¬ ((4 : Int32) < 0 ∨ cl113.slots.size ≤ ((4 : Int32)).toNatClampNeg) := inb_of S113 ⟨by decide, by decide⟩
    have hat113 : cl113.slots[((4 : Int32)).toNatClampNeg]? = some (.ref w_BYTE) := Ha113.at hin113 rfl
    obtain ⟨T114, X114, e114, st114⟩ := getS2 X67 hx hZ hown (host := "") (Or.inl (hw _ (List.mem_of_getElem? (i := 38) rfl))) Via.refl e67 (S_STRUCTURE.ext O67.2) (g := (mkF m 167 #[.val (.int p0), .val (.ref b1), .val (.int (4 : Int32)), .val (.ref w_BYTE), .unset] [(.ref w_BYTE)])) rfl (hb hby at_167)
    obtain ⟨T115, X115, e115, st115⟩ := getS2 X114 hx hZ hown (host := "") (Or.inl (hw _ (List.mem_of_getElem? (i := 40) rfl))) Via.refl e114 (S_UNION.ext O67.2) (g := (mkF m 174 #[.val (.int p0), .val (.ref b1), .val (.int (4 : Int32)), .val (.ref w_BYTE), .unset] [(.ref w_BYTE)])) rfl (hb hby at_174)
    obtain ⟨T116, X116, e116, st116⟩ := getS2 X115 hx hZ hown (host := "") (Or.inl (hw _ (List.mem_of_getElem? (i := 30) rfl))) Via.refl e115 (S_ENUM.ext O67.2) (g := (mkF m 181 #[.val (.int p0), .val (.ref b1), .val (.int (4 : Int32)), .val (.ref w_BYTE), .unset] [(.ref w_BYTE)])) rfl (hb hby at_181)
    obtain ⟨T117, X117, e117, st117⟩ := getS2 X116 hx hZ hown (host := "") (Or.inl (hw _ (List.mem_of_getElem? (i := 32) rfl))) Via.refl e116 (S_INT_ENUM.ext O67.2) (g := (mkF m 188 #[.val (.int p0), .val (.ref b1), .val (.int (4 : Int32)), .val (.ref w_BYTE), .unset] [(.ref w_BYTE)])) rfl (hb hby at_188)
    obtain ⟨lc118, X118, N118⟩ := own_pack X117 N67
    obtain ⟨cq119, kq119, q119a, q119b, q119c⟩ := isOf hZ e117 (E_BYTE.ext O67.2)
    obtain ⟨_, _, ⟨T119, L119, k119, n119⟩, -, X119, ⟨Lc119, hQ119, l119, y119, z119⟩, st119⟩ := X118.virtualBack hx (y := (⟨"com/example/shapewright/shapewright/model/ShapeType", "namesItsMembers", "()Z"⟩ : MethodName)) (z := (⟨"com/example/shapewright/shapewright/model/ShapeType", "namesItsMembers", "()Z"⟩ : MethodName)) hown (mvT hZ (hw _ (List.mem_of_getElem? (i := 49) rfl))) (mvT hZ (hw _ (List.mem_of_getElem? (i := 50) rfl))) (notFace_of_selects (args := #[]) (mvT hZ (hw _ (List.mem_of_getElem? (i := 52) rfl)))) (mvT hZ (hw _ (List.mem_of_getElem? (i := 52) rfl))) (mvT hZ (hw _ (List.mem_of_getElem? (i := 51) rfl))) (by decide) (backOf (W := 0) (rm_namesItsMembers_5 l Z a0 hw [] r_fixedMembers_BLOB w_BYTE h67 n0 O67  F_fixedMembers_BYTE) hZ (hw _ (List.mem_of_getElem? (i := 53) rfl)) (hw _ (List.mem_of_getElem? (i := 3) rfl)) (by decide) (by decide)) q119a q119c (g := (mkF m 202 #[.val (.int p0), .val (.ref b1), .val (.int (4 : Int32)), .val (.ref w_BYTE), .val (.int (0 : Int32))] [(.ref w_BYTE)])) rfl (by rw [hml]; rfl) (Steps.refl _) (argsL := []) (rest := []) (lenOf pd___Z rfl) rfl (by show 2 * 0 + _ ≤ _; exact Nat.le_of_eq rfl) (hb hby at_202) (fun _ _ => ⟨rfl, e117, (by decide : 1 + 0 ≤ _), (by decide : 22 + 0 ≤ _)⟩)
    dsimp only [Pt.U, Pt.locs, Pt.cells, Pt.slots] at X119 l119 y119 z119 st119 hQ119
    subst l119 y119 z119
    obtain ⟨rfl, N119q, e119⟩ := hQ119
    have N119 := Fr.app N118 N119q
    have pre123 : ∀ t, Steps p.tables e below (T119.setTop (mkF m 215 #[.val (.int p0), .val (.ref b1), .val (.int (4 : Int32)), .val (.ref w_BYTE), .val (.int (0 : Int32))] [(.int (1 : Int32))])) t → Steps p.tables e below (s₁.setTop (entryFrame m #[(.int p0)] maxLocals)) t := by
      intro t kt
      refine pre68 t ?_
      show Steps p.tables e below (T67.setTop (mkF m 162 #[.val (.int p0), .val (.ref b1), .val (.int (4 : Int32)), .unset, .unset] [])) _
      refine XS.aloadN X67.here hx rfl (hb hby at_162) rfl rfl ?_
      show Steps p.tables e below (T67.setTop (mkF m 163 #[.val (.int p0), .val (.ref b1), .val (.int (4 : Int32)), .unset, .unset] [(.ref b1)])) _
      refine XS.iloadN X67.here hx rfl (hb hby at_163) rfl ?_
      show Steps p.tables e below (T67.setTop (mkF m 164 #[.val (.int p0), .val (.ref b1), .val (.int (4 : Int32)), .unset, .unset] [(.int (4 : Int32)), (.ref b1)])) _
      refine X67.aaload hx (j := (4 : Int32)) (v := (.ref w_BYTE)) (by rw [e67]; exact Ar113.1) (State.isArrayOf_alike hZ.alike Ar113.2.1) rfl Ar113.2.2 hin113 hat113 (g := (mkF m 164 #[.val (.int p0), .val (.ref b1), .val (.int (4 : Int32)), .unset, .unset] [(.int (4 : Int32)), (.ref b1)])) rfl rfl (hb hby at_164) _ ?_
      show Steps p.tables e below (T67.setTop (mkF m 165 #[.val (.int p0), .val (.ref b1), .val (.int (4 : Int32)), .unset, .unset] [(.ref w_BYTE)])) _
      refine XS.astoreN X67.here hx rfl (hb hby at_165) rfl rfl (l' := #[.val (.int p0), .val (.ref b1), .val (.int (4 : Int32)), .val (.ref w_BYTE), .unset]) rfl ?_
      show Steps p.tables e below (T67.setTop (mkF m 166 #[.val (.int p0), .val (.ref b1), .val (.int (4 : Int32)), .val (.ref w_BYTE), .unset] [])) _
      refine XS.aloadN X67.here hx rfl (hb hby at_166) rfl rfl ?_
      show Steps p.tables e below (T67.setTop (mkF m 167 #[.val (.int p0), .val (.ref b1), .val (.int (4 : Int32)), .val (.ref w_BYTE), .unset] [(.ref w_BYTE)])) _
      refine st114 _ ?_
      show Steps p.tables e below (T114.setTop (mkF m 170 #[.val (.int p0), .val (.ref b1), .val (.int (4 : Int32)), .val (.ref w_BYTE), .unset] [(.ref w_STRUCTURE), (.ref w_BYTE)])) _
      refine Jvm.RoadKit.acmp (g := (mkF m 170 #[.val (.int p0), .val (.ref b1), .val (.int (4 : Int32)), .val (.ref w_BYTE), .unset] [(.ref w_STRUCTURE), (.ref w_BYTE)])) X114 hx rfl rfl rfl (pc0 := 170) (pc' := 173) (same := false) rfl (hb hby at_170) rfl (decide_eq_false fun q => (Fld.ne F_ordinal_BYTE F_ordinal_STRUCTURE (fun q => absurd (Value.int.inj q) (by decide))) (Value.ref.inj q)) (by decide) (by decide) ?_
      show Steps p.tables e below (T114.setTop (mkF m 173 #[.val (.int p0), .val (.ref b1), .val (.int (4 : Int32)), .val (.ref w_BYTE), .unset] [])) _
      refine XS.aloadN X114.here hx rfl (hb hby at_173) rfl rfl ?_
      show Steps p.tables e below (T114.setTop (mkF m 174 #[.val (.int p0), .val (.ref b1), .val (.int (4 : Int32)), .val (.ref w_BYTE), .unset] [(.ref w_BYTE)])) _
      refine st115 _ ?_
      show Steps p.tables e below (T115.setTop (mkF m 177 #[.val (.int p0), .val (.ref b1), .val (.int (4 : Int32)), .val (.ref w_BYTE), .unset] [(.ref w_UNION), (.ref w_BYTE)])) _
      refine Jvm.RoadKit.acmp (g := (mkF m 177 #[.val (.int p0), .val (.ref b1), .val (.int (4 : Int32)), .val (.ref w_BYTE), .unset] [(.ref w_UNION), (.ref w_BYTE)])) X115 hx rfl rfl rfl (pc0 := 177) (pc' := 180) (same := false) rfl (hb hby at_177) rfl (decide_eq_false fun q => (Fld.ne F_ordinal_BYTE F_ordinal_UNION (fun q => absurd (Value.int.inj q) (by decide))) (Value.ref.inj q)) (by decide) (by decide) ?_
      show Steps p.tables e below (T115.setTop (mkF m 180 #[.val (.int p0), .val (.ref b1), .val (.int (4 : Int32)), .val (.ref w_BYTE), .unset] [])) _
      refine XS.aloadN X115.here hx rfl (hb hby at_180) rfl rfl ?_
      show Steps p.tables e below (T115.setTop (mkF m 181 #[.val (.int p0), .val (.ref b1), .val (.int (4 : Int32)), .val (.ref w_BYTE), .unset] [(.ref w_BYTE)])) _
      refine st116 _ ?_
      show Steps p.tables e below (T116.setTop (mkF m 184 #[.val (.int p0), .val (.ref b1), .val (.int (4 : Int32)), .val (.ref w_BYTE), .unset] [(.ref w_ENUM), (.ref w_BYTE)])) _
      refine Jvm.RoadKit.acmp (g := (mkF m 184 #[.val (.int p0), .val (.ref b1), .val (.int (4 : Int32)), .val (.ref w_BYTE), .unset] [(.ref w_ENUM), (.ref w_BYTE)])) X116 hx rfl rfl rfl (pc0 := 184) (pc' := 187) (same := false) rfl (hb hby at_184) rfl (decide_eq_false fun q => (Fld.ne F_ordinal_BYTE F_ordinal_ENUM (fun q => absurd (Value.int.inj q) (by decide))) (Value.ref.inj q)) (by decide) (by decide) ?_
      show Steps p.tables e below (T116.setTop (mkF m 187 #[.val (.int p0), .val (.ref b1), .val (.int (4 : Int32)), .val (.ref w_BYTE), .unset] [])) _
      refine XS.aloadN X116.here hx rfl (hb hby at_187) rfl rfl ?_
      show Steps p.tables e below (T116.setTop (mkF m 188 #[.val (.int p0), .val (.ref b1), .val (.int (4 : Int32)), .val (.ref w_BYTE), .unset] [(.ref w_BYTE)])) _
      refine st117 _ ?_
      show Steps p.tables e below (T117.setTop (mkF m 191 #[.val (.int p0), .val (.ref b1), .val (.int (4 : Int32)), .val (.ref w_BYTE), .unset] [(.ref w_INT_ENUM), (.ref w_BYTE)])) _
      refine Jvm.RoadKit.acmp (g := (mkF m 191 #[.val (.int p0), .val (.ref b1), .val (.int (4 : Int32)), .val (.ref w_BYTE), .unset] [(.ref w_INT_ENUM), (.ref w_BYTE)])) X117 hx rfl rfl rfl (pc0 := 191) (pc' := 198) (same := false) rfl (hb hby at_191) rfl (decide_eq_false fun q => (Fld.ne F_ordinal_BYTE F_ordinal_INT_ENUM (fun q => absurd (Value.int.inj q) (by decide))) (Value.ref.inj q)) (by decide) (by decide) ?_
      show Steps p.tables e below (T117.setTop (mkF m 198 #[.val (.int p0), .val (.ref b1), .val (.int (4 : Int32)), .val (.ref w_BYTE), .unset] [])) _
      refine XS.iconst X117.here hx rfl (hb hby at_198) ?_
      show Steps p.tables e below (T117.setTop (mkF m 199 #[.val (.int p0), .val (.ref b1), .val (.int (4 : Int32)), .val (.ref w_BYTE), .unset] [(.int (0 : Int32))])) _
      refine XS.istore X117.here hx rfl (hb hby at_199) rfl (l' := #[.val (.int p0), .val (.ref b1), .val (.int (4 : Int32)), .val (.ref w_BYTE), .val (.int (0 : Int32))]) rfl ?_
      show Steps p.tables e below (T117.setTop (mkF m 201 #[.val (.int p0), .val (.ref b1), .val (.int (4 : Int32)), .val (.ref w_BYTE), .val (.int (0 : Int32))] [])) _
      refine XS.aloadN X117.here hx rfl (hb hby at_201) rfl rfl ?_
      show Steps p.tables e below (T117.setTop (mkF m 202 #[.val (.int p0), .val (.ref b1), .val (.int (4 : Int32)), .val (.ref w_BYTE), .val (.int (0 : Int32))] [(.ref w_BYTE)])) _
      refine st119.trans ?_
      show Steps p.tables e below (T119.setTop (mkF m 205 #[.val (.int p0), .val (.ref b1), .val (.int (4 : Int32)), .val (.ref w_BYTE), .val (.int (0 : Int32))] [(.int (0 : Int32))])) _
      refine XS.iload X119.here hx rfl (hb hby at_205) rfl ?_
      show Steps p.tables e below (T119.setTop (mkF m 207 #[.val (.int p0), .val (.ref b1), .val (.int (4 : Int32)), .val (.ref w_BYTE), .val (.int (0 : Int32))] [(.int (0 : Int32)), (.int (0 : Int32))])) _
      refine XS.icmpNo X119.here hx rfl (hb hby at_207) rfl (teq (by decide : (0 : Int32) = (0 : Int32))).2 ?_
      show Steps p.tables e below (T119.setTop (mkF m 210 #[.val (.int p0), .val (.ref b1), .val (.int (4 : Int32)), .val (.ref w_BYTE), .val (.int (0 : Int32))] [])) _
      refine XS.iconst X119.here hx rfl (hb hby at_210) ?_
      show Steps p.tables e below (T119.setTop (mkF m 211 #[.val (.int p0), .val (.ref b1), .val (.int (4 : Int32)), .val (.ref w_BYTE), .val (.int (0 : Int32))] [(.int (1 : Int32))])) _
      refine XS.goto X119.here hx rfl (pc0 := 211) (pc' := 215) rfl (hb hby at_211) (by decide) (by decide) ?_
      exact kt
    obtain ⟨fs, hr, hrun, hended, hW, hsame⟩ := X119.leave (v := some (.int (1 : Int32))) (fun h => by rw [Bd.returns] at h; cases h)
    refine ⟨_, _, pre123 _ ?_, hrun, hended, _, _, rfl, ?_, ⟨_, rfl⟩, hW, hsame.mono (by decide) (by decide)⟩
    · show Steps p.tables e below (T119.setTop (mkF m 215 #[.val (.int p0), .val (.ref b1), .val (.int (4 : Int32)), .val (.ref w_BYTE), .val (.int (0 : Int32))] [(.int (1 : Int32))])) _
      exact retN X119 hx (t := .boolean) Bd.returns (by simp) (hb hby at_215) hr
    · show Q_rm0 Z p0 w_BLOB w_BOOLEAN w_DOCUMENT w_STRING w_BYTE w_SHORT w_INTEGER w_LONG w_FLOAT w_DOUBLE w_BIG_INTEGER w_BIG_DECIMAL w_TIMESTAMP w_ENUM w_INT_ENUM w_LIST w_MAP w_STRUCTURE w_UNION w_SERVICE w_OPERATION w_RESOURCE r_fixedMembers_BLOB r_fixedMembers_LIST r_fixedMembers_MAP h0 n0 _ T119.heap _
      rw [e119]
      exact ⟨rfl, N119⟩
  · rw [hk] at pre68
    have vt124 := V_b1
    obtain ⟨cl124, Ar124, q124, S124, Ng124, Ha124, G124⟩ := vt124
    have hin124 : ¬ ((5 : Int32) < 0 ∨ cl124.slots.size ≤ ((5 : Int32)).toNatClampNeg) := inb_of S124 ⟨by decide, by decide⟩
    have hat124 : cl124.slots[((5 : Int32)).toNatClampNeg]? = some (.ref w_SHORT) := Ha124.at hin124 rfl
    obtain ⟨T125, X125, e125, st125⟩ := getS2 X67 hx hZ hown (host := "") (Or.inl (hw _ (List.mem_of_getElem? (i := 38) rfl))) Via.refl e67 (S_STRUCTURE.ext O67.2) (g := (mkF m 167 #[.val (.int p0), .val (.ref b1), .val (.int (5 : Int32)), .val (.ref w_SHORT), .unset] [(.ref w_SHORT)])) rfl (hb hby at_167)
    obtain ⟨T126, X126, e126, st126⟩ := getS2 X125 hx hZ hown (host := "") (Or.inl (hw _ (List.mem_of_getElem? (i := 40) rfl))) Via.refl e125 (S_UNION.ext O67.2) (g := (mkF m 174 #[.val (.int p0), .val (.ref b1), .val (.int (5 : Int32)), .val (.ref w_SHORT), .unset] [(.ref w_SHORT)])) rfl (hb hby at_174)
    obtain ⟨T127, X127, e127, st127⟩ := getS2 X126 hx hZ hown (host := "") (Or.inl (hw _ (List.mem_of_getElem? (i := 30) rfl))) Via.refl e126 (S_ENUM.ext O67.2) (g := (mkF m 181 #[.val (.int p0), .val (.ref b1), .val (.int (5 : Int32)), .val (.ref w_SHORT), .unset] [(.ref w_SHORT)])) rfl (hb hby at_181)
    obtain ⟨T128, X128, e128, st128⟩ := getS2 X127 hx hZ hown (host := "") (Or.inl (hw _ (List.mem_of_getElem? (i := 32) rfl))) Via.refl e127 (S_INT_ENUM.ext O67.2) (g := (mkF m 188 #[.val (.int p0), .val (.ref b1), .val (.int (5 : Int32)), .val (.ref w_SHORT), .unset] [(.ref w_SHORT)])) rfl (hb hby at_188)
    obtain ⟨lc129, X129, N129⟩ := own_pack X128 N67
    obtain ⟨cq130, kq130, q130a, q130b, q130c⟩ := isOf hZ e128 (E_SHORT.ext O67.2)
    obtain ⟨_, _, ⟨T130, L130, k130, n130⟩, -, X130, ⟨Lc130, hQ130, l130, y130, z130⟩, st130⟩ := X129.virtualBack hx (y := (⟨"com/example/shapewright/shapewright/model/ShapeType", "namesItsMembers", "()Z"⟩ : MethodName)) (z := (⟨"com/example/shapewright/shapewright/model/ShapeType", "namesItsMembers", "()Z"⟩ : MethodName)) hown (mvT hZ (hw _ (List.mem_of_getElem? (i := 49) rfl))) (mvT hZ (hw _ (List.mem_of_getElem? (i := 50) rfl))) (notFace_of_selects (args := #[]) (mvT hZ (hw _ (List.mem_of_getElem? (i := 52) rfl)))) (mvT hZ (hw _ (List.mem_of_getElem? (i := 52) rfl))) (mvT hZ (hw _ (List.mem_of_getElem? (i := 51) rfl))) (by decide) (backOf (W := 0) (rm_namesItsMembers_6 l Z a0 hw [] r_fixedMembers_BLOB w_SHORT h67 n0 O67  F_fixedMembers_SHORT) hZ (hw _ (List.mem_of_getElem? (i := 53) rfl)) (hw _ (List.mem_of_getElem? (i := 3) rfl)) (by decide) (by decide)) q130a q130c (g := (mkF m 202 #[.val (.int p0), .val (.ref b1), .val (.int (5 : Int32)), .val (.ref w_SHORT), .val (.int (0 : Int32))] [(.ref w_SHORT)])) rfl (by rw [hml]; rfl) (Steps.refl _) (argsL := []) (rest := []) (lenOf pd___Z rfl) rfl (by show 2 * 0 + _ ≤ _; exact Nat.le_of_eq rfl) (hb hby at_202) (fun _ _ => ⟨rfl, e128, (by decide : 1 + 0 ≤ _), (by decide : 22 + 0 ≤ _)⟩)
    dsimp only [Pt.U, Pt.locs, Pt.cells, Pt.slots] at X130 l130 y130 z130 st130 hQ130
    subst l130 y130 z130
    obtain ⟨rfl, N130q, e130⟩ := hQ130
    have N130 := Fr.app N129 N130q
    have pre134 : ∀ t, Steps p.tables e below (T130.setTop (mkF m 215 #[.val (.int p0), .val (.ref b1), .val (.int (5 : Int32)), .val (.ref w_SHORT), .val (.int (0 : Int32))] [(.int (1 : Int32))])) t → Steps p.tables e below (s₁.setTop (entryFrame m #[(.int p0)] maxLocals)) t := by
      intro t kt
      refine pre68 t ?_
      show Steps p.tables e below (T67.setTop (mkF m 162 #[.val (.int p0), .val (.ref b1), .val (.int (5 : Int32)), .unset, .unset] [])) _
      refine XS.aloadN X67.here hx rfl (hb hby at_162) rfl rfl ?_
      show Steps p.tables e below (T67.setTop (mkF m 163 #[.val (.int p0), .val (.ref b1), .val (.int (5 : Int32)), .unset, .unset] [(.ref b1)])) _
      refine XS.iloadN X67.here hx rfl (hb hby at_163) rfl ?_
      show Steps p.tables e below (T67.setTop (mkF m 164 #[.val (.int p0), .val (.ref b1), .val (.int (5 : Int32)), .unset, .unset] [(.int (5 : Int32)), (.ref b1)])) _
      refine X67.aaload hx (j := (5 : Int32)) (v := (.ref w_SHORT)) (by rw [e67]; exact Ar124.1) (State.isArrayOf_alike hZ.alike Ar124.2.1) rfl Ar124.2.2 hin124 hat124 (g := (mkF m 164 #[.val (.int p0), .val (.ref b1), .val (.int (5 : Int32)), .unset, .unset] [(.int (5 : Int32)), (.ref b1)])) rfl rfl (hb hby at_164) _ ?_
      show Steps p.tables e below (T67.setTop (mkF m 165 #[.val (.int p0), .val (.ref b1), .val (.int (5 : Int32)), .unset, .unset] [(.ref w_SHORT)])) _
      refine XS.astoreN X67.here hx rfl (hb hby at_165) rfl rfl (l' := #[.val (.int p0), .val (.ref b1), .val (.int (5 : Int32)), .val (.ref w_SHORT), .unset]) rfl ?_
      show Steps p.tables e below (T67.setTop (mkF m 166 #[.val (.int p0), .val (.ref b1), .val (.int (5 : Int32)), .val (.ref w_SHORT), .unset] [])) _
      refine XS.aloadN X67.here hx rfl (hb hby at_166) rfl rfl ?_
      show Steps p.tables e below (T67.setTop (mkF m 167 #[.val (.int p0), .val (.ref b1), .val (.int (5 : Int32)), .val (.ref w_SHORT), .unset] [(.ref w_SHORT)])) _
      refine st125 _ ?_
      show Steps p.tables e below (T125.setTop (mkF m 170 #[.val (.int p0), .val (.ref b1), .val (.int (5 : Int32)), .val (.ref w_SHORT), .unset] [(.ref w_STRUCTURE), (.ref w_SHORT)])) _
      refine Jvm.RoadKit.acmp (g := (mkF m 170 #[.val (.int p0), .val (.ref b1), .val (.int (5 : Int32)), .val (.ref w_SHORT), .unset] [(.ref w_STRUCTURE), (.ref w_SHORT)])) X125 hx rfl rfl rfl (pc0 := 170) (pc' := 173) (same := false) rfl (hb hby at_170) rfl (decide_eq_false fun q => (Fld.ne F_ordinal_SHORT F_ordinal_STRUCTURE (fun q => absurd (Value.int.inj q) (by decide))) (Value.ref.inj q)) (by decide) (by decide) ?_
      show Steps p.tables e below (T125.setTop (mkF m 173 #[.val (.int p0), .val (.ref b1), .val (.int (5 : Int32)), .val (.ref w_SHORT), .unset] [])) _
      refine XS.aloadN X125.here hx rfl (hb hby at_173) rfl rfl ?_
      show Steps p.tables e below (T125.setTop (mkF m 174 #[.val (.int p0), .val (.ref b1), .val (.int (5 : Int32)), .val (.ref w_SHORT), .unset] [(.ref w_SHORT)])) _
      refine st126 _ ?_
      show Steps p.tables e below (T126.setTop (mkF m 177 #[.val (.int p0), .val (.ref b1), .val (.int (5 : Int32)), .val (.ref w_SHORT), .unset] [(.ref w_UNION), (.ref w_SHORT)])) _
      refine Jvm.RoadKit.acmp (g := (mkF m 177 #[.val (.int p0), .val (.ref b1), .val (.int (5 : Int32)), .val (.ref w_SHORT), .unset] [(.ref w_UNION), (.ref w_SHORT)])) X126 hx rfl rfl rfl (pc0 := 177) (pc' := 180) (same := false) rfl (hb hby at_177) rfl (decide_eq_false fun q => (Fld.ne F_ordinal_SHORT F_ordinal_UNION (fun q => absurd (Value.int.inj q) (by decide))) (Value.ref.inj q)) (by decide) (by decide) ?_
      show Steps p.tables e below (T126.setTop (mkF m 180 #[.val (.int p0), .val (.ref b1), .val (.int (5 : Int32)), .val (.ref w_SHORT), .unset] [])) _
      refine XS.aloadN X126.here hx rfl (hb hby at_180) rfl rfl ?_
      show Steps p.tables e below (T126.setTop (mkF m 181 #[.val (.int p0), .val (.ref b1), .val (.int (5 : Int32)), .val (.ref w_SHORT), .unset] [(.ref w_SHORT)])) _
      refine st127 _ ?_
      show Steps p.tables e below (T127.setTop (mkF m 184 #[.val (.int p0), .val (.ref b1), .val (.int (5 : Int32)), .val (.ref w_SHORT), .unset] [(.ref w_ENUM), (.ref w_SHORT)])) _
      refine Jvm.RoadKit.acmp (g := (mkF m 184 #[.val (.int p0), .val (.ref b1), .val (.int (5 : Int32)), .val (.ref w_SHORT), .unset] [(.ref w_ENUM), (.ref w_SHORT)])) X127 hx rfl rfl rfl (pc0 := 184) (pc' := 187) (same := false) rfl (hb hby at_184) rfl (decide_eq_false fun q => (Fld.ne F_ordinal_SHORT F_ordinal_ENUM (fun q => absurd (Value.int.inj q) (by decide))) (Value.ref.inj q)) (by decide) (by decide) ?_
      show Steps p.tables e below (T127.setTop (mkF m 187 #[.val (.int p0), .val (.ref b1), .val (.int (5 : Int32)), .val (.ref w_SHORT), .unset] [])) _
      refine XS.aloadN X127.here hx rfl (hb hby at_187) rfl rfl ?_
      show Steps p.tables e below (T127.setTop (mkF m 188 #[.val (.int p0), .val (.ref b1), .val (.int (5 : Int32)), .val (.ref w_SHORT), .unset] [(.ref w_SHORT)])) _
      refine st128 _ ?_
      show Steps p.tables e below (T128.setTop (mkF m 191 #[.val (.int p0), .val (.ref b1), .val (.int (5 : Int32)), .val (.ref w_SHORT), .unset] [(.ref w_INT_ENUM), (.ref w_SHORT)])) _
      refine Jvm.RoadKit.acmp (g := (mkF m 191 #[.val (.int p0), .val (.ref b1), .val (.int (5 : Int32)), .val (.ref w_SHORT), .unset] [(.ref w_INT_ENUM), (.ref w_SHORT)])) X128 hx rfl rfl rfl (pc0 := 191) (pc' := 198) (same := false) rfl (hb hby at_191) rfl (decide_eq_false fun q => (Fld.ne F_ordinal_SHORT F_ordinal_INT_ENUM (fun q => absurd (Value.int.inj q) (by decide))) (Value.ref.inj q)) (by decide) (by decide) ?_
      show Steps p.tables e below (T128.setTop (mkF m 198 #[.val (.int p0), .val (.ref b1), .val (.int (5 : Int32)), .val (.ref w_SHORT), .unset] [])) _
      refine XS.iconst X128.here hx rfl (hb hby at_198) ?_
      show Steps p.tables e below (T128.setTop (mkF m 199 #[.val (.int p0), .val (.ref b1), .val (.int (5 : Int32)), .val (.ref w_SHORT), .unset] [(.int (0 : Int32))])) _
      refine XS.istore X128.here hx rfl (hb hby at_199) rfl (l' := #[.val (.int p0), .val (.ref b1), .val (.int (5 : Int32)), .val (.ref w_SHORT), .val (.int (0 : Int32))]) rfl ?_
      show Steps p.tables e below (T128.setTop (mkF m 201 #[.val (.int p0), .val (.ref b1), .val (.int (5 : Int32)), .val (.ref w_SHORT), .val (.int (0 : Int32))] [])) _
      refine XS.aloadN X128.here hx rfl (hb hby at_201) rfl rfl ?_
      show Steps p.tables e below (T128.setTop (mkF m 202 #[.val (.int p0), .val (.ref b1), .val (.int (5 : Int32)), .val (.ref w_SHORT), .val (.int (0 : Int32))] [(.ref w_SHORT)])) _
      refine st130.trans ?_
      show Steps p.tables e below (T130.setTop (mkF m 205 #[.val (.int p0), .val (.ref b1), .val (.int (5 : Int32)), .val (.ref w_SHORT), .val (.int (0 : Int32))] [(.int (0 : Int32))])) _
      refine XS.iload X130.here hx rfl (hb hby at_205) rfl ?_
      show Steps p.tables e below (T130.setTop (mkF m 207 #[.val (.int p0), .val (.ref b1), .val (.int (5 : Int32)), .val (.ref w_SHORT), .val (.int (0 : Int32))] [(.int (0 : Int32)), (.int (0 : Int32))])) _
      refine XS.icmpNo X130.here hx rfl (hb hby at_207) rfl (teq (by decide : (0 : Int32) = (0 : Int32))).2 ?_
      show Steps p.tables e below (T130.setTop (mkF m 210 #[.val (.int p0), .val (.ref b1), .val (.int (5 : Int32)), .val (.ref w_SHORT), .val (.int (0 : Int32))] [])) _
      refine XS.iconst X130.here hx rfl (hb hby at_210) ?_
      show Steps p.tables e below (T130.setTop (mkF m 211 #[.val (.int p0), .val (.ref b1), .val (.int (5 : Int32)), .val (.ref w_SHORT), .val (.int (0 : Int32))] [(.int (1 : Int32))])) _
      refine XS.goto X130.here hx rfl (pc0 := 211) (pc' := 215) rfl (hb hby at_211) (by decide) (by decide) ?_
      exact kt
    obtain ⟨fs, hr, hrun, hended, hW, hsame⟩ := X130.leave (v := some (.int (1 : Int32))) (fun h => by rw [Bd.returns] at h; cases h)
    refine ⟨_, _, pre134 _ ?_, hrun, hended, _, _, rfl, ?_, ⟨_, rfl⟩, hW, hsame.mono (by decide) (by decide)⟩
    · show Steps p.tables e below (T130.setTop (mkF m 215 #[.val (.int p0), .val (.ref b1), .val (.int (5 : Int32)), .val (.ref w_SHORT), .val (.int (0 : Int32))] [(.int (1 : Int32))])) _
      exact retN X130 hx (t := .boolean) Bd.returns (by simp) (hb hby at_215) hr
    · show Q_rm0 Z p0 w_BLOB w_BOOLEAN w_DOCUMENT w_STRING w_BYTE w_SHORT w_INTEGER w_LONG w_FLOAT w_DOUBLE w_BIG_INTEGER w_BIG_DECIMAL w_TIMESTAMP w_ENUM w_INT_ENUM w_LIST w_MAP w_STRUCTURE w_UNION w_SERVICE w_OPERATION w_RESOURCE r_fixedMembers_BLOB r_fixedMembers_LIST r_fixedMembers_MAP h0 n0 _ T130.heap _
      rw [e130]
      exact ⟨rfl, N130⟩
  · rw [hk] at pre68
    have vt135 := V_b1
    obtain ⟨cl135, Ar135, q135, S135, Ng135, Ha135, G135⟩ := vt135
    have hin135 : ¬ ((6 : Int32) < 0 ∨ cl135.slots.size ≤ ((6 : Int32)).toNatClampNeg) := inb_of S135 ⟨by decide, by decide⟩
    have hat135 : cl135.slots[((6 : Int32)).toNatClampNeg]? = some (.ref w_INTEGER) := Ha135.at hin135 rfl
    obtain ⟨T136, X136, e136, st136⟩ := getS2 X67 hx hZ hown (host := "") (Or.inl (hw _ (List.mem_of_getElem? (i := 38) rfl))) Via.refl e67 (S_STRUCTURE.ext O67.2) (g := (mkF m 167 #[.val (.int p0), .val (.ref b1), .val (.int (6 : Int32)), .val (.ref w_INTEGER), .unset] [(.ref w_INTEGER)])) rfl (hb hby at_167)
    obtain ⟨T137, X137, e137, st137⟩ := getS2 X136 hx hZ hown (host := "") (Or.inl (hw _ (List.mem_of_getElem? (i := 40) rfl))) Via.refl e136 (S_UNION.ext O67.2) (g := (mkF m 174 #[.val (.int p0), .val (.ref b1), .val (.int (6 : Int32)), .val (.ref w_INTEGER), .unset] [(.ref w_INTEGER)])) rfl (hb hby at_174)
    obtain ⟨T138, X138, e138, st138⟩ := getS2 X137 hx hZ hown (host := "") (Or.inl (hw _ (List.mem_of_getElem? (i := 30) rfl))) Via.refl e137 (S_ENUM.ext O67.2) (g := (mkF m 181 #[.val (.int p0), .val (.ref b1), .val (.int (6 : Int32)), .val (.ref w_INTEGER), .unset] [(.ref w_INTEGER)])) rfl (hb hby at_181)
    obtain ⟨T139, X139, e139, st139⟩ := getS2 X138 hx hZ hown (host := "") (Or.inl (hw _ (List.mem_of_getElem? (i := 32) rfl))) Via.refl e138 (S_INT_ENUM.ext O67.2) (g := (mkF m 188 #[.val (.int p0), .val (.ref b1), .val (.int (6 : Int32)), .val (.ref w_INTEGER), .unset] [(.ref w_INTEGER)])) rfl (hb hby at_188)
    obtain ⟨lc140, X140, N140⟩ := own_pack X139 N67
    obtain ⟨cq141, kq141, q141a, q141b, q141c⟩ := isOf hZ e139 (E_INTEGER.ext O67.2)
    obtain ⟨_, _, ⟨T141, L141, k141, n141⟩, -, X141, ⟨Lc141, hQ141, l141, y141, z141⟩, st141⟩ := X140.virtualBack hx (y := (⟨"com/example/shapewright/shapewright/model/ShapeType", "namesItsMembers", "()Z"⟩ : MethodName)) (z := (⟨"com/example/shapewright/shapewright/model/ShapeType", "namesItsMembers", "()Z"⟩ : MethodName)) hown (mvT hZ (hw _ (List.mem_of_getElem? (i := 49) rfl))) (mvT hZ (hw _ (List.mem_of_getElem? (i := 50) rfl))) (notFace_of_selects (args := #[]) (mvT hZ (hw _ (List.mem_of_getElem? (i := 52) rfl)))) (mvT hZ (hw _ (List.mem_of_getElem? (i := 52) rfl))) (mvT hZ (hw _ (List.mem_of_getElem? (i := 51) rfl))) (by decide) (backOf (W := 0) (rm_namesItsMembers_7 l Z a0 hw [] w_INTEGER r_fixedMembers_BLOB h67 n0 O67  F_fixedMembers_INTEGER) hZ (hw _ (List.mem_of_getElem? (i := 53) rfl)) (hw _ (List.mem_of_getElem? (i := 3) rfl)) (by decide) (by decide)) q141a q141c (g := (mkF m 202 #[.val (.int p0), .val (.ref b1), .val (.int (6 : Int32)), .val (.ref w_INTEGER), .val (.int (0 : Int32))] [(.ref w_INTEGER)])) rfl (by rw [hml]; rfl) (Steps.refl _) (argsL := []) (rest := []) (lenOf pd___Z rfl) rfl (by show 2 * 0 + _ ≤ _; exact Nat.le_of_eq rfl) (hb hby at_202) (fun _ _ => ⟨rfl, e139, (by decide : 1 + 0 ≤ _), (by decide : 22 + 0 ≤ _)⟩)
    dsimp only [Pt.U, Pt.locs, Pt.cells, Pt.slots] at X141 l141 y141 z141 st141 hQ141
    subst l141 y141 z141
    obtain ⟨rfl, N141q, e141⟩ := hQ141
    have N141 := Fr.app N140 N141q
    have pre145 : ∀ t, Steps p.tables e below (T141.setTop (mkF m 215 #[.val (.int p0), .val (.ref b1), .val (.int (6 : Int32)), .val (.ref w_INTEGER), .val (.int (0 : Int32))] [(.int (1 : Int32))])) t → Steps p.tables e below (s₁.setTop (entryFrame m #[(.int p0)] maxLocals)) t := by
      intro t kt
      refine pre68 t ?_
      show Steps p.tables e below (T67.setTop (mkF m 162 #[.val (.int p0), .val (.ref b1), .val (.int (6 : Int32)), .unset, .unset] [])) _
      refine XS.aloadN X67.here hx rfl (hb hby at_162) rfl rfl ?_
      show Steps p.tables e below (T67.setTop (mkF m 163 #[.val (.int p0), .val (.ref b1), .val (.int (6 : Int32)), .unset, .unset] [(.ref b1)])) _
      refine XS.iloadN X67.here hx rfl (hb hby at_163) rfl ?_
      show Steps p.tables e below (T67.setTop (mkF m 164 #[.val (.int p0), .val (.ref b1), .val (.int (6 : Int32)), .unset, .unset] [(.int (6 : Int32)), (.ref b1)])) _
      refine X67.aaload hx (j := (6 : Int32)) (v := (.ref w_INTEGER)) (by rw [e67]; exact Ar135.1) (State.isArrayOf_alike hZ.alike Ar135.2.1) rfl Ar135.2.2 hin135 hat135 (g := (mkF m 164 #[.val (.int p0), .val (.ref b1), .val (.int (6 : Int32)), .unset, .unset] [(.int (6 : Int32)), (.ref b1)])) rfl rfl (hb hby at_164) _ ?_
      show Steps p.tables e below (T67.setTop (mkF m 165 #[.val (.int p0), .val (.ref b1), .val (.int (6 : Int32)), .unset, .unset] [(.ref w_INTEGER)])) _
      refine XS.astoreN X67.here hx rfl (hb hby at_165) rfl rfl (l' := #[.val (.int p0), .val (.ref b1), .val (.int (6 : Int32)), .val (.ref w_INTEGER), .unset]) rfl ?_
      show Steps p.tables e below (T67.setTop (mkF m 166 #[.val (.int p0), .val (.ref b1), .val (.int (6 : Int32)), .val (.ref w_INTEGER), .unset] [])) _
      refine XS.aloadN X67.here hx rfl (hb hby at_166) rfl rfl ?_
      show Steps p.tables e below (T67.setTop (mkF m 167 #[.val (.int p0), .val (.ref b1), .val (.int (6 : Int32)), .val (.ref w_INTEGER), .unset] [(.ref w_INTEGER)])) _
      refine st136 _ ?_
      show Steps p.tables e below (T136.setTop (mkF m 170 #[.val (.int p0), .val (.ref b1), .val (.int (6 : Int32)), .val (.ref w_INTEGER), .unset] [(.ref w_STRUCTURE), (.ref w_INTEGER)])) _
      refine Jvm.RoadKit.acmp (g := (mkF m 170 #[.val (.int p0), .val (.ref b1), .val (.int (6 : Int32)), .val (.ref w_INTEGER), .unset] [(.ref w_STRUCTURE), (.ref w_INTEGER)])) X136 hx rfl rfl rfl (pc0 := 170) (pc' := 173) (same := false) rfl (hb hby at_170) rfl (decide_eq_false fun q => (Fld.ne F_ordinal_INTEGER F_ordinal_STRUCTURE (fun q => absurd (Value.int.inj q) (by decide))) (Value.ref.inj q)) (by decide) (by decide) ?_
      show Steps p.tables e below (T136.setTop (mkF m 173 #[.val (.int p0), .val (.ref b1), .val (.int (6 : Int32)), .val (.ref w_INTEGER), .unset] [])) _
      refine XS.aloadN X136.here hx rfl (hb hby at_173) rfl rfl ?_
      show Steps p.tables e below (T136.setTop (mkF m 174 #[.val (.int p0), .val (.ref b1), .val (.int (6 : Int32)), .val (.ref w_INTEGER), .unset] [(.ref w_INTEGER)])) _
      refine st137 _ ?_
      show Steps p.tables e below (T137.setTop (mkF m 177 #[.val (.int p0), .val (.ref b1), .val (.int (6 : Int32)), .val (.ref w_INTEGER), .unset] [(.ref w_UNION), (.ref w_INTEGER)])) _
      refine Jvm.RoadKit.acmp (g := (mkF m 177 #[.val (.int p0), .val (.ref b1), .val (.int (6 : Int32)), .val (.ref w_INTEGER), .unset] [(.ref w_UNION), (.ref w_INTEGER)])) X137 hx rfl rfl rfl (pc0 := 177) (pc' := 180) (same := false) rfl (hb hby at_177) rfl (decide_eq_false fun q => (Fld.ne F_ordinal_INTEGER F_ordinal_UNION (fun q => absurd (Value.int.inj q) (by decide))) (Value.ref.inj q)) (by decide) (by decide) ?_
      show Steps p.tables e below (T137.setTop (mkF m 180 #[.val (.int p0), .val (.ref b1), .val (.int (6 : Int32)), .val (.ref w_INTEGER), .unset] [])) _
      refine XS.aloadN X137.here hx rfl (hb hby at_180) rfl rfl ?_
      show Steps p.tables e below (T137.setTop (mkF m 181 #[.val (.int p0), .val (.ref b1), .val (.int (6 : Int32)), .val (.ref w_INTEGER), .unset] [(.ref w_INTEGER)])) _
      refine st138 _ ?_
      show Steps p.tables e below (T138.setTop (mkF m 184 #[.val (.int p0), .val (.ref b1), .val (.int (6 : Int32)), .val (.ref w_INTEGER), .unset] [(.ref w_ENUM), (.ref w_INTEGER)])) _
      refine Jvm.RoadKit.acmp (g := (mkF m 184 #[.val (.int p0), .val (.ref b1), .val (.int (6 : Int32)), .val (.ref w_INTEGER), .unset] [(.ref w_ENUM), (.ref w_INTEGER)])) X138 hx rfl rfl rfl (pc0 := 184) (pc' := 187) (same := false) rfl (hb hby at_184) rfl (decide_eq_false fun q => (Fld.ne F_ordinal_INTEGER F_ordinal_ENUM (fun q => absurd (Value.int.inj q) (by decide))) (Value.ref.inj q)) (by decide) (by decide) ?_
      show Steps p.tables e below (T138.setTop (mkF m 187 #[.val (.int p0), .val (.ref b1), .val (.int (6 : Int32)), .val (.ref w_INTEGER), .unset] [])) _
      refine XS.aloadN X138.here hx rfl (hb hby at_187) rfl rfl ?_
      show Steps p.tables e below (T138.setTop (mkF m 188 #[.val (.int p0), .val (.ref b1), .val (.int (6 : Int32)), .val (.ref w_INTEGER), .unset] [(.ref w_INTEGER)])) _
      refine st139 _ ?_
      show Steps p.tables e below (T139.setTop (mkF m 191 #[.val (.int p0), .val (.ref b1), .val (.int (6 : Int32)), .val (.ref w_INTEGER), .unset] [(.ref w_INT_ENUM), (.ref w_INTEGER)])) _
      refine Jvm.RoadKit.acmp (g := (mkF m 191 #[.val (.int p0), .val (.ref b1), .val (.int (6 : Int32)), .val (.ref w_INTEGER), .unset] [(.ref w_INT_ENUM), (.ref w_INTEGER)])) X139 hx rfl rfl rfl (pc0 := 191) (pc' := 198) (same := false) rfl (hb hby at_191) rfl (decide_eq_false fun q => (Fld.ne F_ordinal_INTEGER F_ordinal_INT_ENUM (fun q => absurd (Value.int.inj q) (by decide))) (Value.ref.inj q)) (by decide) (by decide) ?_
      show Steps p.tables e below (T139.setTop (mkF m 198 #[.val (.int p0), .val (.ref b1), .val (.int (6 : Int32)), .val (.ref w_INTEGER), .unset] [])) _
      refine XS.iconst X139.here hx rfl (hb hby at_198) ?_
      show Steps p.tables e below (T139.setTop (mkF m 199 #[.val (.int p0), .val (.ref b1), .val (.int (6 : Int32)), .val (.ref w_INTEGER), .unset] [(.int (0 : Int32))])) _
      refine XS.istore X139.here hx rfl (hb hby at_199) rfl (l' := #[.val (.int p0), .val (.ref b1), .val (.int (6 : Int32)), .val (.ref w_INTEGER), .val (.int (0 : Int32))]) rfl ?_
      show Steps p.tables e below (T139.setTop (mkF m 201 #[.val (.int p0), .val (.ref b1), .val (.int (6 : Int32)), .val (.ref w_INTEGER), .val (.int (0 : Int32))] [])) _
      refine XS.aloadN X139.here hx rfl (hb hby at_201) rfl rfl ?_
      show Steps p.tables e below (T139.setTop (mkF m 202 #[.val (.int p0), .val (.ref b1), .val (.int (6 : Int32)), .val (.ref w_INTEGER), .val (.int (0 : Int32))] [(.ref w_INTEGER)])) _
      refine st141.trans ?_
      show Steps p.tables e below (T141.setTop (mkF m 205 #[.val (.int p0), .val (.ref b1), .val (.int (6 : Int32)), .val (.ref w_INTEGER), .val (.int (0 : Int32))] [(.int (0 : Int32))])) _
      refine XS.iload X141.here hx rfl (hb hby at_205) rfl ?_
      show Steps p.tables e below (T141.setTop (mkF m 207 #[.val (.int p0), .val (.ref b1), .val (.int (6 : Int32)), .val (.ref w_INTEGER), .val (.int (0 : Int32))] [(.int (0 : Int32)), (.int (0 : Int32))])) _
      refine XS.icmpNo X141.here hx rfl (hb hby at_207) rfl (teq (by decide : (0 : Int32) = (0 : Int32))).2 ?_
      show Steps p.tables e below (T141.setTop (mkF m 210 #[.val (.int p0), .val (.ref b1), .val (.int (6 : Int32)), .val (.ref w_INTEGER), .val (.int (0 : Int32))] [])) _
      refine XS.iconst X141.here hx rfl (hb hby at_210) ?_
      show Steps p.tables e below (T141.setTop (mkF m 211 #[.val (.int p0), .val (.ref b1), .val (.int (6 : Int32)), .val (.ref w_INTEGER), .val (.int (0 : Int32))] [(.int (1 : Int32))])) _
      refine XS.goto X141.here hx rfl (pc0 := 211) (pc' := 215) rfl (hb hby at_211) (by decide) (by decide) ?_
      exact kt
    obtain ⟨fs, hr, hrun, hended, hW, hsame⟩ := X141.leave (v := some (.int (1 : Int32))) (fun h => by rw [Bd.returns] at h; cases h)
    refine ⟨_, _, pre145 _ ?_, hrun, hended, _, _, rfl, ?_, ⟨_, rfl⟩, hW, hsame.mono (by decide) (by decide)⟩
    · show Steps p.tables e below (T141.setTop (mkF m 215 #[.val (.int p0), .val (.ref b1), .val (.int (6 : Int32)), .val (.ref w_INTEGER), .val (.int (0 : Int32))] [(.int (1 : Int32))])) _
      exact retN X141 hx (t := .boolean) Bd.returns (by simp) (hb hby at_215) hr
    · show Q_rm0 Z p0 w_BLOB w_BOOLEAN w_DOCUMENT w_STRING w_BYTE w_SHORT w_INTEGER w_LONG w_FLOAT w_DOUBLE w_BIG_INTEGER w_BIG_DECIMAL w_TIMESTAMP w_ENUM w_INT_ENUM w_LIST w_MAP w_STRUCTURE w_UNION w_SERVICE w_OPERATION w_RESOURCE r_fixedMembers_BLOB r_fixedMembers_LIST r_fixedMembers_MAP h0 n0 _ T141.heap _
      rw [e141]
      exact ⟨rfl, N141⟩
  · rw [hk] at pre68
    have vt146 := V_b1
    obtain ⟨cl146, Ar146, q146, S146, Ng146, Ha146, G146⟩ := vt146
    have hin146 : ¬ ((7 : Int32) < 0 ∨ cl146.slots.size ≤ ((7 : Int32)).toNatClampNeg) := inb_of S146 ⟨by decide, by decide⟩
    have hat146 : cl146.slots[((7 : Int32)).toNatClampNeg]? = some (.ref w_LONG) := Ha146.at hin146 rfl
    obtain ⟨T147, X147, e147, st147⟩ := getS2 X67 hx hZ hown (host := "") (Or.inl (hw _ (List.mem_of_getElem? (i := 38) rfl))) Via.refl e67 (S_STRUCTURE.ext O67.2) (g := (mkF m 167 #[.val (.int p0), .val (.ref b1), .val (.int (7 : Int32)), .val (.ref w_LONG), .unset] [(.ref w_LONG)])) rfl (hb hby at_167)
    obtain ⟨T148, X148, e148, st148⟩ := getS2 X147 hx hZ hown (host := "") (Or.inl (hw _ (List.mem_of_getElem? (i := 40) rfl))) Via.refl e147 (S_UNION.ext O67.2) (g := (mkF m 174 #[.val (.int p0), .val (.ref b1), .val (.int (7 : Int32)), .val (.ref w_LONG), .unset] [(.ref w_LONG)])) rfl (hb hby at_174)
    obtain ⟨T149, X149, e149, st149⟩ := getS2 X148 hx hZ hown (host := "") (Or.inl (hw _ (List.mem_of_getElem? (i := 30) rfl))) Via.refl e148 (S_ENUM.ext O67.2) (g := (mkF m 181 #[.val (.int p0), .val (.ref b1), .val (.int (7 : Int32)), .val (.ref w_LONG), .unset] [(.ref w_LONG)])) rfl (hb hby at_181)
    obtain ⟨T150, X150, e150, st150⟩ := getS2 X149 hx hZ hown (host := "") (Or.inl (hw _ (List.mem_of_getElem? (i := 32) rfl))) Via.refl e149 (S_INT_ENUM.ext O67.2) (g := (mkF m 188 #[.val (.int p0), .val (.ref b1), .val (.int (7 : Int32)), .val (.ref w_LONG), .unset] [(.ref w_LONG)])) rfl (hb hby at_188)
    obtain ⟨lc151, X151, N151⟩ := own_pack X150 N67
    obtain ⟨cq152, kq152, q152a, q152b, q152c⟩ := isOf hZ e150 (E_LONG.ext O67.2)
    obtain ⟨_, _, ⟨T152, L152, k152, n152⟩, -, X152, ⟨Lc152, hQ152, l152, y152, z152⟩, st152⟩ := X151.virtualBack hx (y := (⟨"com/example/shapewright/shapewright/model/ShapeType", "namesItsMembers", "()Z"⟩ : MethodName)) (z := (⟨"com/example/shapewright/shapewright/model/ShapeType", "namesItsMembers", "()Z"⟩ : MethodName)) hown (mvT hZ (hw _ (List.mem_of_getElem? (i := 49) rfl))) (mvT hZ (hw _ (List.mem_of_getElem? (i := 50) rfl))) (notFace_of_selects (args := #[]) (mvT hZ (hw _ (List.mem_of_getElem? (i := 52) rfl)))) (mvT hZ (hw _ (List.mem_of_getElem? (i := 52) rfl))) (mvT hZ (hw _ (List.mem_of_getElem? (i := 51) rfl))) (by decide) (backOf (W := 0) (rm_namesItsMembers_8 l Z a0 hw [] r_fixedMembers_BLOB w_LONG h67 n0 O67  F_fixedMembers_LONG) hZ (hw _ (List.mem_of_getElem? (i := 53) rfl)) (hw _ (List.mem_of_getElem? (i := 3) rfl)) (by decide) (by decide)) q152a q152c (g := (mkF m 202 #[.val (.int p0), .val (.ref b1), .val (.int (7 : Int32)), .val (.ref w_LONG), .val (.int (0 : Int32))] [(.ref w_LONG)])) rfl (by rw [hml]; rfl) (Steps.refl _) (argsL := []) (rest := []) (lenOf pd___Z rfl) rfl (by show 2 * 0 + _ ≤ _; exact Nat.le_of_eq rfl) (hb hby at_202) (fun _ _ => ⟨rfl, e150, (by decide : 1 + 0 ≤ _), (by decide : 22 + 0 ≤ _)⟩)
    dsimp only [Pt.U, Pt.locs, Pt.cells, Pt.slots] at X152 l152 y152 z152 st152 hQ152
    subst l152 y152 z152
    obtain ⟨rfl, N152q, e152⟩ := hQ152
    have N152 := Fr.app N151 N152q
    have pre156 : ∀ t, Steps p.tables e below (T152.setTop (mkF m 215 #[.val (.int p0), .val (.ref b1), .val (.int (7 : Int32)), .val (.ref w_LONG), .val (.int (0 : Int32))] [(.int (1 : Int32))])) t → Steps p.tables e below (s₁.setTop (entryFrame m #[(.int p0)] maxLocals)) t := by
      intro t kt
      refine pre68 t ?_
      show Steps p.tables e below (T67.setTop (mkF m 162 #[.val (.int p0), .val (.ref b1), .val (.int (7 : Int32)), .unset, .unset] [])) _
      refine XS.aloadN X67.here hx rfl (hb hby at_162) rfl rfl ?_
      show Steps p.tables e below (T67.setTop (mkF m 163 #[.val (.int p0), .val (.ref b1), .val (.int (7 : Int32)), .unset, .unset] [(.ref b1)])) _
      refine XS.iloadN X67.here hx rfl (hb hby at_163) rfl ?_
      show Steps p.tables e below (T67.setTop (mkF m 164 #[.val (.int p0), .val (.ref b1), .val (.int (7 : Int32)), .unset, .unset] [(.int (7 : Int32)), (.ref b1)])) _
      refine X67.aaload hx (j := (7 : Int32)) (v := (.ref w_LONG)) (by rw [e67]; exact Ar146.1) (State.isArrayOf_alike hZ.alike Ar146.2.1) rfl Ar146.2.2 hin146 hat146 (g := (mkF m 164 #[.val (.int p0), .val (.ref b1), .val (.int (7 : Int32)), .unset, .unset] [(.int (7 : Int32)), (.ref b1)])) rfl rfl (hb hby at_164) _ ?_
      show Steps p.tables e below (T67.setTop (mkF m 165 #[.val (.int p0), .val (.ref b1), .val (.int (7 : Int32)), .unset, .unset] [(.ref w_LONG)])) _
      refine XS.astoreN X67.here hx rfl (hb hby at_165) rfl rfl (l' := #[.val (.int p0), .val (.ref b1), .val (.int (7 : Int32)), .val (.ref w_LONG), .unset]) rfl ?_
      show Steps p.tables e below (T67.setTop (mkF m 166 #[.val (.int p0), .val (.ref b1), .val (.int (7 : Int32)), .val (.ref w_LONG), .unset] [])) _
      refine XS.aloadN X67.here hx rfl (hb hby at_166) rfl rfl ?_
      show Steps p.tables e below (T67.setTop (mkF m 167 #[.val (.int p0), .val (.ref b1), .val (.int (7 : Int32)), .val (.ref w_LONG), .unset] [(.ref w_LONG)])) _
      refine st147 _ ?_
      show Steps p.tables e below (T147.setTop (mkF m 170 #[.val (.int p0), .val (.ref b1), .val (.int (7 : Int32)), .val (.ref w_LONG), .unset] [(.ref w_STRUCTURE), (.ref w_LONG)])) _
      refine Jvm.RoadKit.acmp (g := (mkF m 170 #[.val (.int p0), .val (.ref b1), .val (.int (7 : Int32)), .val (.ref w_LONG), .unset] [(.ref w_STRUCTURE), (.ref w_LONG)])) X147 hx rfl rfl rfl (pc0 := 170) (pc' := 173) (same := false) rfl (hb hby at_170) rfl (decide_eq_false fun q => (Fld.ne F_ordinal_LONG F_ordinal_STRUCTURE (fun q => absurd (Value.int.inj q) (by decide))) (Value.ref.inj q)) (by decide) (by decide) ?_
      show Steps p.tables e below (T147.setTop (mkF m 173 #[.val (.int p0), .val (.ref b1), .val (.int (7 : Int32)), .val (.ref w_LONG), .unset] [])) _
      refine XS.aloadN X147.here hx rfl (hb hby at_173) rfl rfl ?_
      show Steps p.tables e below (T147.setTop (mkF m 174 #[.val (.int p0), .val (.ref b1), .val (.int (7 : Int32)), .val (.ref w_LONG), .unset] [(.ref w_LONG)])) _
      refine st148 _ ?_
      show Steps p.tables e below (T148.setTop (mkF m 177 #[.val (.int p0), .val (.ref b1), .val (.int (7 : Int32)), .val (.ref w_LONG), .unset] [(.ref w_UNION), (.ref w_LONG)])) _
      refine Jvm.RoadKit.acmp (g := (mkF m 177 #[.val (.int p0), .val (.ref b1), .val (.int (7 : Int32)), .val (.ref w_LONG), .unset] [(.ref w_UNION), (.ref w_LONG)])) X148 hx rfl rfl rfl (pc0 := 177) (pc' := 180) (same := false) rfl (hb hby at_177) rfl (decide_eq_false fun q => (Fld.ne F_ordinal_LONG F_ordinal_UNION (fun q => absurd (Value.int.inj q) (by decide))) (Value.ref.inj q)) (by decide) (by decide) ?_
      show Steps p.tables e below (T148.setTop (mkF m 180 #[.val (.int p0), .val (.ref b1), .val (.int (7 : Int32)), .val (.ref w_LONG), .unset] [])) _
      refine XS.aloadN X148.here hx rfl (hb hby at_180) rfl rfl ?_
      show Steps p.tables e below (T148.setTop (mkF m 181 #[.val (.int p0), .val (.ref b1), .val (.int (7 : Int32)), .val (.ref w_LONG), .unset] [(.ref w_LONG)])) _
      refine st149 _ ?_
      show Steps p.tables e below (T149.setTop (mkF m 184 #[.val (.int p0), .val (.ref b1), .val (.int (7 : Int32)), .val (.ref w_LONG), .unset] [(.ref w_ENUM), (.ref w_LONG)])) _
      refine Jvm.RoadKit.acmp (g := (mkF m 184 #[.val (.int p0), .val (.ref b1), .val (.int (7 : Int32)), .val (.ref w_LONG), .unset] [(.ref w_ENUM), (.ref w_LONG)])) X149 hx rfl rfl rfl (pc0 := 184) (pc' := 187) (same := false) rfl (hb hby at_184) rfl (decide_eq_false fun q => (Fld.ne F_ordinal_LONG F_ordinal_ENUM (fun q => absurd (Value.int.inj q) (by decide))) (Value.ref.inj q)) (by decide) (by decide) ?_
      show Steps p.tables e below (T149.setTop (mkF m 187 #[.val (.int p0), .val (.ref b1), .val (.int (7 : Int32)), .val (.ref w_LONG), .unset] [])) _
      refine XS.aloadN X149.here hx rfl (hb hby at_187) rfl rfl ?_
      show Steps p.tables e below (T149.setTop (mkF m 188 #[.val (.int p0), .val (.ref b1), .val (.int (7 : Int32)), .val (.ref w_LONG), .unset] [(.ref w_LONG)])) _
      refine st150 _ ?_
      show Steps p.tables e below (T150.setTop (mkF m 191 #[.val (.int p0), .val (.ref b1), .val (.int (7 : Int32)), .val (.ref w_LONG), .unset] [(.ref w_INT_ENUM), (.ref w_LONG)])) _
      refine Jvm.RoadKit.acmp (g := (mkF m 191 #[.val (.int p0), .val (.ref b1), .val (.int (7 : Int32)), .val (.ref w_LONG), .unset] [(.ref w_INT_ENUM), (.ref w_LONG)])) X150 hx rfl rfl rfl (pc0 := 191) (pc' := 198) (same := false) rfl (hb hby at_191) rfl (decide_eq_false fun q => (Fld.ne F_ordinal_LONG F_ordinal_INT_ENUM (fun q => absurd (Value.int.inj q) (by decide))) (Value.ref.inj q)) (by decide) (by decide) ?_
      show Steps p.tables e below (T150.setTop (mkF m 198 #[.val (.int p0), .val (.ref b1), .val (.int (7 : Int32)), .val (.ref w_LONG), .unset] [])) _
      refine XS.iconst X150.here hx rfl (hb hby at_198) ?_
      show Steps p.tables e below (T150.setTop (mkF m 199 #[.val (.int p0), .val (.ref b1), .val (.int (7 : Int32)), .val (.ref w_LONG), .unset] [(.int (0 : Int32))])) _
      refine XS.istore X150.here hx rfl (hb hby at_199) rfl (l' := #[.val (.int p0), .val (.ref b1), .val (.int (7 : Int32)), .val (.ref w_LONG), .val (.int (0 : Int32))]) rfl ?_
      show Steps p.tables e below (T150.setTop (mkF m 201 #[.val (.int p0), .val (.ref b1), .val (.int (7 : Int32)), .val (.ref w_LONG), .val (.int (0 : Int32))] [])) _
      refine XS.aloadN X150.here hx rfl (hb hby at_201) rfl rfl ?_
      show Steps p.tables e below (T150.setTop (mkF m 202 #[.val (.int p0), .val (.ref b1), .val (.int (7 : Int32)), .val (.ref w_LONG), .val (.int (0 : Int32))] [(.ref w_LONG)])) _
      refine st152.trans ?_
      show Steps p.tables e below (T152.setTop (mkF m 205 #[.val (.int p0), .val (.ref b1), .val (.int (7 : Int32)), .val (.ref w_LONG), .val (.int (0 : Int32))] [(.int (0 : Int32))])) _
      refine XS.iload X152.here hx rfl (hb hby at_205) rfl ?_
      show Steps p.tables e below (T152.setTop (mkF m 207 #[.val (.int p0), .val (.ref b1), .val (.int (7 : Int32)), .val (.ref w_LONG), .val (.int (0 : Int32))] [(.int (0 : Int32)), (.int (0 : Int32))])) _
      refine XS.icmpNo X152.here hx rfl (hb hby at_207) rfl (teq (by decide : (0 : Int32) = (0 : Int32))).2 ?_
      show Steps p.tables e below (T152.setTop (mkF m 210 #[.val (.int p0), .val (.ref b1), .val (.int (7 : Int32)), .val (.ref w_LONG), .val (.int (0 : Int32))] [])) _
      refine XS.iconst X152.here hx rfl (hb hby at_210) ?_
      show Steps p.tables e below (T152.setTop (mkF m 211 #[.val (.int p0), .val (.ref b1), .val (.int (7 : Int32)), .val (.ref w_LONG), .val (.int (0 : Int32))] [(.int (1 : Int32))])) _
      refine XS.goto X152.here hx rfl (pc0 := 211) (pc' := 215) rfl (hb hby at_211) (by decide) (by decide) ?_
      exact kt
    obtain ⟨fs, hr, hrun, hended, hW, hsame⟩ := X152.leave (v := some (.int (1 : Int32))) (fun h => by rw [Bd.returns] at h; cases h)
    refine ⟨_, _, pre156 _ ?_, hrun, hended, _, _, rfl, ?_, ⟨_, rfl⟩, hW, hsame.mono (by decide) (by decide)⟩
    · show Steps p.tables e below (T152.setTop (mkF m 215 #[.val (.int p0), .val (.ref b1), .val (.int (7 : Int32)), .val (.ref w_LONG), .val (.int (0 : Int32))] [(.int (1 : Int32))])) _
      exact retN X152 hx (t := .boolean) Bd.returns (by simp) (hb hby at_215) hr
    · show Q_rm0 Z p0 w_BLOB w_BOOLEAN w_DOCUMENT w_STRING w_BYTE w_SHORT w_INTEGER w_LONG w_FLOAT w_DOUBLE w_BIG_INTEGER w_BIG_DECIMAL w_TIMESTAMP w_ENUM w_INT_ENUM w_LIST w_MAP w_STRUCTURE w_UNION w_SERVICE w_OPERATION w_RESOURCE r_fixedMembers_BLOB r_fixedMembers_LIST r_fixedMembers_MAP h0 n0 _ T152.heap _
      rw [e152]
      exact ⟨rfl, N152⟩
  · rw [hk] at pre68
    have vt157 := V_b1
    obtain ⟨cl157, Ar157, q157, S157, Ng157, Ha157, G157⟩ := vt157
    have hin157 : ¬ ((8 : Int32) < 0 ∨ cl157.slots.size ≤ ((8 : Int32)).toNatClampNeg) := inb_of S157 ⟨by decide, by decide⟩
    have hat157 : cl157.slots[((8 : Int32)).toNatClampNeg]? = some (.ref w_FLOAT) := Ha157.at hin157 rfl
    obtain ⟨T158, X158, e158, st158⟩ := getS2 X67 hx hZ hown (host := "") (Or.inl (hw _ (List.mem_of_getElem? (i := 38) rfl))) Via.refl e67 (S_STRUCTURE.ext O67.2) (g := (mkF m 167 #[.val (.int p0), .val (.ref b1), .val (.int (8 : Int32)), .val (.ref w_FLOAT), .unset] [(.ref w_FLOAT)])) rfl (hb hby at_167)
    obtain ⟨T159, X159, e159, st159⟩ := getS2 X158 hx hZ hown (host := "") (Or.inl (hw _ (List.mem_of_getElem? (i := 40) rfl))) Via.refl e158 (S_UNION.ext O67.2) (g := (mkF m 174 #[.val (.int p0), .val (.ref b1), .val (.int (8 : Int32)), .val (.ref w_FLOAT), .unset] [(.ref w_FLOAT)])) rfl (hb hby at_174)
    obtain ⟨T160, X160, e160, st160⟩ := getS2 X159 hx hZ hown (host := "") (Or.inl (hw _ (List.mem_of_getElem? (i := 30) rfl))) Via.refl e159 (S_ENUM.ext O67.2) (g := (mkF m 181 #[.val (.int p0), .val (.ref b1), .val (.int (8 : Int32)), .val (.ref w_FLOAT), .unset] [(.ref w_FLOAT)])) rfl (hb hby at_181)
    obtain ⟨T161, X161, e161, st161⟩ := getS2 X160 hx hZ hown (host := "") (Or.inl (hw _ (List.mem_of_getElem? (i := 32) rfl))) Via.refl e160 (S_INT_ENUM.ext O67.2) (g := (mkF m 188 #[.val (.int p0), .val (.ref b1), .val (.int (8 : Int32)), .val (.ref w_FLOAT), .unset] [(.ref w_FLOAT)])) rfl (hb hby at_188)
    obtain ⟨lc162, X162, N162⟩ := own_pack X161 N67
    obtain ⟨cq163, kq163, q163a, q163b, q163c⟩ := isOf hZ e161 (E_FLOAT.ext O67.2)
    obtain ⟨_, _, ⟨T163, L163, k163, n163⟩, -, X163, ⟨Lc163, hQ163, l163, y163, z163⟩, st163⟩ := X162.virtualBack hx (y := (⟨"com/example/shapewright/shapewright/model/ShapeType", "namesItsMembers", "()Z"⟩ : MethodName)) (z := (⟨"com/example/shapewright/shapewright/model/ShapeType", "namesItsMembers", "()Z"⟩ : MethodName)) hown (mvT hZ (hw _ (List.mem_of_getElem? (i := 49) rfl))) (mvT hZ (hw _ (List.mem_of_getElem? (i := 50) rfl))) (notFace_of_selects (args := #[]) (mvT hZ (hw _ (List.mem_of_getElem? (i := 52) rfl)))) (mvT hZ (hw _ (List.mem_of_getElem? (i := 52) rfl))) (mvT hZ (hw _ (List.mem_of_getElem? (i := 51) rfl))) (by decide) (backOf (W := 0) (rm_namesItsMembers_9 l Z a0 hw [] r_fixedMembers_BLOB w_FLOAT h67 n0 O67  F_fixedMembers_FLOAT) hZ (hw _ (List.mem_of_getElem? (i := 53) rfl)) (hw _ (List.mem_of_getElem? (i := 3) rfl)) (by decide) (by decide)) q163a q163c (g := (mkF m 202 #[.val (.int p0), .val (.ref b1), .val (.int (8 : Int32)), .val (.ref w_FLOAT), .val (.int (0 : Int32))] [(.ref w_FLOAT)])) rfl (by rw [hml]; rfl) (Steps.refl _) (argsL := []) (rest := []) (lenOf pd___Z rfl) rfl (by show 2 * 0 + _ ≤ _; exact Nat.le_of_eq rfl) (hb hby at_202) (fun _ _ => ⟨rfl, e161, (by decide : 1 + 0 ≤ _), (by decide : 22 + 0 ≤ _)⟩)
    dsimp only [Pt.U, Pt.locs, Pt.cells, Pt.slots] at X163 l163 y163 z163 st163 hQ163
    subst l163 y163 z163
    obtain ⟨rfl, N163q, e163⟩ := hQ163
    have N163 := Fr.app N162 N163q
    have pre167 : ∀ t, Steps p.tables e below (T163.setTop (mkF m 215 #[.val (.int p0), .val (.ref b1), .val (.int (8 : Int32)), .val (.ref w_FLOAT), .val (.int (0 : Int32))] [(.int (1 : Int32))])) t → Steps p.tables e below (s₁.setTop (entryFrame m #[(.int p0)] maxLocals)) t := by
      intro t kt
      refine pre68 t ?_
      show Steps p.tables e below (T67.setTop (mkF m 162 #[.val (.int p0), .val (.ref b1), .val (.int (8 : Int32)), .unset, .unset] [])) _
      refine XS.aloadN X67.here hx rfl (hb hby at_162) rfl rfl ?_
      show Steps p.tables e below (T67.setTop (mkF m 163 #[.val (.int p0), .val (.ref b1), .val (.int (8 : Int32)), .unset, .unset] [(.ref b1)])) _
      refine XS.iloadN X67.here hx rfl (hb hby at_163) rfl ?_
      show Steps p.tables e below (T67.setTop (mkF m 164 #[.val (.int p0), .val (.ref b1), .val (.int (8 : Int32)), .unset, .unset] [(.int (8 : Int32)), (.ref b1)])) _
      refine X67.aaload hx (j := (8 : Int32)) (v := (.ref w_FLOAT)) (by rw [e67]; exact Ar157.1) (State.isArrayOf_alike hZ.alike Ar157.2.1) rfl Ar157.2.2 hin157 hat157 (g := (mkF m 164 #[.val (.int p0), .val (.ref b1), .val (.int (8 : Int32)), .unset, .unset] [(.int (8 : Int32)), (.ref b1)])) rfl rfl (hb hby at_164) _ ?_
      show Steps p.tables e below (T67.setTop (mkF m 165 #[.val (.int p0), .val (.ref b1), .val (.int (8 : Int32)), .unset, .unset] [(.ref w_FLOAT)])) _
      refine XS.astoreN X67.here hx rfl (hb hby at_165) rfl rfl (l' := #[.val (.int p0), .val (.ref b1), .val (.int (8 : Int32)), .val (.ref w_FLOAT), .unset]) rfl ?_
      show Steps p.tables e below (T67.setTop (mkF m 166 #[.val (.int p0), .val (.ref b1), .val (.int (8 : Int32)), .val (.ref w_FLOAT), .unset] [])) _
      refine XS.aloadN X67.here hx rfl (hb hby at_166) rfl rfl ?_
      show Steps p.tables e below (T67.setTop (mkF m 167 #[.val (.int p0), .val (.ref b1), .val (.int (8 : Int32)), .val (.ref w_FLOAT), .unset] [(.ref w_FLOAT)])) _
      refine st158 _ ?_
      show Steps p.tables e below (T158.setTop (mkF m 170 #[.val (.int p0), .val (.ref b1), .val (.int (8 : Int32)), .val (.ref w_FLOAT), .unset] [(.ref w_STRUCTURE), (.ref w_FLOAT)])) _
      refine Jvm.RoadKit.acmp (g := (mkF m 170 #[.val (.int p0), .val (.ref b1), .val (.int (8 : Int32)), .val (.ref w_FLOAT), .unset] [(.ref w_STRUCTURE), (.ref w_FLOAT)])) X158 hx rfl rfl rfl (pc0 := 170) (pc' := 173) (same := false) rfl (hb hby at_170) rfl (decide_eq_false fun q => (Fld.ne F_ordinal_FLOAT F_ordinal_STRUCTURE (fun q => absurd (Value.int.inj q) (by decide))) (Value.ref.inj q)) (by decide) (by decide) ?_
      show Steps p.tables e below (T158.setTop (mkF m 173 #[.val (.int p0), .val (.ref b1), .val (.int (8 : Int32)), .val (.ref w_FLOAT), .unset] [])) _
      refine XS.aloadN X158.here hx rfl (hb hby at_173) rfl rfl ?_
      show Steps p.tables e below (T158.setTop (mkF m 174 #[.val (.int p0), .val (.ref b1), .val (.int (8 : Int32)), .val (.ref w_FLOAT), .unset] [(.ref w_FLOAT)])) _
      refine st159 _ ?_
      show Steps p.tables e below (T159.setTop (mkF m 177 #[.val (.int p0), .val (.ref b1), .val (.int (8 : Int32)), .val (.ref w_FLOAT), .unset] [(.ref w_UNION), (.ref w_FLOAT)])) _
      refine Jvm.RoadKit.acmp (g := (mkF m 177 #[.val (.int p0), .val (.ref b1), .val (.int (8 : Int32)), .val (.ref w_FLOAT), .unset] [(.ref w_UNION), (.ref w_FLOAT)])) X159 hx rfl rfl rfl (pc0 := 177) (pc' := 180) (same := false) rfl (hb hby at_177) rfl (decide_eq_false fun q => (Fld.ne F_ordinal_FLOAT F_ordinal_UNION (fun q => absurd (Value.int.inj q) (by decide))) (Value.ref.inj q)) (by decide) (by decide) ?_
      show Steps p.tables e below (T159.setTop (mkF m 180 #[.val (.int p0), .val (.ref b1), .val (.int (8 : Int32)), .val (.ref w_FLOAT), .unset] [])) _
      refine XS.aloadN X159.here hx rfl (hb hby at_180) rfl rfl ?_
      show Steps p.tables e below (T159.setTop (mkF m 181 #[.val (.int p0), .val (.ref b1), .val (.int (8 : Int32)), .val (.ref w_FLOAT), .unset] [(.ref w_FLOAT)])) _
      refine st160 _ ?_
      show Steps p.tables e below (T160.setTop (mkF m 184 #[.val (.int p0), .val (.ref b1), .val (.int (8 : Int32)), .val (.ref w_FLOAT), .unset] [(.ref w_ENUM), (.ref w_FLOAT)])) _
      refine Jvm.RoadKit.acmp (g := (mkF m 184 #[.val (.int p0), .val (.ref b1), .val (.int (8 : Int32)), .val (.ref w_FLOAT), .unset] [(.ref w_ENUM), (.ref w_FLOAT)])) X160 hx rfl rfl rfl (pc0 := 184) (pc' := 187) (same := false) rfl (hb hby at_184) rfl (decide_eq_false fun q => (Fld.ne F_ordinal_FLOAT F_ordinal_ENUM (fun q => absurd (Value.int.inj q) (by decide))) (Value.ref.inj q)) (by decide) (by decide) ?_
      show Steps p.tables e below (T160.setTop (mkF m 187 #[.val (.int p0), .val (.ref b1), .val (.int (8 : Int32)), .val (.ref w_FLOAT), .unset] [])) _
      refine XS.aloadN X160.here hx rfl (hb hby at_187) rfl rfl ?_
      show Steps p.tables e below (T160.setTop (mkF m 188 #[.val (.int p0), .val (.ref b1), .val (.int (8 : Int32)), .val (.ref w_FLOAT), .unset] [(.ref w_FLOAT)])) _
      refine st161 _ ?_
      show Steps p.tables e below (T161.setTop (mkF m 191 #[.val (.int p0), .val (.ref b1), .val (.int (8 : Int32)), .val (.ref w_FLOAT), .unset] [(.ref w_INT_ENUM), (.ref w_FLOAT)])) _
      refine Jvm.RoadKit.acmp (g := (mkF m 191 #[.val (.int p0), .val (.ref b1), .val (.int (8 : Int32)), .val (.ref w_FLOAT), .unset] [(.ref w_INT_ENUM), (.ref w_FLOAT)])) X161 hx rfl rfl rfl (pc0 := 191) (pc' := 198) (same := false) rfl (hb hby at_191) rfl (decide_eq_false fun q => (Fld.ne F_ordinal_FLOAT F_ordinal_INT_ENUM (fun q => absurd (Value.int.inj q) (by decide))) (Value.ref.inj q)) (by decide) (by decide) ?_
      show Steps p.tables e below (T161.setTop (mkF m 198 #[.val (.int p0), .val (.ref b1), .val (.int (8 : Int32)), .val (.ref w_FLOAT), .unset] [])) _
      refine XS.iconst X161.here hx rfl (hb hby at_198) ?_
      show Steps p.tables e below (T161.setTop (mkF m 199 #[.val (.int p0), .val (.ref b1), .val (.int (8 : Int32)), .val (.ref w_FLOAT), .unset] [(.int (0 : Int32))])) _
      refine XS.istore X161.here hx rfl (hb hby at_199) rfl (l' := #[.val (.int p0), .val (.ref b1), .val (.int (8 : Int32)), .val (.ref w_FLOAT), .val (.int (0 : Int32))]) rfl ?_
      show Steps p.tables e below (T161.setTop (mkF m 201 #[.val (.int p0), .val (.ref b1), .val (.int (8 : Int32)), .val (.ref w_FLOAT), .val (.int (0 : Int32))] [])) _
      refine XS.aloadN X161.here hx rfl (hb hby at_201) rfl rfl ?_
      show Steps p.tables e below (T161.setTop (mkF m 202 #[.val (.int p0), .val (.ref b1), .val (.int (8 : Int32)), .val (.ref w_FLOAT), .val (.int (0 : Int32))] [(.ref w_FLOAT)])) _
      refine st163.trans ?_
      show Steps p.tables e below (T163.setTop (mkF m 205 #[.val (.int p0), .val (.ref b1), .val (.int (8 : Int32)), .val (.ref w_FLOAT), .val (.int (0 : Int32))] [(.int (0 : Int32))])) _
      refine XS.iload X163.here hx rfl (hb hby at_205) rfl ?_
      show Steps p.tables e below (T163.setTop (mkF m 207 #[.val (.int p0), .val (.ref b1), .val (.int (8 : Int32)), .val (.ref w_FLOAT), .val (.int (0 : Int32))] [(.int (0 : Int32)), (.int (0 : Int32))])) _
      refine XS.icmpNo X163.here hx rfl (hb hby at_207) rfl (teq (by decide : (0 : Int32) = (0 : Int32))).2 ?_
      show Steps p.tables e below (T163.setTop (mkF m 210 #[.val (.int p0), .val (.ref b1), .val (.int (8 : Int32)), .val (.ref w_FLOAT), .val (.int (0 : Int32))] [])) _
      refine XS.iconst X163.here hx rfl (hb hby at_210) ?_
      show Steps p.tables e below (T163.setTop (mkF m 211 #[.val (.int p0), .val (.ref b1), .val (.int (8 : Int32)), .val (.ref w_FLOAT), .val (.int (0 : Int32))] [(.int (1 : Int32))])) _
      refine XS.goto X163.here hx rfl (pc0 := 211) (pc' := 215) rfl (hb hby at_211) (by decide) (by decide) ?_
      exact kt
    obtain ⟨fs, hr, hrun, hended, hW, hsame⟩ := X163.leave (v := some (.int (1 : Int32))) (fun h => by rw [Bd.returns] at h; cases h)
    refine ⟨_, _, pre167 _ ?_, hrun, hended, _, _, rfl, ?_, ⟨_, rfl⟩, hW, hsame.mono (by decide) (by decide)⟩
    · show Steps p.tables e below (T163.setTop (mkF m 215 #[.val (.int p0), .val (.ref b1), .val (.int (8 : Int32)), .val (.ref w_FLOAT), .val (.int (0 : Int32))] [(.int (1 : Int32))])) _
      exact retN X163 hx (t := .boolean) Bd.returns (by simp) (hb hby at_215) hr
    · show Q_rm0 Z p0 w_BLOB w_BOOLEAN w_DOCUMENT w_STRING w_BYTE w_SHORT w_INTEGER w_LONG w_FLOAT w_DOUBLE w_BIG_INTEGER w_BIG_DECIMAL w_TIMESTAMP w_ENUM w_INT_ENUM w_LIST w_MAP w_STRUCTURE w_UNION w_SERVICE w_OPERATION w_RESOURCE r_fixedMembers_BLOB r_fixedMembers_LIST r_fixedMembers_MAP h0 n0 _ T163.heap _
      rw [e163]
      exact ⟨rfl, N163⟩
  · rw [hk] at pre68
    have vt168 := V_b1
    obtain ⟨cl168, Ar168, q168, S168, Ng168, Ha168, G168⟩ := vt168
    have hin168 : ¬ ((9 : Int32) < 0 ∨ cl168.slots.size ≤ ((9 : Int32)).toNatClampNeg) := inb_of S168 ⟨by decide, by decide⟩
    have hat168 : cl168.slots[((9 : Int32)).toNatClampNeg]? = some (.ref w_DOUBLE) := Ha168.at hin168 rfl
    obtain ⟨T169, X169, e169, st169⟩ := getS2 X67 hx hZ hown (host := "") (Or.inl (hw _ (List.mem_of_getElem? (i := 38) rfl))) Via.refl e67 (S_STRUCTURE.ext O67.2) (g := (mkF m 167 #[.val (.int p0), .val (.ref b1), .val (.int (9 : Int32)), .val (.ref w_DOUBLE), .unset] [(.ref w_DOUBLE)])) rfl (hb hby at_167)
    obtain ⟨T170, X170, e170, st170⟩ := getS2 X169 hx hZ hown (host := "") (Or.inl (hw _ (List.mem_of_getElem? (i := 40) rfl))) Via.refl e169 (S_UNION.ext O67.2) (g := (mkF m 174 #[.val (.int p0), .val (.ref b1), .val (.int (9 : Int32)), .val (.ref w_DOUBLE), .unset] [(.ref w_DOUBLE)])) rfl (hb hby at_174)
    obtain ⟨T171, X171, e171, st171⟩ := getS2 X170 hx hZ hown (host := "") (Or.inl (hw _ (List.mem_of_getElem? (i := 30) rfl))) Via.refl e170 (S_ENUM.ext O67.2) (g := (mkF m 181 #[.val (.int p0), .val (.ref b1), .val (.int (9 : Int32)), .val (.ref w_DOUBLE), .unset] [(.ref w_DOUBLE)])) rfl (hb hby at_181)
    obtain ⟨T172, X172, e172, st172⟩ := getS2 X171 hx hZ hown (host := "") (Or.inl (hw _ (List.mem_of_getElem? (i := 32) rfl))) Via.refl e171 (S_INT_ENUM.ext O67.2) (g := (mkF m 188 #[.val (.int p0), .val (.ref b1), .val (.int (9 : Int32)), .val (.ref w_DOUBLE), .unset] [(.ref w_DOUBLE)])) rfl (hb hby at_188)
    obtain ⟨lc173, X173, N173⟩ := own_pack X172 N67
    obtain ⟨cq174, kq174, q174a, q174b, q174c⟩ := isOf hZ e172 (E_DOUBLE.ext O67.2)
    obtain ⟨_, _, ⟨T174, L174, k174, n174⟩, -, X174, ⟨Lc174, hQ174, l174, y174, z174⟩, st174⟩ := X173.virtualBack hx (y := (⟨"com/example/shapewright/shapewright/model/ShapeType", "namesItsMembers", "()Z"⟩ : MethodName)) (z := (⟨"com/example/shapewright/shapewright/model/ShapeType", "namesItsMembers", "()Z"⟩ : MethodName)) hown (mvT hZ (hw _ (List.mem_of_getElem? (i := 49) rfl))) (mvT hZ (hw _ (List.mem_of_getElem? (i := 50) rfl))) (notFace_of_selects (args := #[]) (mvT hZ (hw _ (List.mem_of_getElem? (i := 52) rfl)))) (mvT hZ (hw _ (List.mem_of_getElem? (i := 52) rfl))) (mvT hZ (hw _ (List.mem_of_getElem? (i := 51) rfl))) (by decide) (backOf (W := 0) (rm_namesItsMembers_10 l Z a0 hw [] r_fixedMembers_BLOB w_DOUBLE h67 n0 O67  F_fixedMembers_DOUBLE) hZ (hw _ (List.mem_of_getElem? (i := 53) rfl)) (hw _ (List.mem_of_getElem? (i := 3) rfl)) (by decide) (by decide)) q174a q174c (g := (mkF m 202 #[.val (.int p0), .val (.ref b1), .val (.int (9 : Int32)), .val (.ref w_DOUBLE), .val (.int (0 : Int32))] [(.ref w_DOUBLE)])) rfl (by rw [hml]; rfl) (Steps.refl _) (argsL := []) (rest := []) (lenOf pd___Z rfl) rfl (by show 2 * 0 + _ ≤ _; exact Nat.le_of_eq rfl) (hb hby at_202) (fun _ _ => ⟨rfl, e172, (by decide : 1 + 0 ≤ _), (by decide : 22 + 0 ≤ _)⟩)
    dsimp only [Pt.U, Pt.locs, Pt.cells, Pt.slots] at X174 l174 y174 z174 st174 hQ174
    subst l174 y174 z174
    obtain ⟨rfl, N174q, e174⟩ := hQ174
    have N174 := Fr.app N173 N174q
    have pre178 : ∀ t, Steps p.tables e below (T174.setTop (mkF m 215 #[.val (.int p0), .val (.ref b1), .val (.int (9 : Int32)), .val (.ref w_DOUBLE), .val (.int (0 : Int32))] [(.int (1 : Int32))])) t → Steps p.tables e below (s₁.setTop (entryFrame m #[(.int p0)] maxLocals)) t := by
      intro t kt
      refine pre68 t ?_
      show Steps p.tables e below (T67.setTop (mkF m 162 #[.val (.int p0), .val (.ref b1), .val (.int (9 : Int32)), .unset, .unset] [])) _
      refine XS.aloadN X67.here hx rfl (hb hby at_162) rfl rfl ?_
      show Steps p.tables e below (T67.setTop (mkF m 163 #[.val (.int p0), .val (.ref b1), .val (.int (9 : Int32)), .unset, .unset] [(.ref b1)])) _
      refine XS.iloadN X67.here hx rfl (hb hby at_163) rfl ?_
      show Steps p.tables e below (T67.setTop (mkF m 164 #[.val (.int p0), .val (.ref b1), .val (.int (9 : Int32)), .unset, .unset] [(.int (9 : Int32)), (.ref b1)])) _
      refine X67.aaload hx (j := (9 : Int32)) (v := (.ref w_DOUBLE)) (by rw [e67]; exact Ar168.1) (State.isArrayOf_alike hZ.alike Ar168.2.1) rfl Ar168.2.2 hin168 hat168 (g := (mkF m 164 #[.val (.int p0), .val (.ref b1), .val (.int (9 : Int32)), .unset, .unset] [(.int (9 : Int32)), (.ref b1)])) rfl rfl (hb hby at_164) _ ?_
      show Steps p.tables e below (T67.setTop (mkF m 165 #[.val (.int p0), .val (.ref b1), .val (.int (9 : Int32)), .unset, .unset] [(.ref w_DOUBLE)])) _
      refine XS.astoreN X67.here hx rfl (hb hby at_165) rfl rfl (l' := #[.val (.int p0), .val (.ref b1), .val (.int (9 : Int32)), .val (.ref w_DOUBLE), .unset]) rfl ?_
      show Steps p.tables e below (T67.setTop (mkF m 166 #[.val (.int p0), .val (.ref b1), .val (.int (9 : Int32)), .val (.ref w_DOUBLE), .unset] [])) _
      refine XS.aloadN X67.here hx rfl (hb hby at_166) rfl rfl ?_
      show Steps p.tables e below (T67.setTop (mkF m 167 #[.val (.int p0), .val (.ref b1), .val (.int (9 : Int32)), .val (.ref w_DOUBLE), .unset] [(.ref w_DOUBLE)])) _
      refine st169 _ ?_
      show Steps p.tables e below (T169.setTop (mkF m 170 #[.val (.int p0), .val (.ref b1), .val (.int (9 : Int32)), .val (.ref w_DOUBLE), .unset] [(.ref w_STRUCTURE), (.ref w_DOUBLE)])) _
      refine Jvm.RoadKit.acmp (g := (mkF m 170 #[.val (.int p0), .val (.ref b1), .val (.int (9 : Int32)), .val (.ref w_DOUBLE), .unset] [(.ref w_STRUCTURE), (.ref w_DOUBLE)])) X169 hx rfl rfl rfl (pc0 := 170) (pc' := 173) (same := false) rfl (hb hby at_170) rfl (decide_eq_false fun q => (Fld.ne F_ordinal_DOUBLE F_ordinal_STRUCTURE (fun q => absurd (Value.int.inj q) (by decide))) (Value.ref.inj q)) (by decide) (by decide) ?_
      show Steps p.tables e below (T169.setTop (mkF m 173 #[.val (.int p0), .val (.ref b1), .val (.int (9 : Int32)), .val (.ref w_DOUBLE), .unset] [])) _
      refine XS.aloadN X169.here hx rfl (hb hby at_173) rfl rfl ?_
      show Steps p.tables e below (T169.setTop (mkF m 174 #[.val (.int p0), .val (.ref b1), .val (.int (9 : Int32)), .val (.ref w_DOUBLE), .unset] [(.ref w_DOUBLE)])) _
      refine st170 _ ?_
      show Steps p.tables e below (T170.setTop (mkF m 177 #[.val (.int p0), .val (.ref b1), .val (.int (9 : Int32)), .val (.ref w_DOUBLE), .unset] [(.ref w_UNION), (.ref w_DOUBLE)])) _
      refine Jvm.RoadKit.acmp (g := (mkF m 177 #[.val (.int p0), .val (.ref b1), .val (.int (9 : Int32)), .val (.ref w_DOUBLE), .unset] [(.ref w_UNION), (.ref w_DOUBLE)])) X170 hx rfl rfl rfl (pc0 := 177) (pc' := 180) (same := false) rfl (hb hby at_177) rfl (decide_eq_false fun q => (Fld.ne F_ordinal_DOUBLE F_ordinal_UNION (fun q => absurd (Value.int.inj q) (by decide))) (Value.ref.inj q)) (by decide) (by decide) ?_
      show Steps p.tables e below (T170.setTop (mkF m 180 #[.val (.int p0), .val (.ref b1), .val (.int (9 : Int32)), .val (.ref w_DOUBLE), .unset] [])) _
      refine XS.aloadN X170.here hx rfl (hb hby at_180) rfl rfl ?_
      show Steps p.tables e below (T170.setTop (mkF m 181 #[.val (.int p0), .val (.ref b1), .val (.int (9 : Int32)), .val (.ref w_DOUBLE), .unset] [(.ref w_DOUBLE)])) _
      refine st171 _ ?_
      show Steps p.tables e below (T171.setTop (mkF m 184 #[.val (.int p0), .val (.ref b1), .val (.int (9 : Int32)), .val (.ref w_DOUBLE), .unset] [(.ref w_ENUM), (.ref w_DOUBLE)])) _
      refine Jvm.RoadKit.acmp (g := (mkF m 184 #[.val (.int p0), .val (.ref b1), .val (.int (9 : Int32)), .val (.ref w_DOUBLE), .unset] [(.ref w_ENUM), (.ref w_DOUBLE)])) X171 hx rfl rfl rfl (pc0 := 184) (pc' := 187) (same := false) rfl (hb hby at_184) rfl (decide_eq_false fun q => (Fld.ne F_ordinal_DOUBLE F_ordinal_ENUM (fun q => absurd (Value.int.inj q) (by decide))) (Value.ref.inj q)) (by decide) (by decide) ?_
      show Steps p.tables e below (T171.setTop (mkF m 187 #[.val (.int p0), .val (.ref b1), .val (.int (9 : Int32)), .val (.ref w_DOUBLE), .unset] [])) _
      refine XS.aloadN X171.here hx rfl (hb hby at_187) rfl rfl ?_
      show Steps p.tables e below (T171.setTop (mkF m 188 #[.val (.int p0), .val (.ref b1), .val (.int (9 : Int32)), .val (.ref w_DOUBLE), .unset] [(.ref w_DOUBLE)])) _
      refine st172 _ ?_
      show Steps p.tables e below (T172.setTop (mkF m 191 #[.val (.int p0), .val (.ref b1), .val (.int (9 : Int32)), .val (.ref w_DOUBLE), .unset] [(.ref w_INT_ENUM), (.ref w_DOUBLE)])) _
      refine Jvm.RoadKit.acmp (g := (mkF m 191 #[.val (.int p0), .val (.ref b1), .val (.int (9 : Int32)), .val (.ref w_DOUBLE), .unset] [(.ref w_INT_ENUM), (.ref w_DOUBLE)])) X172 hx rfl rfl rfl (pc0 := 191) (pc' := 198) (same := false) rfl (hb hby at_191) rfl (decide_eq_false fun q => (Fld.ne F_ordinal_DOUBLE F_ordinal_INT_ENUM (fun q => absurd (Value.int.inj q) (by decide))) (Value.ref.inj q)) (by decide) (by decide) ?_
      show Steps p.tables e below (T172.setTop (mkF m 198 #[.val (.int p0), .val (.ref b1), .val (.int (9 : Int32)), .val (.ref w_DOUBLE), .unset] [])) _
      refine XS.iconst X172.here hx rfl (hb hby at_198) ?_
      show Steps p.tables e below (T172.setTop (mkF m 199 #[.val (.int p0), .val (.ref b1), .val (.int (9 : Int32)), .val (.ref w_DOUBLE), .unset] [(.int (0 : Int32))])) _
      refine XS.istore X172.here hx rfl (hb hby at_199) rfl (l' := #[.val (.int p0), .val (.ref b1), .val (.int (9 : Int32)), .val (.ref w_DOUBLE), .val (.int (0 : Int32))]) rfl ?_
      show Steps p.tables e below (T172.setTop (mkF m 201 #[.val (.int p0), .val (.ref b1), .val (.int (9 : Int32)), .val (.ref w_DOUBLE), .val (.int (0 : Int32))] [])) _
      refine XS.aloadN X172.here hx rfl (hb hby at_201) rfl rfl ?_
      show Steps p.tables e below (T172.setTop (mkF m 202 #[.val (.int p0), .val (.ref b1), .val (.int (9 : Int32)), .val (.ref w_DOUBLE), .val (.int (0 : Int32))] [(.ref w_DOUBLE)])) _
      refine st174.trans ?_
      show Steps p.tables e below (T174.setTop (mkF m 205 #[.val (.int p0), .val (.ref b1), .val (.int (9 : Int32)), .val (.ref w_DOUBLE), .val (.int (0 : Int32))] [(.int (0 : Int32))])) _
      refine XS.iload X174.here hx rfl (hb hby at_205) rfl ?_
      show Steps p.tables e below (T174.setTop (mkF m 207 #[.val (.int p0), .val (.ref b1), .val (.int (9 : Int32)), .val (.ref w_DOUBLE), .val (.int (0 : Int32))] [(.int (0 : Int32)), (.int (0 : Int32))])) _
      refine XS.icmpNo X174.here hx rfl (hb hby at_207) rfl (teq (by decide : (0 : Int32) = (0 : Int32))).2 ?_
      show Steps p.tables e below (T174.setTop (mkF m 210 #[.val (.int p0), .val (.ref b1), .val (.int (9 : Int32)), .val (.ref w_DOUBLE), .val (.int (0 : Int32))] [])) _
      refine XS.iconst X174.here hx rfl (hb hby at_210) ?_
      show Steps p.tables e below (T174.setTop (mkF m 211 #[.val (.int p0), .val (.ref b1), .val (.int (9 : Int32)), .val (.ref w_DOUBLE), .val (.int (0 : Int32))] [(.int (1 : Int32))])) _
      refine XS.goto X174.here hx rfl (pc0 := 211) (pc' := 215) rfl (hb hby at_211) (by decide) (by decide) ?_
      exact kt
    obtain ⟨fs, hr, hrun, hended, hW, hsame⟩ := X174.leave (v := some (.int (1 : Int32))) (fun h => by rw [Bd.returns] at h; cases h)
    refine ⟨_, _, pre178 _ ?_, hrun, hended, _, _, rfl, ?_, ⟨_, rfl⟩, hW, hsame.mono (by decide) (by decide)⟩
    · show Steps p.tables e below (T174.setTop (mkF m 215 #[.val (.int p0), .val (.ref b1), .val (.int (9 : Int32)), .val (.ref w_DOUBLE), .val (.int (0 : Int32))] [(.int (1 : Int32))])) _
      exact retN X174 hx (t := .boolean) Bd.returns (by simp) (hb hby at_215) hr
    · show Q_rm0 Z p0 w_BLOB w_BOOLEAN w_DOCUMENT w_STRING w_BYTE w_SHORT w_INTEGER w_LONG w_FLOAT w_DOUBLE w_BIG_INTEGER w_BIG_DECIMAL w_TIMESTAMP w_ENUM w_INT_ENUM w_LIST w_MAP w_STRUCTURE w_UNION w_SERVICE w_OPERATION w_RESOURCE r_fixedMembers_BLOB r_fixedMembers_LIST r_fixedMembers_MAP h0 n0 _ T174.heap _
      rw [e174]
      exact ⟨rfl, N174⟩
  · rw [hk] at pre68
    have vt179 := V_b1
    obtain ⟨cl179, Ar179, q179, S179, Ng179, Ha179, G179⟩ := vt179
    have hin179 : ¬ ((10 : Int32) < 0 ∨ cl179.slots.size ≤ ((10 : Int32)).toNatClampNeg) := inb_of S179 ⟨by decide, by decide⟩
    have hat179 : cl179.slots[((10 : Int32)).toNatClampNeg]? = some (.ref w_BIG_INTEGER) := Ha179.at hin179 rfl
    obtain ⟨T180, X180, e180, st180⟩ := getS2 X67 hx hZ hown (host := "") (Or.inl (hw _ (List.mem_of_getElem? (i := 38) rfl))) Via.refl e67 (S_STRUCTURE.ext O67.2) (g := (mkF m 167 #[.val (.int p0), .val (.ref b1), .val (.int (10 : Int32)), .val (.ref w_BIG_INTEGER), .unset] [(.ref w_BIG_INTEGER)])) rfl (hb hby at_167)
    obtain ⟨T181, X181, e181, st181⟩ := getS2 X180 hx hZ hown (host := "") (Or.inl (hw _ (List.mem_of_getElem? (i := 40) rfl))) Via.refl e180 (S_UNION.ext O67.2) (g := (mkF m 174 #[.val (.int p0), .val (.ref b1), .val (.int (10 : Int32)), .val (.ref w_BIG_INTEGER), .unset] [(.ref w_BIG_INTEGER)])) rfl (hb hby at_174)
    obtain ⟨T182, X182, e182, st182⟩ := getS2 X181 hx hZ hown (host := "") (Or.inl (hw _ (List.mem_of_getElem? (i := 30) rfl))) Via.refl e181 (S_ENUM.ext O67.2) (g := (mkF m 181 #[.val (.int p0), .val (.ref b1), .val (.int (10 : Int32)), .val (.ref w_BIG_INTEGER), .unset] [(.ref w_BIG_INTEGER)])) rfl (hb hby at_181)
    obtain ⟨T183, X183, e183, st183⟩ := getS2 X182 hx hZ hown (host := "") (Or.inl (hw _ (List.mem_of_getElem? (i := 32) rfl))) Via.refl e182 (S_INT_ENUM.ext O67.2) (g := (mkF m 188 #[.val (.int p0), .val (.ref b1), .val (.int (10 : Int32)), .val (.ref w_BIG_INTEGER), .unset] [(.ref w_BIG_INTEGER)])) rfl (hb hby at_188)
    obtain ⟨lc184, X184, N184⟩ := own_pack X183 N67
    obtain ⟨cq185, kq185, q185a, q185b, q185c⟩ := isOf hZ e183 (E_BIG_INTEGER.ext O67.2)
    obtain ⟨_, _, ⟨T185, L185, k185, n185⟩, -, X185, ⟨Lc185, hQ185, l185, y185, z185⟩, st185⟩ := X184.virtualBack hx (y := (⟨"com/example/shapewright/shapewright/model/ShapeType", "namesItsMembers", "()Z"⟩ : MethodName)) (z := (⟨"com/example/shapewright/shapewright/model/ShapeType", "namesItsMembers", "()Z"⟩ : MethodName)) hown (mvT hZ (hw _ (List.mem_of_getElem? (i := 49) rfl))) (mvT hZ (hw _ (List.mem_of_getElem? (i := 50) rfl))) (notFace_of_selects (args := #[]) (mvT hZ (hw _ (List.mem_of_getElem? (i := 52) rfl)))) (mvT hZ (hw _ (List.mem_of_getElem? (i := 52) rfl))) (mvT hZ (hw _ (List.mem_of_getElem? (i := 51) rfl))) (by decide) (backOf (W := 0) (rm_namesItsMembers_11 l Z a0 hw [] w_BIG_INTEGER r_fixedMembers_BLOB h67 n0 O67  F_fixedMembers_BIG_INTEGER) hZ (hw _ (List.mem_of_getElem? (i := 53) rfl)) (hw _ (List.mem_of_getElem? (i := 3) rfl)) (by decide) (by decide)) q185a q185c (g := (mkF m 202 #[.val (.int p0), .val (.ref b1), .val (.int (10 : Int32)), .val (.ref w_BIG_INTEGER), .val (.int (0 : Int32))] [(.ref w_BIG_INTEGER)])) rfl (by rw [hml]; rfl) (Steps.refl _) (argsL := []) (rest := []) (lenOf pd___Z rfl) rfl (by show 2 * 0 + _ ≤ _; exact Nat.le_of_eq rfl) (hb hby at_202) (fun _ _ => ⟨rfl, e183, (by decide : 1 + 0 ≤ _), (by decide : 22 + 0 ≤ _)⟩)
    dsimp only [Pt.U, Pt.locs, Pt.cells, Pt.slots] at X185 l185 y185 z185 st185 hQ185
    subst l185 y185 z185
    obtain ⟨rfl, N185q, e185⟩ := hQ185
    have N185 := Fr.app N184 N185q
    have pre189 : ∀ t, Steps p.tables e below (T185.setTop (mkF m 215 #[.val (.int p0), .val (.ref b1), .val (.int (10 : Int32)), .val (.ref w_BIG_INTEGER), .val (.int (0 : Int32))] [(.int (1 : Int32))])) t → Steps p.tables e below (s₁.setTop (entryFrame m #[(.int p0)] maxLocals)) t := by
      intro t kt
      refine pre68 t ?_
      show Steps p.tables e below (T67.setTop (mkF m 162 #[.val (.int p0), .val (.ref b1), .val (.int (10 : Int32)), .unset, .unset] [])) _
      refine XS.aloadN X67.here hx rfl (hb hby at_162) rfl rfl ?_
      show Steps p.tables e below (T67.setTop (mkF m 163 #[.val (.int p0), .val (.ref b1), .val (.int (10 : Int32)), .unset, .unset] [(.ref b1)])) _
      refine XS.iloadN X67.here hx rfl (hb hby at_163) rfl ?_
      show Steps p.tables e below (T67.setTop (mkF m 164 #[.val (.int p0), .val (.ref b1), .val (.int (10 : Int32)), .unset, .unset] [(.int (10 : Int32)), (.ref b1)])) _
      refine X67.aaload hx (j := (10 : Int32)) (v := (.ref w_BIG_INTEGER)) (by rw [e67]; exact Ar179.1) (State.isArrayOf_alike hZ.alike Ar179.2.1) rfl Ar179.2.2 hin179 hat179 (g := (mkF m 164 #[.val (.int p0), .val (.ref b1), .val (.int (10 : Int32)), .unset, .unset] [(.int (10 : Int32)), (.ref b1)])) rfl rfl (hb hby at_164) _ ?_
      show Steps p.tables e below (T67.setTop (mkF m 165 #[.val (.int p0), .val (.ref b1), .val (.int (10 : Int32)), .unset, .unset] [(.ref w_BIG_INTEGER)])) _
      refine XS.astoreN X67.here hx rfl (hb hby at_165) rfl rfl (l' := #[.val (.int p0), .val (.ref b1), .val (.int (10 : Int32)), .val (.ref w_BIG_INTEGER), .unset]) rfl ?_
      show Steps p.tables e below (T67.setTop (mkF m 166 #[.val (.int p0), .val (.ref b1), .val (.int (10 : Int32)), .val (.ref w_BIG_INTEGER), .unset] [])) _
      refine XS.aloadN X67.here hx rfl (hb hby at_166) rfl rfl ?_
      show Steps p.tables e below (T67.setTop (mkF m 167 #[.val (.int p0), .val (.ref b1), .val (.int (10 : Int32)), .val (.ref w_BIG_INTEGER), .unset] [(.ref w_BIG_INTEGER)])) _
      refine st180 _ ?_
      show Steps p.tables e below (T180.setTop (mkF m 170 #[.val (.int p0), .val (.ref b1), .val (.int (10 : Int32)), .val (.ref w_BIG_INTEGER), .unset] [(.ref w_STRUCTURE), (.ref w_BIG_INTEGER)])) _
      refine Jvm.RoadKit.acmp (g := (mkF m 170 #[.val (.int p0), .val (.ref b1), .val (.int (10 : Int32)), .val (.ref w_BIG_INTEGER), .unset] [(.ref w_STRUCTURE), (.ref w_BIG_INTEGER)])) X180 hx rfl rfl rfl (pc0 := 170) (pc' := 173) (same := false) rfl (hb hby at_170) rfl (decide_eq_false fun q => (Fld.ne F_ordinal_BIG_INTEGER F_ordinal_STRUCTURE (fun q => absurd (Value.int.inj q) (by decide))) (Value.ref.inj q)) (by decide) (by decide) ?_
      show Steps p.tables e below (T180.setTop (mkF m 173 #[.val (.int p0), .val (.ref b1), .val (.int (10 : Int32)), .val (.ref w_BIG_INTEGER), .unset] [])) _
      refine XS.aloadN X180.here hx rfl (hb hby at_173) rfl rfl ?_
      show Steps p.tables e below (T180.setTop (mkF m 174 #[.val (.int p0), .val (.ref b1), .val (.int (10 : Int32)), .val (.ref w_BIG_INTEGER), .unset] [(.ref w_BIG_INTEGER)])) _
      refine st181 _ ?_
      show Steps p.tables e below (T181.setTop (mkF m 177 #[.val (.int p0), .val (.ref b1), .val (.int (10 : Int32)), .val (.ref w_BIG_INTEGER), .unset] [(.ref w_UNION), (.ref w_BIG_INTEGER)])) _
      refine Jvm.RoadKit.acmp (g := (mkF m 177 #[.val (.int p0), .val (.ref b1), .val (.int (10 : Int32)), .val (.ref w_BIG_INTEGER), .unset] [(.ref w_UNION), (.ref w_BIG_INTEGER)])) X181 hx rfl rfl rfl (pc0 := 177) (pc' := 180) (same := false) rfl (hb hby at_177) rfl (decide_eq_false fun q => (Fld.ne F_ordinal_BIG_INTEGER F_ordinal_UNION (fun q => absurd (Value.int.inj q) (by decide))) (Value.ref.inj q)) (by decide) (by decide) ?_
      show Steps p.tables e below (T181.setTop (mkF m 180 #[.val (.int p0), .val (.ref b1), .val (.int (10 : Int32)), .val (.ref w_BIG_INTEGER), .unset] [])) _
      refine XS.aloadN X181.here hx rfl (hb hby at_180) rfl rfl ?_
      show Steps p.tables e below (T181.setTop (mkF m 181 #[.val (.int p0), .val (.ref b1), .val (.int (10 : Int32)), .val (.ref w_BIG_INTEGER), .unset] [(.ref w_BIG_INTEGER)])) _
      refine st182 _ ?_
      show Steps p.tables e below (T182.setTop (mkF m 184 #[.val (.int p0), .val (.ref b1), .val (.int (10 : Int32)), .val (.ref w_BIG_INTEGER), .unset] [(.ref w_ENUM), (.ref w_BIG_INTEGER)])) _
      refine Jvm.RoadKit.acmp (g := (mkF m 184 #[.val (.int p0), .val (.ref b1), .val (.int (10 : Int32)), .val (.ref w_BIG_INTEGER), .unset] [(.ref w_ENUM), (.ref w_BIG_INTEGER)])) X182 hx rfl rfl rfl (pc0 := 184) (pc' := 187) (same := false) rfl (hb hby at_184) rfl (decide_eq_false fun q => (Fld.ne F_ordinal_BIG_INTEGER F_ordinal_ENUM (fun q => absurd (Value.int.inj q) (by decide))) (Value.ref.inj q)) (by decide) (by decide) ?_
      show Steps p.tables e below (T182.setTop (mkF m 187 #[.val (.int p0), .val (.ref b1), .val (.int (10 : Int32)), .val (.ref w_BIG_INTEGER), .unset] [])) _
      refine XS.aloadN X182.here hx rfl (hb hby at_187) rfl rfl ?_
      show Steps p.tables e below (T182.setTop (mkF m 188 #[.val (.int p0), .val (.ref b1), .val (.int (10 : Int32)), .val (.ref w_BIG_INTEGER), .unset] [(.ref w_BIG_INTEGER)])) _
      refine st183 _ ?_
      show Steps p.tables e below (T183.setTop (mkF m 191 #[.val (.int p0), .val (.ref b1), .val (.int (10 : Int32)), .val (.ref w_BIG_INTEGER), .unset] [(.ref w_INT_ENUM), (.ref w_BIG_INTEGER)])) _
      refine Jvm.RoadKit.acmp (g := (mkF m 191 #[.val (.int p0), .val (.ref b1), .val (.int (10 : Int32)), .val (.ref w_BIG_INTEGER), .unset] [(.ref w_INT_ENUM), (.ref w_BIG_INTEGER)])) X183 hx rfl rfl rfl (pc0 := 191) (pc' := 198) (same := false) rfl (hb hby at_191) rfl (decide_eq_false fun q => (Fld.ne F_ordinal_BIG_INTEGER F_ordinal_INT_ENUM (fun q => absurd (Value.int.inj q) (by decide))) (Value.ref.inj q)) (by decide) (by decide) ?_
      show Steps p.tables e below (T183.setTop (mkF m 198 #[.val (.int p0), .val (.ref b1), .val (.int (10 : Int32)), .val (.ref w_BIG_INTEGER), .unset] [])) _
      refine XS.iconst X183.here hx rfl (hb hby at_198) ?_
      show Steps p.tables e below (T183.setTop (mkF m 199 #[.val (.int p0), .val (.ref b1), .val (.int (10 : Int32)), .val (.ref w_BIG_INTEGER), .unset] [(.int (0 : Int32))])) _
      refine XS.istore X183.here hx rfl (hb hby at_199) rfl (l' := #[.val (.int p0), .val (.ref b1), .val (.int (10 : Int32)), .val (.ref w_BIG_INTEGER), .val (.int (0 : Int32))]) rfl ?_
      show Steps p.tables e below (T183.setTop (mkF m 201 #[.val (.int p0), .val (.ref b1), .val (.int (10 : Int32)), .val (.ref w_BIG_INTEGER), .val (.int (0 : Int32))] [])) _
      refine XS.aloadN X183.here hx rfl (hb hby at_201) rfl rfl ?_
      show Steps p.tables e below (T183.setTop (mkF m 202 #[.val (.int p0), .val (.ref b1), .val (.int (10 : Int32)), .val (.ref w_BIG_INTEGER), .val (.int (0 : Int32))] [(.ref w_BIG_INTEGER)])) _
      refine st185.trans ?_
      show Steps p.tables e below (T185.setTop (mkF m 205 #[.val (.int p0), .val (.ref b1), .val (.int (10 : Int32)), .val (.ref w_BIG_INTEGER), .val (.int (0 : Int32))] [(.int (0 : Int32))])) _
      refine XS.iload X185.here hx rfl (hb hby at_205) rfl ?_
      show Steps p.tables e below (T185.setTop (mkF m 207 #[.val (.int p0), .val (.ref b1), .val (.int (10 : Int32)), .val (.ref w_BIG_INTEGER), .val (.int (0 : Int32))] [(.int (0 : Int32)), (.int (0 : Int32))])) _
      refine XS.icmpNo X185.here hx rfl (hb hby at_207) rfl (teq (by decide : (0 : Int32) = (0 : Int32))).2 ?_
      show Steps p.tables e below (T185.setTop (mkF m 210 #[.val (.int p0), .val (.ref b1), .val (.int (10 : Int32)), .val (.ref w_BIG_INTEGER), .val (.int (0 : Int32))] [])) _
      refine XS.iconst X185.here hx rfl (hb hby at_210) ?_
      show Steps p.tables e below (T185.setTop (mkF m 211 #[.val (.int p0), .val (.ref b1), .val (.int (10 : Int32)), .val (.ref w_BIG_INTEGER), .val (.int (0 : Int32))] [(.int (1 : Int32))])) _
      refine XS.goto X185.here hx rfl (pc0 := 211) (pc' := 215) rfl (hb hby at_211) (by decide) (by decide) ?_
      exact kt
    obtain ⟨fs, hr, hrun, hended, hW, hsame⟩ := X185.leave (v := some (.int (1 : Int32))) (fun h => by rw [Bd.returns] at h; cases h)
    refine ⟨_, _, pre189 _ ?_, hrun, hended, _, _, rfl, ?_, ⟨_, rfl⟩, hW, hsame.mono (by decide) (by decide)⟩
    · show Steps p.tables e below (T185.setTop (mkF m 215 #[.val (.int p0), .val (.ref b1), .val (.int (10 : Int32)), .val (.ref w_BIG_INTEGER), .val (.int (0 : Int32))] [(.int (1 : Int32))])) _
      exact retN X185 hx (t := .boolean) Bd.returns (by simp) (hb hby at_215) hr
    · show Q_rm0 Z p0 w_BLOB w_BOOLEAN w_DOCUMENT w_STRING w_BYTE w_SHORT w_INTEGER w_LONG w_FLOAT w_DOUBLE w_BIG_INTEGER w_BIG_DECIMAL w_TIMESTAMP w_ENUM w_INT_ENUM w_LIST w_MAP w_STRUCTURE w_UNION w_SERVICE w_OPERATION w_RESOURCE r_fixedMembers_BLOB r_fixedMembers_LIST r_fixedMembers_MAP h0 n0 _ T185.heap _
      rw [e185]
      exact ⟨rfl, N185⟩
  · rw [hk] at pre68
    have vt190 := V_b1
    obtain ⟨cl190, Ar190, q190, S190, Ng190, Ha190, G190⟩ := vt190
    have hin190 : ¬ ((11 : Int32) < 0 ∨ cl190.slots.size ≤ ((11 : Int32)).toNatClampNeg) := inb_of S190 ⟨by decide, by decide⟩
    have hat190 : cl190.slots[((11 : Int32)).toNatClampNeg]? = some (.ref w_BIG_DECIMAL) := Ha190.at hin190 rfl
    obtain ⟨T191, X191, e191, st191⟩ := getS2 X67 hx hZ hown (host := "") (Or.inl (hw _ (List.mem_of_getElem? (i := 38) rfl))) Via.refl e67 (S_STRUCTURE.ext O67.2) (g := (mkF m 167 #[.val (.int p0), .val (.ref b1), .val (.int (11 : Int32)), .val (.ref w_BIG_DECIMAL), .unset] [(.ref w_BIG_DECIMAL)])) rfl (hb hby at_167)
    obtain ⟨T192, X192, e192, st192⟩ := getS2 X191 hx hZ hown (host := "") (Or.inl (hw _ (List.mem_of_getElem? (i := 40) rfl))) Via.refl e191 (S_UNION.ext O67.2) (g := (mkF m 174 #[.val (.int p0), .val (.ref b1), .val (.int (11 : Int32)), .val (.ref w_BIG_DECIMAL), .unset] [(.ref w_BIG_DECIMAL)])) rfl (hb hby at_174)
    obtain ⟨T193, X193, e193, st193⟩ := getS2 X192 hx hZ hown (host := "") (Or.inl (hw _ (List.mem_of_getElem? (i := 30) rfl))) Via.refl e192 (S_ENUM.ext O67.2) (g := (mkF m 181 #[.val (.int p0), .val (.ref b1), .val (.int (11 : Int32)), .val (.ref w_BIG_DECIMAL), .unset] [(.ref w_BIG_DECIMAL)])) rfl (hb hby at_181)
    obtain ⟨T194, X194, e194, st194⟩ := getS2 X193 hx hZ hown (host := "") (Or.inl (hw _ (List.mem_of_getElem? (i := 32) rfl))) Via.refl e193 (S_INT_ENUM.ext O67.2) (g := (mkF m 188 #[.val (.int p0), .val (.ref b1), .val (.int (11 : Int32)), .val (.ref w_BIG_DECIMAL), .unset] [(.ref w_BIG_DECIMAL)])) rfl (hb hby at_188)
    obtain ⟨lc195, X195, N195⟩ := own_pack X194 N67
    obtain ⟨cq196, kq196, q196a, q196b, q196c⟩ := isOf hZ e194 (E_BIG_DECIMAL.ext O67.2)
    obtain ⟨_, _, ⟨T196, L196, k196, n196⟩, -, X196, ⟨Lc196, hQ196, l196, y196, z196⟩, st196⟩ := X195.virtualBack hx (y := (⟨"com/example/shapewright/shapewright/model/ShapeType", "namesItsMembers", "()Z"⟩ : MethodName)) (z := (⟨"com/example/shapewright/shapewright/model/ShapeType", "namesItsMembers", "()Z"⟩ : MethodName)) hown (mvT hZ (hw _ (List.mem_of_getElem? (i := 49) rfl))) (mvT hZ (hw _ (List.mem_of_getElem? (i := 50) rfl))) (notFace_of_selects (args := #[]) (mvT hZ (hw _ (List.mem_of_getElem? (i := 52) rfl)))) (mvT hZ (hw _ (List.mem_of_getElem? (i := 52) rfl))) (mvT hZ (hw _ (List.mem_of_getElem? (i := 51) rfl))) (by decide) (backOf (W := 0) (rm_namesItsMembers_12 l Z a0 hw [] w_BIG_DECIMAL r_fixedMembers_BLOB h67 n0 O67  F_fixedMembers_BIG_DECIMAL) hZ (hw _ (List.mem_of_getElem? (i := 53) rfl)) (hw _ (List.mem_of_getElem? (i := 3) rfl)) (by decide) (by decide)) q196a q196c (g := (mkF m 202 #[.val (.int p0), .val (.ref b1), .val (.int (11 : Int32)), .val (.ref w_BIG_DECIMAL), .val (.int (0 : Int32))] [(.ref w_BIG_DECIMAL)])) rfl (by rw [hml]; rfl) (Steps.refl _) (argsL := []) (rest := []) (lenOf pd___Z rfl) rfl (by show 2 * 0 + _ ≤ _; exact Nat.le_of_eq rfl) (hb hby at_202) (fun _ _ => ⟨rfl, e194, (by decide : 1 + 0 ≤ _), (by decide : 22 + 0 ≤ _)⟩)
    dsimp only [Pt.U, Pt.locs, Pt.cells, Pt.slots] at X196 l196 y196 z196 st196 hQ196
    subst l196 y196 z196
    obtain ⟨rfl, N196q, e196⟩ := hQ196
    have N196 := Fr.app N195 N196q
    have pre200 : ∀ t, Steps p.tables e below (T196.setTop (mkF m 215 #[.val (.int p0), .val (.ref b1), .val (.int (11 : Int32)), .val (.ref w_BIG_DECIMAL), .val (.int (0 : Int32))] [(.int (1 : Int32))])) t → Steps p.tables e below (s₁.setTop (entryFrame m #[(.int p0)] maxLocals)) t := by
      intro t kt
      refine pre68 t ?_
      show Steps p.tables e below (T67.setTop (mkF m 162 #[.val (.int p0), .val (.ref b1), .val (.int (11 : Int32)), .unset, .unset] [])) _
      refine XS.aloadN X67.here hx rfl (hb hby at_162) rfl rfl ?_
      show Steps p.tables e below (T67.setTop (mkF m 163 #[.val (.int p0), .val (.ref b1), .val (.int (11 : Int32)), .unset, .unset] [(.ref b1)])) _
      refine XS.iloadN X67.here hx rfl (hb hby at_163) rfl ?_
      show Steps p.tables e below (T67.setTop (mkF m 164 #[.val (.int p0), .val (.ref b1), .val (.int (11 : Int32)), .unset, .unset] [(.int (11 : Int32)), (.ref b1)])) _
      refine X67.aaload hx (j := (11 : Int32)) (v := (.ref w_BIG_DECIMAL)) (by rw [e67]; exact Ar190.1) (State.isArrayOf_alike hZ.alike Ar190.2.1) rfl Ar190.2.2 hin190 hat190 (g := (mkF m 164 #[.val (.int p0), .val (.ref b1), .val (.int (11 : Int32)), .unset, .unset] [(.int (11 : Int32)), (.ref b1)])) rfl rfl (hb hby at_164) _ ?_
      show Steps p.tables e below (T67.setTop (mkF m 165 #[.val (.int p0), .val (.ref b1), .val (.int (11 : Int32)), .unset, .unset] [(.ref w_BIG_DECIMAL)])) _
      refine XS.astoreN X67.here hx rfl (hb hby at_165) rfl rfl (l' := #[.val (.int p0), .val (.ref b1), .val (.int (11 : Int32)), .val (.ref w_BIG_DECIMAL), .unset]) rfl ?_
      show Steps p.tables e below (T67.setTop (mkF m 166 #[.val (.int p0), .val (.ref b1), .val (.int (11 : Int32)), .val (.ref w_BIG_DECIMAL), .unset] [])) _
      refine XS.aloadN X67.here hx rfl (hb hby at_166) rfl rfl ?_
      show Steps p.tables e below (T67.setTop (mkF m 167 #[.val (.int p0), .val (.ref b1), .val (.int (11 : Int32)), .val (.ref w_BIG_DECIMAL), .unset] [(.ref w_BIG_DECIMAL)])) _
      refine st191 _ ?_
      show Steps p.tables e below (T191.setTop (mkF m 170 #[.val (.int p0), .val (.ref b1), .val (.int (11 : Int32)), .val (.ref w_BIG_DECIMAL), .unset] [(.ref w_STRUCTURE), (.ref w_BIG_DECIMAL)])) _
      refine Jvm.RoadKit.acmp (g := (mkF m 170 #[.val (.int p0), .val (.ref b1), .val (.int (11 : Int32)), .val (.ref w_BIG_DECIMAL), .unset] [(.ref w_STRUCTURE), (.ref w_BIG_DECIMAL)])) X191 hx rfl rfl rfl (pc0 := 170) (pc' := 173) (same := false) rfl (hb hby at_170) rfl (decide_eq_false fun q => (Fld.ne F_ordinal_BIG_DECIMAL F_ordinal_STRUCTURE (fun q => absurd (Value.int.inj q) (by decide))) (Value.ref.inj q)) (by decide) (by decide) ?_
      show Steps p.tables e below (T191.setTop (mkF m 173 #[.val (.int p0), .val (.ref b1), .val (.int (11 : Int32)), .val (.ref w_BIG_DECIMAL), .unset] [])) _
      refine XS.aloadN X191.here hx rfl (hb hby at_173) rfl rfl ?_
      show Steps p.tables e below (T191.setTop (mkF m 174 #[.val (.int p0), .val (.ref b1), .val (.int (11 : Int32)), .val (.ref w_BIG_DECIMAL), .unset] [(.ref w_BIG_DECIMAL)])) _
      refine st192 _ ?_
      show Steps p.tables e below (T192.setTop (mkF m 177 #[.val (.int p0), .val (.ref b1), .val (.int (11 : Int32)), .val (.ref w_BIG_DECIMAL), .unset] [(.ref w_UNION), (.ref w_BIG_DECIMAL)])) _
      refine Jvm.RoadKit.acmp (g := (mkF m 177 #[.val (.int p0), .val (.ref b1), .val (.int (11 : Int32)), .val (.ref w_BIG_DECIMAL), .unset] [(.ref w_UNION), (.ref w_BIG_DECIMAL)])) X192 hx rfl rfl rfl (pc0 := 177) (pc' := 180) (same := false) rfl (hb hby at_177) rfl (decide_eq_false fun q => (Fld.ne F_ordinal_BIG_DECIMAL F_ordinal_UNION (fun q => absurd (Value.int.inj q) (by decide))) (Value.ref.inj q)) (by decide) (by decide) ?_
      show Steps p.tables e below (T192.setTop (mkF m 180 #[.val (.int p0), .val (.ref b1), .val (.int (11 : Int32)), .val (.ref w_BIG_DECIMAL), .unset] [])) _
      refine XS.aloadN X192.here hx rfl (hb hby at_180) rfl rfl ?_
      show Steps p.tables e below (T192.setTop (mkF m 181 #[.val (.int p0), .val (.ref b1), .val (.int (11 : Int32)), .val (.ref w_BIG_DECIMAL), .unset] [(.ref w_BIG_DECIMAL)])) _
      refine st193 _ ?_
      show Steps p.tables e below (T193.setTop (mkF m 184 #[.val (.int p0), .val (.ref b1), .val (.int (11 : Int32)), .val (.ref w_BIG_DECIMAL), .unset] [(.ref w_ENUM), (.ref w_BIG_DECIMAL)])) _
      refine Jvm.RoadKit.acmp (g := (mkF m 184 #[.val (.int p0), .val (.ref b1), .val (.int (11 : Int32)), .val (.ref w_BIG_DECIMAL), .unset] [(.ref w_ENUM), (.ref w_BIG_DECIMAL)])) X193 hx rfl rfl rfl (pc0 := 184) (pc' := 187) (same := false) rfl (hb hby at_184) rfl (decide_eq_false fun q => (Fld.ne F_ordinal_BIG_DECIMAL F_ordinal_ENUM (fun q => absurd (Value.int.inj q) (by decide))) (Value.ref.inj q)) (by decide) (by decide) ?_
      show Steps p.tables e below (T193.setTop (mkF m 187 #[.val (.int p0), .val (.ref b1), .val (.int (11 : Int32)), .val (.ref w_BIG_DECIMAL), .unset] [])) _
      refine XS.aloadN X193.here hx rfl (hb hby at_187) rfl rfl ?_
      show Steps p.tables e below (T193.setTop (mkF m 188 #[.val (.int p0), .val (.ref b1), .val (.int (11 : Int32)), .val (.ref w_BIG_DECIMAL), .unset] [(.ref w_BIG_DECIMAL)])) _
      refine st194 _ ?_
      show Steps p.tables e below (T194.setTop (mkF m 191 #[.val (.int p0), .val (.ref b1), .val (.int (11 : Int32)), .val (.ref w_BIG_DECIMAL), .unset] [(.ref w_INT_ENUM), (.ref w_BIG_DECIMAL)])) _
      refine Jvm.RoadKit.acmp (g := (mkF m 191 #[.val (.int p0), .val (.ref b1), .val (.int (11 : Int32)), .val (.ref w_BIG_DECIMAL), .unset] [(.ref w_INT_ENUM), (.ref w_BIG_DECIMAL)])) X194 hx rfl rfl rfl (pc0 := 191) (pc' := 198) (same := false) rfl (hb hby at_191) rfl (decide_eq_false fun q => (Fld.ne F_ordinal_BIG_DECIMAL F_ordinal_INT_ENUM (fun q => absurd (Value.int.inj q) (by decide))) (Value.ref.inj q)) (by decide) (by decide) ?_
      show Steps p.tables e below (T194.setTop (mkF m 198 #[.val (.int p0), .val (.ref b1), .val (.int (11 : Int32)), .val (.ref w_BIG_DECIMAL), .unset] [])) _
      refine XS.iconst X194.here hx rfl (hb hby at_198) ?_
      show Steps p.tables e below (T194.setTop (mkF m 199 #[.val (.int p0), .val (.ref b1), .val (.int (11 : Int32)), .val (.ref w_BIG_DECIMAL), .unset] [(.int (0 : Int32))])) _
      refine XS.istore X194.here hx rfl (hb hby at_199) rfl (l' := #[.val (.int p0), .val (.ref b1), .val (.int (11 : Int32)), .val (.ref w_BIG_DECIMAL), .val (.int (0 : Int32))]) rfl ?_
      show Steps p.tables e below (T194.setTop (mkF m 201 #[.val (.int p0), .val (.ref b1), .val (.int (11 : Int32)), .val (.ref w_BIG_DECIMAL), .val (.int (0 : Int32))] [])) _
      refine XS.aloadN X194.here hx rfl (hb hby at_201) rfl rfl ?_
      show Steps p.tables e below (T194.setTop (mkF m 202 #[.val (.int p0), .val (.ref b1), .val (.int (11 : Int32)), .val (.ref w_BIG_DECIMAL), .val (.int (0 : Int32))] [(.ref w_BIG_DECIMAL)])) _
      refine st196.trans ?_
      show Steps p.tables e below (T196.setTop (mkF m 205 #[.val (.int p0), .val (.ref b1), .val (.int (11 : Int32)), .val (.ref w_BIG_DECIMAL), .val (.int (0 : Int32))] [(.int (0 : Int32))])) _
      refine XS.iload X196.here hx rfl (hb hby at_205) rfl ?_
      show Steps p.tables e below (T196.setTop (mkF m 207 #[.val (.int p0), .val (.ref b1), .val (.int (11 : Int32)), .val (.ref w_BIG_DECIMAL), .val (.int (0 : Int32))] [(.int (0 : Int32)), (.int (0 : Int32))])) _
      refine XS.icmpNo X196.here hx rfl (hb hby at_207) rfl (teq (by decide : (0 : Int32) = (0 : Int32))).2 ?_
      show Steps p.tables e below (T196.setTop (mkF m 210 #[.val (.int p0), .val (.ref b1), .val (.int (11 : Int32)), .val (.ref w_BIG_DECIMAL), .val (.int (0 : Int32))] [])) _
      refine XS.iconst X196.here hx rfl (hb hby at_210) ?_
      show Steps p.tables e below (T196.setTop (mkF m 211 #[.val (.int p0), .val (.ref b1), .val (.int (11 : Int32)), .val (.ref w_BIG_DECIMAL), .val (.int (0 : Int32))] [(.int (1 : Int32))])) _
      refine XS.goto X196.here hx rfl (pc0 := 211) (pc' := 215) rfl (hb hby at_211) (by decide) (by decide) ?_
      exact kt
    obtain ⟨fs, hr, hrun, hended, hW, hsame⟩ := X196.leave (v := some (.int (1 : Int32))) (fun h => by rw [Bd.returns] at h; cases h)
    refine ⟨_, _, pre200 _ ?_, hrun, hended, _, _, rfl, ?_, ⟨_, rfl⟩, hW, hsame.mono (by decide) (by decide)⟩
    · show Steps p.tables e below (T196.setTop (mkF m 215 #[.val (.int p0), .val (.ref b1), .val (.int (11 : Int32)), .val (.ref w_BIG_DECIMAL), .val (.int (0 : Int32))] [(.int (1 : Int32))])) _
      exact retN X196 hx (t := .boolean) Bd.returns (by simp) (hb hby at_215) hr
    · show Q_rm0 Z p0 w_BLOB w_BOOLEAN w_DOCUMENT w_STRING w_BYTE w_SHORT w_INTEGER w_LONG w_FLOAT w_DOUBLE w_BIG_INTEGER w_BIG_DECIMAL w_TIMESTAMP w_ENUM w_INT_ENUM w_LIST w_MAP w_STRUCTURE w_UNION w_SERVICE w_OPERATION w_RESOURCE r_fixedMembers_BLOB r_fixedMembers_LIST r_fixedMembers_MAP h0 n0 _ T196.heap _
      rw [e196]
      exact ⟨rfl, N196⟩
  · rw [hk] at pre68
    have vt201 := V_b1
    obtain ⟨cl201, Ar201, q201, S201, Ng201, Ha201, G201⟩ := vt201
    have hin201 : ¬ ((12 : Int32) < 0 ∨ cl201.slots.size ≤ ((12 : Int32)).toNatClampNeg) := inb_of S201 ⟨by decide, by decide⟩
    have hat201 : cl201.slots[((12 : Int32)).toNatClampNeg]? = some (.ref w_TIMESTAMP) := Ha201.at hin201 rfl
    obtain ⟨T202, X202, e202, st202⟩ := getS2 X67 hx hZ hown (host := "") (Or.inl (hw _ (List.mem_of_getElem? (i := 38) rfl))) Via.refl e67 (S_STRUCTURE.ext O67.2) (g := (mkF m 167 #[.val (.int p0), .val (.ref b1), .val (.int (12 : Int32)), .val (.ref w_TIMESTAMP), .unset] [(.ref w_TIMESTAMP)])) rfl (hb hby at_167)
    obtain ⟨T203, X203, e203, st203⟩ := getS2 X202 hx hZ hown (host := "") (Or.inl (hw _ (List.mem_of_getElem? (i := 40) rfl))) Via.refl e202 (S_UNION.ext O67.2) (g := (mkF m 174 #[.val (.int p0), .val (.ref b1), .val (.int (12 : Int32)), .val (.ref w_TIMESTAMP), .unset] [(.ref w_TIMESTAMP)])) rfl (hb hby at_174)
    obtain ⟨T204, X204, e204, st204⟩ := getS2 X203 hx hZ hown (host := "") (Or.inl (hw _ (List.mem_of_getElem? (i := 30) rfl))) Via.refl e203 (S_ENUM.ext O67.2) (g := (mkF m 181 #[.val (.int p0), .val (.ref b1), .val (.int (12 : Int32)), .val (.ref w_TIMESTAMP), .unset] [(.ref w_TIMESTAMP)])) rfl (hb hby at_181)
    obtain ⟨T205, X205, e205, st205⟩ := getS2 X204 hx hZ hown (host := "") (Or.inl (hw _ (List.mem_of_getElem? (i := 32) rfl))) Via.refl e204 (S_INT_ENUM.ext O67.2) (g := (mkF m 188 #[.val (.int p0), .val (.ref b1), .val (.int (12 : Int32)), .val (.ref w_TIMESTAMP), .unset] [(.ref w_TIMESTAMP)])) rfl (hb hby at_188)
    obtain ⟨lc206, X206, N206⟩ := own_pack X205 N67
    obtain ⟨cq207, kq207, q207a, q207b, q207c⟩ := isOf hZ e205 (E_TIMESTAMP.ext O67.2)
    obtain ⟨_, _, ⟨T207, L207, k207, n207⟩, -, X207, ⟨Lc207, hQ207, l207, y207, z207⟩, st207⟩ := X206.virtualBack hx (y := (⟨"com/example/shapewright/shapewright/model/ShapeType", "namesItsMembers", "()Z"⟩ : MethodName)) (z := (⟨"com/example/shapewright/shapewright/model/ShapeType", "namesItsMembers", "()Z"⟩ : MethodName)) hown (mvT hZ (hw _ (List.mem_of_getElem? (i := 49) rfl))) (mvT hZ (hw _ (List.mem_of_getElem? (i := 50) rfl))) (notFace_of_selects (args := #[]) (mvT hZ (hw _ (List.mem_of_getElem? (i := 52) rfl)))) (mvT hZ (hw _ (List.mem_of_getElem? (i := 52) rfl))) (mvT hZ (hw _ (List.mem_of_getElem? (i := 51) rfl))) (by decide) (backOf (W := 0) (rm_namesItsMembers_13 l Z a0 hw [] r_fixedMembers_BLOB w_TIMESTAMP h67 n0 O67  F_fixedMembers_TIMESTAMP) hZ (hw _ (List.mem_of_getElem? (i := 53) rfl)) (hw _ (List.mem_of_getElem? (i := 3) rfl)) (by decide) (by decide)) q207a q207c (g := (mkF m 202 #[.val (.int p0), .val (.ref b1), .val (.int (12 : Int32)), .val (.ref w_TIMESTAMP), .val (.int (0 : Int32))] [(.ref w_TIMESTAMP)])) rfl (by rw [hml]; rfl) (Steps.refl _) (argsL := []) (rest := []) (lenOf pd___Z rfl) rfl (by show 2 * 0 + _ ≤ _; exact Nat.le_of_eq rfl) (hb hby at_202) (fun _ _ => ⟨rfl, e205, (by decide : 1 + 0 ≤ _), (by decide : 22 + 0 ≤ _)⟩)
    dsimp only [Pt.U, Pt.locs, Pt.cells, Pt.slots] at X207 l207 y207 z207 st207 hQ207
    subst l207 y207 z207
    obtain ⟨rfl, N207q, e207⟩ := hQ207
    have N207 := Fr.app N206 N207q
    have pre211 : ∀ t, Steps p.tables e below (T207.setTop (mkF m 215 #[.val (.int p0), .val (.ref b1), .val (.int (12 : Int32)), .val (.ref w_TIMESTAMP), .val (.int (0 : Int32))] [(.int (1 : Int32))])) t → Steps p.tables e below (s₁.setTop (entryFrame m #[(.int p0)] maxLocals)) t := by
      intro t kt
      refine pre68 t ?_
      show Steps p.tables e below (T67.setTop (mkF m 162 #[.val (.int p0), .val (.ref b1), .val (.int (12 : Int32)), .unset, .unset] [])) _
      refine XS.aloadN X67.here hx rfl (hb hby at_162) rfl rfl ?_
      show Steps p.tables e below (T67.setTop (mkF m 163 #[.val (.int p0), .val (.ref b1), .val (.int (12 : Int32)), .unset, .unset] [(.ref b1)])) _
      refine XS.iloadN X67.here hx rfl (hb hby at_163) rfl ?_
      show Steps p.tables e below (T67.setTop (mkF m 164 #[.val (.int p0), .val (.ref b1), .val (.int (12 : Int32)), .unset, .unset] [(.int (12 : Int32)), (.ref b1)])) _
      refine X67.aaload hx (j := (12 : Int32)) (v := (.ref w_TIMESTAMP)) (by rw [e67]; exact Ar201.1) (State.isArrayOf_alike hZ.alike Ar201.2.1) rfl Ar201.2.2 hin201 hat201 (g := (mkF m 164 #[.val (.int p0), .val (.ref b1), .val (.int (12 : Int32)), .unset, .unset] [(.int (12 : Int32)), (.ref b1)])) rfl rfl (hb hby at_164) _ ?_
      show Steps p.tables e below (T67.setTop (mkF m 165 #[.val (.int p0), .val (.ref b1), .val (.int (12 : Int32)), .unset, .unset] [(.ref w_TIMESTAMP)])) _
      refine XS.astoreN X67.here hx rfl (hb hby at_165) rfl rfl (l' := #[.val (.int p0), .val (.ref b1), .val (.int (12 : Int32)), .val (.ref w_TIMESTAMP), .unset]) rfl ?_
      show Steps p.tables e below (T67.setTop (mkF m 166 #[.val (.int p0), .val (.ref b1), .val (.int (12 : Int32)), .val (.ref w_TIMESTAMP), .unset] [])) _
      refine XS.aloadN X67.here hx rfl (hb hby at_166) rfl rfl ?_
      show Steps p.tables e below (T67.setTop (mkF m 167 #[.val (.int p0), .val (.ref b1), .val (.int (12 : Int32)), .val (.ref w_TIMESTAMP), .unset] [(.ref w_TIMESTAMP)])) _
      refine st202 _ ?_
      show Steps p.tables e below (T202.setTop (mkF m 170 #[.val (.int p0), .val (.ref b1), .val (.int (12 : Int32)), .val (.ref w_TIMESTAMP), .unset] [(.ref w_STRUCTURE), (.ref w_TIMESTAMP)])) _
      refine Jvm.RoadKit.acmp (g := (mkF m 170 #[.val (.int p0), .val (.ref b1), .val (.int (12 : Int32)), .val (.ref w_TIMESTAMP), .unset] [(.ref w_STRUCTURE), (.ref w_TIMESTAMP)])) X202 hx rfl rfl rfl (pc0 := 170) (pc' := 173) (same := false) rfl (hb hby at_170) rfl (decide_eq_false fun q => (Fld.ne F_ordinal_TIMESTAMP F_ordinal_STRUCTURE (fun q => absurd (Value.int.inj q) (by decide))) (Value.ref.inj q)) (by decide) (by decide) ?_
      show Steps p.tables e below (T202.setTop (mkF m 173 #[.val (.int p0), .val (.ref b1), .val (.int (12 : Int32)), .val (.ref w_TIMESTAMP), .unset] [])) _
      refine XS.aloadN X202.here hx rfl (hb hby at_173) rfl rfl ?_
      show Steps p.tables e below (T202.setTop (mkF m 174 #[.val (.int p0), .val (.ref b1), .val (.int (12 : Int32)), .val (.ref w_TIMESTAMP), .unset] [(.ref w_TIMESTAMP)])) _
      refine st203 _ ?_
      show Steps p.tables e below (T203.setTop (mkF m 177 #[.val (.int p0), .val (.ref b1), .val (.int (12 : Int32)), .val (.ref w_TIMESTAMP), .unset] [(.ref w_UNION), (.ref w_TIMESTAMP)])) _
      refine Jvm.RoadKit.acmp (g := (mkF m 177 #[.val (.int p0), .val (.ref b1), .val (.int (12 : Int32)), .val (.ref w_TIMESTAMP), .unset] [(.ref w_UNION), (.ref w_TIMESTAMP)])) X203 hx rfl rfl rfl (pc0 := 177) (pc' := 180) (same := false) rfl (hb hby at_177) rfl (decide_eq_false fun q => (Fld.ne F_ordinal_TIMESTAMP F_ordinal_UNION (fun q => absurd (Value.int.inj q) (by decide))) (Value.ref.inj q)) (by decide) (by decide) ?_
      show Steps p.tables e below (T203.setTop (mkF m 180 #[.val (.int p0), .val (.ref b1), .val (.int (12 : Int32)), .val (.ref w_TIMESTAMP), .unset] [])) _
      refine XS.aloadN X203.here hx rfl (hb hby at_180) rfl rfl ?_
      show Steps p.tables e below (T203.setTop (mkF m 181 #[.val (.int p0), .val (.ref b1), .val (.int (12 : Int32)), .val (.ref w_TIMESTAMP), .unset] [(.ref w_TIMESTAMP)])) _
      refine st204 _ ?_
      show Steps p.tables e below (T204.setTop (mkF m 184 #[.val (.int p0), .val (.ref b1), .val (.int (12 : Int32)), .val (.ref w_TIMESTAMP), .unset] [(.ref w_ENUM), (.ref w_TIMESTAMP)])) _
      refine Jvm.RoadKit.acmp (g := (mkF m 184 #[.val (.int p0), .val (.ref b1), .val (.int (12 : Int32)), .val (.ref w_TIMESTAMP), .unset] [(.ref w_ENUM), (.ref w_TIMESTAMP)])) X204 hx rfl rfl rfl (pc0 := 184) (pc' := 187) (same := false) rfl (hb hby at_184) rfl (decide_eq_false fun q => (Fld.ne F_ordinal_TIMESTAMP F_ordinal_ENUM (fun q => absurd (Value.int.inj q) (by decide))) (Value.ref.inj q)) (by decide) (by decide) ?_
      show Steps p.tables e below (T204.setTop (mkF m 187 #[.val (.int p0), .val (.ref b1), .val (.int (12 : Int32)), .val (.ref w_TIMESTAMP), .unset] [])) _
      refine XS.aloadN X204.here hx rfl (hb hby at_187) rfl rfl ?_
      show Steps p.tables e below (T204.setTop (mkF m 188 #[.val (.int p0), .val (.ref b1), .val (.int (12 : Int32)), .val (.ref w_TIMESTAMP), .unset] [(.ref w_TIMESTAMP)])) _
      refine st205 _ ?_
      show Steps p.tables e below (T205.setTop (mkF m 191 #[.val (.int p0), .val (.ref b1), .val (.int (12 : Int32)), .val (.ref w_TIMESTAMP), .unset] [(.ref w_INT_ENUM), (.ref w_TIMESTAMP)])) _
      refine Jvm.RoadKit.acmp (g := (mkF m 191 #[.val (.int p0), .val (.ref b1), .val (.int (12 : Int32)), .val (.ref w_TIMESTAMP), .unset] [(.ref w_INT_ENUM), (.ref w_TIMESTAMP)])) X205 hx rfl rfl rfl (pc0 := 191) (pc' := 198) (same := false) rfl (hb hby at_191) rfl (decide_eq_false fun q => (Fld.ne F_ordinal_TIMESTAMP F_ordinal_INT_ENUM (fun q => absurd (Value.int.inj q) (by decide))) (Value.ref.inj q)) (by decide) (by decide) ?_
      show Steps p.tables e below (T205.setTop (mkF m 198 #[.val (.int p0), .val (.ref b1), .val (.int (12 : Int32)), .val (.ref w_TIMESTAMP), .unset] [])) _
      refine XS.iconst X205.here hx rfl (hb hby at_198) ?_
      show Steps p.tables e below (T205.setTop (mkF m 199 #[.val (.int p0), .val (.ref b1), .val (.int (12 : Int32)), .val (.ref w_TIMESTAMP), .unset] [(.int (0 : Int32))])) _
      refine XS.istore X205.here hx rfl (hb hby at_199) rfl (l' := #[.val (.int p0), .val (.ref b1), .val (.int (12 : Int32)), .val (.ref w_TIMESTAMP), .val (.int (0 : Int32))]) rfl ?_
      show Steps p.tables e below (T205.setTop (mkF m 201 #[.val (.int p0), .val (.ref b1), .val (.int (12 : Int32)), .val (.ref w_TIMESTAMP), .val (.int (0 : Int32))] [])) _
      refine XS.aloadN X205.here hx rfl (hb hby at_201) rfl rfl ?_
      show Steps p.tables e below (T205.setTop (mkF m 202 #[.val (.int p0), .val (.ref b1), .val (.int (12 : Int32)), .val (.ref w_TIMESTAMP), .val (.int (0 : Int32))] [(.ref w_TIMESTAMP)])) _
      refine st207.trans ?_
      show Steps p.tables e below (T207.setTop (mkF m 205 #[.val (.int p0), .val (.ref b1), .val (.int (12 : Int32)), .val (.ref w_TIMESTAMP), .val (.int (0 : Int32))] [(.int (0 : Int32))])) _
      refine XS.iload X207.here hx rfl (hb hby at_205) rfl ?_
      show Steps p.tables e below (T207.setTop (mkF m 207 #[.val (.int p0), .val (.ref b1), .val (.int (12 : Int32)), .val (.ref w_TIMESTAMP), .val (.int (0 : Int32))] [(.int (0 : Int32)), (.int (0 : Int32))])) _
      refine XS.icmpNo X207.here hx rfl (hb hby at_207) rfl (teq (by decide : (0 : Int32) = (0 : Int32))).2 ?_
      show Steps p.tables e below (T207.setTop (mkF m 210 #[.val (.int p0), .val (.ref b1), .val (.int (12 : Int32)), .val (.ref w_TIMESTAMP), .val (.int (0 : Int32))] [])) _
      refine XS.iconst X207.here hx rfl (hb hby at_210) ?_
      show Steps p.tables e below (T207.setTop (mkF m 211 #[.val (.int p0), .val (.ref b1), .val (.int (12 : Int32)), .val (.ref w_TIMESTAMP), .val (.int (0 : Int32))] [(.int (1 : Int32))])) _
      refine XS.goto X207.here hx rfl (pc0 := 211) (pc' := 215) rfl (hb hby at_211) (by decide) (by decide) ?_
      exact kt
    obtain ⟨fs, hr, hrun, hended, hW, hsame⟩ := X207.leave (v := some (.int (1 : Int32))) (fun h => by rw [Bd.returns] at h; cases h)
    refine ⟨_, _, pre211 _ ?_, hrun, hended, _, _, rfl, ?_, ⟨_, rfl⟩, hW, hsame.mono (by decide) (by decide)⟩
    · show Steps p.tables e below (T207.setTop (mkF m 215 #[.val (.int p0), .val (.ref b1), .val (.int (12 : Int32)), .val (.ref w_TIMESTAMP), .val (.int (0 : Int32))] [(.int (1 : Int32))])) _
      exact retN X207 hx (t := .boolean) Bd.returns (by simp) (hb hby at_215) hr
    · show Q_rm0 Z p0 w_BLOB w_BOOLEAN w_DOCUMENT w_STRING w_BYTE w_SHORT w_INTEGER w_LONG w_FLOAT w_DOUBLE w_BIG_INTEGER w_BIG_DECIMAL w_TIMESTAMP w_ENUM w_INT_ENUM w_LIST w_MAP w_STRUCTURE w_UNION w_SERVICE w_OPERATION w_RESOURCE r_fixedMembers_BLOB r_fixedMembers_LIST r_fixedMembers_MAP h0 n0 _ T207.heap _
      rw [e207]
      exact ⟨rfl, N207⟩
  · rw [hk] at pre68
    have vt212 := V_b1
    obtain ⟨cl212, Ar212, q212, S212, Ng212, Ha212, G212⟩ := vt212
    have hin212 : ¬ ((13 : Int32) < 0 ∨ cl212.slots.size ≤ ((13 : Int32)).toNatClampNeg) := inb_of S212 ⟨by decide, by decide⟩
    have hat212 : cl212.slots[((13 : Int32)).toNatClampNeg]? = some (.ref w_ENUM) := Ha212.at hin212 rfl
    obtain ⟨T213, X213, e213, st213⟩ := getS2 X67 hx hZ hown (host := "") (Or.inl (hw _ (List.mem_of_getElem? (i := 38) rfl))) Via.refl e67 (S_STRUCTURE.ext O67.2) (g := (mkF m 167 #[.val (.int p0), .val (.ref b1), .val (.int (13 : Int32)), .val (.ref w_ENUM), .unset] [(.ref w_ENUM)])) rfl (hb hby at_167)
    obtain ⟨T214, X214, e214, st214⟩ := getS2 X213 hx hZ hown (host := "") (Or.inl (hw _ (List.mem_of_getElem? (i := 40) rfl))) Via.refl e213 (S_UNION.ext O67.2) (g := (mkF m 174 #[.val (.int p0), .val (.ref b1), .val (.int (13 : Int32)), .val (.ref w_ENUM), .unset] [(.ref w_ENUM)])) rfl (hb hby at_174)
    obtain ⟨T215, X215, e215, st215⟩ := getS2 X214 hx hZ hown (host := "") (Or.inl (hw _ (List.mem_of_getElem? (i := 30) rfl))) Via.refl e214 (S_ENUM.ext O67.2) (g := (mkF m 181 #[.val (.int p0), .val (.ref b1), .val (.int (13 : Int32)), .val (.ref w_ENUM), .unset] [(.ref w_ENUM)])) rfl (hb hby at_181)
    obtain ⟨lc216, X216, N216⟩ := own_pack X215 N67
    obtain ⟨cq217, kq217, q217a, q217b, q217c⟩ := isOf hZ e215 (E_ENUM.ext O67.2)
    obtain ⟨_, _, ⟨T217, L217, k217, n217⟩, -, X217, ⟨Lc217, hQ217, l217, y217, z217⟩, st217⟩ := X216.virtualBack hx (y := (⟨"com/example/shapewright/shapewright/model/ShapeType", "namesItsMembers", "()Z"⟩ : MethodName)) (z := (⟨"com/example/shapewright/shapewright/model/ShapeType", "namesItsMembers", "()Z"⟩ : MethodName)) hown (mvT hZ (hw _ (List.mem_of_getElem? (i := 49) rfl))) (mvT hZ (hw _ (List.mem_of_getElem? (i := 50) rfl))) (notFace_of_selects (args := #[]) (mvT hZ (hw _ (List.mem_of_getElem? (i := 52) rfl)))) (mvT hZ (hw _ (List.mem_of_getElem? (i := 52) rfl))) (mvT hZ (hw _ (List.mem_of_getElem? (i := 51) rfl))) (by decide) (backOf (W := 0) (rm_namesItsMembers_14 l Z a0 hw [] w_ENUM h67 n0 O67  F_fixedMembers_ENUM) hZ (hw _ (List.mem_of_getElem? (i := 53) rfl)) (hw _ (List.mem_of_getElem? (i := 3) rfl)) (by decide) (by decide)) q217a q217c (g := (mkF m 202 #[.val (.int p0), .val (.ref b1), .val (.int (13 : Int32)), .val (.ref w_ENUM), .val (.int (1 : Int32))] [(.ref w_ENUM)])) rfl (by rw [hml]; rfl) (Steps.refl _) (argsL := []) (rest := []) (lenOf pd___Z rfl) rfl (by show 2 * 0 + _ ≤ _; exact Nat.le_of_eq rfl) (hb hby at_202) (fun _ _ => ⟨rfl, e215, (by decide : 1 + 0 ≤ _), (by decide : 22 + 0 ≤ _)⟩)
    dsimp only [Pt.U, Pt.locs, Pt.cells, Pt.slots] at X217 l217 y217 z217 st217 hQ217
    subst l217 y217 z217
    obtain ⟨rfl, N217q, e217⟩ := hQ217
    have N217 := Fr.app N216 N217q
    have pre221 : ∀ t, Steps p.tables e below (T217.setTop (mkF m 215 #[.val (.int p0), .val (.ref b1), .val (.int (13 : Int32)), .val (.ref w_ENUM), .val (.int (1 : Int32))] [(.int (1 : Int32))])) t → Steps p.tables e below (s₁.setTop (entryFrame m #[(.int p0)] maxLocals)) t := by
      intro t kt
      refine pre68 t ?_
      show Steps p.tables e below (T67.setTop (mkF m 162 #[.val (.int p0), .val (.ref b1), .val (.int (13 : Int32)), .unset, .unset] [])) _
      refine XS.aloadN X67.here hx rfl (hb hby at_162) rfl rfl ?_
      show Steps p.tables e below (T67.setTop (mkF m 163 #[.val (.int p0), .val (.ref b1), .val (.int (13 : Int32)), .unset, .unset] [(.ref b1)])) _
      refine XS.iloadN X67.here hx rfl (hb hby at_163) rfl ?_
      show Steps p.tables e below (T67.setTop (mkF m 164 #[.val (.int p0), .val (.ref b1), .val (.int (13 : Int32)), .unset, .unset] [(.int (13 : Int32)), (.ref b1)])) _
      refine X67.aaload hx (j := (13 : Int32)) (v := (.ref w_ENUM)) (by rw [e67]; exact Ar212.1) (State.isArrayOf_alike hZ.alike Ar212.2.1) rfl Ar212.2.2 hin212 hat212 (g := (mkF m 164 #[.val (.int p0), .val (.ref b1), .val (.int (13 : Int32)), .unset, .unset] [(.int (13 : Int32)), (.ref b1)])) rfl rfl (hb hby at_164) _ ?_
      show Steps p.tables e below (T67.setTop (mkF m 165 #[.val (.int p0), .val (.ref b1), .val (.int (13 : Int32)), .unset, .unset] [(.ref w_ENUM)])) _
      refine XS.astoreN X67.here hx rfl (hb hby at_165) rfl rfl (l' := #[.val (.int p0), .val (.ref b1), .val (.int (13 : Int32)), .val (.ref w_ENUM), .unset]) rfl ?_
      show Steps p.tables e below (T67.setTop (mkF m 166 #[.val (.int p0), .val (.ref b1), .val (.int (13 : Int32)), .val (.ref w_ENUM), .unset] [])) _
      refine XS.aloadN X67.here hx rfl (hb hby at_166) rfl rfl ?_
      show Steps p.tables e below (T67.setTop (mkF m 167 #[.val (.int p0), .val (.ref b1), .val (.int (13 : Int32)), .val (.ref w_ENUM), .unset] [(.ref w_ENUM)])) _
      refine st213 _ ?_
      show Steps p.tables e below (T213.setTop (mkF m 170 #[.val (.int p0), .val (.ref b1), .val (.int (13 : Int32)), .val (.ref w_ENUM), .unset] [(.ref w_STRUCTURE), (.ref w_ENUM)])) _
      refine Jvm.RoadKit.acmp (g := (mkF m 170 #[.val (.int p0), .val (.ref b1), .val (.int (13 : Int32)), .val (.ref w_ENUM), .unset] [(.ref w_STRUCTURE), (.ref w_ENUM)])) X213 hx rfl rfl rfl (pc0 := 170) (pc' := 173) (same := false) rfl (hb hby at_170) rfl (decide_eq_false fun q => (Fld.ne F_ordinal_ENUM F_ordinal_STRUCTURE (fun q => absurd (Value.int.inj q) (by decide))) (Value.ref.inj q)) (by decide) (by decide) ?_
      show Steps p.tables e below (T213.setTop (mkF m 173 #[.val (.int p0), .val (.ref b1), .val (.int (13 : Int32)), .val (.ref w_ENUM), .unset] [])) _
      refine XS.aloadN X213.here hx rfl (hb hby at_173) rfl rfl ?_
      show Steps p.tables e below (T213.setTop (mkF m 174 #[.val (.int p0), .val (.ref b1), .val (.int (13 : Int32)), .val (.ref w_ENUM), .unset] [(.ref w_ENUM)])) _
      refine st214 _ ?_
      show Steps p.tables e below (T214.setTop (mkF m 177 #[.val (.int p0), .val (.ref b1), .val (.int (13 : Int32)), .val (.ref w_ENUM), .unset] [(.ref w_UNION), (.ref w_ENUM)])) _
      refine Jvm.RoadKit.acmp (g := (mkF m 177 #[.val (.int p0), .val (.ref b1), .val (.int (13 : Int32)), .val (.ref w_ENUM), .unset] [(.ref w_UNION), (.ref w_ENUM)])) X214 hx rfl rfl rfl (pc0 := 177) (pc' := 180) (same := false) rfl (hb hby at_177) rfl (decide_eq_false fun q => (Fld.ne F_ordinal_ENUM F_ordinal_UNION (fun q => absurd (Value.int.inj q) (by decide))) (Value.ref.inj q)) (by decide) (by decide) ?_
      show Steps p.tables e below (T214.setTop (mkF m 180 #[.val (.int p0), .val (.ref b1), .val (.int (13 : Int32)), .val (.ref w_ENUM), .unset] [])) _
      refine XS.aloadN X214.here hx rfl (hb hby at_180) rfl rfl ?_
      show Steps p.tables e below (T214.setTop (mkF m 181 #[.val (.int p0), .val (.ref b1), .val (.int (13 : Int32)), .val (.ref w_ENUM), .unset] [(.ref w_ENUM)])) _
      refine st215 _ ?_
      show Steps p.tables e below (T215.setTop (mkF m 184 #[.val (.int p0), .val (.ref b1), .val (.int (13 : Int32)), .val (.ref w_ENUM), .unset] [(.ref w_ENUM), (.ref w_ENUM)])) _
      refine Jvm.RoadKit.acmp (g := (mkF m 184 #[.val (.int p0), .val (.ref b1), .val (.int (13 : Int32)), .val (.ref w_ENUM), .unset] [(.ref w_ENUM), (.ref w_ENUM)])) X215 hx rfl rfl rfl (pc0 := 184) (pc' := 194) (same := true) rfl (hb hby at_184) rfl (decide_eq_true rfl) (by decide) (by decide) ?_
      show Steps p.tables e below (T215.setTop (mkF m 194 #[.val (.int p0), .val (.ref b1), .val (.int (13 : Int32)), .val (.ref w_ENUM), .unset] [])) _
      refine XS.iconst X215.here hx rfl (hb hby at_194) ?_
      show Steps p.tables e below (T215.setTop (mkF m 195 #[.val (.int p0), .val (.ref b1), .val (.int (13 : Int32)), .val (.ref w_ENUM), .unset] [(.int (1 : Int32))])) _
      refine XS.goto X215.here hx rfl (pc0 := 195) (pc' := 199) rfl (hb hby at_195) (by decide) (by decide) ?_
      show Steps p.tables e below (T215.setTop (mkF m 199 #[.val (.int p0), .val (.ref b1), .val (.int (13 : Int32)), .val (.ref w_ENUM), .unset] [(.int (1 : Int32))])) _
      refine XS.istore X215.here hx rfl (hb hby at_199) rfl (l' := #[.val (.int p0), .val (.ref b1), .val (.int (13 : Int32)), .val (.ref w_ENUM), .val (.int (1 : Int32))]) rfl ?_
      show Steps p.tables e below (T215.setTop (mkF m 201 #[.val (.int p0), .val (.ref b1), .val (.int (13 : Int32)), .val (.ref w_ENUM), .val (.int (1 : Int32))] [])) _
      refine XS.aloadN X215.here hx rfl (hb hby at_201) rfl rfl ?_
      show Steps p.tables e below (T215.setTop (mkF m 202 #[.val (.int p0), .val (.ref b1), .val (.int (13 : Int32)), .val (.ref w_ENUM), .val (.int (1 : Int32))] [(.ref w_ENUM)])) _
      refine st217.trans ?_
      show Steps p.tables e below (T217.setTop (mkF m 205 #[.val (.int p0), .val (.ref b1), .val (.int (13 : Int32)), .val (.ref w_ENUM), .val (.int (1 : Int32))] [(.int (1 : Int32))])) _
      refine XS.iload X217.here hx rfl (hb hby at_205) rfl ?_
      show Steps p.tables e below (T217.setTop (mkF m 207 #[.val (.int p0), .val (.ref b1), .val (.int (13 : Int32)), .val (.ref w_ENUM), .val (.int (1 : Int32))] [(.int (1 : Int32)), (.int (1 : Int32))])) _
      refine XS.icmpNo X217.here hx rfl (hb hby at_207) rfl (teq (by decide : (1 : Int32) = (1 : Int32))).2 ?_
      show Steps p.tables e below (T217.setTop (mkF m 210 #[.val (.int p0), .val (.ref b1), .val (.int (13 : Int32)), .val (.ref w_ENUM), .val (.int (1 : Int32))] [])) _
      refine XS.iconst X217.here hx rfl (hb hby at_210) ?_
      show Steps p.tables e below (T217.setTop (mkF m 211 #[.val (.int p0), .val (.ref b1), .val (.int (13 : Int32)), .val (.ref w_ENUM), .val (.int (1 : Int32))] [(.int (1 : Int32))])) _
      refine XS.goto X217.here hx rfl (pc0 := 211) (pc' := 215) rfl (hb hby at_211) (by decide) (by decide) ?_
      exact kt
    obtain ⟨fs, hr, hrun, hended, hW, hsame⟩ := X217.leave (v := some (.int (1 : Int32))) (fun h => by rw [Bd.returns] at h; cases h)
    refine ⟨_, _, pre221 _ ?_, hrun, hended, _, _, rfl, ?_, ⟨_, rfl⟩, hW, hsame.mono (by decide) (by decide)⟩
    · show Steps p.tables e below (T217.setTop (mkF m 215 #[.val (.int p0), .val (.ref b1), .val (.int (13 : Int32)), .val (.ref w_ENUM), .val (.int (1 : Int32))] [(.int (1 : Int32))])) _
      exact retN X217 hx (t := .boolean) Bd.returns (by simp) (hb hby at_215) hr
    · show Q_rm0 Z p0 w_BLOB w_BOOLEAN w_DOCUMENT w_STRING w_BYTE w_SHORT w_INTEGER w_LONG w_FLOAT w_DOUBLE w_BIG_INTEGER w_BIG_DECIMAL w_TIMESTAMP w_ENUM w_INT_ENUM w_LIST w_MAP w_STRUCTURE w_UNION w_SERVICE w_OPERATION w_RESOURCE r_fixedMembers_BLOB r_fixedMembers_LIST r_fixedMembers_MAP h0 n0 _ T217.heap _
      rw [e217]
      exact ⟨rfl, N217⟩
  · rw [hk] at pre68
    have vt222 := V_b1
    obtain ⟨cl222, Ar222, q222, S222, Ng222, Ha222, G222⟩ := vt222
    have hin222 : ¬ ((14 : Int32) < 0 ∨ cl222.slots.size ≤ ((14 : Int32)).toNatClampNeg) := inb_of S222 ⟨by decide, by decide⟩
    have hat222 : cl222.slots[((14 : Int32)).toNatClampNeg]? = some (.ref w_INT_ENUM) := Ha222.at hin222 rfl
    obtain ⟨T223, X223, e223, st223⟩ := getS2 X67 hx hZ hown (host := "") (Or.inl (hw _ (List.mem_of_getElem? (i := 38) rfl))) Via.refl e67 (S_STRUCTURE.ext O67.2) (g := (mkF m 167 #[.val (.int p0), .val (.ref b1), .val (.int (14 : Int32)), .val (.ref w_INT_ENUM), .unset] [(.ref w_INT_ENUM)])) rfl (hb hby at_167)
    obtain ⟨T224, X224, e224, st224⟩ := getS2 X223 hx hZ hown (host := "") (Or.inl (hw _ (List.mem_of_getElem? (i := 40) rfl))) Via.refl e223 (S_UNION.ext O67.2) (g := (mkF m 174 #[.val (.int p0), .val (.ref b1), .val (.int (14 : Int32)), .val (.ref w_INT_ENUM), .unset] [(.ref w_INT_ENUM)])) rfl (hb hby at_174)
    obtain ⟨T225, X225, e225, st225⟩ := getS2 X224 hx hZ hown (host := "") (Or.inl (hw _ (List.mem_of_getElem? (i := 30) rfl))) Via.refl e224 (S_ENUM.ext O67.2) (g := (mkF m 181 #[.val (.int p0), .val (.ref b1), .val (.int (14 : Int32)), .val (.ref w_INT_ENUM), .unset] [(.ref w_INT_ENUM)])) rfl (hb hby at_181)
    obtain ⟨T226, X226, e226, st226⟩ := getS2 X225 hx hZ hown (host := "") (Or.inl (hw _ (List.mem_of_getElem? (i := 32) rfl))) Via.refl e225 (S_INT_ENUM.ext O67.2) (g := (mkF m 188 #[.val (.int p0), .val (.ref b1), .val (.int (14 : Int32)), .val (.ref w_INT_ENUM), .unset] [(.ref w_INT_ENUM)])) rfl (hb hby at_188)
    obtain ⟨lc227, X227, N227⟩ := own_pack X226 N67
    obtain ⟨cq228, kq228, q228a, q228b, q228c⟩ := isOf hZ e226 (E_INT_ENUM.ext O67.2)
    obtain ⟨_, _, ⟨T228, L228, k228, n228⟩, -, X228, ⟨Lc228, hQ228, l228, y228, z228⟩, st228⟩ := X227.virtualBack hx (y := (⟨"com/example/shapewright/shapewright/model/ShapeType", "namesItsMembers", "()Z"⟩ : MethodName)) (z := (⟨"com/example/shapewright/shapewright/model/ShapeType", "namesItsMembers", "()Z"⟩ : MethodName)) hown (mvT hZ (hw _ (List.mem_of_getElem? (i := 49) rfl))) (mvT hZ (hw _ (List.mem_of_getElem? (i := 50) rfl))) (notFace_of_selects (args := #[]) (mvT hZ (hw _ (List.mem_of_getElem? (i := 52) rfl)))) (mvT hZ (hw _ (List.mem_of_getElem? (i := 52) rfl))) (mvT hZ (hw _ (List.mem_of_getElem? (i := 51) rfl))) (by decide) (backOf (W := 0) (rm_namesItsMembers_15 l Z a0 hw [] w_INT_ENUM h67 n0 O67  F_fixedMembers_INT_ENUM) hZ (hw _ (List.mem_of_getElem? (i := 53) rfl)) (hw _ (List.mem_of_getElem? (i := 3) rfl)) (by decide) (by decide)) q228a q228c (g := (mkF m 202 #[.val (.int p0), .val (.ref b1), .val (.int (14 : Int32)), .val (.ref w_INT_ENUM), .val (.int (1 : Int32))] [(.ref w_INT_ENUM)])) rfl (by rw [hml]; rfl) (Steps.refl _) (argsL := []) (rest := []) (lenOf pd___Z rfl) rfl (by show 2 * 0 + _ ≤ _; exact Nat.le_of_eq rfl) (hb hby at_202) (fun _ _ => ⟨rfl, e226, (by decide : 1 + 0 ≤ _), (by decide : 22 + 0 ≤ _)⟩)
    dsimp only [Pt.U, Pt.locs, Pt.cells, Pt.slots] at X228 l228 y228 z228 st228 hQ228
    subst l228 y228 z228
    obtain ⟨rfl, N228q, e228⟩ := hQ228
    have N228 := Fr.app N227 N228q
    have pre232 : ∀ t, Steps p.tables e below (T228.setTop (mkF m 215 #[.val (.int p0), .val (.ref b1), .val (.int (14 : Int32)), .val (.ref w_INT_ENUM), .val (.int (1 : Int32))] [(.int (1 : Int32))])) t → Steps p.tables e below (s₁.setTop (entryFrame m #[(.int p0)] maxLocals)) t := by
      intro t kt
      refine pre68 t ?_
      show Steps p.tables e below (T67.setTop (mkF m 162 #[.val (.int p0), .val (.ref b1), .val (.int (14 : Int32)), .unset, .unset] [])) _
      refine XS.aloadN X67.here hx rfl (hb hby at_162) rfl rfl ?_
      show Steps p.tables e below (T67.setTop (mkF m 163 #[.val (.int p0), .val (.ref b1), .val (.int (14 : Int32)), .unset, .unset] [(.ref b1)])) _
      refine XS.iloadN X67.here hx rfl (hb hby at_163) rfl ?_
      show Steps p.tables e below (T67.setTop (mkF m 164 #[.val (.int p0), .val (.ref b1), .val (.int (14 : Int32)), .unset, .unset] [(.int (14 : Int32)), (.ref b1)])) _
      refine X67.aaload hx (j := (14 : Int32)) (v := (.ref w_INT_ENUM)) (by rw [e67]; exact Ar222.1) (State.isArrayOf_alike hZ.alike Ar222.2.1) rfl Ar222.2.2 hin222 hat222 (g := (mkF m 164 #[.val (.int p0), .val (.ref b1), .val (.int (14 : Int32)), .unset, .unset] [(.int (14 : Int32)), (.ref b1)])) rfl rfl (hb hby at_164) _ ?_
      show Steps p.tables e below (T67.setTop (mkF m 165 #[.val (.int p0), .val (.ref b1), .val (.int (14 : Int32)), .unset, .unset] [(.ref w_INT_ENUM)])) _
      refine XS.astoreN X67.here hx rfl (hb hby at_165) rfl rfl (l' := #[.val (.int p0), .val (.ref b1), .val (.int (14 : Int32)), .val (.ref w_INT_ENUM), .unset]) rfl ?_
      show Steps p.tables e below (T67.setTop (mkF m 166 #[.val (.int p0), .val (.ref b1), .val (.int (14 : Int32)), .val (.ref w_INT_ENUM), .unset] [])) _
      refine XS.aloadN X67.here hx rfl (hb hby at_166) rfl rfl ?_
      show Steps p.tables e below (T67.setTop (mkF m 167 #[.val (.int p0), .val (.ref b1), .val (.int (14 : Int32)), .val (.ref w_INT_ENUM), .unset] [(.ref w_INT_ENUM)])) _
      refine st223 _ ?_
      show Steps p.tables e below (T223.setTop (mkF m 170 #[.val (.int p0), .val (.ref b1), .val (.int (14 : Int32)), .val (.ref w_INT_ENUM), .unset] [(.ref w_STRUCTURE), (.ref w_INT_ENUM)])) _
      refine Jvm.RoadKit.acmp (g := (mkF m 170 #[.val (.int p0), .val (.ref b1), .val (.int (14 : Int32)), .val (.ref w_INT_ENUM), .unset] [(.ref w_STRUCTURE), (.ref w_INT_ENUM)])) X223 hx rfl rfl rfl (pc0 := 170) (pc' := 173) (same := false) rfl (hb hby at_170) rfl (decide_eq_false fun q => (Fld.ne F_ordinal_INT_ENUM F_ordinal_STRUCTURE (fun q => absurd (Value.int.inj q) (by decide))) (Value.ref.inj q)) (by decide) (by decide) ?_
      show Steps p.tables e below (T223.setTop (mkF m 173 #[.val (.int p0), .val (.ref b1), .val (.int (14 : Int32)), .val (.ref w_INT_ENUM), .unset] [])) _
      refine XS.aloadN X223.here hx rfl (hb hby at_173) rfl rfl ?_
      show Steps p.tables e below (T223.setTop (mkF m 174 #[.val (.int p0), .val (.ref b1), .val (.int (14 : Int32)), .val (.ref w_INT_ENUM), .unset] [(.ref w_INT_ENUM)])) _
      refine st224 _ ?_
      show Steps p.tables e below (T224.setTop (mkF m 177 #[.val (.int p0), .val (.ref b1), .val (.int (14 : Int32)), .val (.ref w_INT_ENUM), .unset] [(.ref w_UNION), (.ref w_INT_ENUM)])) _
      refine Jvm.RoadKit.acmp (g := (mkF m 177 #[.val (.int p0), .val (.ref b1), .val (.int (14 : Int32)), .val (.ref w_INT_ENUM), .unset] [(.ref w_UNION), (.ref w_INT_ENUM)])) X224 hx rfl rfl rfl (pc0 := 177) (pc' := 180) (same := false) rfl (hb hby at_177) rfl (decide_eq_false fun q => (Fld.ne F_ordinal_INT_ENUM F_ordinal_UNION (fun q => absurd (Value.int.inj q) (by decide))) (Value.ref.inj q)) (by decide) (by decide) ?_
      show Steps p.tables e below (T224.setTop (mkF m 180 #[.val (.int p0), .val (.ref b1), .val (.int (14 : Int32)), .val (.ref w_INT_ENUM), .unset] [])) _
      refine XS.aloadN X224.here hx rfl (hb hby at_180) rfl rfl ?_
      show Steps p.tables e below (T224.setTop (mkF m 181 #[.val (.int p0), .val (.ref b1), .val (.int (14 : Int32)), .val (.ref w_INT_ENUM), .unset] [(.ref w_INT_ENUM)])) _
      refine st225 _ ?_
      show Steps p.tables e below (T225.setTop (mkF m 184 #[.val (.int p0), .val (.ref b1), .val (.int (14 : Int32)), .val (.ref w_INT_ENUM), .unset] [(.ref w_ENUM), (.ref w_INT_ENUM)])) _
      refine Jvm.RoadKit.acmp (g := (mkF m 184 #[.val (.int p0), .val (.ref b1), .val (.int (14 : Int32)), .val (.ref w_INT_ENUM), .unset] [(.ref w_ENUM), (.ref w_INT_ENUM)])) X225 hx rfl rfl rfl (pc0 := 184) (pc' := 187) (same := false) rfl (hb hby at_184) rfl (decide_eq_false fun q => (Fld.ne F_ordinal_INT_ENUM F_ordinal_ENUM (fun q => absurd (Value.int.inj q) (by decide))) (Value.ref.inj q)) (by decide) (by decide) ?_
      show Steps p.tables e below (T225.setTop (mkF m 187 #[.val (.int p0), .val (.ref b1), .val (.int (14 : Int32)), .val (.ref w_INT_ENUM), .unset] [])) _
      refine XS.aloadN X225.here hx rfl (hb hby at_187) rfl rfl ?_
      show Steps p.tables e below (T225.setTop (mkF m 188 #[.val (.int p0), .val (.ref b1), .val (.int (14 : Int32)), .val (.ref w_INT_ENUM), .unset] [(.ref w_INT_ENUM)])) _
      refine st226 _ ?_
      show Steps p.tables e below (T226.setTop (mkF m 191 #[.val (.int p0), .val (.ref b1), .val (.int (14 : Int32)), .val (.ref w_INT_ENUM), .unset] [(.ref w_INT_ENUM), (.ref w_INT_ENUM)])) _
      refine Jvm.RoadKit.acmp (g := (mkF m 191 #[.val (.int p0), .val (.ref b1), .val (.int (14 : Int32)), .val (.ref w_INT_ENUM), .unset] [(.ref w_INT_ENUM), (.ref w_INT_ENUM)])) X226 hx rfl rfl rfl (pc0 := 191) (pc' := 194) (same := true) rfl (hb hby at_191) rfl (decide_eq_true rfl) (by decide) (by decide) ?_
      show Steps p.tables e below (T226.setTop (mkF m 194 #[.val (.int p0), .val (.ref b1), .val (.int (14 : Int32)), .val (.ref w_INT_ENUM), .unset] [])) _
      refine XS.iconst X226.here hx rfl (hb hby at_194) ?_
      show Steps p.tables e below (T226.setTop (mkF m 195 #[.val (.int p0), .val (.ref b1), .val (.int (14 : Int32)), .val (.ref w_INT_ENUM), .unset] [(.int (1 : Int32))])) _
      refine XS.goto X226.here hx rfl (pc0 := 195) (pc' := 199) rfl (hb hby at_195) (by decide) (by decide) ?_
      show Steps p.tables e below (T226.setTop (mkF m 199 #[.val (.int p0), .val (.ref b1), .val (.int (14 : Int32)), .val (.ref w_INT_ENUM), .unset] [(.int (1 : Int32))])) _
      refine XS.istore X226.here hx rfl (hb hby at_199) rfl (l' := #[.val (.int p0), .val (.ref b1), .val (.int (14 : Int32)), .val (.ref w_INT_ENUM), .val (.int (1 : Int32))]) rfl ?_
      show Steps p.tables e below (T226.setTop (mkF m 201 #[.val (.int p0), .val (.ref b1), .val (.int (14 : Int32)), .val (.ref w_INT_ENUM), .val (.int (1 : Int32))] [])) _
      refine XS.aloadN X226.here hx rfl (hb hby at_201) rfl rfl ?_
      show Steps p.tables e below (T226.setTop (mkF m 202 #[.val (.int p0), .val (.ref b1), .val (.int (14 : Int32)), .val (.ref w_INT_ENUM), .val (.int (1 : Int32))] [(.ref w_INT_ENUM)])) _
      refine st228.trans ?_
      show Steps p.tables e below (T228.setTop (mkF m 205 #[.val (.int p0), .val (.ref b1), .val (.int (14 : Int32)), .val (.ref w_INT_ENUM), .val (.int (1 : Int32))] [(.int (1 : Int32))])) _
      refine XS.iload X228.here hx rfl (hb hby at_205) rfl ?_
      show Steps p.tables e below (T228.setTop (mkF m 207 #[.val (.int p0), .val (.ref b1), .val (.int (14 : Int32)), .val (.ref w_INT_ENUM), .val (.int (1 : Int32))] [(.int (1 : Int32)), (.int (1 : Int32))])) _
      refine XS.icmpNo X228.here hx rfl (hb hby at_207) rfl (teq (by decide : (1 : Int32) = (1 : Int32))).2 ?_
      show Steps p.tables e below (T228.setTop (mkF m 210 #[.val (.int p0), .val (.ref b1), .val (.int (14 : Int32)), .val (.ref w_INT_ENUM), .val (.int (1 : Int32))] [])) _
      refine XS.iconst X228.here hx rfl (hb hby at_210) ?_
      show Steps p.tables e below (T228.setTop (mkF m 211 #[.val (.int p0), .val (.ref b1), .val (.int (14 : Int32)), .val (.ref w_INT_ENUM), .val (.int (1 : Int32))] [(.int (1 : Int32))])) _
      refine XS.goto X228.here hx rfl (pc0 := 211) (pc' := 215) rfl (hb hby at_211) (by decide) (by decide) ?_
      exact kt
    obtain ⟨fs, hr, hrun, hended, hW, hsame⟩ := X228.leave (v := some (.int (1 : Int32))) (fun h => by rw [Bd.returns] at h; cases h)
    refine ⟨_, _, pre232 _ ?_, hrun, hended, _, _, rfl, ?_, ⟨_, rfl⟩, hW, hsame.mono (by decide) (by decide)⟩
    · show Steps p.tables e below (T228.setTop (mkF m 215 #[.val (.int p0), .val (.ref b1), .val (.int (14 : Int32)), .val (.ref w_INT_ENUM), .val (.int (1 : Int32))] [(.int (1 : Int32))])) _
      exact retN X228 hx (t := .boolean) Bd.returns (by simp) (hb hby at_215) hr
    · show Q_rm0 Z p0 w_BLOB w_BOOLEAN w_DOCUMENT w_STRING w_BYTE w_SHORT w_INTEGER w_LONG w_FLOAT w_DOUBLE w_BIG_INTEGER w_BIG_DECIMAL w_TIMESTAMP w_ENUM w_INT_ENUM w_LIST w_MAP w_STRUCTURE w_UNION w_SERVICE w_OPERATION w_RESOURCE r_fixedMembers_BLOB r_fixedMembers_LIST r_fixedMembers_MAP h0 n0 _ T228.heap _
      rw [e228]
      exact ⟨rfl, N228⟩
  · rw [hk] at pre68
    have vt233 := V_b1
    obtain ⟨cl233, Ar233, q233, S233, Ng233, Ha233, G233⟩ := vt233
    have hin233 : ¬ ((15 : Int32) < 0 ∨ cl233.slots.size ≤ ((15 : Int32)).toNatClampNeg) := inb_of S233 ⟨by decide, by decide⟩
    have hat233 : cl233.slots[((15 : Int32)).toNatClampNeg]? = some (.ref w_LIST) := Ha233.at hin233 rfl
    obtain ⟨T234, X234, e234, st234⟩ := getS2 X67 hx hZ hown (host := "") (Or.inl (hw _ (List.mem_of_getElem? (i := 38) rfl))) Via.refl e67 (S_STRUCTURE.ext O67.2) (g := (mkF m 167 #[.val (.int p0), .val (.ref b1), .val (.int (15 : Int32)), .val (.ref w_LIST), .unset] [(.ref w_LIST)])) rfl (hb hby at_167)
    obtain ⟨T235, X235, e235, st235⟩ := getS2 X234 hx hZ hown (host := "") (Or.inl (hw _ (List.mem_of_getElem? (i := 40) rfl))) Via.refl e234 (S_UNION.ext O67.2) (g := (mkF m 174 #[.val (.int p0), .val (.ref b1), .val (.int (15 : Int32)), .val (.ref w_LIST), .unset] [(.ref w_LIST)])) rfl (hb hby at_174)
    obtain ⟨T236, X236, e236, st236⟩ := getS2 X235 hx hZ hown (host := "") (Or.inl (hw _ (List.mem_of_getElem? (i := 30) rfl))) Via.refl e235 (S_ENUM.ext O67.2) (g := (mkF m 181 #[.val (.int p0), .val (.ref b1), .val (.int (15 : Int32)), .val (.ref w_LIST), .unset] [(.ref w_LIST)])) rfl (hb hby at_181)
    obtain ⟨T237, X237, e237, st237⟩ := getS2 X236 hx hZ hown (host := "") (Or.inl (hw _ (List.mem_of_getElem? (i := 32) rfl))) Via.refl e236 (S_INT_ENUM.ext O67.2) (g := (mkF m 188 #[.val (.int p0), .val (.ref b1), .val (.int (15 : Int32)), .val (.ref w_LIST), .unset] [(.ref w_LIST)])) rfl (hb hby at_188)
    obtain ⟨lc238, X238, N238⟩ := own_pack X237 N67
    obtain ⟨cq239, kq239, q239a, q239b, q239c⟩ := isOf hZ e237 (E_LIST.ext O67.2)
    obtain ⟨_, _, ⟨T239, L239, k239, n239⟩, -, X239, ⟨Lc239, hQ239, l239, y239, z239⟩, st239⟩ := X238.virtualBack hx (y := (⟨"com/example/shapewright/shapewright/model/ShapeType", "namesItsMembers", "()Z"⟩ : MethodName)) (z := (⟨"com/example/shapewright/shapewright/model/ShapeType", "namesItsMembers", "()Z"⟩ : MethodName)) hown (mvT hZ (hw _ (List.mem_of_getElem? (i := 49) rfl))) (mvT hZ (hw _ (List.mem_of_getElem? (i := 50) rfl))) (notFace_of_selects (args := #[]) (mvT hZ (hw _ (List.mem_of_getElem? (i := 52) rfl)))) (mvT hZ (hw _ (List.mem_of_getElem? (i := 52) rfl))) (mvT hZ (hw _ (List.mem_of_getElem? (i := 51) rfl))) (by decide) (backOf (W := 0) (rm_namesItsMembers_16 l Z a0 hw [] w_LIST r_fixedMembers_LIST h67 n0 O67  F_fixedMembers_LIST) hZ (hw _ (List.mem_of_getElem? (i := 53) rfl)) (hw _ (List.mem_of_getElem? (i := 3) rfl)) (by decide) (by decide)) q239a q239c (g := (mkF m 202 #[.val (.int p0), .val (.ref b1), .val (.int (15 : Int32)), .val (.ref w_LIST), .val (.int (0 : Int32))] [(.ref w_LIST)])) rfl (by rw [hml]; rfl) (Steps.refl _) (argsL := []) (rest := []) (lenOf pd___Z rfl) rfl (by show 2 * 0 + _ ≤ _; exact Nat.le_of_eq rfl) (hb hby at_202) (fun _ _ => ⟨rfl, e237, (by decide : 1 + 0 ≤ _), (by decide : 22 + 0 ≤ _)⟩)
    dsimp only [Pt.U, Pt.locs, Pt.cells, Pt.slots] at X239 l239 y239 z239 st239 hQ239
    subst l239 y239 z239
    obtain ⟨rfl, N239q, e239⟩ := hQ239
    have N239 := Fr.app N238 N239q
    have pre243 : ∀ t, Steps p.tables e below (T239.setTop (mkF m 215 #[.val (.int p0), .val (.ref b1), .val (.int (15 : Int32)), .val (.ref w_LIST), .val (.int (0 : Int32))] [(.int (1 : Int32))])) t → Steps p.tables e below (s₁.setTop (entryFrame m #[(.int p0)] maxLocals)) t := by
      intro t kt
      refine pre68 t ?_
      show Steps p.tables e below (T67.setTop (mkF m 162 #[.val (.int p0), .val (.ref b1), .val (.int (15 : Int32)), .unset, .unset] [])) _
      refine XS.aloadN X67.here hx rfl (hb hby at_162) rfl rfl ?_
      show Steps p.tables e below (T67.setTop (mkF m 163 #[.val (.int p0), .val (.ref b1), .val (.int (15 : Int32)), .unset, .unset] [(.ref b1)])) _
      refine XS.iloadN X67.here hx rfl (hb hby at_163) rfl ?_
      show Steps p.tables e below (T67.setTop (mkF m 164 #[.val (.int p0), .val (.ref b1), .val (.int (15 : Int32)), .unset, .unset] [(.int (15 : Int32)), (.ref b1)])) _
      refine X67.aaload hx (j := (15 : Int32)) (v := (.ref w_LIST)) (by rw [e67]; exact Ar233.1) (State.isArrayOf_alike hZ.alike Ar233.2.1) rfl Ar233.2.2 hin233 hat233 (g := (mkF m 164 #[.val (.int p0), .val (.ref b1), .val (.int (15 : Int32)), .unset, .unset] [(.int (15 : Int32)), (.ref b1)])) rfl rfl (hb hby at_164) _ ?_
      show Steps p.tables e below (T67.setTop (mkF m 165 #[.val (.int p0), .val (.ref b1), .val (.int (15 : Int32)), .unset, .unset] [(.ref w_LIST)])) _
      refine XS.astoreN X67.here hx rfl (hb hby at_165) rfl rfl (l' := #[.val (.int p0), .val (.ref b1), .val (.int (15 : Int32)), .val (.ref w_LIST), .unset]) rfl ?_
      show Steps p.tables e below (T67.setTop (mkF m 166 #[.val (.int p0), .val (.ref b1), .val (.int (15 : Int32)), .val (.ref w_LIST), .unset] [])) _
      refine XS.aloadN X67.here hx rfl (hb hby at_166) rfl rfl ?_
      show Steps p.tables e below (T67.setTop (mkF m 167 #[.val (.int p0), .val (.ref b1), .val (.int (15 : Int32)), .val (.ref w_LIST), .unset] [(.ref w_LIST)])) _
      refine st234 _ ?_
      show Steps p.tables e below (T234.setTop (mkF m 170 #[.val (.int p0), .val (.ref b1), .val (.int (15 : Int32)), .val (.ref w_LIST), .unset] [(.ref w_STRUCTURE), (.ref w_LIST)])) _
      refine Jvm.RoadKit.acmp (g := (mkF m 170 #[.val (.int p0), .val (.ref b1), .val (.int (15 : Int32)), .val (.ref w_LIST), .unset] [(.ref w_STRUCTURE), (.ref w_LIST)])) X234 hx rfl rfl rfl (pc0 := 170) (pc' := 173) (same := false) rfl (hb hby at_170) rfl (decide_eq_false fun q => (Fld.ne F_ordinal_LIST F_ordinal_STRUCTURE (fun q => absurd (Value.int.inj q) (by decide))) (Value.ref.inj q)) (by decide) (by decide) ?_
      show Steps p.tables e below (T234.setTop (mkF m 173 #[.val (.int p0), .val (.ref b1), .val (.int (15 : Int32)), .val (.ref w_LIST), .unset] [])) _
      refine XS.aloadN X234.here hx rfl (hb hby at_173) rfl rfl ?_
      show Steps p.tables e below (T234.setTop (mkF m 174 #[.val (.int p0), .val (.ref b1), .val (.int (15 : Int32)), .val (.ref w_LIST), .unset] [(.ref w_LIST)])) _
      refine st235 _ ?_
      show Steps p.tables e below (T235.setTop (mkF m 177 #[.val (.int p0), .val (.ref b1), .val (.int (15 : Int32)), .val (.ref w_LIST), .unset] [(.ref w_UNION), (.ref w_LIST)])) _
      refine Jvm.RoadKit.acmp (g := (mkF m 177 #[.val (.int p0), .val (.ref b1), .val (.int (15 : Int32)), .val (.ref w_LIST), .unset] [(.ref w_UNION), (.ref w_LIST)])) X235 hx rfl rfl rfl (pc0 := 177) (pc' := 180) (same := false) rfl (hb hby at_177) rfl (decide_eq_false fun q => (Fld.ne F_ordinal_LIST F_ordinal_UNION (fun q => absurd (Value.int.inj q) (by decide))) (Value.ref.inj q)) (by decide) (by decide) ?_
      show Steps p.tables e below (T235.setTop (mkF m 180 #[.val (.int p0), .val (.ref b1), .val (.int (15 : Int32)), .val (.ref w_LIST), .unset] [])) _
      refine XS.aloadN X235.here hx rfl (hb hby at_180) rfl rfl ?_
      show Steps p.tables e below (T235.setTop (mkF m 181 #[.val (.int p0), .val (.ref b1), .val (.int (15 : Int32)), .val (.ref w_LIST), .unset] [(.ref w_LIST)])) _
      refine st236 _ ?_
      show Steps p.tables e below (T236.setTop (mkF m 184 #[.val (.int p0), .val (.ref b1), .val (.int (15 : Int32)), .val (.ref w_LIST), .unset] [(.ref w_ENUM), (.ref w_LIST)])) _
      refine Jvm.RoadKit.acmp (g := (mkF m 184 #[.val (.int p0), .val (.ref b1), .val (.int (15 : Int32)), .val (.ref w_LIST), .unset] [(.ref w_ENUM), (.ref w_LIST)])) X236 hx rfl rfl rfl (pc0 := 184) (pc' := 187) (same := false) rfl (hb hby at_184) rfl (decide_eq_false fun q => (Fld.ne F_ordinal_LIST F_ordinal_ENUM (fun q => absurd (Value.int.inj q) (by decide))) (Value.ref.inj q)) (by decide) (by decide) ?_
      show Steps p.tables e below (T236.setTop (mkF m 187 #[.val (.int p0), .val (.ref b1), .val (.int (15 : Int32)), .val (.ref w_LIST), .unset] [])) _
      refine XS.aloadN X236.here hx rfl (hb hby at_187) rfl rfl ?_
      show Steps p.tables e below (T236.setTop (mkF m 188 #[.val (.int p0), .val (.ref b1), .val (.int (15 : Int32)), .val (.ref w_LIST), .unset] [(.ref w_LIST)])) _
      refine st237 _ ?_
      show Steps p.tables e below (T237.setTop (mkF m 191 #[.val (.int p0), .val (.ref b1), .val (.int (15 : Int32)), .val (.ref w_LIST), .unset] [(.ref w_INT_ENUM), (.ref w_LIST)])) _
      refine Jvm.RoadKit.acmp (g := (mkF m 191 #[.val (.int p0), .val (.ref b1), .val (.int (15 : Int32)), .val (.ref w_LIST), .unset] [(.ref w_INT_ENUM), (.ref w_LIST)])) X237 hx rfl rfl rfl (pc0 := 191) (pc' := 198) (same := false) rfl (hb hby at_191) rfl (decide_eq_false fun q => (Fld.ne F_ordinal_LIST F_ordinal_INT_ENUM (fun q => absurd (Value.int.inj q) (by decide))) (Value.ref.inj q)) (by decide) (by decide) ?_
      show Steps p.tables e below (T237.setTop (mkF m 198 #[.val (.int p0), .val (.ref b1), .val (.int (15 : Int32)), .val (.ref w_LIST), .unset] [])) _
      refine XS.iconst X237.here hx rfl (hb hby at_198) ?_
      show Steps p.tables e below (T237.setTop (mkF m 199 #[.val (.int p0), .val (.ref b1), .val (.int (15 : Int32)), .val (.ref w_LIST), .unset] [(.int (0 : Int32))])) _
      refine XS.istore X237.here hx rfl (hb hby at_199) rfl (l' := #[.val (.int p0), .val (.ref b1), .val (.int (15 : Int32)), .val (.ref w_LIST), .val (.int (0 : Int32))]) rfl ?_
      show Steps p.tables e below (T237.setTop (mkF m 201 #[.val (.int p0), .val (.ref b1), .val (.int (15 : Int32)), .val (.ref w_LIST), .val (.int (0 : Int32))] [])) _
      refine XS.aloadN X237.here hx rfl (hb hby at_201) rfl rfl ?_
      show Steps p.tables e below (T237.setTop (mkF m 202 #[.val (.int p0), .val (.ref b1), .val (.int (15 : Int32)), .val (.ref w_LIST), .val (.int (0 : Int32))] [(.ref w_LIST)])) _
      refine st239.trans ?_
      show Steps p.tables e below (T239.setTop (mkF m 205 #[.val (.int p0), .val (.ref b1), .val (.int (15 : Int32)), .val (.ref w_LIST), .val (.int (0 : Int32))] [(.int (0 : Int32))])) _
      refine XS.iload X239.here hx rfl (hb hby at_205) rfl ?_
      show Steps p.tables e below (T239.setTop (mkF m 207 #[.val (.int p0), .val (.ref b1), .val (.int (15 : Int32)), .val (.ref w_LIST), .val (.int (0 : Int32))] [(.int (0 : Int32)), (.int (0 : Int32))])) _
      refine XS.icmpNo X239.here hx rfl (hb hby at_207) rfl (teq (by decide : (0 : Int32) = (0 : Int32))).2 ?_
      show Steps p.tables e below (T239.setTop (mkF m 210 #[.val (.int p0), .val (.ref b1), .val (.int (15 : Int32)), .val (.ref w_LIST), .val (.int (0 : Int32))] [])) _
      refine XS.iconst X239.here hx rfl (hb hby at_210) ?_
      show Steps p.tables e below (T239.setTop (mkF m 211 #[.val (.int p0), .val (.ref b1), .val (.int (15 : Int32)), .val (.ref w_LIST), .val (.int (0 : Int32))] [(.int (1 : Int32))])) _
      refine XS.goto X239.here hx rfl (pc0 := 211) (pc' := 215) rfl (hb hby at_211) (by decide) (by decide) ?_
      exact kt
    obtain ⟨fs, hr, hrun, hended, hW, hsame⟩ := X239.leave (v := some (.int (1 : Int32))) (fun h => by rw [Bd.returns] at h; cases h)
    refine ⟨_, _, pre243 _ ?_, hrun, hended, _, _, rfl, ?_, ⟨_, rfl⟩, hW, hsame.mono (by decide) (by decide)⟩
    · show Steps p.tables e below (T239.setTop (mkF m 215 #[.val (.int p0), .val (.ref b1), .val (.int (15 : Int32)), .val (.ref w_LIST), .val (.int (0 : Int32))] [(.int (1 : Int32))])) _
      exact retN X239 hx (t := .boolean) Bd.returns (by simp) (hb hby at_215) hr
    · show Q_rm0 Z p0 w_BLOB w_BOOLEAN w_DOCUMENT w_STRING w_BYTE w_SHORT w_INTEGER w_LONG w_FLOAT w_DOUBLE w_BIG_INTEGER w_BIG_DECIMAL w_TIMESTAMP w_ENUM w_INT_ENUM w_LIST w_MAP w_STRUCTURE w_UNION w_SERVICE w_OPERATION w_RESOURCE r_fixedMembers_BLOB r_fixedMembers_LIST r_fixedMembers_MAP h0 n0 _ T239.heap _
      rw [e239]
      exact ⟨rfl, N239⟩
  · rw [hk] at pre68
    have vt244 := V_b1
    obtain ⟨cl244, Ar244, q244, S244, Ng244, Ha244, G244⟩ := vt244
    have hin244 : ¬ ((16 : Int32) < 0 ∨ cl244.slots.size ≤ ((16 : Int32)).toNatClampNeg) := inb_of S244 ⟨by decide, by decide⟩
    have hat244 : cl244.slots[((16 : Int32)).toNatClampNeg]? = some (.ref w_MAP) := Ha244.at hin244 rfl
    obtain ⟨T245, X245, e245, st245⟩ := getS2 X67 hx hZ hown (host := "") (Or.inl (hw _ (List.mem_of_getElem? (i := 38) rfl))) Via.refl e67 (S_STRUCTURE.ext O67.2) (g := (mkF m 167 #[.val (.int p0), .val (.ref b1), .val (.int (16 : Int32)), .val (.ref w_MAP), .unset] [(.ref w_MAP)])) rfl (hb hby at_167)
    obtain ⟨T246, X246, e246, st246⟩ := getS2 X245 hx hZ hown (host := "") (Or.inl (hw _ (List.mem_of_getElem? (i := 40) rfl))) Via.refl e245 (S_UNION.ext O67.2) (g := (mkF m 174 #[.val (.int p0), .val (.ref b1), .val (.int (16 : Int32)), .val (.ref w_MAP), .unset] [(.ref w_MAP)])) rfl (hb hby at_174)
    obtain ⟨T247, X247, e247, st247⟩ := getS2 X246 hx hZ hown (host := "") (Or.inl (hw _ (List.mem_of_getElem? (i := 30) rfl))) Via.refl e246 (S_ENUM.ext O67.2) (g := (mkF m 181 #[.val (.int p0), .val (.ref b1), .val (.int (16 : Int32)), .val (.ref w_MAP), .unset] [(.ref w_MAP)])) rfl (hb hby at_181)
    obtain ⟨T248, X248, e248, st248⟩ := getS2 X247 hx hZ hown (host := "") (Or.inl (hw _ (List.mem_of_getElem? (i := 32) rfl))) Via.refl e247 (S_INT_ENUM.ext O67.2) (g := (mkF m 188 #[.val (.int p0), .val (.ref b1), .val (.int (16 : Int32)), .val (.ref w_MAP), .unset] [(.ref w_MAP)])) rfl (hb hby at_188)
    obtain ⟨lc249, X249, N249⟩ := own_pack X248 N67
    obtain ⟨cq250, kq250, q250a, q250b, q250c⟩ := isOf hZ e248 (E_MAP.ext O67.2)
    obtain ⟨_, _, ⟨T250, L250, k250, n250⟩, -, X250, ⟨Lc250, hQ250, l250, y250, z250⟩, st250⟩ := X249.virtualBack hx (y := (⟨"com/example/shapewright/shapewright/model/ShapeType", "namesItsMembers", "()Z"⟩ : MethodName)) (z := (⟨"com/example/shapewright/shapewright/model/ShapeType", "namesItsMembers", "()Z"⟩ : MethodName)) hown (mvT hZ (hw _ (List.mem_of_getElem? (i := 49) rfl))) (mvT hZ (hw _ (List.mem_of_getElem? (i := 50) rfl))) (notFace_of_selects (args := #[]) (mvT hZ (hw _ (List.mem_of_getElem? (i := 52) rfl)))) (mvT hZ (hw _ (List.mem_of_getElem? (i := 52) rfl))) (mvT hZ (hw _ (List.mem_of_getElem? (i := 51) rfl))) (by decide) (backOf (W := 0) (rm_namesItsMembers_17 l Z a0 hw [] r_fixedMembers_MAP w_MAP h67 n0 O67  F_fixedMembers_MAP) hZ (hw _ (List.mem_of_getElem? (i := 53) rfl)) (hw _ (List.mem_of_getElem? (i := 3) rfl)) (by decide) (by decide)) q250a q250c (g := (mkF m 202 #[.val (.int p0), .val (.ref b1), .val (.int (16 : Int32)), .val (.ref w_MAP), .val (.int (0 : Int32))] [(.ref w_MAP)])) rfl (by rw [hml]; rfl) (Steps.refl _) (argsL := []) (rest := []) (lenOf pd___Z rfl) rfl (by show 2 * 0 + _ ≤ _; exact Nat.le_of_eq rfl) (hb hby at_202) (fun _ _ => ⟨rfl, e248, (by decide : 1 + 0 ≤ _), (by decide : 22 + 0 ≤ _)⟩)
    dsimp only [Pt.U, Pt.locs, Pt.cells, Pt.slots] at X250 l250 y250 z250 st250 hQ250
    subst l250 y250 z250
    obtain ⟨rfl, N250q, e250⟩ := hQ250
    have N250 := Fr.app N249 N250q
    have pre254 : ∀ t, Steps p.tables e below (T250.setTop (mkF m 215 #[.val (.int p0), .val (.ref b1), .val (.int (16 : Int32)), .val (.ref w_MAP), .val (.int (0 : Int32))] [(.int (1 : Int32))])) t → Steps p.tables e below (s₁.setTop (entryFrame m #[(.int p0)] maxLocals)) t := by
      intro t kt
      refine pre68 t ?_
      show Steps p.tables e below (T67.setTop (mkF m 162 #[.val (.int p0), .val (.ref b1), .val (.int (16 : Int32)), .unset, .unset] [])) _
      refine XS.aloadN X67.here hx rfl (hb hby at_162) rfl rfl ?_
      show Steps p.tables e below (T67.setTop (mkF m 163 #[.val (.int p0), .val (.ref b1), .val (.int (16 : Int32)), .unset, .unset] [(.ref b1)])) _
      refine XS.iloadN X67.here hx rfl (hb hby at_163) rfl ?_
      show Steps p.tables e below (T67.setTop (mkF m 164 #[.val (.int p0), .val (.ref b1), .val (.int (16 : Int32)), .unset, .unset] [(.int (16 : Int32)), (.ref b1)])) _
      refine X67.aaload hx (j := (16 : Int32)) (v := (.ref w_MAP)) (by rw [e67]; exact Ar244.1) (State.isArrayOf_alike hZ.alike Ar244.2.1) rfl Ar244.2.2 hin244 hat244 (g := (mkF m 164 #[.val (.int p0), .val (.ref b1), .val (.int (16 : Int32)), .unset, .unset] [(.int (16 : Int32)), (.ref b1)])) rfl rfl (hb hby at_164) _ ?_
      show Steps p.tables e below (T67.setTop (mkF m 165 #[.val (.int p0), .val (.ref b1), .val (.int (16 : Int32)), .unset, .unset] [(.ref w_MAP)])) _
      refine XS.astoreN X67.here hx rfl (hb hby at_165) rfl rfl (l' := #[.val (.int p0), .val (.ref b1), .val (.int (16 : Int32)), .val (.ref w_MAP), .unset]) rfl ?_
      show Steps p.tables e below (T67.setTop (mkF m 166 #[.val (.int p0), .val (.ref b1), .val (.int (16 : Int32)), .val (.ref w_MAP), .unset] [])) _
      refine XS.aloadN X67.here hx rfl (hb hby at_166) rfl rfl ?_
      show Steps p.tables e below (T67.setTop (mkF m 167 #[.val (.int p0), .val (.ref b1), .val (.int (16 : Int32)), .val (.ref w_MAP), .unset] [(.ref w_MAP)])) _
      refine st245 _ ?_
      show Steps p.tables e below (T245.setTop (mkF m 170 #[.val (.int p0), .val (.ref b1), .val (.int (16 : Int32)), .val (.ref w_MAP), .unset] [(.ref w_STRUCTURE), (.ref w_MAP)])) _
      refine Jvm.RoadKit.acmp (g := (mkF m 170 #[.val (.int p0), .val (.ref b1), .val (.int (16 : Int32)), .val (.ref w_MAP), .unset] [(.ref w_STRUCTURE), (.ref w_MAP)])) X245 hx rfl rfl rfl (pc0 := 170) (pc' := 173) (same := false) rfl (hb hby at_170) rfl (decide_eq_false fun q => (Fld.ne F_ordinal_MAP F_ordinal_STRUCTURE (fun q => absurd (Value.int.inj q) (by decide))) (Value.ref.inj q)) (by decide) (by decide) ?_
      show Steps p.tables e below (T245.setTop (mkF m 173 #[.val (.int p0), .val (.ref b1), .val (.int (16 : Int32)), .val (.ref w_MAP), .unset] [])) _
      refine XS.aloadN X245.here hx rfl (hb hby at_173) rfl rfl ?_
      show Steps p.tables e below (T245.setTop (mkF m 174 #[.val (.int p0), .val (.ref b1), .val (.int (16 : Int32)), .val (.ref w_MAP), .unset] [(.ref w_MAP)])) _
      refine st246 _ ?_
      show Steps p.tables e below (T246.setTop (mkF m 177 #[.val (.int p0), .val (.ref b1), .val (.int (16 : Int32)), .val (.ref w_MAP), .unset] [(.ref w_UNION), (.ref w_MAP)])) _
      refine Jvm.RoadKit.acmp (g := (mkF m 177 #[.val (.int p0), .val (.ref b1), .val (.int (16 : Int32)), .val (.ref w_MAP), .unset] [(.ref w_UNION), (.ref w_MAP)])) X246 hx rfl rfl rfl (pc0 := 177) (pc' := 180) (same := false) rfl (hb hby at_177) rfl (decide_eq_false fun q => (Fld.ne F_ordinal_MAP F_ordinal_UNION (fun q => absurd (Value.int.inj q) (by decide))) (Value.ref.inj q)) (by decide) (by decide) ?_
      show Steps p.tables e below (T246.setTop (mkF m 180 #[.val (.int p0), .val (.ref b1), .val (.int (16 : Int32)), .val (.ref w_MAP), .unset] [])) _
      refine XS.aloadN X246.here hx rfl (hb hby at_180) rfl rfl ?_
      show Steps p.tables e below (T246.setTop (mkF m 181 #[.val (.int p0), .val (.ref b1), .val (.int (16 : Int32)), .val (.ref w_MAP), .unset] [(.ref w_MAP)])) _
      refine st247 _ ?_
      show Steps p.tables e below (T247.setTop (mkF m 184 #[.val (.int p0), .val (.ref b1), .val (.int (16 : Int32)), .val (.ref w_MAP), .unset] [(.ref w_ENUM), (.ref w_MAP)])) _
      refine Jvm.RoadKit.acmp (g := (mkF m 184 #[.val (.int p0), .val (.ref b1), .val (.int (16 : Int32)), .val (.ref w_MAP), .unset] [(.ref w_ENUM), (.ref w_MAP)])) X247 hx rfl rfl rfl (pc0 := 184) (pc' := 187) (same := false) rfl (hb hby at_184) rfl (decide_eq_false fun q => (Fld.ne F_ordinal_MAP F_ordinal_ENUM (fun q => absurd (Value.int.inj q) (by decide))) (Value.ref.inj q)) (by decide) (by decide) ?_
      show Steps p.tables e below (T247.setTop (mkF m 187 #[.val (.int p0), .val (.ref b1), .val (.int (16 : Int32)), .val (.ref w_MAP), .unset] [])) _
      refine XS.aloadN X247.here hx rfl (hb hby at_187) rfl rfl ?_
      show Steps p.tables e below (T247.setTop (mkF m 188 #[.val (.int p0), .val (.ref b1), .val (.int (16 : Int32)), .val (.ref w_MAP), .unset] [(.ref w_MAP)])) _
      refine st248 _ ?_
      show Steps p.tables e below (T248.setTop (mkF m 191 #[.val (.int p0), .val (.ref b1), .val (.int (16 : Int32)), .val (.ref w_MAP), .unset] [(.ref w_INT_ENUM), (.ref w_MAP)])) _
      refine Jvm.RoadKit.acmp (g := (mkF m 191 #[.val (.int p0), .val (.ref b1), .val (.int (16 : Int32)), .val (.ref w_MAP), .unset] [(.ref w_INT_ENUM), (.ref w_MAP)])) X248 hx rfl rfl rfl (pc0 := 191) (pc' := 198) (same := false) rfl (hb hby at_191) rfl (decide_eq_false fun q => (Fld.ne F_ordinal_MAP F_ordinal_INT_ENUM (fun q => absurd (Value.int.inj q) (by decide))) (Value.ref.inj q)) (by decide) (by decide) ?_
      show Steps p.tables e below (T248.setTop (mkF m 198 #[.val (.int p0), .val (.ref b1), .val (.int (16 : Int32)), .val (.ref w_MAP), .unset] [])) _
      refine XS.iconst X248.here hx rfl (hb hby at_198) ?_
      show Steps p.tables e below (T248.setTop (mkF m 199 #[.val (.int p0), .val (.ref b1), .val (.int (16 : Int32)), .val (.ref w_MAP), .unset] [(.int (0 : Int32))])) _
      refine XS.istore X248.here hx rfl (hb hby at_199) rfl (l' := #[.val (.int p0), .val (.ref b1), .val (.int (16 : Int32)), .val (.ref w_MAP), .val (.int (0 : Int32))]) rfl ?_
      show Steps p.tables e below (T248.setTop (mkF m 201 #[.val (.int p0), .val (.ref b1), .val (.int (16 : Int32)), .val (.ref w_MAP), .val (.int (0 : Int32))] [])) _
      refine XS.aloadN X248.here hx rfl (hb hby at_201) rfl rfl ?_
      show Steps p.tables e below (T248.setTop (mkF m 202 #[.val (.int p0), .val (.ref b1), .val (.int (16 : Int32)), .val (.ref w_MAP), .val (.int (0 : Int32))] [(.ref w_MAP)])) _
      refine st250.trans ?_
      show Steps p.tables e below (T250.setTop (mkF m 205 #[.val (.int p0), .val (.ref b1), .val (.int (16 : Int32)), .val (.ref w_MAP), .val (.int (0 : Int32))] [(.int (0 : Int32))])) _
      refine XS.iload X250.here hx rfl (hb hby at_205) rfl ?_
      show Steps p.tables e below (T250.setTop (mkF m 207 #[.val (.int p0), .val (.ref b1), .val (.int (16 : Int32)), .val (.ref w_MAP), .val (.int (0 : Int32))] [(.int (0 : Int32)), (.int (0 : Int32))])) _
      refine XS.icmpNo X250.here hx rfl (hb hby at_207) rfl (teq (by decide : (0 : Int32) = (0 : Int32))).2 ?_
      show Steps p.tables e below (T250.setTop (mkF m 210 #[.val (.int p0), .val (.ref b1), .val (.int (16 : Int32)), .val (.ref w_MAP), .val (.int (0 : Int32))] [])) _
      refine XS.iconst X250.here hx rfl (hb hby at_210) ?_
      show Steps p.tables e below (T250.setTop (mkF m 211 #[.val (.int p0), .val (.ref b1), .val (.int (16 : Int32)), .val (.ref w_MAP), .val (.int (0 : Int32))] [(.int (1 : Int32))])) _
      refine XS.goto X250.here hx rfl (pc0 := 211) (pc' := 215) rfl (hb hby at_211) (by decide) (by decide) ?_
      exact kt
    obtain ⟨fs, hr, hrun, hended, hW, hsame⟩ := X250.leave (v := some (.int (1 : Int32))) (fun h => by rw [Bd.returns] at h; cases h)
    refine ⟨_, _, pre254 _ ?_, hrun, hended, _, _, rfl, ?_, ⟨_, rfl⟩, hW, hsame.mono (by decide) (by decide)⟩
    · show Steps p.tables e below (T250.setTop (mkF m 215 #[.val (.int p0), .val (.ref b1), .val (.int (16 : Int32)), .val (.ref w_MAP), .val (.int (0 : Int32))] [(.int (1 : Int32))])) _
      exact retN X250 hx (t := .boolean) Bd.returns (by simp) (hb hby at_215) hr
    · show Q_rm0 Z p0 w_BLOB w_BOOLEAN w_DOCUMENT w_STRING w_BYTE w_SHORT w_INTEGER w_LONG w_FLOAT w_DOUBLE w_BIG_INTEGER w_BIG_DECIMAL w_TIMESTAMP w_ENUM w_INT_ENUM w_LIST w_MAP w_STRUCTURE w_UNION w_SERVICE w_OPERATION w_RESOURCE r_fixedMembers_BLOB r_fixedMembers_LIST r_fixedMembers_MAP h0 n0 _ T250.heap _
      rw [e250]
      exact ⟨rfl, N250⟩
  · rw [hk] at pre68
    have vt255 := V_b1
    obtain ⟨cl255, Ar255, q255, S255, Ng255, Ha255, G255⟩ := vt255
    have hin255 : ¬ ((17 : Int32) < 0 ∨ cl255.slots.size ≤ ((17 : Int32)).toNatClampNeg) := inb_of S255 ⟨by decide, by decide⟩
    have hat255 : cl255.slots[((17 : Int32)).toNatClampNeg]? = some (.ref w_STRUCTURE) := Ha255.at hin255 rfl
    obtain ⟨T256, X256, e256, st256⟩ := getS2 X67 hx hZ hown (host := "") (Or.inl (hw _ (List.mem_of_getElem? (i := 38) rfl))) Via.refl e67 (S_STRUCTURE.ext O67.2) (g := (mkF m 167 #[.val (.int p0), .val (.ref b1), .val (.int (17 : Int32)), .val (.ref w_STRUCTURE), .unset] [(.ref w_STRUCTURE)])) rfl (hb hby at_167)
    obtain ⟨lc257, X257, N257⟩ := own_pack X256 N67
    obtain ⟨cq258, kq258, q258a, q258b, q258c⟩ := isOf hZ e256 (E_STRUCTURE.ext O67.2)
    obtain ⟨_, _, ⟨T258, L258, k258, n258⟩, -, X258, ⟨Lc258, hQ258, l258, y258, z258⟩, st258⟩ := X257.virtualBack hx (y := (⟨"com/example/shapewright/shapewright/model/ShapeType", "namesItsMembers", "()Z"⟩ : MethodName)) (z := (⟨"com/example/shapewright/shapewright/model/ShapeType", "namesItsMembers", "()Z"⟩ : MethodName)) hown (mvT hZ (hw _ (List.mem_of_getElem? (i := 49) rfl))) (mvT hZ (hw _ (List.mem_of_getElem? (i := 50) rfl))) (notFace_of_selects (args := #[]) (mvT hZ (hw _ (List.mem_of_getElem? (i := 52) rfl)))) (mvT hZ (hw _ (List.mem_of_getElem? (i := 52) rfl))) (mvT hZ (hw _ (List.mem_of_getElem? (i := 51) rfl))) (by decide) (backOf (W := 0) (rm_namesItsMembers_18 l Z a0 hw [] w_STRUCTURE h67 n0 O67  F_fixedMembers_STRUCTURE) hZ (hw _ (List.mem_of_getElem? (i := 53) rfl)) (hw _ (List.mem_of_getElem? (i := 3) rfl)) (by decide) (by decide)) q258a q258c (g := (mkF m 202 #[.val (.int p0), .val (.ref b1), .val (.int (17 : Int32)), .val (.ref w_STRUCTURE), .val (.int (1 : Int32))] [(.ref w_STRUCTURE)])) rfl (by rw [hml]; rfl) (Steps.refl _) (argsL := []) (rest := []) (lenOf pd___Z rfl) rfl (by show 2 * 0 + _ ≤ _; exact Nat.le_of_eq rfl) (hb hby at_202) (fun _ _ => ⟨rfl, e256, (by decide : 1 + 0 ≤ _), (by decide : 22 + 0 ≤ _)⟩)
    dsimp only [Pt.U, Pt.locs, Pt.cells, Pt.slots] at X258 l258 y258 z258 st258 hQ258
    subst l258 y258 z258
    obtain ⟨rfl, N258q, e258⟩ := hQ258
    have N258 := Fr.app N257 N258q
    have pre262 : ∀ t, Steps p.tables e below (T258.setTop (mkF m 215 #[.val (.int p0), .val (.ref b1), .val (.int (17 : Int32)), .val (.ref w_STRUCTURE), .val (.int (1 : Int32))] [(.int (1 : Int32))])) t → Steps p.tables e below (s₁.setTop (entryFrame m #[(.int p0)] maxLocals)) t := by
      intro t kt
      refine pre68 t ?_
      show Steps p.tables e below (T67.setTop (mkF m 162 #[.val (.int p0), .val (.ref b1), .val (.int (17 : Int32)), .unset, .unset] [])) _
      refine XS.aloadN X67.here hx rfl (hb hby at_162) rfl rfl ?_
      show Steps p.tables e below (T67.setTop (mkF m 163 #[.val (.int p0), .val (.ref b1), .val (.int (17 : Int32)), .unset, .unset] [(.ref b1)])) _
      refine XS.iloadN X67.here hx rfl (hb hby at_163) rfl ?_
      show Steps p.tables e below (T67.setTop (mkF m 164 #[.val (.int p0), .val (.ref b1), .val (.int (17 : Int32)), .unset, .unset] [(.int (17 : Int32)), (.ref b1)])) _
      refine X67.aaload hx (j := (17 : Int32)) (v := (.ref w_STRUCTURE)) (by rw [e67]; exact Ar255.1) (State.isArrayOf_alike hZ.alike Ar255.2.1) rfl Ar255.2.2 hin255 hat255 (g := (mkF m 164 #[.val (.int p0), .val (.ref b1), .val (.int (17 : Int32)), .unset, .unset] [(.int (17 : Int32)), (.ref b1)])) rfl rfl (hb hby at_164) _ ?_
      show Steps p.tables e below (T67.setTop (mkF m 165 #[.val (.int p0), .val (.ref b1), .val (.int (17 : Int32)), .unset, .unset] [(.ref w_STRUCTURE)])) _
      refine XS.astoreN X67.here hx rfl (hb hby at_165) rfl rfl (l' := #[.val (.int p0), .val (.ref b1), .val (.int (17 : Int32)), .val (.ref w_STRUCTURE), .unset]) rfl ?_
      show Steps p.tables e below (T67.setTop (mkF m 166 #[.val (.int p0), .val (.ref b1), .val (.int (17 : Int32)), .val (.ref w_STRUCTURE), .unset] [])) _
      refine XS.aloadN X67.here hx rfl (hb hby at_166) rfl rfl ?_
      show Steps p.tables e below (T67.setTop (mkF m 167 #[.val (.int p0), .val (.ref b1), .val (.int (17 : Int32)), .val (.ref w_STRUCTURE), .unset] [(.ref w_STRUCTURE)])) _
      refine st256 _ ?_
      show Steps p.tables e below (T256.setTop (mkF m 170 #[.val (.int p0), .val (.ref b1), .val (.int (17 : Int32)), .val (.ref w_STRUCTURE), .unset] [(.ref w_STRUCTURE), (.ref w_STRUCTURE)])) _
      refine Jvm.RoadKit.acmp (g := (mkF m 170 #[.val (.int p0), .val (.ref b1), .val (.int (17 : Int32)), .val (.ref w_STRUCTURE), .unset] [(.ref w_STRUCTURE), (.ref w_STRUCTURE)])) X256 hx rfl rfl rfl (pc0 := 170) (pc' := 194) (same := true) rfl (hb hby at_170) rfl (decide_eq_true rfl) (by decide) (by decide) ?_
      show Steps p.tables e below (T256.setTop (mkF m 194 #[.val (.int p0), .val (.ref b1), .val (.int (17 : Int32)), .val (.ref w_STRUCTURE), .unset] [])) _
      refine XS.iconst X256.here hx rfl (hb hby at_194) ?_
      show Steps p.tables e below (T256.setTop (mkF m 195 #[.val (.int p0), .val (.ref b1), .val (.int (17 : Int32)), .val (.ref w_STRUCTURE), .unset] [(.int (1 : Int32))])) _
      refine XS.goto X256.here hx rfl (pc0 := 195) (pc' := 199) rfl (hb hby at_195) (by decide) (by decide) ?_
      show Steps p.tables e below (T256.setTop (mkF m 199 #[.val (.int p0), .val (.ref b1), .val (.int (17 : Int32)), .val (.ref w_STRUCTURE), .unset] [(.int (1 : Int32))])) _
      refine XS.istore X256.here hx rfl (hb hby at_199) rfl (l' := #[.val (.int p0), .val (.ref b1), .val (.int (17 : Int32)), .val (.ref w_STRUCTURE), .val (.int (1 : Int32))]) rfl ?_
      show Steps p.tables e below (T256.setTop (mkF m 201 #[.val (.int p0), .val (.ref b1), .val (.int (17 : Int32)), .val (.ref w_STRUCTURE), .val (.int (1 : Int32))] [])) _
      refine XS.aloadN X256.here hx rfl (hb hby at_201) rfl rfl ?_
      show Steps p.tables e below (T256.setTop (mkF m 202 #[.val (.int p0), .val (.ref b1), .val (.int (17 : Int32)), .val (.ref w_STRUCTURE), .val (.int (1 : Int32))] [(.ref w_STRUCTURE)])) _
      refine st258.trans ?_
      show Steps p.tables e below (T258.setTop (mkF m 205 #[.val (.int p0), .val (.ref b1), .val (.int (17 : Int32)), .val (.ref w_STRUCTURE), .val (.int (1 : Int32))] [(.int (1 : Int32))])) _
      refine XS.iload X258.here hx rfl (hb hby at_205) rfl ?_
      show Steps p.tables e below (T258.setTop (mkF m 207 #[.val (.int p0), .val (.ref b1), .val (.int (17 : Int32)), .val (.ref w_STRUCTURE), .val (.int (1 : Int32))] [(.int (1 : Int32)), (.int (1 : Int32))])) _
      refine XS.icmpNo X258.here hx rfl (hb hby at_207) rfl (teq (by decide : (1 : Int32) = (1 : Int32))).2 ?_
      show Steps p.tables e below (T258.setTop (mkF m 210 #[.val (.int p0), .val (.ref b1), .val (.int (17 : Int32)), .val (.ref w_STRUCTURE), .val (.int (1 : Int32))] [])) _
      refine XS.iconst X258.here hx rfl (hb hby at_210) ?_
      show Steps p.tables e below (T258.setTop (mkF m 211 #[.val (.int p0), .val (.ref b1), .val (.int (17 : Int32)), .val (.ref w_STRUCTURE), .val (.int (1 : Int32))] [(.int (1 : Int32))])) _
      refine XS.goto X258.here hx rfl (pc0 := 211) (pc' := 215) rfl (hb hby at_211) (by decide) (by decide) ?_
      exact kt
    obtain ⟨fs, hr, hrun, hended, hW, hsame⟩ := X258.leave (v := some (.int (1 : Int32))) (fun h => by rw [Bd.returns] at h; cases h)
    refine ⟨_, _, pre262 _ ?_, hrun, hended, _, _, rfl, ?_, ⟨_, rfl⟩, hW, hsame.mono (by decide) (by decide)⟩
    · show Steps p.tables e below (T258.setTop (mkF m 215 #[.val (.int p0), .val (.ref b1), .val (.int (17 : Int32)), .val (.ref w_STRUCTURE), .val (.int (1 : Int32))] [(.int (1 : Int32))])) _
      exact retN X258 hx (t := .boolean) Bd.returns (by simp) (hb hby at_215) hr
    · show Q_rm0 Z p0 w_BLOB w_BOOLEAN w_DOCUMENT w_STRING w_BYTE w_SHORT w_INTEGER w_LONG w_FLOAT w_DOUBLE w_BIG_INTEGER w_BIG_DECIMAL w_TIMESTAMP w_ENUM w_INT_ENUM w_LIST w_MAP w_STRUCTURE w_UNION w_SERVICE w_OPERATION w_RESOURCE r_fixedMembers_BLOB r_fixedMembers_LIST r_fixedMembers_MAP h0 n0 _ T258.heap _
      rw [e258]
      exact ⟨rfl, N258⟩
  · rw [hk] at pre68
    have vt263 := V_b1
    obtain ⟨cl263, Ar263, q263, S263, Ng263, Ha263, G263⟩ := vt263
    have hin263 : ¬ ((18 : Int32) < 0 ∨ cl263.slots.size ≤ ((18 : Int32)).toNatClampNeg) := inb_of S263 ⟨by decide, by decide⟩
    have hat263 : cl263.slots[((18 : Int32)).toNatClampNeg]? = some (.ref w_UNION) := Ha263.at hin263 rfl
    obtain ⟨T264, X264, e264, st264⟩ := getS2 X67 hx hZ hown (host := "") (Or.inl (hw _ (List.mem_of_getElem? (i := 38) rfl))) Via.refl e67 (S_STRUCTURE.ext O67.2) (g := (mkF m 167 #[.val (.int p0), .val (.ref b1), .val (.int (18 : Int32)), .val (.ref w_UNION), .unset] [(.ref w_UNION)])) rfl (hb hby at_167)
    obtain ⟨T265, X265, e265, st265⟩ := getS2 X264 hx hZ hown (host := "") (Or.inl (hw _ (List.mem_of_getElem? (i := 40) rfl))) Via.refl e264 (S_UNION.ext O67.2) (g := (mkF m 174 #[.val (.int p0), .val (.ref b1), .val (.int (18 : Int32)), .val (.ref w_UNION), .unset] [(.ref w_UNION)])) rfl (hb hby at_174)
    obtain ⟨lc266, X266, N266⟩ := own_pack X265 N67
    obtain ⟨cq267, kq267, q267a, q267b, q267c⟩ := isOf hZ e265 (E_UNION.ext O67.2)
    obtain ⟨_, _, ⟨T267, L267, k267, n267⟩, -, X267, ⟨Lc267, hQ267, l267, y267, z267⟩, st267⟩ := X266.virtualBack hx (y := (⟨"com/example/shapewright/shapewright/model/ShapeType", "namesItsMembers", "()Z"⟩ : MethodName)) (z := (⟨"com/example/shapewright/shapewright/model/ShapeType", "namesItsMembers", "()Z"⟩ : MethodName)) hown (mvT hZ (hw _ (List.mem_of_getElem? (i := 49) rfl))) (mvT hZ (hw _ (List.mem_of_getElem? (i := 50) rfl))) (notFace_of_selects (args := #[]) (mvT hZ (hw _ (List.mem_of_getElem? (i := 52) rfl)))) (mvT hZ (hw _ (List.mem_of_getElem? (i := 52) rfl))) (mvT hZ (hw _ (List.mem_of_getElem? (i := 51) rfl))) (by decide) (backOf (W := 0) (rm_namesItsMembers_19 l Z a0 hw [] w_UNION h67 n0 O67  F_fixedMembers_UNION) hZ (hw _ (List.mem_of_getElem? (i := 53) rfl)) (hw _ (List.mem_of_getElem? (i := 3) rfl)) (by decide) (by decide)) q267a q267c (g := (mkF m 202 #[.val (.int p0), .val (.ref b1), .val (.int (18 : Int32)), .val (.ref w_UNION), .val (.int (1 : Int32))] [(.ref w_UNION)])) rfl (by rw [hml]; rfl) (Steps.refl _) (argsL := []) (rest := []) (lenOf pd___Z rfl) rfl (by show 2 * 0 + _ ≤ _; exact Nat.le_of_eq rfl) (hb hby at_202) (fun _ _ => ⟨rfl, e265, (by decide : 1 + 0 ≤ _), (by decide : 22 + 0 ≤ _)⟩)
    dsimp only [Pt.U, Pt.locs, Pt.cells, Pt.slots] at X267 l267 y267 z267 st267 hQ267
    subst l267 y267 z267
    obtain ⟨rfl, N267q, e267⟩ := hQ267
    have N267 := Fr.app N266 N267q
    have pre271 : ∀ t, Steps p.tables e below (T267.setTop (mkF m 215 #[.val (.int p0), .val (.ref b1), .val (.int (18 : Int32)), .val (.ref w_UNION), .val (.int (1 : Int32))] [(.int (1 : Int32))])) t → Steps p.tables e below (s₁.setTop (entryFrame m #[(.int p0)] maxLocals)) t := by
      intro t kt
      refine pre68 t ?_
      show Steps p.tables e below (T67.setTop (mkF m 162 #[.val (.int p0), .val (.ref b1), .val (.int (18 : Int32)), .unset, .unset] [])) _
      refine XS.aloadN X67.here hx rfl (hb hby at_162) rfl rfl ?_
      show Steps p.tables e below (T67.setTop (mkF m 163 #[.val (.int p0), .val (.ref b1), .val (.int (18 : Int32)), .unset, .unset] [(.ref b1)])) _
      refine XS.iloadN X67.here hx rfl (hb hby at_163) rfl ?_
      show Steps p.tables e below (T67.setTop (mkF m 164 #[.val (.int p0), .val (.ref b1), .val (.int (18 : Int32)), .unset, .unset] [(.int (18 : Int32)), (.ref b1)])) _
      refine X67.aaload hx (j := (18 : Int32)) (v := (.ref w_UNION)) (by rw [e67]; exact Ar263.1) (State.isArrayOf_alike hZ.alike Ar263.2.1) rfl Ar263.2.2 hin263 hat263 (g := (mkF m 164 #[.val (.int p0), .val (.ref b1), .val (.int (18 : Int32)), .unset, .unset] [(.int (18 : Int32)), (.ref b1)])) rfl rfl (hb hby at_164) _ ?_
      show Steps p.tables e below (T67.setTop (mkF m 165 #[.val (.int p0), .val (.ref b1), .val (.int (18 : Int32)), .unset, .unset] [(.ref w_UNION)])) _
      refine XS.astoreN X67.here hx rfl (hb hby at_165) rfl rfl (l' := #[.val (.int p0), .val (.ref b1), .val (.int (18 : Int32)), .val (.ref w_UNION), .unset]) rfl ?_
      show Steps p.tables e below (T67.setTop (mkF m 166 #[.val (.int p0), .val (.ref b1), .val (.int (18 : Int32)), .val (.ref w_UNION), .unset] [])) _
      refine XS.aloadN X67.here hx rfl (hb hby at_166) rfl rfl ?_
      show Steps p.tables e below (T67.setTop (mkF m 167 #[.val (.int p0), .val (.ref b1), .val (.int (18 : Int32)), .val (.ref w_UNION), .unset] [(.ref w_UNION)])) _
      refine st264 _ ?_
      show Steps p.tables e below (T264.setTop (mkF m 170 #[.val (.int p0), .val (.ref b1), .val (.int (18 : Int32)), .val (.ref w_UNION), .unset] [(.ref w_STRUCTURE), (.ref w_UNION)])) _
      refine Jvm.RoadKit.acmp (g := (mkF m 170 #[.val (.int p0), .val (.ref b1), .val (.int (18 : Int32)), .val (.ref w_UNION), .unset] [(.ref w_STRUCTURE), (.ref w_UNION)])) X264 hx rfl rfl rfl (pc0 := 170) (pc' := 173) (same := false) rfl (hb hby at_170) rfl (decide_eq_false fun q => (Fld.ne F_ordinal_UNION F_ordinal_STRUCTURE (fun q => absurd (Value.int.inj q) (by decide))) (Value.ref.inj q)) (by decide) (by decide) ?_
      show Steps p.tables e below (T264.setTop (mkF m 173 #[.val (.int p0), .val (.ref b1), .val (.int (18 : Int32)), .val (.ref w_UNION), .unset] [])) _
      refine XS.aloadN X264.here hx rfl (hb hby at_173) rfl rfl ?_
      show Steps p.tables e below (T264.setTop (mkF m 174 #[.val (.int p0), .val (.ref b1), .val (.int (18 : Int32)), .val (.ref w_UNION), .unset] [(.ref w_UNION)])) _
      refine st265 _ ?_
      show Steps p.tables e below (T265.setTop (mkF m 177 #[.val (.int p0), .val (.ref b1), .val (.int (18 : Int32)), .val (.ref w_UNION), .unset] [(.ref w_UNION), (.ref w_UNION)])) _
      refine Jvm.RoadKit.acmp (g := (mkF m 177 #[.val (.int p0), .val (.ref b1), .val (.int (18 : Int32)), .val (.ref w_UNION), .unset] [(.ref w_UNION), (.ref w_UNION)])) X265 hx rfl rfl rfl (pc0 := 177) (pc' := 194) (same := true) rfl (hb hby at_177) rfl (decide_eq_true rfl) (by decide) (by decide) ?_
      show Steps p.tables e below (T265.setTop (mkF m 194 #[.val (.int p0), .val (.ref b1), .val (.int (18 : Int32)), .val (.ref w_UNION), .unset] [])) _
      refine XS.iconst X265.here hx rfl (hb hby at_194) ?_
      show Steps p.tables e below (T265.setTop (mkF m 195 #[.val (.int p0), .val (.ref b1), .val (.int (18 : Int32)), .val (.ref w_UNION), .unset] [(.int (1 : Int32))])) _
      refine XS.goto X265.here hx rfl (pc0 := 195) (pc' := 199) rfl (hb hby at_195) (by decide) (by decide) ?_
      show Steps p.tables e below (T265.setTop (mkF m 199 #[.val (.int p0), .val (.ref b1), .val (.int (18 : Int32)), .val (.ref w_UNION), .unset] [(.int (1 : Int32))])) _
      refine XS.istore X265.here hx rfl (hb hby at_199) rfl (l' := #[.val (.int p0), .val (.ref b1), .val (.int (18 : Int32)), .val (.ref w_UNION), .val (.int (1 : Int32))]) rfl ?_
      show Steps p.tables e below (T265.setTop (mkF m 201 #[.val (.int p0), .val (.ref b1), .val (.int (18 : Int32)), .val (.ref w_UNION), .val (.int (1 : Int32))] [])) _
      refine XS.aloadN X265.here hx rfl (hb hby at_201) rfl rfl ?_
      show Steps p.tables e below (T265.setTop (mkF m 202 #[.val (.int p0), .val (.ref b1), .val (.int (18 : Int32)), .val (.ref w_UNION), .val (.int (1 : Int32))] [(.ref w_UNION)])) _
      refine st267.trans ?_
      show Steps p.tables e below (T267.setTop (mkF m 205 #[.val (.int p0), .val (.ref b1), .val (.int (18 : Int32)), .val (.ref w_UNION), .val (.int (1 : Int32))] [(.int (1 : Int32))])) _
      refine XS.iload X267.here hx rfl (hb hby at_205) rfl ?_
      show Steps p.tables e below (T267.setTop (mkF m 207 #[.val (.int p0), .val (.ref b1), .val (.int (18 : Int32)), .val (.ref w_UNION), .val (.int (1 : Int32))] [(.int (1 : Int32)), (.int (1 : Int32))])) _
      refine XS.icmpNo X267.here hx rfl (hb hby at_207) rfl (teq (by decide : (1 : Int32) = (1 : Int32))).2 ?_
      show Steps p.tables e below (T267.setTop (mkF m 210 #[.val (.int p0), .val (.ref b1), .val (.int (18 : Int32)), .val (.ref w_UNION), .val (.int (1 : Int32))] [])) _
      refine XS.iconst X267.here hx rfl (hb hby at_210) ?_
      show Steps p.tables e below (T267.setTop (mkF m 211 #[.val (.int p0), .val (.ref b1), .val (.int (18 : Int32)), .val (.ref w_UNION), .val (.int (1 : Int32))] [(.int (1 : Int32))])) _
      refine XS.goto X267.here hx rfl (pc0 := 211) (pc' := 215) rfl (hb hby at_211) (by decide) (by decide) ?_
      exact kt
    obtain ⟨fs, hr, hrun, hended, hW, hsame⟩ := X267.leave (v := some (.int (1 : Int32))) (fun h => by rw [Bd.returns] at h; cases h)
    refine ⟨_, _, pre271 _ ?_, hrun, hended, _, _, rfl, ?_, ⟨_, rfl⟩, hW, hsame.mono (by decide) (by decide)⟩
    · show Steps p.tables e below (T267.setTop (mkF m 215 #[.val (.int p0), .val (.ref b1), .val (.int (18 : Int32)), .val (.ref w_UNION), .val (.int (1 : Int32))] [(.int (1 : Int32))])) _
      exact retN X267 hx (t := .boolean) Bd.returns (by simp) (hb hby at_215) hr
    · show Q_rm0 Z p0 w_BLOB w_BOOLEAN w_DOCUMENT w_STRING w_BYTE w_SHORT w_INTEGER w_LONG w_FLOAT w_DOUBLE w_BIG_INTEGER w_BIG_DECIMAL w_TIMESTAMP w_ENUM w_INT_ENUM w_LIST w_MAP w_STRUCTURE w_UNION w_SERVICE w_OPERATION w_RESOURCE r_fixedMembers_BLOB r_fixedMembers_LIST r_fixedMembers_MAP h0 n0 _ T267.heap _
      rw [e267]
      exact ⟨rfl, N267⟩
  · rw [hk] at pre68
    have vt272 := V_b1
    obtain ⟨cl272, Ar272, q272, S272, Ng272, Ha272, G272⟩ := vt272
    have hin272 : ¬ ((19 : Int32) < 0 ∨ cl272.slots.size ≤ ((19 : Int32)).toNatClampNeg) := inb_of S272 ⟨by decide, by decide⟩
    have hat272 : cl272.slots[((19 : Int32)).toNatClampNeg]? = some (.ref w_SERVICE) := Ha272.at hin272 rfl
    obtain ⟨T273, X273, e273, st273⟩ := getS2 X67 hx hZ hown (host := "") (Or.inl (hw _ (List.mem_of_getElem? (i := 38) rfl))) Via.refl e67 (S_STRUCTURE.ext O67.2) (g := (mkF m 167 #[.val (.int p0), .val (.ref b1), .val (.int (19 : Int32)), .val (.ref w_SERVICE), .unset] [(.ref w_SERVICE)])) rfl (hb hby at_167)
    obtain ⟨T274, X274, e274, st274⟩ := getS2 X273 hx hZ hown (host := "") (Or.inl (hw _ (List.mem_of_getElem? (i := 40) rfl))) Via.refl e273 (S_UNION.ext O67.2) (g := (mkF m 174 #[.val (.int p0), .val (.ref b1), .val (.int (19 : Int32)), .val (.ref w_SERVICE), .unset] [(.ref w_SERVICE)])) rfl (hb hby at_174)
    obtain ⟨T275, X275, e275, st275⟩ := getS2 X274 hx hZ hown (host := "") (Or.inl (hw _ (List.mem_of_getElem? (i := 30) rfl))) Via.refl e274 (S_ENUM.ext O67.2) (g := (mkF m 181 #[.val (.int p0), .val (.ref b1), .val (.int (19 : Int32)), .val (.ref w_SERVICE), .unset] [(.ref w_SERVICE)])) rfl (hb hby at_181)
    obtain ⟨T276, X276, e276, st276⟩ := getS2 X275 hx hZ hown (host := "") (Or.inl (hw _ (List.mem_of_getElem? (i := 32) rfl))) Via.refl e275 (S_INT_ENUM.ext O67.2) (g := (mkF m 188 #[.val (.int p0), .val (.ref b1), .val (.int (19 : Int32)), .val (.ref w_SERVICE), .unset] [(.ref w_SERVICE)])) rfl (hb hby at_188)
    obtain ⟨lc277, X277, N277⟩ := own_pack X276 N67
    obtain ⟨cq278, kq278, q278a, q278b, q278c⟩ := isOf hZ e276 (E_SERVICE.ext O67.2)
    obtain ⟨_, _, ⟨T278, L278, k278, n278⟩, -, X278, ⟨Lc278, hQ278, l278, y278, z278⟩, st278⟩ := X277.virtualBack hx (y := (⟨"com/example/shapewright/shapewright/model/ShapeType", "namesItsMembers", "()Z"⟩ : MethodName)) (z := (⟨"com/example/shapewright/shapewright/model/ShapeType", "namesItsMembers", "()Z"⟩ : MethodName)) hown (mvT hZ (hw _ (List.mem_of_getElem? (i := 49) rfl))) (mvT hZ (hw _ (List.mem_of_getElem? (i := 50) rfl))) (notFace_of_selects (args := #[]) (mvT hZ (hw _ (List.mem_of_getElem? (i := 52) rfl)))) (mvT hZ (hw _ (List.mem_of_getElem? (i := 52) rfl))) (mvT hZ (hw _ (List.mem_of_getElem? (i := 51) rfl))) (by decide) (backOf (W := 0) (rm_namesItsMembers_20 l Z a0 hw [] r_fixedMembers_BLOB w_SERVICE h67 n0 O67  F_fixedMembers_SERVICE) hZ (hw _ (List.mem_of_getElem? (i := 53) rfl)) (hw _ (List.mem_of_getElem? (i := 3) rfl)) (by decide) (by decide)) q278a q278c (g := (mkF m 202 #[.val (.int p0), .val (.ref b1), .val (.int (19 : Int32)), .val (.ref w_SERVICE), .val (.int (0 : Int32))] [(.ref w_SERVICE)])) rfl (by rw [hml]; rfl) (Steps.refl _) (argsL := []) (rest := []) (lenOf pd___Z rfl) rfl (by show 2 * 0 + _ ≤ _; exact Nat.le_of_eq rfl) (hb hby at_202) (fun _ _ => ⟨rfl, e276, (by decide : 1 + 0 ≤ _), (by decide : 22 + 0 ≤ _)⟩)
    dsimp only [Pt.U, Pt.locs, Pt.cells, Pt.slots] at X278 l278 y278 z278 st278 hQ278
    subst l278 y278 z278
    obtain ⟨rfl, N278q, e278⟩ := hQ278
    have N278 := Fr.app N277 N278q
    have pre282 : ∀ t, Steps p.tables e below (T278.setTop (mkF m 215 #[.val (.int p0), .val (.ref b1), .val (.int (19 : Int32)), .val (.ref w_SERVICE), .val (.int (0 : Int32))] [(.int (1 : Int32))])) t → Steps p.tables e below (s₁.setTop (entryFrame m #[(.int p0)] maxLocals)) t := by
      intro t kt
      refine pre68 t ?_
      show Steps p.tables e below (T67.setTop (mkF m 162 #[.val (.int p0), .val (.ref b1), .val (.int (19 : Int32)), .unset, .unset] [])) _
      refine XS.aloadN X67.here hx rfl (hb hby at_162) rfl rfl ?_
      show Steps p.tables e below (T67.setTop (mkF m 163 #[.val (.int p0), .val (.ref b1), .val (.int (19 : Int32)), .unset, .unset] [(.ref b1)])) _
      refine XS.iloadN X67.here hx rfl (hb hby at_163) rfl ?_
      show Steps p.tables e below (T67.setTop (mkF m 164 #[.val (.int p0), .val (.ref b1), .val (.int (19 : Int32)), .unset, .unset] [(.int (19 : Int32)), (.ref b1)])) _
      refine X67.aaload hx (j := (19 : Int32)) (v := (.ref w_SERVICE)) (by rw [e67]; exact Ar272.1) (State.isArrayOf_alike hZ.alike Ar272.2.1) rfl Ar272.2.2 hin272 hat272 (g := (mkF m 164 #[.val (.int p0), .val (.ref b1), .val (.int (19 : Int32)), .unset, .unset] [(.int (19 : Int32)), (.ref b1)])) rfl rfl (hb hby at_164) _ ?_
      show Steps p.tables e below (T67.setTop (mkF m 165 #[.val (.int p0), .val (.ref b1), .val (.int (19 : Int32)), .unset, .unset] [(.ref w_SERVICE)])) _
      refine XS.astoreN X67.here hx rfl (hb hby at_165) rfl rfl (l' := #[.val (.int p0), .val (.ref b1), .val (.int (19 : Int32)), .val (.ref w_SERVICE), .unset]) rfl ?_
      show Steps p.tables e below (T67.setTop (mkF m 166 #[.val (.int p0), .val (.ref b1), .val (.int (19 : Int32)), .val (.ref w_SERVICE), .unset] [])) _
      refine XS.aloadN X67.here hx rfl (hb hby at_166) rfl rfl ?_
      show Steps p.tables e below (T67.setTop (mkF m 167 #[.val (.int p0), .val (.ref b1), .val (.int (19 : Int32)), .val (.ref w_SERVICE), .unset] [(.ref w_SERVICE)])) _
      refine st273 _ ?_
      show Steps p.tables e below (T273.setTop (mkF m 170 #[.val (.int p0), .val (.ref b1), .val (.int (19 : Int32)), .val (.ref w_SERVICE), .unset] [(.ref w_STRUCTURE), (.ref w_SERVICE)])) _
      refine Jvm.RoadKit.acmp (g := (mkF m 170 #[.val (.int p0), .val (.ref b1), .val (.int (19 : Int32)), .val (.ref w_SERVICE), .unset] [(.ref w_STRUCTURE), (.ref w_SERVICE)])) X273 hx rfl rfl rfl (pc0 := 170) (pc' := 173) (same := false) rfl (hb hby at_170) rfl (decide_eq_false fun q => (Fld.ne F_ordinal_SERVICE F_ordinal_STRUCTURE (fun q => absurd (Value.int.inj q) (by decide))) (Value.ref.inj q)) (by decide) (by decide) ?_
      show Steps p.tables e below (T273.setTop (mkF m 173 #[.val (.int p0), .val (.ref b1), .val (.int (19 : Int32)), .val (.ref w_SERVICE), .unset] [])) _
      refine XS.aloadN X273.here hx rfl (hb hby at_173) rfl rfl ?_
      show Steps p.tables e below (T273.setTop (mkF m 174 #[.val (.int p0), .val (.ref b1), .val (.int (19 : Int32)), .val (.ref w_SERVICE), .unset] [(.ref w_SERVICE)])) _
      refine st274 _ ?_
      show Steps p.tables e below (T274.setTop (mkF m 177 #[.val (.int p0), .val (.ref b1), .val (.int (19 : Int32)), .val (.ref w_SERVICE), .unset] [(.ref w_UNION), (.ref w_SERVICE)])) _
      refine Jvm.RoadKit.acmp (g := (mkF m 177 #[.val (.int p0), .val (.ref b1), .val (.int (19 : Int32)), .val (.ref w_SERVICE), .unset] [(.ref w_UNION), (.ref w_SERVICE)])) X274 hx rfl rfl rfl (pc0 := 177) (pc' := 180) (same := false) rfl (hb hby at_177) rfl (decide_eq_false fun q => (Fld.ne F_ordinal_SERVICE F_ordinal_UNION (fun q => absurd (Value.int.inj q) (by decide))) (Value.ref.inj q)) (by decide) (by decide) ?_
      show Steps p.tables e below (T274.setTop (mkF m 180 #[.val (.int p0), .val (.ref b1), .val (.int (19 : Int32)), .val (.ref w_SERVICE), .unset] [])) _
      refine XS.aloadN X274.here hx rfl (hb hby at_180) rfl rfl ?_
      show Steps p.tables e below (T274.setTop (mkF m 181 #[.val (.int p0), .val (.ref b1), .val (.int (19 : Int32)), .val (.ref w_SERVICE), .unset] [(.ref w_SERVICE)])) _
      refine st275 _ ?_
      show Steps p.tables e below (T275.setTop (mkF m 184 #[.val (.int p0), .val (.ref b1), .val (.int (19 : Int32)), .val (.ref w_SERVICE), .unset] [(.ref w_ENUM), (.ref w_SERVICE)])) _
      refine Jvm.RoadKit.acmp (g := (mkF m 184 #[.val (.int p0), .val (.ref b1), .val (.int (19 : Int32)), .val (.ref w_SERVICE), .unset] [(.ref w_ENUM), (.ref w_SERVICE)])) X275 hx rfl rfl rfl (pc0 := 184) (pc' := 187) (same := false) rfl (hb hby at_184) rfl (decide_eq_false fun q => (Fld.ne F_ordinal_SERVICE F_ordinal_ENUM (fun q => absurd (Value.int.inj q) (by decide))) (Value.ref.inj q)) (by decide) (by decide) ?_
      show Steps p.tables e below (T275.setTop (mkF m 187 #[.val (.int p0), .val (.ref b1), .val (.int (19 : Int32)), .val (.ref w_SERVICE), .unset] [])) _
      refine XS.aloadN X275.here hx rfl (hb hby at_187) rfl rfl ?_
      show Steps p.tables e below (T275.setTop (mkF m 188 #[.val (.int p0), .val (.ref b1), .val (.int (19 : Int32)), .val (.ref w_SERVICE), .unset] [(.ref w_SERVICE)])) _
      refine st276 _ ?_
      show Steps p.tables e below (T276.setTop (mkF m 191 #[.val (.int p0), .val (.ref b1), .val (.int (19 : Int32)), .val (.ref w_SERVICE), .unset] [(.ref w_INT_ENUM), (.ref w_SERVICE)])) _
      refine Jvm.RoadKit.acmp (g := (mkF m 191 #[.val (.int p0), .val (.ref b1), .val (.int (19 : Int32)), .val (.ref w_SERVICE), .unset] [(.ref w_INT_ENUM), (.ref w_SERVICE)])) X276 hx rfl rfl rfl (pc0 := 191) (pc' := 198) (same := false) rfl (hb hby at_191) rfl (decide_eq_false fun q => (Fld.ne F_ordinal_SERVICE F_ordinal_INT_ENUM (fun q => absurd (Value.int.inj q) (by decide))) (Value.ref.inj q)) (by decide) (by decide) ?_
      show Steps p.tables e below (T276.setTop (mkF m 198 #[.val (.int p0), .val (.ref b1), .val (.int (19 : Int32)), .val (.ref w_SERVICE), .unset] [])) _
      refine XS.iconst X276.here hx rfl (hb hby at_198) ?_
      show Steps p.tables e below (T276.setTop (mkF m 199 #[.val (.int p0), .val (.ref b1), .val (.int (19 : Int32)), .val (.ref w_SERVICE), .unset] [(.int (0 : Int32))])) _
      refine XS.istore X276.here hx rfl (hb hby at_199) rfl (l' := #[.val (.int p0), .val (.ref b1), .val (.int (19 : Int32)), .val (.ref w_SERVICE), .val (.int (0 : Int32))]) rfl ?_
      show Steps p.tables e below (T276.setTop (mkF m 201 #[.val (.int p0), .val (.ref b1), .val (.int (19 : Int32)), .val (.ref w_SERVICE), .val (.int (0 : Int32))] [])) _
      refine XS.aloadN X276.here hx rfl (hb hby at_201) rfl rfl ?_
      show Steps p.tables e below (T276.setTop (mkF m 202 #[.val (.int p0), .val (.ref b1), .val (.int (19 : Int32)), .val (.ref w_SERVICE), .val (.int (0 : Int32))] [(.ref w_SERVICE)])) _
      refine st278.trans ?_
      show Steps p.tables e below (T278.setTop (mkF m 205 #[.val (.int p0), .val (.ref b1), .val (.int (19 : Int32)), .val (.ref w_SERVICE), .val (.int (0 : Int32))] [(.int (0 : Int32))])) _
      refine XS.iload X278.here hx rfl (hb hby at_205) rfl ?_
      show Steps p.tables e below (T278.setTop (mkF m 207 #[.val (.int p0), .val (.ref b1), .val (.int (19 : Int32)), .val (.ref w_SERVICE), .val (.int (0 : Int32))] [(.int (0 : Int32)), (.int (0 : Int32))])) _
      refine XS.icmpNo X278.here hx rfl (hb hby at_207) rfl (teq (by decide : (0 : Int32) = (0 : Int32))).2 ?_
      show Steps p.tables e below (T278.setTop (mkF m 210 #[.val (.int p0), .val (.ref b1), .val (.int (19 : Int32)), .val (.ref w_SERVICE), .val (.int (0 : Int32))] [])) _
      refine XS.iconst X278.here hx rfl (hb hby at_210) ?_
      show Steps p.tables e below (T278.setTop (mkF m 211 #[.val (.int p0), .val (.ref b1), .val (.int (19 : Int32)), .val (.ref w_SERVICE), .val (.int (0 : Int32))] [(.int (1 : Int32))])) _
      refine XS.goto X278.here hx rfl (pc0 := 211) (pc' := 215) rfl (hb hby at_211) (by decide) (by decide) ?_
      exact kt
    obtain ⟨fs, hr, hrun, hended, hW, hsame⟩ := X278.leave (v := some (.int (1 : Int32))) (fun h => by rw [Bd.returns] at h; cases h)
    refine ⟨_, _, pre282 _ ?_, hrun, hended, _, _, rfl, ?_, ⟨_, rfl⟩, hW, hsame.mono (by decide) (by decide)⟩
    · show Steps p.tables e below (T278.setTop (mkF m 215 #[.val (.int p0), .val (.ref b1), .val (.int (19 : Int32)), .val (.ref w_SERVICE), .val (.int (0 : Int32))] [(.int (1 : Int32))])) _
      exact retN X278 hx (t := .boolean) Bd.returns (by simp) (hb hby at_215) hr
    · show Q_rm0 Z p0 w_BLOB w_BOOLEAN w_DOCUMENT w_STRING w_BYTE w_SHORT w_INTEGER w_LONG w_FLOAT w_DOUBLE w_BIG_INTEGER w_BIG_DECIMAL w_TIMESTAMP w_ENUM w_INT_ENUM w_LIST w_MAP w_STRUCTURE w_UNION w_SERVICE w_OPERATION w_RESOURCE r_fixedMembers_BLOB r_fixedMembers_LIST r_fixedMembers_MAP h0 n0 _ T278.heap _
      rw [e278]
      exact ⟨rfl, N278⟩
  · rw [hk] at pre68
    have vt283 := V_b1
    obtain ⟨cl283, Ar283, q283, S283, Ng283, Ha283, G283⟩ := vt283
    have hin283 : ¬ ((20 : Int32) < 0 ∨ cl283.slots.size ≤ ((20 : Int32)).toNatClampNeg) := inb_of S283 ⟨by decide, by decide⟩
    have hat283 : cl283.slots[((20 : Int32)).toNatClampNeg]? = some (.ref w_OPERATION) := Ha283.at hin283 rfl
    obtain ⟨T284, X284, e284, st284⟩ := getS2 X67 hx hZ hown (host := "") (Or.inl (hw _ (List.mem_of_getElem? (i := 38) rfl))) Via.refl e67 (S_STRUCTURE.ext O67.2) (g := (mkF m 167 #[.val (.int p0), .val (.ref b1), .val (.int (20 : Int32)), .val (.ref w_OPERATION), .unset] [(.ref w_OPERATION)])) rfl (hb hby at_167)
    obtain ⟨T285, X285, e285, st285⟩ := getS2 X284 hx hZ hown (host := "") (Or.inl (hw _ (List.mem_of_getElem? (i := 40) rfl))) Via.refl e284 (S_UNION.ext O67.2) (g := (mkF m 174 #[.val (.int p0), .val (.ref b1), .val (.int (20 : Int32)), .val (.ref w_OPERATION), .unset] [(.ref w_OPERATION)])) rfl (hb hby at_174)
    obtain ⟨T286, X286, e286, st286⟩ := getS2 X285 hx hZ hown (host := "") (Or.inl (hw _ (List.mem_of_getElem? (i := 30) rfl))) Via.refl e285 (S_ENUM.ext O67.2) (g := (mkF m 181 #[.val (.int p0), .val (.ref b1), .val (.int (20 : Int32)), .val (.ref w_OPERATION), .unset] [(.ref w_OPERATION)])) rfl (hb hby at_181)
    obtain ⟨T287, X287, e287, st287⟩ := getS2 X286 hx hZ hown (host := "") (Or.inl (hw _ (List.mem_of_getElem? (i := 32) rfl))) Via.refl e286 (S_INT_ENUM.ext O67.2) (g := (mkF m 188 #[.val (.int p0), .val (.ref b1), .val (.int (20 : Int32)), .val (.ref w_OPERATION), .unset] [(.ref w_OPERATION)])) rfl (hb hby at_188)
    obtain ⟨lc288, X288, N288⟩ := own_pack X287 N67
    obtain ⟨cq289, kq289, q289a, q289b, q289c⟩ := isOf hZ e287 (E_OPERATION.ext O67.2)
    obtain ⟨_, _, ⟨T289, L289, k289, n289⟩, -, X289, ⟨Lc289, hQ289, l289, y289, z289⟩, st289⟩ := X288.virtualBack hx (y := (⟨"com/example/shapewright/shapewright/model/ShapeType", "namesItsMembers", "()Z"⟩ : MethodName)) (z := (⟨"com/example/shapewright/shapewright/model/ShapeType", "namesItsMembers", "()Z"⟩ : MethodName)) hown (mvT hZ (hw _ (List.mem_of_getElem? (i := 49) rfl))) (mvT hZ (hw _ (List.mem_of_getElem? (i := 50) rfl))) (notFace_of_selects (args := #[]) (mvT hZ (hw _ (List.mem_of_getElem? (i := 52) rfl)))) (mvT hZ (hw _ (List.mem_of_getElem? (i := 52) rfl))) (mvT hZ (hw _ (List.mem_of_getElem? (i := 51) rfl))) (by decide) (backOf (W := 0) (rm_namesItsMembers_21 l Z a0 hw [] r_fixedMembers_BLOB w_OPERATION h67 n0 O67  F_fixedMembers_OPERATION) hZ (hw _ (List.mem_of_getElem? (i := 53) rfl)) (hw _ (List.mem_of_getElem? (i := 3) rfl)) (by decide) (by decide)) q289a q289c (g := (mkF m 202 #[.val (.int p0), .val (.ref b1), .val (.int (20 : Int32)), .val (.ref w_OPERATION), .val (.int (0 : Int32))] [(.ref w_OPERATION)])) rfl (by rw [hml]; rfl) (Steps.refl _) (argsL := []) (rest := []) (lenOf pd___Z rfl) rfl (by show 2 * 0 + _ ≤ _; exact Nat.le_of_eq rfl) (hb hby at_202) (fun _ _ => ⟨rfl, e287, (by decide : 1 + 0 ≤ _), (by decide : 22 + 0 ≤ _)⟩)
    dsimp only [Pt.U, Pt.locs, Pt.cells, Pt.slots] at X289 l289 y289 z289 st289 hQ289
    subst l289 y289 z289
    obtain ⟨rfl, N289q, e289⟩ := hQ289
    have N289 := Fr.app N288 N289q
    have pre293 : ∀ t, Steps p.tables e below (T289.setTop (mkF m 215 #[.val (.int p0), .val (.ref b1), .val (.int (20 : Int32)), .val (.ref w_OPERATION), .val (.int (0 : Int32))] [(.int (1 : Int32))])) t → Steps p.tables e below (s₁.setTop (entryFrame m #[(.int p0)] maxLocals)) t := by
      intro t kt
      refine pre68 t ?_
      show Steps p.tables e below (T67.setTop (mkF m 162 #[.val (.int p0), .val (.ref b1), .val (.int (20 : Int32)), .unset, .unset] [])) _
      refine XS.aloadN X67.here hx rfl (hb hby at_162) rfl rfl ?_
      show Steps p.tables e below (T67.setTop (mkF m 163 #[.val (.int p0), .val (.ref b1), .val (.int (20 : Int32)), .unset, .unset] [(.ref b1)])) _
      refine XS.iloadN X67.here hx rfl (hb hby at_163) rfl ?_
      show Steps p.tables e below (T67.setTop (mkF m 164 #[.val (.int p0), .val (.ref b1), .val (.int (20 : Int32)), .unset, .unset] [(.int (20 : Int32)), (.ref b1)])) _
      refine X67.aaload hx (j := (20 : Int32)) (v := (.ref w_OPERATION)) (by rw [e67]; exact Ar283.1) (State.isArrayOf_alike hZ.alike Ar283.2.1) rfl Ar283.2.2 hin283 hat283 (g := (mkF m 164 #[.val (.int p0), .val (.ref b1), .val (.int (20 : Int32)), .unset, .unset] [(.int (20 : Int32)), (.ref b1)])) rfl rfl (hb hby at_164) _ ?_
      show Steps p.tables e below (T67.setTop (mkF m 165 #[.val (.int p0), .val (.ref b1), .val (.int (20 : Int32)), .unset, .unset] [(.ref w_OPERATION)])) _
      refine XS.astoreN X67.here hx rfl (hb hby at_165) rfl rfl (l' := #[.val (.int p0), .val (.ref b1), .val (.int (20 : Int32)), .val (.ref w_OPERATION), .unset]) rfl ?_
      show Steps p.tables e below (T67.setTop (mkF m 166 #[.val (.int p0), .val (.ref b1), .val (.int (20 : Int32)), .val (.ref w_OPERATION), .unset] [])) _
      refine XS.aloadN X67.here hx rfl (hb hby at_166) rfl rfl ?_
      show Steps p.tables e below (T67.setTop (mkF m 167 #[.val (.int p0), .val (.ref b1), .val (.int (20 : Int32)), .val (.ref w_OPERATION), .unset] [(.ref w_OPERATION)])) _
      refine st284 _ ?_
      show Steps p.tables e below (T284.setTop (mkF m 170 #[.val (.int p0), .val (.ref b1), .val (.int (20 : Int32)), .val (.ref w_OPERATION), .unset] [(.ref w_STRUCTURE), (.ref w_OPERATION)])) _
      refine Jvm.RoadKit.acmp (g := (mkF m 170 #[.val (.int p0), .val (.ref b1), .val (.int (20 : Int32)), .val (.ref w_OPERATION), .unset] [(.ref w_STRUCTURE), (.ref w_OPERATION)])) X284 hx rfl rfl rfl (pc0 := 170) (pc' := 173) (same := false) rfl (hb hby at_170) rfl (decide_eq_false fun q => (Fld.ne F_ordinal_OPERATION F_ordinal_STRUCTURE (fun q => absurd (Value.int.inj q) (by decide))) (Value.ref.inj q)) (by decide) (by decide) ?_
      show Steps p.tables e below (T284.setTop (mkF m 173 #[.val (.int p0), .val (.ref b1), .val (.int (20 : Int32)), .val (.ref w_OPERATION), .unset] [])) _
      refine XS.aloadN X284.here hx rfl (hb hby at_173) rfl rfl ?_
      show Steps p.tables e below (T284.setTop (mkF m 174 #[.val (.int p0), .val (.ref b1), .val (.int (20 : Int32)), .val (.ref w_OPERATION), .unset] [(.ref w_OPERATION)])) _
      refine st285 _ ?_
      show Steps p.tables e below (T285.setTop (mkF m 177 #[.val (.int p0), .val (.ref b1), .val (.int (20 : Int32)), .val (.ref w_OPERATION), .unset] [(.ref w_UNION), (.ref w_OPERATION)])) _
      refine Jvm.RoadKit.acmp (g := (mkF m 177 #[.val (.int p0), .val (.ref b1), .val (.int (20 : Int32)), .val (.ref w_OPERATION), .unset] [(.ref w_UNION), (.ref w_OPERATION)])) X285 hx rfl rfl rfl (pc0 := 177) (pc' := 180) (same := false) rfl (hb hby at_177) rfl (decide_eq_false fun q => (Fld.ne F_ordinal_OPERATION F_ordinal_UNION (fun q => absurd (Value.int.inj q) (by decide))) (Value.ref.inj q)) (by decide) (by decide) ?_
      show Steps p.tables e below (T285.setTop (mkF m 180 #[.val (.int p0), .val (.ref b1), .val (.int (20 : Int32)), .val (.ref w_OPERATION), .unset] [])) _
      refine XS.aloadN X285.here hx rfl (hb hby at_180) rfl rfl ?_
      show Steps p.tables e below (T285.setTop (mkF m 181 #[.val (.int p0), .val (.ref b1), .val (.int (20 : Int32)), .val (.ref w_OPERATION), .unset] [(.ref w_OPERATION)])) _
      refine st286 _ ?_
      show Steps p.tables e below (T286.setTop (mkF m 184 #[.val (.int p0), .val (.ref b1), .val (.int (20 : Int32)), .val (.ref w_OPERATION), .unset] [(.ref w_ENUM), (.ref w_OPERATION)])) _
      refine Jvm.RoadKit.acmp (g := (mkF m 184 #[.val (.int p0), .val (.ref b1), .val (.int (20 : Int32)), .val (.ref w_OPERATION), .unset] [(.ref w_ENUM), (.ref w_OPERATION)])) X286 hx rfl rfl rfl (pc0 := 184) (pc' := 187) (same := false) rfl (hb hby at_184) rfl (decide_eq_false fun q => (Fld.ne F_ordinal_OPERATION F_ordinal_ENUM (fun q => absurd (Value.int.inj q) (by decide))) (Value.ref.inj q)) (by decide) (by decide) ?_
      show Steps p.tables e below (T286.setTop (mkF m 187 #[.val (.int p0), .val (.ref b1), .val (.int (20 : Int32)), .val (.ref w_OPERATION), .unset] [])) _
      refine XS.aloadN X286.here hx rfl (hb hby at_187) rfl rfl ?_
      show Steps p.tables e below (T286.setTop (mkF m 188 #[.val (.int p0), .val (.ref b1), .val (.int (20 : Int32)), .val (.ref w_OPERATION), .unset] [(.ref w_OPERATION)])) _
      refine st287 _ ?_
      show Steps p.tables e below (T287.setTop (mkF m 191 #[.val (.int p0), .val (.ref b1), .val (.int (20 : Int32)), .val (.ref w_OPERATION), .unset] [(.ref w_INT_ENUM), (.ref w_OPERATION)])) _
      refine Jvm.RoadKit.acmp (g := (mkF m 191 #[.val (.int p0), .val (.ref b1), .val (.int (20 : Int32)), .val (.ref w_OPERATION), .unset] [(.ref w_INT_ENUM), (.ref w_OPERATION)])) X287 hx rfl rfl rfl (pc0 := 191) (pc' := 198) (same := false) rfl (hb hby at_191) rfl (decide_eq_false fun q => (Fld.ne F_ordinal_OPERATION F_ordinal_INT_ENUM (fun q => absurd (Value.int.inj q) (by decide))) (Value.ref.inj q)) (by decide) (by decide) ?_
      show Steps p.tables e below (T287.setTop (mkF m 198 #[.val (.int p0), .val (.ref b1), .val (.int (20 : Int32)), .val (.ref w_OPERATION), .unset] [])) _
      refine XS.iconst X287.here hx rfl (hb hby at_198) ?_
      show Steps p.tables e below (T287.setTop (mkF m 199 #[.val (.int p0), .val (.ref b1), .val (.int (20 : Int32)), .val (.ref w_OPERATION), .unset] [(.int (0 : Int32))])) _
      refine XS.istore X287.here hx rfl (hb hby at_199) rfl (l' := #[.val (.int p0), .val (.ref b1), .val (.int (20 : Int32)), .val (.ref w_OPERATION), .val (.int (0 : Int32))]) rfl ?_
      show Steps p.tables e below (T287.setTop (mkF m 201 #[.val (.int p0), .val (.ref b1), .val (.int (20 : Int32)), .val (.ref w_OPERATION), .val (.int (0 : Int32))] [])) _
      refine XS.aloadN X287.here hx rfl (hb hby at_201) rfl rfl ?_
      show Steps p.tables e below (T287.setTop (mkF m 202 #[.val (.int p0), .val (.ref b1), .val (.int (20 : Int32)), .val (.ref w_OPERATION), .val (.int (0 : Int32))] [(.ref w_OPERATION)])) _
      refine st289.trans ?_
      show Steps p.tables e below (T289.setTop (mkF m 205 #[.val (.int p0), .val (.ref b1), .val (.int (20 : Int32)), .val (.ref w_OPERATION), .val (.int (0 : Int32))] [(.int (0 : Int32))])) _
      refine XS.iload X289.here hx rfl (hb hby at_205) rfl ?_
      show Steps p.tables e below (T289.setTop (mkF m 207 #[.val (.int p0), .val (.ref b1), .val (.int (20 : Int32)), .val (.ref w_OPERATION), .val (.int (0 : Int32))] [(.int (0 : Int32)), (.int (0 : Int32))])) _
      refine XS.icmpNo X289.here hx rfl (hb hby at_207) rfl (teq (by decide : (0 : Int32) = (0 : Int32))).2 ?_
      show Steps p.tables e below (T289.setTop (mkF m 210 #[.val (.int p0), .val (.ref b1), .val (.int (20 : Int32)), .val (.ref w_OPERATION), .val (.int (0 : Int32))] [])) _
      refine XS.iconst X289.here hx rfl (hb hby at_210) ?_
      show Steps p.tables e below (T289.setTop (mkF m 211 #[.val (.int p0), .val (.ref b1), .val (.int (20 : Int32)), .val (.ref w_OPERATION), .val (.int (0 : Int32))] [(.int (1 : Int32))])) _
      refine XS.goto X289.here hx rfl (pc0 := 211) (pc' := 215) rfl (hb hby at_211) (by decide) (by decide) ?_
      exact kt
    obtain ⟨fs, hr, hrun, hended, hW, hsame⟩ := X289.leave (v := some (.int (1 : Int32))) (fun h => by rw [Bd.returns] at h; cases h)
    refine ⟨_, _, pre293 _ ?_, hrun, hended, _, _, rfl, ?_, ⟨_, rfl⟩, hW, hsame.mono (by decide) (by decide)⟩
    · show Steps p.tables e below (T289.setTop (mkF m 215 #[.val (.int p0), .val (.ref b1), .val (.int (20 : Int32)), .val (.ref w_OPERATION), .val (.int (0 : Int32))] [(.int (1 : Int32))])) _
      exact retN X289 hx (t := .boolean) Bd.returns (by simp) (hb hby at_215) hr
    · show Q_rm0 Z p0 w_BLOB w_BOOLEAN w_DOCUMENT w_STRING w_BYTE w_SHORT w_INTEGER w_LONG w_FLOAT w_DOUBLE w_BIG_INTEGER w_BIG_DECIMAL w_TIMESTAMP w_ENUM w_INT_ENUM w_LIST w_MAP w_STRUCTURE w_UNION w_SERVICE w_OPERATION w_RESOURCE r_fixedMembers_BLOB r_fixedMembers_LIST r_fixedMembers_MAP h0 n0 _ T289.heap _
      rw [e289]
      exact ⟨rfl, N289⟩
  · rw [hk] at pre68
    have vt294 := V_b1
    obtain ⟨cl294, Ar294, q294, S294, Ng294, Ha294, G294⟩ := vt294
    have hin294 : ¬ ((21 : Int32) < 0 ∨ cl294.slots.size ≤ ((21 : Int32)).toNatClampNeg) := inb_of S294 ⟨by decide, by decide⟩
    have hat294 : cl294.slots[((21 : Int32)).toNatClampNeg]? = some (.ref w_RESOURCE) := Ha294.at hin294 rfl
    obtain ⟨T295, X295, e295, st295⟩ := getS2 X67 hx hZ hown (host := "") (Or.inl (hw _ (List.mem_of_getElem? (i := 38) rfl))) Via.refl e67 (S_STRUCTURE.ext O67.2) (g := (mkF m 167 #[.val (.int p0), .val (.ref b1), .val (.int (21 : Int32)), .val (.ref w_RESOURCE), .unset] [(.ref w_RESOURCE)])) rfl (hb hby at_167)
    obtain ⟨T296, X296, e296, st296⟩ := getS2 X295 hx hZ hown (host := "") (Or.inl (hw _ (List.mem_of_getElem? (i := 40) rfl))) Via.refl e295 (S_UNION.ext O67.2) (g := (mkF m 174 #[.val (.int p0), .val (.ref b1), .val (.int (21 : Int32)), .val (.ref w_RESOURCE), .unset] [(.ref w_RESOURCE)])) rfl (hb hby at_174)
    obtain ⟨T297, X297, e297, st297⟩ := getS2 X296 hx hZ hown (host := "") (Or.inl (hw _ (List.mem_of_getElem? (i := 30) rfl))) Via.refl e296 (S_ENUM.ext O67.2) (g := (mkF m 181 #[.val (.int p0), .val (.ref b1), .val (.int (21 : Int32)), .val (.ref w_RESOURCE), .unset] [(.ref w_RESOURCE)])) rfl (hb hby at_181)
    obtain ⟨T298, X298, e298, st298⟩ := getS2 X297 hx hZ hown (host := "") (Or.inl (hw _ (List.mem_of_getElem? (i := 32) rfl))) Via.refl e297 (S_INT_ENUM.ext O67.2) (g := (mkF m 188 #[.val (.int p0), .val (.ref b1), .val (.int (21 : Int32)), .val (.ref w_RESOURCE), .unset] [(.ref w_RESOURCE)])) rfl (hb hby at_188)
    obtain ⟨lc299, X299, N299⟩ := own_pack X298 N67
    obtain ⟨cq300, kq300, q300a, q300b, q300c⟩ := isOf hZ e298 (E_RESOURCE.ext O67.2)
    obtain ⟨_, _, ⟨T300, L300, k300, n300⟩, -, X300, ⟨Lc300, hQ300, l300, y300, z300⟩, st300⟩ := X299.virtualBack hx (y := (⟨"com/example/shapewright/shapewright/model/ShapeType", "namesItsMembers", "()Z"⟩ : MethodName)) (z := (⟨"com/example/shapewright/shapewright/model/ShapeType", "namesItsMembers", "()Z"⟩ : MethodName)) hown (mvT hZ (hw _ (List.mem_of_getElem? (i := 49) rfl))) (mvT hZ (hw _ (List.mem_of_getElem? (i := 50) rfl))) (notFace_of_selects (args := #[]) (mvT hZ (hw _ (List.mem_of_getElem? (i := 52) rfl)))) (mvT hZ (hw _ (List.mem_of_getElem? (i := 52) rfl))) (mvT hZ (hw _ (List.mem_of_getElem? (i := 51) rfl))) (by decide) (backOf (W := 0) (rm_namesItsMembers_22 l Z a0 hw [] r_fixedMembers_BLOB w_RESOURCE h67 n0 O67  F_fixedMembers_RESOURCE) hZ (hw _ (List.mem_of_getElem? (i := 53) rfl)) (hw _ (List.mem_of_getElem? (i := 3) rfl)) (by decide) (by decide)) q300a q300c (g := (mkF m 202 #[.val (.int p0), .val (.ref b1), .val (.int (21 : Int32)), .val (.ref w_RESOURCE), .val (.int (0 : Int32))] [(.ref w_RESOURCE)])) rfl (by rw [hml]; rfl) (Steps.refl _) (argsL := []) (rest := []) (lenOf pd___Z rfl) rfl (by show 2 * 0 + _ ≤ _; exact Nat.le_of_eq rfl) (hb hby at_202) (fun _ _ => ⟨rfl, e298, (by decide : 1 + 0 ≤ _), (by decide : 22 + 0 ≤ _)⟩)
    dsimp only [Pt.U, Pt.locs, Pt.cells, Pt.slots] at X300 l300 y300 z300 st300 hQ300
    subst l300 y300 z300
    obtain ⟨rfl, N300q, e300⟩ := hQ300
    have N300 := Fr.app N299 N300q
    have pre304 : ∀ t, Steps p.tables e below (T300.setTop (mkF m 215 #[.val (.int p0), .val (.ref b1), .val (.int (21 : Int32)), .val (.ref w_RESOURCE), .val (.int (0 : Int32))] [(.int (1 : Int32))])) t → Steps p.tables e below (s₁.setTop (entryFrame m #[(.int p0)] maxLocals)) t := by
      intro t kt
      refine pre68 t ?_
      show Steps p.tables e below (T67.setTop (mkF m 162 #[.val (.int p0), .val (.ref b1), .val (.int (21 : Int32)), .unset, .unset] [])) _
      refine XS.aloadN X67.here hx rfl (hb hby at_162) rfl rfl ?_
      show Steps p.tables e below (T67.setTop (mkF m 163 #[.val (.int p0), .val (.ref b1), .val (.int (21 : Int32)), .unset, .unset] [(.ref b1)])) _
      refine XS.iloadN X67.here hx rfl (hb hby at_163) rfl ?_
      show Steps p.tables e below (T67.setTop (mkF m 164 #[.val (.int p0), .val (.ref b1), .val (.int (21 : Int32)), .unset, .unset] [(.int (21 : Int32)), (.ref b1)])) _
      refine X67.aaload hx (j := (21 : Int32)) (v := (.ref w_RESOURCE)) (by rw [e67]; exact Ar294.1) (State.isArrayOf_alike hZ.alike Ar294.2.1) rfl Ar294.2.2 hin294 hat294 (g := (mkF m 164 #[.val (.int p0), .val (.ref b1), .val (.int (21 : Int32)), .unset, .unset] [(.int (21 : Int32)), (.ref b1)])) rfl rfl (hb hby at_164) _ ?_
      show Steps p.tables e below (T67.setTop (mkF m 165 #[.val (.int p0), .val (.ref b1), .val (.int (21 : Int32)), .unset, .unset] [(.ref w_RESOURCE)])) _
      refine XS.astoreN X67.here hx rfl (hb hby at_165) rfl rfl (l' := #[.val (.int p0), .val (.ref b1), .val (.int (21 : Int32)), .val (.ref w_RESOURCE), .unset]) rfl ?_
      show Steps p.tables e below (T67.setTop (mkF m 166 #[.val (.int p0), .val (.ref b1), .val (.int (21 : Int32)), .val (.ref w_RESOURCE), .unset] [])) _
      refine XS.aloadN X67.here hx rfl (hb hby at_166) rfl rfl ?_
      show Steps p.tables e below (T67.setTop (mkF m 167 #[.val (.int p0), .val (.ref b1), .val (.int (21 : Int32)), .val (.ref w_RESOURCE), .unset] [(.ref w_RESOURCE)])) _
      refine st295 _ ?_
      show Steps p.tables e below (T295.setTop (mkF m 170 #[.val (.int p0), .val (.ref b1), .val (.int (21 : Int32)), .val (.ref w_RESOURCE), .unset] [(.ref w_STRUCTURE), (.ref w_RESOURCE)])) _
      refine Jvm.RoadKit.acmp (g := (mkF m 170 #[.val (.int p0), .val (.ref b1), .val (.int (21 : Int32)), .val (.ref w_RESOURCE), .unset] [(.ref w_STRUCTURE), (.ref w_RESOURCE)])) X295 hx rfl rfl rfl (pc0 := 170) (pc' := 173) (same := false) rfl (hb hby at_170) rfl (decide_eq_false fun q => (Fld.ne F_ordinal_RESOURCE F_ordinal_STRUCTURE (fun q => absurd (Value.int.inj q) (by decide))) (Value.ref.inj q)) (by decide) (by decide) ?_
      show Steps p.tables e below (T295.setTop (mkF m 173 #[.val (.int p0), .val (.ref b1), .val (.int (21 : Int32)), .val (.ref w_RESOURCE), .unset] [])) _
      refine XS.aloadN X295.here hx rfl (hb hby at_173) rfl rfl ?_
      show Steps p.tables e below (T295.setTop (mkF m 174 #[.val (.int p0), .val (.ref b1), .val (.int (21 : Int32)), .val (.ref w_RESOURCE), .unset] [(.ref w_RESOURCE)])) _
      refine st296 _ ?_
      show Steps p.tables e below (T296.setTop (mkF m 177 #[.val (.int p0), .val (.ref b1), .val (.int (21 : Int32)), .val (.ref w_RESOURCE), .unset] [(.ref w_UNION), (.ref w_RESOURCE)])) _
      refine Jvm.RoadKit.acmp (g := (mkF m 177 #[.val (.int p0), .val (.ref b1), .val (.int (21 : Int32)), .val (.ref w_RESOURCE), .unset] [(.ref w_UNION), (.ref w_RESOURCE)])) X296 hx rfl rfl rfl (pc0 := 177) (pc' := 180) (same := false) rfl (hb hby at_177) rfl (decide_eq_false fun q => (Fld.ne F_ordinal_RESOURCE F_ordinal_UNION (fun q => absurd (Value.int.inj q) (by decide))) (Value.ref.inj q)) (by decide) (by decide) ?_
      show Steps p.tables e below (T296.setTop (mkF m 180 #[.val (.int p0), .val (.ref b1), .val (.int (21 : Int32)), .val (.ref w_RESOURCE), .unset] [])) _
      refine XS.aloadN X296.here hx rfl (hb hby at_180) rfl rfl ?_
      show Steps p.tables e below (T296.setTop (mkF m 181 #[.val (.int p0), .val (.ref b1), .val (.int (21 : Int32)), .val (.ref w_RESOURCE), .unset] [(.ref w_RESOURCE)])) _
      refine st297 _ ?_
      show Steps p.tables e below (T297.setTop (mkF m 184 #[.val (.int p0), .val (.ref b1), .val (.int (21 : Int32)), .val (.ref w_RESOURCE), .unset] [(.ref w_ENUM), (.ref w_RESOURCE)])) _
      refine Jvm.RoadKit.acmp (g := (mkF m 184 #[.val (.int p0), .val (.ref b1), .val (.int (21 : Int32)), .val (.ref w_RESOURCE), .unset] [(.ref w_ENUM), (.ref w_RESOURCE)])) X297 hx rfl rfl rfl (pc0 := 184) (pc' := 187) (same := false) rfl (hb hby at_184) rfl (decide_eq_false fun q => (Fld.ne F_ordinal_RESOURCE F_ordinal_ENUM (fun q => absurd (Value.int.inj q) (by decide))) (Value.ref.inj q)) (by decide) (by decide) ?_
      show Steps p.tables e below (T297.setTop (mkF m 187 #[.val (.int p0), .val (.ref b1), .val (.int (21 : Int32)), .val (.ref w_RESOURCE), .unset] [])) _
      refine XS.aloadN X297.here hx rfl (hb hby at_187) rfl rfl ?_
      show Steps p.tables e below (T297.setTop (mkF m 188 #[.val (.int p0), .val (.ref b1), .val (.int (21 : Int32)), .val (.ref w_RESOURCE), .unset] [(.ref w_RESOURCE)])) _
      refine st298 _ ?_
      show Steps p.tables e below (T298.setTop (mkF m 191 #[.val (.int p0), .val (.ref b1), .val (.int (21 : Int32)), .val (.ref w_RESOURCE), .unset] [(.ref w_INT_ENUM), (.ref w_RESOURCE)])) _
      refine Jvm.RoadKit.acmp (g := (mkF m 191 #[.val (.int p0), .val (.ref b1), .val (.int (21 : Int32)), .val (.ref w_RESOURCE), .unset] [(.ref w_INT_ENUM), (.ref w_RESOURCE)])) X298 hx rfl rfl rfl (pc0 := 191) (pc' := 198) (same := false) rfl (hb hby at_191) rfl (decide_eq_false fun q => (Fld.ne F_ordinal_RESOURCE F_ordinal_INT_ENUM (fun q => absurd (Value.int.inj q) (by decide))) (Value.ref.inj q)) (by decide) (by decide) ?_
      show Steps p.tables e below (T298.setTop (mkF m 198 #[.val (.int p0), .val (.ref b1), .val (.int (21 : Int32)), .val (.ref w_RESOURCE), .unset] [])) _
      refine XS.iconst X298.here hx rfl (hb hby at_198) ?_
      show Steps p.tables e below (T298.setTop (mkF m 199 #[.val (.int p0), .val (.ref b1), .val (.int (21 : Int32)), .val (.ref w_RESOURCE), .unset] [(.int (0 : Int32))])) _
      refine XS.istore X298.here hx rfl (hb hby at_199) rfl (l' := #[.val (.int p0), .val (.ref b1), .val (.int (21 : Int32)), .val (.ref w_RESOURCE), .val (.int (0 : Int32))]) rfl ?_
      show Steps p.tables e below (T298.setTop (mkF m 201 #[.val (.int p0), .val (.ref b1), .val (.int (21 : Int32)), .val (.ref w_RESOURCE), .val (.int (0 : Int32))] [])) _
      refine XS.aloadN X298.here hx rfl (hb hby at_201) rfl rfl ?_
      show Steps p.tables e below (T298.setTop (mkF m 202 #[.val (.int p0), .val (.ref b1), .val (.int (21 : Int32)), .val (.ref w_RESOURCE), .val (.int (0 : Int32))] [(.ref w_RESOURCE)])) _
      refine st300.trans ?_
      show Steps p.tables e below (T300.setTop (mkF m 205 #[.val (.int p0), .val (.ref b1), .val (.int (21 : Int32)), .val (.ref w_RESOURCE), .val (.int (0 : Int32))] [(.int (0 : Int32))])) _
      refine XS.iload X300.here hx rfl (hb hby at_205) rfl ?_
      show Steps p.tables e below (T300.setTop (mkF m 207 #[.val (.int p0), .val (.ref b1), .val (.int (21 : Int32)), .val (.ref w_RESOURCE), .val (.int (0 : Int32))] [(.int (0 : Int32)), (.int (0 : Int32))])) _
      refine XS.icmpNo X300.here hx rfl (hb hby at_207) rfl (teq (by decide : (0 : Int32) = (0 : Int32))).2 ?_
      show Steps p.tables e below (T300.setTop (mkF m 210 #[.val (.int p0), .val (.ref b1), .val (.int (21 : Int32)), .val (.ref w_RESOURCE), .val (.int (0 : Int32))] [])) _
      refine XS.iconst X300.here hx rfl (hb hby at_210) ?_
      show Steps p.tables e below (T300.setTop (mkF m 211 #[.val (.int p0), .val (.ref b1), .val (.int (21 : Int32)), .val (.ref w_RESOURCE), .val (.int (0 : Int32))] [(.int (1 : Int32))])) _
      refine XS.goto X300.here hx rfl (pc0 := 211) (pc' := 215) rfl (hb hby at_211) (by decide) (by decide) ?_
      exact kt
    obtain ⟨fs, hr, hrun, hended, hW, hsame⟩ := X300.leave (v := some (.int (1 : Int32))) (fun h => by rw [Bd.returns] at h; cases h)
    refine ⟨_, _, pre304 _ ?_, hrun, hended, _, _, rfl, ?_, ⟨_, rfl⟩, hW, hsame.mono (by decide) (by decide)⟩
    · show Steps p.tables e below (T300.setTop (mkF m 215 #[.val (.int p0), .val (.ref b1), .val (.int (21 : Int32)), .val (.ref w_RESOURCE), .val (.int (0 : Int32))] [(.int (1 : Int32))])) _
      exact retN X300 hx (t := .boolean) Bd.returns (by simp) (hb hby at_215) hr
    · show Q_rm0 Z p0 w_BLOB w_BOOLEAN w_DOCUMENT w_STRING w_BYTE w_SHORT w_INTEGER w_LONG w_FLOAT w_DOUBLE w_BIG_INTEGER w_BIG_DECIMAL w_TIMESTAMP w_ENUM w_INT_ENUM w_LIST w_MAP w_STRUCTURE w_UNION w_SERVICE w_OPERATION w_RESOURCE r_fixedMembers_BLOB r_fixedMembers_LIST r_fixedMembers_MAP h0 n0 _ T300.heap _
      rw [e300]
      exact ⟨rfl, N300⟩
set_option maxRecDepth 65536 in
set_option maxHeartbeats 40000000 in
theorem comes_1 {Post : Tables → Env → Array Value → State → Outcome → State → Prop} (hpost : ∀ tb e args s v u, (limb_1_1.after args s (.returned v) u = true ∧ limb_1_2.after args s (.returned v) u = true ∧ True) → FrameEnd s (.returned v) u (Jvm.fieldLocs frame_1_writes args s ++ Jvm.arrayLocs frame_1_arrays args s ++ Jvm.staticLocs frame_1_statics s) 16 128 → Post tb e args s (.returned v) u) :
    ArmFor flags0 classFile x code maxLocals ret World_1 tables_1 room_1 Calls_1 rest_1 Pre_1 Post := by
  intro l hfl _ _ p e ha hc hk s m args below hf hA hF happ hP
  obtain ⟨hcalls, hrest, hpre⟩ := hP
  obtain ⟨-, -, -, hnamed, -, -, -, hat⟩ := (Spec.applies_iff hf).mp happ
  obtain ⟨hg, hn⟩ := and_e (Cond.before_iff.mp (show (Jvm.Cond.and given_1 narrow_1).before args s = true from hpre))
  have hw := fun d (hd : d ∈ tables_1) => atoms_spec (ws := Jvm.Cond.code x code maxLocals ret :: tables_1) hat d (List.mem_cons_of_mem _ hd)
  obtain ⟨g1, g2⟩ := and_e hg
  obtain ⟨g3, g4⟩ := and_e hn
  obtain ⟨g5, g6⟩ := and_e g4
  obtain ⟨g7, g8⟩ := and_e g6
  obtain ⟨g9, g10⟩ := and_e g8
  obtain ⟨g11, g12⟩ := and_e g10
  obtain ⟨g13, g14⟩ := and_e g12
  obtain ⟨g15, g16⟩ := and_e g14
  obtain ⟨g17, g18⟩ := and_e g16
  obtain ⟨g19, g20⟩ := and_e g18
  obtain ⟨g21, g22⟩ := and_e g20
  obtain ⟨g23, g24⟩ := and_e g22
  obtain ⟨g25, g26⟩ := and_e g24
  obtain ⟨g27, g28⟩ := and_e g26
  obtain ⟨g29, g30⟩ := and_e g28
  obtain ⟨g31, g32⟩ := and_e g30
  obtain ⟨g33, g34⟩ := and_e g32
  obtain ⟨g35, g36⟩ := and_e g34
  obtain ⟨g37, g38⟩ := and_e g36
  obtain ⟨g39, g40⟩ := and_e g38
  obtain ⟨g41, g42⟩ := and_e g40
  obtain ⟨g43, g44⟩ := and_e g42
  obtain ⟨g45, g46⟩ := and_e g44
  obtain ⟨g47, g48⟩ := and_e g46
  obtain ⟨g49, g50⟩ := and_e g48
  obtain ⟨g51, g52⟩ := and_e g50
  obtain ⟨g53, g54⟩ := and_e g52
  obtain ⟨g55, g56⟩ := and_e g54
  obtain ⟨g57, g58⟩ := and_e g56
  obtain ⟨g59, g60⟩ := and_e g58
  obtain ⟨g61, g62⟩ := and_e g60
  obtain ⟨g63, g64⟩ := and_e g62
  obtain ⟨g65, g66⟩ := and_e g64
  obtain ⟨g67, g68⟩ := and_e g66
  obtain ⟨g69, g70⟩ := and_e g68
  obtain ⟨g71, g72⟩ := and_e g70
  obtain ⟨g73, g74⟩ := and_e g72
  obtain ⟨g75, g76⟩ := and_e g74
  obtain ⟨g77, g78⟩ := and_e g76
  obtain ⟨g79, g80⟩ := and_e g78
  obtain ⟨g81, g82⟩ := and_e g80
  obtain ⟨g83, g84⟩ := and_e g82
  obtain ⟨g85, g86⟩ := and_e g84
  obtain ⟨g87, g88⟩ := and_e g86
  obtain ⟨g89, g90⟩ := and_e g88
  obtain ⟨g91, g92⟩ := and_e g90
  obtain ⟨g93, g94⟩ := and_e g92
  obtain ⟨g95, g96⟩ := and_e g94
  obtain ⟨g97, g98⟩ := and_e g96
  obtain ⟨g99, g100⟩ := and_e g98
  obtain ⟨g101, g102⟩ := and_e g100
  obtain ⟨g103, g104⟩ := and_e g102
  obtain ⟨g105, g106⟩ := and_e g104
  obtain ⟨g107, g108⟩ := and_e g106
  obtain ⟨g109, g110⟩ := and_e g108
  obtain ⟨g111, g112⟩ := and_e g110
  obtain ⟨g113, g114⟩ := and_e g112
  obtain ⟨g115, g116⟩ := and_e g114
  obtain ⟨g117, g118⟩ := and_e g116
  obtain ⟨g119, g120⟩ := and_e g118
  obtain ⟨g121, g122⟩ := and_e g120
  obtain ⟨g123, g124⟩ := and_e g122
  obtain ⟨g125, g126⟩ := and_e g124
  obtain ⟨g127, g128⟩ := and_e g126
  obtain ⟨g129, g130⟩ := and_e g128
  obtain ⟨g131, g132⟩ := and_e g130
  obtain ⟨w_BLOB, ev_BLOB⟩ := exa_v g3
  have S_BLOB : Sta s s.heap "com/example/shapewright/shapewright/model/ShapeType" "BLOB" "Lcom/example/shapewright/shapewright/model/ShapeType;" (.ref w_BLOB) := Sta.start ev_BLOB (Or.inr ⟨(hw _ (List.mem_of_getElem? (i := 3) rfl)), (hw _ (List.mem_of_getElem? (i := 4) rfl))⟩)
  have E_BLOB := Exa.start ev_BLOB g3
  obtain ⟨w_BOOLEAN, ev_BOOLEAN⟩ := exa_v g5
  have S_BOOLEAN : Sta s s.heap "com/example/shapewright/shapewright/model/ShapeType" "BOOLEAN" "Lcom/example/shapewright/shapewright/model/ShapeType;" (.ref w_BOOLEAN) := Sta.start ev_BOOLEAN (Or.inr ⟨(hw _ (List.mem_of_getElem? (i := 3) rfl)), (hw _ (List.mem_of_getElem? (i := 7) rfl))⟩)
  have E_BOOLEAN := Exa.start ev_BOOLEAN g5
  obtain ⟨w_DOCUMENT, ev_DOCUMENT⟩ := exa_v g7
  have S_DOCUMENT : Sta s s.heap "com/example/shapewright/shapewright/model/ShapeType" "DOCUMENT" "Lcom/example/shapewright/shapewright/model/ShapeType;" (.ref w_DOCUMENT) := Sta.start ev_DOCUMENT (Or.inr ⟨(hw _ (List.mem_of_getElem? (i := 3) rfl)), (hw _ (List.mem_of_getElem? (i := 9) rfl))⟩)
  have E_DOCUMENT := Exa.start ev_DOCUMENT g7
  obtain ⟨w_STRING, ev_STRING⟩ := exa_v g9
  have S_STRING : Sta s s.heap "com/example/shapewright/shapewright/model/ShapeType" "STRING" "Lcom/example/shapewright/shapewright/model/ShapeType;" (.ref w_STRING) := Sta.start ev_STRING (Or.inr ⟨(hw _ (List.mem_of_getElem? (i := 3) rfl)), (hw _ (List.mem_of_getElem? (i := 11) rfl))⟩)
  have E_STRING := Exa.start ev_STRING g9
  obtain ⟨w_BYTE, ev_BYTE⟩ := exa_v g11
  have S_BYTE : Sta s s.heap "com/example/shapewright/shapewright/model/ShapeType" "BYTE" "Lcom/example/shapewright/shapewright/model/ShapeType;" (.ref w_BYTE) := Sta.start ev_BYTE (Or.inr ⟨(hw _ (List.mem_of_getElem? (i := 3) rfl)), (hw _ (List.mem_of_getElem? (i := 13) rfl))⟩)
  have E_BYTE := Exa.start ev_BYTE g11
  obtain ⟨w_SHORT, ev_SHORT⟩ := exa_v g13
  have S_SHORT : Sta s s.heap "com/example/shapewright/shapewright/model/ShapeType" "SHORT" "Lcom/example/shapewright/shapewright/model/ShapeType;" (.ref w_SHORT) := Sta.start ev_SHORT (Or.inr ⟨(hw _ (List.mem_of_getElem? (i := 3) rfl)), (hw _ (List.mem_of_getElem? (i := 15) rfl))⟩)
  have E_SHORT := Exa.start ev_SHORT g13
  obtain ⟨w_INTEGER, ev_INTEGER⟩ := exa_v g15
  have S_INTEGER : Sta s s.heap "com/example/shapewright/shapewright/model/ShapeType" "INTEGER" "Lcom/example/shapewright/shapewright/model/ShapeType;" (.ref w_INTEGER) := Sta.start ev_INTEGER (Or.inr ⟨(hw _ (List.mem_of_getElem? (i := 3) rfl)), (hw _ (List.mem_of_getElem? (i := 17) rfl))⟩)
  have E_INTEGER := Exa.start ev_INTEGER g15
  obtain ⟨w_LONG, ev_LONG⟩ := exa_v g17
  have S_LONG : Sta s s.heap "com/example/shapewright/shapewright/model/ShapeType" "LONG" "Lcom/example/shapewright/shapewright/model/ShapeType;" (.ref w_LONG) := Sta.start ev_LONG (Or.inr ⟨(hw _ (List.mem_of_getElem? (i := 3) rfl)), (hw _ (List.mem_of_getElem? (i := 19) rfl))⟩)
  have E_LONG := Exa.start ev_LONG g17
  obtain ⟨w_FLOAT, ev_FLOAT⟩ := exa_v g19
  have S_FLOAT : Sta s s.heap "com/example/shapewright/shapewright/model/ShapeType" "FLOAT" "Lcom/example/shapewright/shapewright/model/ShapeType;" (.ref w_FLOAT) := Sta.start ev_FLOAT (Or.inr ⟨(hw _ (List.mem_of_getElem? (i := 3) rfl)), (hw _ (List.mem_of_getElem? (i := 21) rfl))⟩)
  have E_FLOAT := Exa.start ev_FLOAT g19
  obtain ⟨w_DOUBLE, ev_DOUBLE⟩ := exa_v g21
  have S_DOUBLE : Sta s s.heap "com/example/shapewright/shapewright/model/ShapeType" "DOUBLE" "Lcom/example/shapewright/shapewright/model/ShapeType;" (.ref w_DOUBLE) := Sta.start ev_DOUBLE (Or.inr ⟨(hw _ (List.mem_of_getElem? (i := 3) rfl)), (hw _ (List.mem_of_getElem? (i := 23) rfl))⟩)
  have E_DOUBLE := Exa.start ev_DOUBLE g21
  obtain ⟨w_BIG_INTEGER, ev_BIG_INTEGER⟩ := exa_v g23
  have S_BIG_INTEGER : Sta s s.heap "com/example/shapewright/shapewright/model/ShapeType" "BIG_INTEGER" "Lcom/example/shapewright/shapewright/model/ShapeType;" (.ref w_BIG_INTEGER) := Sta.start ev_BIG_INTEGER (Or.inr ⟨(hw _ (List.mem_of_getElem? (i := 3) rfl)), (hw _ (List.mem_of_getElem? (i := 25) rfl))⟩)
  have E_BIG_INTEGER := Exa.start ev_BIG_INTEGER g23
  obtain ⟨w_BIG_DECIMAL, ev_BIG_DECIMAL⟩ := exa_v g25
  have S_BIG_DECIMAL : Sta s s.heap "com/example/shapewright/shapewright/model/ShapeType" "BIG_DECIMAL" "Lcom/example/shapewright/shapewright/model/ShapeType;" (.ref w_BIG_DECIMAL) := Sta.start ev_BIG_DECIMAL (Or.inr ⟨(hw _ (List.mem_of_getElem? (i := 3) rfl)), (hw _ (List.mem_of_getElem? (i := 27) rfl))⟩)
  have E_BIG_DECIMAL := Exa.start ev_BIG_DECIMAL g25
  obtain ⟨w_TIMESTAMP, ev_TIMESTAMP⟩ := exa_v g27
  have S_TIMESTAMP : Sta s s.heap "com/example/shapewright/shapewright/model/ShapeType" "TIMESTAMP" "Lcom/example/shapewright/shapewright/model/ShapeType;" (.ref w_TIMESTAMP) := Sta.start ev_TIMESTAMP (Or.inr ⟨(hw _ (List.mem_of_getElem? (i := 3) rfl)), (hw _ (List.mem_of_getElem? (i := 29) rfl))⟩)
  have E_TIMESTAMP := Exa.start ev_TIMESTAMP g27
  obtain ⟨w_ENUM, ev_ENUM⟩ := exa_v g29
  have S_ENUM : Sta s s.heap "com/example/shapewright/shapewright/model/ShapeType" "ENUM" "Lcom/example/shapewright/shapewright/model/ShapeType;" (.ref w_ENUM) := Sta.start ev_ENUM (Or.inr ⟨(hw _ (List.mem_of_getElem? (i := 3) rfl)), (hw _ (List.mem_of_getElem? (i := 31) rfl))⟩)
  have E_ENUM := Exa.start ev_ENUM g29
  obtain ⟨w_INT_ENUM, ev_INT_ENUM⟩ := exa_v g31
  have S_INT_ENUM : Sta s s.heap "com/example/shapewright/shapewright/model/ShapeType" "INT_ENUM" "Lcom/example/shapewright/shapewright/model/ShapeType;" (.ref w_INT_ENUM) := Sta.start ev_INT_ENUM (Or.inr ⟨(hw _ (List.mem_of_getElem? (i := 3) rfl)), (hw _ (List.mem_of_getElem? (i := 33) rfl))⟩)
  have E_INT_ENUM := Exa.start ev_INT_ENUM g31
  obtain ⟨w_LIST, ev_LIST⟩ := exa_v g33
  have S_LIST : Sta s s.heap "com/example/shapewright/shapewright/model/ShapeType" "LIST" "Lcom/example/shapewright/shapewright/model/ShapeType;" (.ref w_LIST) := Sta.start ev_LIST (Or.inr ⟨(hw _ (List.mem_of_getElem? (i := 3) rfl)), (hw _ (List.mem_of_getElem? (i := 35) rfl))⟩)
  have E_LIST := Exa.start ev_LIST g33
  obtain ⟨w_MAP, ev_MAP⟩ := exa_v g35
  have S_MAP : Sta s s.heap "com/example/shapewright/shapewright/model/ShapeType" "MAP" "Lcom/example/shapewright/shapewright/model/ShapeType;" (.ref w_MAP) := Sta.start ev_MAP (Or.inr ⟨(hw _ (List.mem_of_getElem? (i := 3) rfl)), (hw _ (List.mem_of_getElem? (i := 37) rfl))⟩)
  have E_MAP := Exa.start ev_MAP g35
  obtain ⟨w_STRUCTURE, ev_STRUCTURE⟩ := exa_v g37
  have S_STRUCTURE : Sta s s.heap "com/example/shapewright/shapewright/model/ShapeType" "STRUCTURE" "Lcom/example/shapewright/shapewright/model/ShapeType;" (.ref w_STRUCTURE) := Sta.start ev_STRUCTURE (Or.inr ⟨(hw _ (List.mem_of_getElem? (i := 3) rfl)), (hw _ (List.mem_of_getElem? (i := 39) rfl))⟩)
  have E_STRUCTURE := Exa.start ev_STRUCTURE g37
  obtain ⟨w_UNION, ev_UNION⟩ := exa_v g39
  have S_UNION : Sta s s.heap "com/example/shapewright/shapewright/model/ShapeType" "UNION" "Lcom/example/shapewright/shapewright/model/ShapeType;" (.ref w_UNION) := Sta.start ev_UNION (Or.inr ⟨(hw _ (List.mem_of_getElem? (i := 3) rfl)), (hw _ (List.mem_of_getElem? (i := 41) rfl))⟩)
  have E_UNION := Exa.start ev_UNION g39
  obtain ⟨w_SERVICE, ev_SERVICE⟩ := exa_v g41
  have S_SERVICE : Sta s s.heap "com/example/shapewright/shapewright/model/ShapeType" "SERVICE" "Lcom/example/shapewright/shapewright/model/ShapeType;" (.ref w_SERVICE) := Sta.start ev_SERVICE (Or.inr ⟨(hw _ (List.mem_of_getElem? (i := 3) rfl)), (hw _ (List.mem_of_getElem? (i := 43) rfl))⟩)
  have E_SERVICE := Exa.start ev_SERVICE g41
  obtain ⟨w_OPERATION, ev_OPERATION⟩ := exa_v g43
  have S_OPERATION : Sta s s.heap "com/example/shapewright/shapewright/model/ShapeType" "OPERATION" "Lcom/example/shapewright/shapewright/model/ShapeType;" (.ref w_OPERATION) := Sta.start ev_OPERATION (Or.inr ⟨(hw _ (List.mem_of_getElem? (i := 3) rfl)), (hw _ (List.mem_of_getElem? (i := 45) rfl))⟩)
  have E_OPERATION := Exa.start ev_OPERATION g43
  obtain ⟨w_RESOURCE, ev_RESOURCE⟩ := exa_v g45
  have S_RESOURCE : Sta s s.heap "com/example/shapewright/shapewright/model/ShapeType" "RESOURCE" "Lcom/example/shapewright/shapewright/model/ShapeType;" (.ref w_RESOURCE) := Sta.start ev_RESOURCE (Or.inr ⟨(hw _ (List.mem_of_getElem? (i := 3) rfl)), (hw _ (List.mem_of_getElem? (i := 47) rfl))⟩)
  have E_RESOURCE := Exa.start ev_RESOURCE g45
  obtain ⟨r_fixedMembers_BLOB, er_fixedMembers_BLOB⟩ := exa_v g57
  have F_fixedMembers_BLOB : Fld s s.heap w_BLOB "com/example/shapewright/shapewright/model/ShapeType" "fixedMembers" "Ljava/util/List;" (.ref r_fixedMembers_BLOB) := Fld.start ((fld_at ev_BLOB).symm.trans er_fixedMembers_BLOB)
  obtain ⟨r_fixedMembers_MAP, er_fixedMembers_MAP⟩ := exa_v g97
  have F_fixedMembers_MAP : Fld s s.heap w_MAP "com/example/shapewright/shapewright/model/ShapeType" "fixedMembers" "Ljava/util/List;" (.ref r_fixedMembers_MAP) := Fld.start ((fld_at ev_MAP).symm.trans er_fixedMembers_MAP)
  obtain ⟨r_fixedMembers_LIST, er_fixedMembers_LIST⟩ := exa_v g111
  have F_fixedMembers_LIST : Fld s s.heap w_LIST "com/example/shapewright/shapewright/model/ShapeType" "fixedMembers" "Ljava/util/List;" (.ref r_fixedMembers_LIST) := Fld.start ((fld_at ev_LIST).symm.trans er_fixedMembers_LIST)
  have F_ordinal_BLOB := own_fld ev_BLOB (v := .int (0 : Int32)) rfl g47
  have F_ordinal_STRUCTURE := own_fld ev_STRUCTURE (v := .int (17 : Int32)) rfl g49
  have F_ordinal_UNION := own_fld ev_UNION (v := .int (18 : Int32)) rfl g51
  have F_ordinal_ENUM := own_fld ev_ENUM (v := .int (13 : Int32)) rfl g53
  have F_ordinal_INT_ENUM := own_fld ev_INT_ENUM (v := .int (14 : Int32)) rfl g55
  have F_ordinal_STRING := own_fld ev_STRING (v := .int (3 : Int32)) rfl g59
  have F_fixedMembers_STRING := own_fld ev_STRING (v := .ref r_fixedMembers_BLOB) er_fixedMembers_BLOB g61
  have F_ordinal_LONG := own_fld ev_LONG (v := .int (7 : Int32)) rfl g63
  have F_fixedMembers_LONG := own_fld ev_LONG (v := .ref r_fixedMembers_BLOB) er_fixedMembers_BLOB g65
  have F_ordinal_FLOAT := own_fld ev_FLOAT (v := .int (8 : Int32)) rfl g67
  have F_fixedMembers_FLOAT := own_fld ev_FLOAT (v := .ref r_fixedMembers_BLOB) er_fixedMembers_BLOB g69
  have F_ordinal_DOCUMENT := own_fld ev_DOCUMENT (v := .int (2 : Int32)) rfl g71
  have F_fixedMembers_DOCUMENT := own_fld ev_DOCUMENT (v := .ref r_fixedMembers_BLOB) er_fixedMembers_BLOB g73
  have F_ordinal_BIG_DECIMAL := own_fld ev_BIG_DECIMAL (v := .int (11 : Int32)) rfl g75
  have F_fixedMembers_BIG_DECIMAL := own_fld ev_BIG_DECIMAL (v := .ref r_fixedMembers_BLOB) er_fixedMembers_BLOB g77
  have F_ordinal_BIG_INTEGER := own_fld ev_BIG_INTEGER (v := .int (10 : Int32)) rfl g79
  have F_fixedMembers_BIG_INTEGER := own_fld ev_BIG_INTEGER (v := .ref r_fixedMembers_BLOB) er_fixedMembers_BLOB g81
  have F_ordinal_BOOLEAN := own_fld ev_BOOLEAN (v := .int (1 : Int32)) rfl g83
  have F_fixedMembers_BOOLEAN := own_fld ev_BOOLEAN (v := .ref r_fixedMembers_BLOB) er_fixedMembers_BLOB g85
  have F_ordinal_DOUBLE := own_fld ev_DOUBLE (v := .int (9 : Int32)) rfl g87
  have F_fixedMembers_DOUBLE := own_fld ev_DOUBLE (v := .ref r_fixedMembers_BLOB) er_fixedMembers_BLOB g89
  have F_ordinal_SHORT := own_fld ev_SHORT (v := .int (5 : Int32)) rfl g91
  have F_fixedMembers_SHORT := own_fld ev_SHORT (v := .ref r_fixedMembers_BLOB) er_fixedMembers_BLOB g93
  have F_ordinal_MAP := own_fld ev_MAP (v := .int (16 : Int32)) rfl g95
  have F_ordinal_INTEGER := own_fld ev_INTEGER (v := .int (6 : Int32)) rfl g99
  have F_fixedMembers_INTEGER := own_fld ev_INTEGER (v := .ref r_fixedMembers_BLOB) er_fixedMembers_BLOB g101
  have F_ordinal_SERVICE := own_fld ev_SERVICE (v := .int (19 : Int32)) rfl g103
  have F_fixedMembers_SERVICE := own_fld ev_SERVICE (v := .ref r_fixedMembers_BLOB) er_fixedMembers_BLOB g105
  have F_fixedMembers_UNION := own_fld ev_UNION (v := .null) rfl g107
  have F_ordinal_LIST := own_fld ev_LIST (v := .int (15 : Int32)) rfl g109
  have F_ordinal_BYTE := own_fld ev_BYTE (v := .int (4 : Int32)) rfl g113
  have F_fixedMembers_BYTE := own_fld ev_BYTE (v := .ref r_fixedMembers_BLOB) er_fixedMembers_BLOB g115
  have F_ordinal_RESOURCE := own_fld ev_RESOURCE (v := .int (21 : Int32)) rfl g117
  have F_fixedMembers_RESOURCE := own_fld ev_RESOURCE (v := .ref r_fixedMembers_BLOB) er_fixedMembers_BLOB g119
  have F_fixedMembers_INT_ENUM := own_fld ev_INT_ENUM (v := .null) rfl g121
  have F_ordinal_TIMESTAMP := own_fld ev_TIMESTAMP (v := .int (12 : Int32)) rfl g123
  have F_fixedMembers_TIMESTAMP := own_fld ev_TIMESTAMP (v := .ref r_fixedMembers_BLOB) er_fixedMembers_BLOB g125
  have F_fixedMembers_ENUM := own_fld ev_ENUM (v := .null) rfl g127
  have F_fixedMembers_STRUCTURE := own_fld ev_STRUCTURE (v := .null) rfl g129
  have F_ordinal_OPERATION := own_fld ev_OPERATION (v := .int (20 : Int32)) rfl g131
  have F_fixedMembers_OPERATION := own_fld ev_OPERATION (v := .ref r_fixedMembers_BLOB) er_fixedMembers_BLOB g132
  obtain ⟨v0, rfl⟩ : ∃ v0 : Value, args = #[v0] := by
    have hs : args.size = 1 := by simpa [Cond.value, given_1] using g1
    obtain ⟨L⟩ := args
    match L, hs with
    | [v0], _ => exact ⟨v0, rfl⟩
  have hfit : Fit s := fun {y c} hc i hi => by
    obtain ⟨ha, rfl⟩ := Array.getElem?_eq_some_iff.mp hc
    have q := List.all_eq_true.mp ((Array.all_eq_true_iff_forall_mem.mp hF) _ (Array.getElem_mem ha)) i (List.mem_range.mpr hi)
    simpa [Array.getElem?_eq_getElem hi] using q
  obtain ⟨i0, ei0⟩ := is_v g2
  obtain rfl : v0 = (.int i0) := Option.some.inj ei0
  obtain ⟨n, o, h1, h2, h3, _, L, rfl, ⟨rfl, N⟩, hq⟩ := rm0 l s _ hw tables_1 i0 w_BLOB w_BOOLEAN w_DOCUMENT w_STRING w_BYTE w_SHORT w_INTEGER w_LONG w_FLOAT w_DOUBLE w_BIG_INTEGER w_BIG_DECIMAL w_TIMESTAMP w_ENUM w_INT_ENUM w_LIST w_MAP w_STRUCTURE w_UNION w_SERVICE w_OPERATION w_RESOURCE r_fixedMembers_BLOB r_fixedMembers_LIST r_fixedMembers_MAP s.heap s.heap.size (Old.start s) S_BLOB E_BLOB S_BOOLEAN E_BOOLEAN S_DOCUMENT E_DOCUMENT S_STRING E_STRING S_BYTE E_BYTE S_SHORT E_SHORT S_INTEGER E_INTEGER S_LONG E_LONG S_FLOAT E_FLOAT S_DOUBLE E_DOUBLE S_BIG_INTEGER E_BIG_INTEGER S_BIG_DECIMAL E_BIG_DECIMAL S_TIMESTAMP E_TIMESTAMP S_ENUM E_ENUM S_INT_ENUM E_INT_ENUM S_LIST E_LIST S_MAP E_MAP S_STRUCTURE E_STRUCTURE S_UNION E_UNION S_SERVICE E_SERVICE S_OPERATION E_OPERATION S_RESOURCE E_RESOURCE F_ordinal_BLOB F_ordinal_STRUCTURE F_ordinal_UNION F_ordinal_ENUM F_ordinal_INT_ENUM F_fixedMembers_BLOB F_ordinal_BOOLEAN F_fixedMembers_BOOLEAN F_ordinal_DOCUMENT F_fixedMembers_DOCUMENT F_ordinal_STRING F_fixedMembers_STRING F_ordinal_BYTE F_fixedMembers_BYTE F_ordinal_SHORT F_fixedMembers_SHORT F_ordinal_INTEGER F_fixedMembers_INTEGER F_ordinal_LONG F_fixedMembers_LONG F_ordinal_FLOAT F_fixedMembers_FLOAT F_ordinal_DOUBLE F_fixedMembers_DOUBLE F_ordinal_BIG_INTEGER F_fixedMembers_BIG_INTEGER F_ordinal_BIG_DECIMAL F_fixedMembers_BIG_DECIMAL F_ordinal_TIMESTAMP F_fixedMembers_TIMESTAMP F_fixedMembers_ENUM F_fixedMembers_INT_ENUM F_ordinal_LIST F_fixedMembers_LIST F_ordinal_MAP F_fixedMembers_MAP F_fixedMembers_STRUCTURE F_fixedMembers_UNION F_ordinal_SERVICE F_fixedMembers_SERVICE F_ordinal_OPERATION F_fixedMembers_OPERATION F_ordinal_RESOURCE F_fixedMembers_RESOURCE p e ha hc hk s m _ below hf ((Spec.applies_iff_loose hf).mp happ).1 ⟨rfl, State.Warmed39.refl s, rfl⟩ trivial
  refine ⟨n, _, h1, h2, h3, hpost _ _ _ _ _ _ ⟨Cond.after_iff.mpr rfl, Cond.after_iff.mpr (eq_i res_at (Term.int_eval (1)) rfl), trivial⟩ ⟨hq.1, hq.2.1, (hq.2.2.sift fun y hy => Or.inr (N y hy)).mono (by decide) (by decide)⟩⟩
theorem main_1_1 : Claimed_1_1 := comes_1 fun _ _ _ _ _ _ h hF => ⟨h.1, hF⟩
theorem main_1_2 : Claimed_1_2 := comes_1 fun _ _ _ _ _ _ h hF => ⟨h.2.1, hF⟩
end Jvm.Pilot.@@N@@
namespace Jvm.Pilot.@@N@@
open Jvm Jvm.ClassFile Sem Op Lib Jvm.Free Jvm.Stand Jvm.Pilot.@@N@@.Jvm.D
/-! MADE BY PROGRAM (witnessworld.py) out of the Statement's table words and the real class files: 23 classes; the members and pool entries that the words name. The judged class is class 1, her method 1. -/
namespace start1
open Jvm.ClassFile
def u (s : String) : CpInfo := .utf8 (stringToUtf16 s)
/-- a pool by its gaps: so many unusable entries, then the entry; so many at the end -/
def gap : Nat → List CpInfo → List CpInfo
  | 0, r => r
  | n + 1, r => .unusable :: gap n r
def poolList (es : List (Nat × CpInfo)) (last : Nat) : List CpInfo := es.foldr (fun e r => gap e.1 (e.2 :: r)) (gap last [])
def pool (es : List (Nat × CpInfo)) (last : Nat) : Array CpInfo := ⟨poolList es last⟩
def fileOf (pool : Array CpInfo) (this : Nat) (attrs : Array Attribute := #[]) (ms : Array MethodInfo := #[]) (fl : Nat := 33) (sup : Nat := 0) (ifs : Array Nat := #[]) (fds : Array FieldInfo := #[]) : ClassFile where
  minorVersion := 0
  majorVersion := 65
  constantPool := pool
  accessFlags := fl
  thisClass := this
  superClass := sup
  interfaces := ifs
  fields := fds
  methods := ms
  attributes := attrs
def plain (name : String) (sup : Option ClassId) : Class where
  name := name
  kind := .ordinary
  loader := none
  accessFlags := 33
  super := sup
  interfaces := #[]
  cf := none
  fields := #[]
  methods := #[]
  instanceTypes := #[]
  staticTypes := #[]
  resolved := #[]
  callSites := []
  init := .initialized
  statics := none
  mirror := none

def pool0 : Array CpInfo := pool [(5, u "<init>"), (0, u "()V"), (1, .class_ 10), (1, u "java/lang/Object")] 113

def k0m0 : Method := { name := "<init>", desc := "()V", sig := { parameters := [], returnType := none }, accessFlags := 1, code := none }
/-- java/lang/Object -/
def k0 : Class := { plain "java/lang/Object" none with
  accessFlags := 33
  interfaces := #[]
  cf := some (fileOf pool0 8 #[] #[{ accessFlags := 1, nameIndex := 5, descriptorIndex := 6, attributes := #[] }] 33 0 #[] #[])
  fields := #[]
  methods := #[k0m0]
  instanceTypes := #[]
  staticTypes := #[]
  resolved := Array.replicate 124 none
  statics := none }

def pool1 : Array CpInfo := pool [(2, .class_ 4), (1, u "java/lang/Object"), (0, u "<init>"), (0, u "()V"), (0, .class_ 8), (0, u "com/example/shapewright/shapewright/model/ShapeType"), (0, .fieldref 7 10), (0, .nameAndType 11 12), (0, u "BLOB"), (0, u "Lcom/example/shapewright/shapewright/model/ShapeType;"), (0, .fieldref 7 14), (0, .nameAndType 15 12), (0, u "BOOLEAN"), (0, .fieldref 7 17), (0, .nameAndType 18 12), (0, u "DOCUMENT"), (0, .fieldref 7 20), (0, .nameAndType 21 12), (0, u "STRING"), (0, .fieldref 7 23), (0, .nameAndType 24 12), (0, u "BYTE"), (0, .fieldref 7 26), (0, .nameAndType 27 12), (0, u "SHORT"), (0, .fieldref 7 29), (0, .nameAndType 30 12), (0, u "INTEGER"), (0, .fieldref 7 32), (0, .nameAndType 33 12), (0, u "LONG"), (0, .fieldref 7 35), (0, .nameAndType 36 12), (0, u "FLOAT"), (0, .fieldref 7 38), (0, .nameAndType 39 12), (0, u "DOUBLE"), (0, .fieldref 7 41), (0, .nameAndType 42 12), (0, u "BIG_INTEGER"), (0, .fieldref 7 44), (0, .nameAndType 45 12), (0, u "BIG_DECIMAL"), (0, .fieldref 7 47), (0, .nameAndType 48 12), (0, u "TIMESTAMP"), (0, .fieldref 7 50), (0, .nameAndType 51 12), (0, u "ENUM"), (0, .fieldref 7 53), (0, .nameAndType 54 12), (0, u "INT_ENUM"), (0, .fieldref 7 56), (0, .nameAndType 57 12), (0, u "LIST"), (0, .fieldref 7 59), (0, .nameAndType 60 12), (0, u "MAP"), (0, .fieldref 7 62), (0, .nameAndType 63 12), (0, u "STRUCTURE"), (0, .fieldref 7 65), (0, .nameAndType 66 12), (0, u "UNION"), (0, .fieldref 7 68), (0, .nameAndType 69 12), (0, u "SERVICE"), (0, .fieldref 7 71), (0, .nameAndType 72 12), (0, u "OPERATION"), (0, .fieldref 7 74), (0, .nameAndType 75 12), (0, u "RESOURCE"), (0, .integer 2147483647), (0, .methodref 7 78), (0, .nameAndType 79 80), (0, u "namesItsMembers"), (0, u "()Z"), (0, .class_ 82), (0, u "com/example/shapewright/shapewright/model/ShapeTypeNamesItsMembersPinLaw"), (2, u "law"), (0, u "(I)Z")] 5

def k1m0 : Method := { name := "<init>", desc := "()V", sig := { parameters := [], returnType := none }, accessFlags := 2, code := none }
def k1c1 : Code := { maxStack := 4, maxLocals := 5, code := code, exceptionTable := #[], attributes := #[] }
def k1m1 : Method := { name := "law", desc := "(I)Z", sig := { parameters := [.int], returnType := some .boolean }, accessFlags := 9, code := some k1c1 }
/-- com/example/shapewright/shapewright/model/ShapeTypeNamesItsMembersPinLaw -/
def k1 : Class := { plain "com/example/shapewright/shapewright/model/ShapeTypeNamesItsMembersPinLaw" (some 0) with
  accessFlags := 49
  interfaces := #[]
  cf := some (fileOf pool1 81 #[] #[{ accessFlags := 2, nameIndex := 5, descriptorIndex := 6, attributes := #[] }, { accessFlags := 9, nameIndex := 85, descriptorIndex := 86, attributes := #[] }] 49 2 #[] #[])
  fields := #[]
  methods := #[k1m0, k1m1]
  instanceTypes := #[]
  staticTypes := #[]
  resolved := Array.replicate 92 none
  statics := none }

def pool2 : Array CpInfo := pool [(1, .class_ 2), (0, u "java/lang/constant/Constable"), (0, .class_ 4), (0, u "java/lang/Object")] 6

/-- java/lang/constant/Constable -/
def k2 : Class := { plain "java/lang/constant/Constable" (some 0) with
  accessFlags := 1537
  interfaces := #[]
  cf := some (fileOf pool2 1 #[] #[] 1537 3 #[] #[])
  fields := #[]
  methods := #[]
  instanceTypes := #[]
  staticTypes := #[]
  resolved := Array.replicate 11 none
  statics := none }

def pool3 : Array CpInfo := pool [(1, .class_ 2), (0, u "java/lang/Comparable"), (0, .class_ 4), (0, u "java/lang/Object")] 7

/-- java/lang/Comparable -/
def k3 : Class := { plain "java/lang/Comparable" (some 0) with
  accessFlags := 1537
  interfaces := #[]
  cf := some (fileOf pool3 1 #[] #[] 1537 3 #[] #[])
  fields := #[]
  methods := #[]
  instanceTypes := #[]
  staticTypes := #[]
  resolved := Array.replicate 12 none
  statics := none }

def pool4 : Array CpInfo := pool [(1, .class_ 2), (0, u "java/io/Serializable"), (0, .class_ 4), (0, u "java/lang/Object")] 2

/-- java/io/Serializable -/
def k4 : Class := { plain "java/io/Serializable" (some 0) with
  accessFlags := 1537
  interfaces := #[]
  cf := some (fileOf pool4 1 #[] #[] 1537 3 #[] #[])
  fields := #[]
  methods := #[]
  instanceTypes := #[]
  staticTypes := #[]
  resolved := Array.replicate 7 none
  statics := none }

def pool5 : Array CpInfo := pool [(2, .class_ 4), (1, u "java/lang/Enum"), (0, u "name"), (0, u "Ljava/lang/String;"), (2, u "ordinal"), (0, u "I"), (1, .class_ 14), (1, u "java/lang/Object"), (4, u "hash"), (86, .class_ 108), (1, u "java/lang/Enum$EnumDesc"), (2, .class_ 112), (0, u "java/lang/constant/Constable"), (0, .class_ 114), (0, u "java/lang/Comparable"), (0, .class_ 116), (0, u "java/io/Serializable")] 87

/-- java/lang/Enum -/
def k5 : Class := { plain "java/lang/Enum" (some 0) with
  accessFlags := 1057
  interfaces := #[2, 3, 4]
  cf := some (fileOf pool5 2 #[.nestMembers #[106]] #[] 1057 12 #[111, 113, 115] #[{ accessFlags := 18, nameIndex := 5, descriptorIndex := 6, attributes := #[] }, { accessFlags := 18, nameIndex := 9, descriptorIndex := 10, attributes := #[] }, { accessFlags := 2, nameIndex := 19, descriptorIndex := 10, attributes := #[] }])
  fields := #[{ name := "name", type := (.object "java/lang/String"), accessFlags := 18, slot := 0, constantValue := 0 }, { name := "ordinal", type := .int, accessFlags := 18, slot := 1, constantValue := 0 }, { name := "hash", type := .int, accessFlags := 2, slot := 2, constantValue := 0 }]
  methods := #[]
  instanceTypes := #[(.object "java/lang/String"), .int, .int]
  staticTypes := #[]
  resolved := Array.replicate 204 none
  statics := none }

def pool6 : Array CpInfo := pool [(1, .class_ 2), (0, u "com/example/shapewright/shapewright/model/ShapeType"), (2, u "BLOB"), (0, u "Lcom/example/shapewright/shapewright/model/ShapeType;"), (2, u "BOOLEAN"), (2, u "DOCUMENT"), (2, u "STRING"), (2, u "BYTE"), (2, u "SHORT"), (2, u "INTEGER"), (2, u "LONG"), (2, u "FLOAT"), (2, u "DOUBLE"), (2, u "BIG_INTEGER"), (2, u "BIG_DECIMAL"), (2, u "TIMESTAMP"), (2, u "ENUM"), (2, u "INT_ENUM"), (2, u "LIST"), (2, u "MAP"), (2, u "STRUCTURE"), (2, u "UNION"), (2, u "SERVICE"), (2, u "OPERATION"), (2, u "RESOURCE"), (2, u "$VALUES"), (0, u "[Lcom/example/shapewright/shapewright/model/ShapeType;"), (6, .class_ 82), (1, u "java/lang/Enum"), (8, u "name"), (0, u "Ljava/lang/String;"), (0, .fieldref 1 94), (0, .nameAndType 95 96), (0, u "fixedMembers"), (0, u "Ljava/util/List;"), (2, u "properties"), (2, u "BY_NAME"), (0, u "Ljava/util/Map;"), (11, u "()Z"), (173, u "namesItsMembers")] 10

def k6c0 : Code := { maxStack := 1, maxLocals := 1, code := prog_45_method_7_code, exceptionTable := #[], attributes := #[] }
def k6m0 : Method := { name := "namesItsMembers", desc := "()Z", sig := { parameters := [], returnType := some .boolean }, accessFlags := 1, code := some k6c0 }
/-- com/example/shapewright/shapewright/model/ShapeType -/
def k6 : Class := { plain "com/example/shapewright/shapewright/model/ShapeType" (some 5) with
  accessFlags := 16433
  interfaces := #[]
  cf := some (fileOf pool6 1 #[] #[{ accessFlags := 1, nameIndex := 289, descriptorIndex := 115, attributes := #[] }] 16433 80 #[] #[{ accessFlags := 16409, nameIndex := 5, descriptorIndex := 6, attributes := #[] }, { accessFlags := 16409, nameIndex := 9, descriptorIndex := 6, attributes := #[] }, { accessFlags := 16409, nameIndex := 12, descriptorIndex := 6, attributes := #[] }, { accessFlags := 16409, nameIndex := 15, descriptorIndex := 6, attributes := #[] }, { accessFlags := 16409, nameIndex := 18, descriptorIndex := 6, attributes := #[] }, { accessFlags := 16409, nameIndex := 21, descriptorIndex := 6, attributes := #[] }, { accessFlags := 16409, nameIndex := 24, descriptorIndex := 6, attributes := #[] }, { accessFlags := 16409, nameIndex := 27, descriptorIndex := 6, attributes := #[] }, { accessFlags := 16409, nameIndex := 30, descriptorIndex := 6, attributes := #[] }, { accessFlags := 16409, nameIndex := 33, descriptorIndex := 6, attributes := #[] }, { accessFlags := 16409, nameIndex := 36, descriptorIndex := 6, attributes := #[] }, { accessFlags := 16409, nameIndex := 39, descriptorIndex := 6, attributes := #[] }, { accessFlags := 16409, nameIndex := 42, descriptorIndex := 6, attributes := #[] }, { accessFlags := 16409, nameIndex := 45, descriptorIndex := 6, attributes := #[] }, { accessFlags := 16409, nameIndex := 48, descriptorIndex := 6, attributes := #[] }, { accessFlags := 16409, nameIndex := 51, descriptorIndex := 6, attributes := #[] }, { accessFlags := 16409, nameIndex := 54, descriptorIndex := 6, attributes := #[] }, { accessFlags := 16409, nameIndex := 57, descriptorIndex := 6, attributes := #[] }, { accessFlags := 16409, nameIndex := 60, descriptorIndex := 6, attributes := #[] }, { accessFlags := 16409, nameIndex := 63, descriptorIndex := 6, attributes := #[] }, { accessFlags := 16409, nameIndex := 66, descriptorIndex := 6, attributes := #[] }, { accessFlags := 16409, nameIndex := 69, descriptorIndex := 6, attributes := #[] }, { accessFlags := 26, nameIndex := 102, descriptorIndex := 103, attributes := #[] }, { accessFlags := 18, nameIndex := 91, descriptorIndex := 92, attributes := #[] }, { accessFlags := 18, nameIndex := 95, descriptorIndex := 96, attributes := #[] }, { accessFlags := 18, nameIndex := 99, descriptorIndex := 96, attributes := #[] }, { accessFlags := 4122, nameIndex := 72, descriptorIndex := 73, attributes := #[] }])
  fields := #[{ name := "BLOB", type := (.object "com/example/shapewright/shapewright/model/ShapeType"), accessFlags := 16409, slot := 0, constantValue := 0 }, { name := "BOOLEAN", type := (.object "com/example/shapewright/shapewright/model/ShapeType"), accessFlags := 16409, slot := 1, constantValue := 0 }, { name := "DOCUMENT", type := (.object "com/example/shapewright/shapewright/model/ShapeType"), accessFlags := 16409, slot := 2, constantValue := 0 }, { name := "STRING", type := (.object "com/example/shapewright/shapewright/model/ShapeType"), accessFlags := 16409, slot := 3, constantValue := 0 }, { name := "BYTE", type := (.object "com/example/shapewright/shapewright/model/ShapeType"), accessFlags := 16409, slot := 4, constantValue := 0 }, { name := "SHORT", type := (.object "com/example/shapewright/shapewright/model/ShapeType"), accessFlags := 16409, slot := 5, constantValue := 0 }, { name := "INTEGER", type := (.object "com/example/shapewright/shapewright/model/ShapeType"), accessFlags := 16409, slot := 6, constantValue := 0 }, { name := "LONG", type := (.object "com/example/shapewright/shapewright/model/ShapeType"), accessFlags := 16409, slot := 7, constantValue := 0 }, { name := "FLOAT", type := (.object "com/example/shapewright/shapewright/model/ShapeType"), accessFlags := 16409, slot := 8, constantValue := 0 }, { name := "DOUBLE", type := (.object "com/example/shapewright/shapewright/model/ShapeType"), accessFlags := 16409, slot := 9, constantValue := 0 }, { name := "BIG_INTEGER", type := (.object "com/example/shapewright/shapewright/model/ShapeType"), accessFlags := 16409, slot := 10, constantValue := 0 }, { name := "BIG_DECIMAL", type := (.object "com/example/shapewright/shapewright/model/ShapeType"), accessFlags := 16409, slot := 11, constantValue := 0 }, { name := "TIMESTAMP", type := (.object "com/example/shapewright/shapewright/model/ShapeType"), accessFlags := 16409, slot := 12, constantValue := 0 }, { name := "ENUM", type := (.object "com/example/shapewright/shapewright/model/ShapeType"), accessFlags := 16409, slot := 13, constantValue := 0 }, { name := "INT_ENUM", type := (.object "com/example/shapewright/shapewright/model/ShapeType"), accessFlags := 16409, slot := 14, constantValue := 0 }, { name := "LIST", type := (.object "com/example/shapewright/shapewright/model/ShapeType"), accessFlags := 16409, slot := 15, constantValue := 0 }, { name := "MAP", type := (.object "com/example/shapewright/shapewright/model/ShapeType"), accessFlags := 16409, slot := 16, constantValue := 0 }, { name := "STRUCTURE", type := (.object "com/example/shapewright/shapewright/model/ShapeType"), accessFlags := 16409, slot := 17, constantValue := 0 }, { name := "UNION", type := (.object "com/example/shapewright/shapewright/model/ShapeType"), accessFlags := 16409, slot := 18, constantValue := 0 }, { name := "SERVICE", type := (.object "com/example/shapewright/shapewright/model/ShapeType"), accessFlags := 16409, slot := 19, constantValue := 0 }, { name := "OPERATION", type := (.object "com/example/shapewright/shapewright/model/ShapeType"), accessFlags := 16409, slot := 20, constantValue := 0 }, { name := "RESOURCE", type := (.object "com/example/shapewright/shapewright/model/ShapeType"), accessFlags := 16409, slot := 21, constantValue := 0 }, { name := "BY_NAME", type := (.object "java/util/Map"), accessFlags := 26, slot := 22, constantValue := 0 }, { name := "name", type := (.object "java/lang/String"), accessFlags := 18, slot := 3, constantValue := 0 }, { name := "fixedMembers", type := (.object "java/util/List"), accessFlags := 18, slot := 4, constantValue := 0 }, { name := "properties", type := (.object "java/util/List"), accessFlags := 18, slot := 5, constantValue := 0 }, { name := "$VALUES", type := (.array (.object "com/example/shapewright/shapewright/model/ShapeType")), accessFlags := 4122, slot := 23, constantValue := 0 }]
  methods := #[k6m0]
  instanceTypes := #[(.object "java/lang/String"), .int, .int, (.object "java/lang/String"), (.object "java/util/List"), (.object "java/util/List")]
  staticTypes := #[(.object "com/example/shapewright/shapewright/model/ShapeType"), (.object "com/example/shapewright/shapewright/model/ShapeType"), (.object "com/example/shapewright/shapewright/model/ShapeType"), (.object "com/example/shapewright/shapewright/model/ShapeType"), (.object "com/example/shapewright/shapewright/model/ShapeType"), (.object "com/example/shapewright/shapewright/model/ShapeType"), (.object "com/example/shapewright/shapewright/model/ShapeType"), (.object "com/example/shapewright/shapewright/model/ShapeType"), (.object "com/example/shapewright/shapewright/model/ShapeType"), (.object "com/example/shapewright/shapewright/model/ShapeType"), (.object "com/example/shapewright/shapewright/model/ShapeType"), (.object "com/example/shapewright/shapewright/model/ShapeType"), (.object "com/example/shapewright/shapewright/model/ShapeType"), (.object "com/example/shapewright/shapewright/model/ShapeType"), (.object "com/example/shapewright/shapewright/model/ShapeType"), (.object "com/example/shapewright/shapewright/model/ShapeType"), (.object "com/example/shapewright/shapewright/model/ShapeType"), (.object "com/example/shapewright/shapewright/model/ShapeType"), (.object "com/example/shapewright/shapewright/model/ShapeType"), (.object "com/example/shapewright/shapewright/model/ShapeType"), (.object "com/example/shapewright/shapewright/model/ShapeType"), (.object "com/example/shapewright/shapewright/model/ShapeType"), (.object "java/util/Map"), (.array (.object "com/example/shapewright/shapewright/model/ShapeType"))]
  resolved := Array.replicate 300 none
  statics := some 0 }

def pool7 : Array CpInfo := pool [(8, .class_ 10), (1, u "java/lang/Iterable"), (24, .class_ 36), (0, u "java/lang/Object")] 25

/-- java/lang/Iterable -/
def k7 : Class := { plain "java/lang/Iterable" (some 0) with
  accessFlags := 1537
  interfaces := #[]
  cf := some (fileOf pool7 8 #[] #[] 1537 35 #[] #[])
  fields := #[]
  methods := #[]
  instanceTypes := #[]
  staticTypes := #[]
  resolved := Array.replicate 62 none
  statics := none }

def pool8 : Array CpInfo := pool [(10, .class_ 12), (1, u "java/util/Collection"), (47, .class_ 61), (0, u "java/lang/Object"), (0, .class_ 63), (0, u "java/lang/Iterable")] 51

/-- java/util/Collection -/
def k8 : Class := { plain "java/util/Collection" (some 0) with
  accessFlags := 1537
  interfaces := #[7]
  cf := some (fileOf pool8 10 #[] #[] 1537 60 #[62] #[])
  fields := #[]
  methods := #[]
  instanceTypes := #[]
  staticTypes := #[]
  resolved := Array.replicate 115 none
  statics := none }

def pool9 : Array CpInfo := pool [(2, .class_ 4), (1, u "java/lang/Object"), (0, u "<init>"), (0, u "()V"), (1, .class_ 10), (1, u "java/util/AbstractCollection"), (66, .class_ 78), (0, u "java/util/Collection")] 81

def k9m0 : Method := { name := "<init>", desc := "()V", sig := { parameters := [], returnType := none }, accessFlags := 4, code := none }
/-- java/util/AbstractCollection -/
def k9 : Class := { plain "java/util/AbstractCollection" (some 0) with
  accessFlags := 1057
  interfaces := #[8]
  cf := some (fileOf pool9 8 #[] #[{ accessFlags := 4, nameIndex := 5, descriptorIndex := 6, attributes := #[] }] 1057 2 #[77] #[])
  fields := #[]
  methods := #[k9m0]
  instanceTypes := #[]
  staticTypes := #[]
  resolved := Array.replicate 160 none
  statics := none }

def pool10 : Array CpInfo := pool [(2, .class_ 4), (1, u "java/util/AbstractCollection"), (0, u "<init>"), (0, u "()V"), (1, .class_ 10), (1, u "java/util/ImmutableCollections"), (2, .class_ 14), (0, u "java/util/ImmutableCollections$AbstractImmutableCollection")] 41

def k10m0 : Method := { name := "<init>", desc := "()V", sig := { parameters := [], returnType := none }, accessFlags := 0, code := none }
/-- java/util/ImmutableCollections$AbstractImmutableCollection -/
def k10 : Class := { plain "java/util/ImmutableCollections$AbstractImmutableCollection" (some 9) with
  accessFlags := 1056
  interfaces := #[]
  cf := some (fileOf pool10 13 #[.nestHost 8] #[{ accessFlags := 0, nameIndex := 5, descriptorIndex := 6, attributes := #[] }] 1056 2 #[] #[])
  fields := #[]
  methods := #[k10m0]
  instanceTypes := #[]
  staticTypes := #[]
  resolved := Array.replicate 56 none
  statics := none }

def pool11 : Array CpInfo := pool [(8, .class_ 10), (1, u "java/util/SequencedCollection"), (15, .class_ 27), (0, u "java/lang/Object"), (0, .class_ 29), (0, u "java/util/Collection")] 27

/-- java/util/SequencedCollection -/
def k11 : Class := { plain "java/util/SequencedCollection" (some 0) with
  accessFlags := 1537
  interfaces := #[8]
  cf := some (fileOf pool11 8 #[] #[] 1537 26 #[28] #[])
  fields := #[]
  methods := #[]
  instanceTypes := #[]
  staticTypes := #[]
  resolved := Array.replicate 57 none
  statics := none }

def pool12 : Array CpInfo := pool [(8, .class_ 10), (1, u "java/util/List"), (92, .class_ 104), (0, u "java/lang/Object"), (15, .class_ 121), (0, u "java/util/SequencedCollection")] 129

/-- java/util/List -/
def k12 : Class := { plain "java/util/List" (some 0) with
  accessFlags := 1537
  interfaces := #[11]
  cf := some (fileOf pool12 8 #[] #[] 1537 103 #[120] #[])
  fields := #[]
  methods := #[]
  instanceTypes := #[]
  staticTypes := #[]
  resolved := Array.replicate 251 none
  statics := none }

def pool13 : Array CpInfo := pool [(1, .class_ 2), (0, u "java/util/RandomAccess"), (0, .class_ 4), (0, u "java/lang/Object")] 2

/-- java/util/RandomAccess -/
def k13 : Class := { plain "java/util/RandomAccess" (some 0) with
  accessFlags := 1537
  interfaces := #[]
  cf := some (fileOf pool13 1 #[] #[] 1537 3 #[] #[])
  fields := #[]
  methods := #[]
  instanceTypes := #[]
  staticTypes := #[]
  resolved := Array.replicate 7 none
  statics := none }

def pool14 : Array CpInfo := pool [(2, .class_ 4), (1, u "java/util/ImmutableCollections$AbstractImmutableCollection"), (0, u "<init>"), (0, u "()V"), (1, .class_ 10), (1, u "java/util/ImmutableCollections"), (3, .class_ 16), (1, u "java/util/ImmutableCollections$AbstractImmutableList"), (60, .class_ 78), (0, u "java/util/List"), (45, .class_ 125), (0, u "java/util/RandomAccess")] 70

def k14m0 : Method := { name := "<init>", desc := "()V", sig := { parameters := [], returnType := none }, accessFlags := 0, code := none }
/-- java/util/ImmutableCollections$AbstractImmutableList -/
def k14 : Class := { plain "java/util/ImmutableCollections$AbstractImmutableList" (some 10) with
  accessFlags := 1056
  interfaces := #[12, 13]
  cf := some (fileOf pool14 14 #[.nestHost 8] #[{ accessFlags := 0, nameIndex := 5, descriptorIndex := 6, attributes := #[] }] 1056 2 #[77, 124] #[])
  fields := #[]
  methods := #[k14m0]
  instanceTypes := #[]
  staticTypes := #[]
  resolved := Array.replicate 196 none
  statics := none }

def pool15 : Array CpInfo := pool [(2, .class_ 4), (1, u "java/util/ImmutableCollections$AbstractImmutableList"), (3, .class_ 10), (1, u "java/util/ImmutableCollections$ListN"), (0, u "elements"), (0, u "[Ljava/lang/Object;"), (2, u "allowNulls"), (0, u "Z"), (42, .class_ 60), (0, u "java/io/Serializable"), (53, .class_ 115), (0, u "java/util/ImmutableCollections")] 3

/-- java/util/ImmutableCollections$ListN -/
def k15 : Class := { plain "java/util/ImmutableCollections$ListN" (some 14) with
  accessFlags := 48
  interfaces := #[4]
  cf := some (fileOf pool15 8 #[.nestHost 114] #[] 48 2 #[59] #[{ accessFlags := 18, nameIndex := 11, descriptorIndex := 12, attributes := #[] }, { accessFlags := 18, nameIndex := 15, descriptorIndex := 16, attributes := #[] }])
  fields := #[{ name := "elements", type := (.array (.object "java/lang/Object")), accessFlags := 18, slot := 0, constantValue := 0 }, { name := "allowNulls", type := .boolean, accessFlags := 18, slot := 1, constantValue := 0 }]
  methods := #[]
  instanceTypes := #[(.array (.object "java/lang/Object")), .boolean]
  staticTypes := #[]
  resolved := Array.replicate 119 none
  statics := none }

def pool16 : Array CpInfo := pool [(2, .class_ 4), (1, u "java/util/ImmutableCollections$AbstractImmutableList"), (9, .class_ 16), (1, u "java/util/ImmutableCollections$List12"), (0, u "e0"), (0, u "Ljava/lang/Object;"), (1, .class_ 22), (1, u "java/util/ImmutableCollections"), (3, u "e1"), (43, .class_ 71), (0, u "java/io/Serializable")] 53

/-- java/util/ImmutableCollections$List12 -/
def k16 : Class := { plain "java/util/ImmutableCollections$List12" (some 14) with
  accessFlags := 48
  interfaces := #[4]
  cf := some (fileOf pool16 14 #[.nestHost 20] #[] 48 2 #[70] #[{ accessFlags := 18, nameIndex := 17, descriptorIndex := 18, attributes := #[] }, { accessFlags := 18, nameIndex := 26, descriptorIndex := 18, attributes := #[] }])
  fields := #[{ name := "e0", type := (.object "java/lang/Object"), accessFlags := 18, slot := 0, constantValue := 0 }, { name := "e1", type := (.object "java/lang/Object"), accessFlags := 18, slot := 1, constantValue := 0 }]
  methods := #[]
  instanceTypes := #[(.object "java/lang/Object"), (.object "java/lang/Object")]
  staticTypes := #[]
  resolved := Array.replicate 125 none
  statics := none }

def pool17 : Array CpInfo := pool [(1, u "java/lang/Cloneable"), (0, .class_ 1), (0, u "java/lang/Object"), (0, .class_ 3)] 3

/-- java/lang/Cloneable -/
def k17 : Class := { plain "java/lang/Cloneable" (some 0) with
  accessFlags := 1537
  interfaces := #[]
  cf := some (fileOf pool17 2 #[] #[] 1537 4 #[] #[])
  fields := #[]
  methods := #[]
  instanceTypes := #[]
  staticTypes := #[]
  resolved := Array.replicate 8 none
  statics := none }

/-- the primitive byte -/
def k18 : Class := { plain "byte" none with kind := .primitive 'B', accessFlags := 0x411 }
/-- [B -/
def k19 : Class := { plain "[B" (some 0) with kind := .array 18 .byte, interfaces := #[17, 4], accessFlags := 1041 }

/-- the primitive int -/
def k20 : Class := { plain "int" none with kind := .primitive 'I', accessFlags := 0x411 }
/-- [I -/
def k21 : Class := { plain "[I" (some 0) with kind := .array 20 .int, interfaces := #[17, 4], accessFlags := 1041 }

/-- [Lcom/example/shapewright/shapewright/model/ShapeType; -/
def k22 : Class := { plain "[Lcom/example/shapewright/shapewright/model/ShapeType;" (some 0) with kind := .array 6 (.object "com/example/shapewright/shapewright/model/ShapeType"), interfaces := #[17, 4], accessFlags := 1041 }

def heap : Heap := #[{ cls := 6, slots := #[.ref 1, .ref 2, .ref 3, .ref 4, .ref 5, .ref 6, .ref 7, .ref 8, .ref 9, .ref 10, .ref 11, .ref 12, .ref 13, .ref 14, .ref 15, .ref 16, .ref 17, .ref 18, .ref 19, .ref 20, .ref 21, .ref 22, .null, .null], vm := .statics 6 },
  { cls := 6, slots := #[.null, .int 0, .int 0, .null, .ref 23, .null], vm := .none },
  { cls := 6, slots := #[.null, .int 1, .int 0, .null, .ref 23, .null], vm := .none },
  { cls := 6, slots := #[.null, .int 2, .int 0, .null, .ref 23, .null], vm := .none },
  { cls := 6, slots := #[.null, .int 3, .int 0, .null, .ref 23, .null], vm := .none },
  { cls := 6, slots := #[.null, .int 4, .int 0, .null, .ref 23, .null], vm := .none },
  { cls := 6, slots := #[.null, .int 5, .int 0, .null, .ref 23, .null], vm := .none },
  { cls := 6, slots := #[.null, .int 6, .int 0, .null, .ref 23, .null], vm := .none },
  { cls := 6, slots := #[.null, .int 7, .int 0, .null, .ref 23, .null], vm := .none },
  { cls := 6, slots := #[.null, .int 8, .int 0, .null, .ref 23, .null], vm := .none },
  { cls := 6, slots := #[.null, .int 9, .int 0, .null, .ref 23, .null], vm := .none },
  { cls := 6, slots := #[.null, .int 10, .int 0, .null, .ref 23, .null], vm := .none },
  { cls := 6, slots := #[.null, .int 11, .int 0, .null, .ref 23, .null], vm := .none },
  { cls := 6, slots := #[.null, .int 12, .int 0, .null, .ref 23, .null], vm := .none },
  { cls := 6, slots := #[.null, .int 13, .int 0, .null, .null, .null], vm := .none },
  { cls := 6, slots := #[.null, .int 14, .int 0, .null, .null, .null], vm := .none },
  { cls := 6, slots := #[.null, .int 15, .int 0, .null, .ref 24, .null], vm := .none },
  { cls := 6, slots := #[.null, .int 16, .int 0, .null, .ref 25, .null], vm := .none },
  { cls := 6, slots := #[.null, .int 17, .int 0, .null, .null, .null], vm := .none },
  { cls := 6, slots := #[.null, .int 18, .int 0, .null, .null, .null], vm := .none },
  { cls := 6, slots := #[.null, .int 19, .int 0, .null, .ref 23, .null], vm := .none },
  { cls := 6, slots := #[.null, .int 20, .int 0, .null, .ref 23, .null], vm := .none },
  { cls := 6, slots := #[.null, .int 21, .int 0, .null, .ref 23, .null], vm := .none },
  { cls := 15, slots := #[.null, .int 0], vm := .none },
  { cls := 16, slots := #[.null, .null], vm := .none },
  { cls := 16, slots := #[.null, .null], vm := .none }]
def classes : Array Class := #[k0, k1, k2, k3, k4, k5, k6, k7, k8, k9, k10, k11, k12, k13, k14, k15, k16, k17, k18, k19, k20, k21, k22]
def interned : List (Array UInt16 × Addr) := []
def slotsUsed : Nat := 162
def theMethod : MethodId := ⟨1, 1⟩
def args0 : Array Value := #[.int 5]
def aboutOver (below : List Frame) : State where
  vm := { classes := classes, interned := interned.toArray }
  heap := heap
  slotsUsed := slotsUsed
  threads := #[{ frames := .invoking theMethod args0 :: below }]
def below0 : List Frame := [.native { method := ⟨0, 0⟩, args := #[] }]
def about1 : State := aboutOver below0
def p0 : Program := .bare "" "" ""
def e0 : Env := launch0.env 0 0 0
theorem w_frames : about1.frames = Frame.invoking theMethod args0 :: below0 := rfl
set_option maxRecDepth 65536 in
theorem w_args : argsFit about1.vm theMethod args0 = true := by decide +kernel
set_option maxRecDepth 65536 in
theorem w_heap : heapFits about1 = true := by decide +kernel
set_option maxRecDepth 65536 in
theorem w_runnable : about1.curStatus? = some .runnable := by decide +kernel
set_option maxRecDepth 65536 in
theorem w_alone : about1.alone = true := by decide +kernel
set_option maxRecDepth 65536 in
theorem w_named : about1.methodNamed? x = some theMethod := by decide +kernel
set_option maxRecDepth 65536 in
theorem w_hears : about1.hears theMethod below0 = true := by decide +kernel
set_option maxRecDepth 65536 in
theorem w_ripe : about1.ripe theMethod args0 below0 = true := by decide +kernel
theorem w_running : about1.status = .running := rfl
set_option maxRecDepth 65536 in
theorem w_room : about1.hasRoom e0.platform room_1 = true :=
  launch0.hasRoom_least _ room_1 (by decide +kernel) (by decide +kernel) (by decide +kernel) (by decide +kernel) (by decide +kernel) (by decide +kernel)
theorem allAtoms_all (ts : List Jvm.Cond) (a : Array Jvm.Value) (st : Jvm.State) : (allAtoms ts).before a st = ts.all (fun c => c.before a st) := by
  induction ts with
  | nil => rfl
  | cons c t ih =>
    show (Jvm.Cond.and c (allAtoms t)).before a st = _
    rw [Jvm.Cond.before_and, ih, List.all_cons]
def words1 : List Jvm.Cond := Jvm.Cond.code x code maxLocals ret :: tables_1
/-- a 'code' word, met by the world's own term for the bytes: nothing is compared byte by byte -/
theorem code_word {y : MethodName} {bytes : ByteArray} {mx : Nat} {rt : Option FieldType} {a : Array Value} {s : State} {m : MethodId} {meth : Method} {c : Code} (h1 : s.methodNamed? y = some m) (h2 : s.vm.method? m = some meth) (h3 : meth.code = some c) (h4 : c.code = bytes)
    (h5 : (c.maxLocals == mx && c.exceptionTable.isEmpty && decide (c.maxStack ≤ mostOperands) && decide (meth.sig.returnType = rt) && !meth.locks && decide (parseMethodDescriptor y.desc = some meth.sig)) = true) : (Jvm.Cond.code y bytes mx rt).before a s = true := by
  simp only [Bool.and_eq_true, beq_iff_eq, Bool.not_eq_true', decide_eq_true_eq] at h5
  obtain ⟨⟨⟨⟨⟨g1, g2⟩, g3⟩, g4⟩, g5⟩, g6⟩ := h5
  simp [Cond.before, Cond.holds, Cond.value, h1, h2, h3, h4, g1, g2, g3, g4, g5, g6]
def isCode : Jvm.Cond → Bool
  | .code _ _ _ _ => true
  | _ => false
theorem all_split {L : List Jvm.Cond} {P : Jvm.Cond → Bool} (h1 : L.all (fun c => isCode c || P c) = true) (h2 : ∀ c ∈ L.filter isCode, P c = true) : L.all P = true := by
  refine List.all_eq_true.mpr fun c hc => ?_
  have h := List.all_eq_true.mp h1 c hc
  rcases Bool.eq_false_or_eq_true (isCode c) with hi | hi
  · exact h2 c (List.mem_filter.mpr ⟨hc, hi⟩)
  · simpa [hi] using h
set_option maxRecDepth 65536 in
theorem w_c0 : (Jvm.Cond.code x code maxLocals ret).before args0 about1 = true := code_word (m := ⟨1, 1⟩) (meth := k1m1) (c := k1c1) (by decide +kernel) rfl rfl rfl (by decide +kernel)
set_option maxRecDepth 65536 in
theorem w_c1 : (Jvm.Cond.code ({ cls := "com/example/shapewright/shapewright/model/ShapeType", name := "namesItsMembers", desc := "()Z" } : Jvm.MethodName) prog_45_method_7_code (1 : Nat) (Option.some Jvm.ClassFile.FieldType.boolean)).before args0 about1 = true := code_word (m := ⟨6, 0⟩) (meth := k6m0) (c := k6c0) (by decide +kernel) rfl rfl rfl (by decide +kernel)
def codes1 : List Jvm.Cond := [Jvm.Cond.code x code maxLocals ret, Jvm.Cond.code ({ cls := "com/example/shapewright/shapewright/model/ShapeType", name := "namesItsMembers", desc := "()Z" } : Jvm.MethodName) prog_45_method_7_code (1 : Nat) (Option.some Jvm.ClassFile.FieldType.boolean)]
set_option maxRecDepth 65536 in
theorem codes_eq : words1.filter isCode = codes1 := rfl
theorem w_codes : ∀ c ∈ words1.filter isCode, c.before args0 about1 = true := by
  rw [codes_eq]
  intro c hc
  simp only [codes1, List.mem_cons, List.not_mem_nil, or_false] at hc
  rcases hc with rfl | rfl
  · exact w_c0
  · exact w_c1
set_option maxRecDepth 65536 in
theorem w_t1 : (words1.take 24).all (fun c => isCode c || c.before args0 about1) = true := by decide +kernel
set_option maxRecDepth 65536 in
theorem w_t2 : ((words1.drop 24).take 24).all (fun c => isCode c || c.before args0 about1) = true := by decide +kernel
set_option maxRecDepth 65536 in
theorem w_t3 : ((words1.drop 24).drop 24).all (fun c => isCode c || c.before args0 about1) = true := by decide +kernel
theorem w_tables : (allAtoms (Jvm.Cond.code x code maxLocals ret :: tables_1)).before args0 about1 = true := by
  rw [allAtoms_all]
  show words1.all (fun c => c.before args0 about1) = true
  refine all_split ?_ w_codes
  rw [← List.take_append_drop 24 words1, List.all_append, w_t1, ← List.take_append_drop 24 (words1.drop 24), List.all_append, w_t2, w_t3]
  rfl
set_option maxRecDepth 65536 in
theorem w_case : (Jvm.Cond.and given_1 narrow_1).before args0 about1 = true := by decide +kernel
theorem w_applies : (headSpec (Jvm.Cond.code x code maxLocals ret :: tables_1) room_1).applies x e0.platform about1 = true :=
  (Spec.applies_iff w_frames).mpr ⟨w_running, w_runnable, w_alone, w_named, w_hears, w_ripe, w_room, w_tables⟩
theorem atStart : AtStart classFile x code maxLocals ret World_1 tables_1 room_1 Calls_1 rest_1 Pre_1 launch0 p0 e0 about1 theMethod args0 below0 :=
  ⟨lists_1, trivial, launch0.admits_env _ _ _, launch0.least_env, fairChoices_fair.cas, fairChoices_fair.clock, w_frames, w_args, w_heap, w_applies, trivial, trivial, w_case⟩
end start1
theorem witness_1 : WitnessClaimed_1 := ⟨start1.p0, start1.e0, start1.about1, start1.theMethod, start1.args0, start1.below0, start1.atStart⟩
end Jvm.Pilot.@@N@@
