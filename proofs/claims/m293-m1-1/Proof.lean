import JvmDerived
import JvmDerived.Pilot.@@N@@Statement
import JvmDerived.Pilot.@@N@@Code
set_option linter.unusedVariables false
set_option linter.unusedSimpArgs false
namespace Jvm.Pilot.@@N@@
open Jvm Jvm.ClassFile Sem Op Lib Jvm.Free Jvm.Stand Jvm.LawKit Jvm.RoadKit Bundle Jvm.Pilot.@@N@@.Jvm.D
theorem own_eq {args : Array Value} {first s : State} {o : Option Outcome} {idx : List Nat} {a b : Term} (h : (Jvm.Cond.eq a b).value args first o s idx = some true) : a.eval args first o idx s = b.eval args first o idx s := by
  obtain ⟨x, y, h1, h2, k1, k2⟩ := cmp_v (Or.inl h)
  rw [h1, h2]
  simp only [Jvm.Cond.value, h1, h2] at h
  cases x <;> cases y <;> simp_all
theorem own_fld {args : Array Value} {s : State} {t u : Term} {a : Addr} {C n d : String} {v : Value} (ev : t.eval args s none [] s = some (.ref a)) (eu : u.eval args s none [] s = some v) (h : (Jvm.Cond.eq (.field t C n d) u).value args s none s [] = some true) : Fld s s.heap a C n d v :=
  Fld.start ((fld_at ev).symm.trans ((own_eq h).trans eu))
theorem own_pack {p : Program} {l : Launch} {e : Env} {R : Room} {s : State} {m : MethodId} {args : Array Value} {below : List Frame} {meth : Method} {c : ClassFile.Code} {T : State} {locs : List Loc} {cells slots k : Nat} (X : Stand p l e R s m args below meth c T locs cells slots) (N : Fr k locs) : ∃ lc, Stand p l e R s m args below meth c T lc cells slots ∧ Fr k lc := ⟨_, X, N⟩
theorem own_z {Z : State} {n0 : Nat} {h : Heap} (O : Old Z n0 h) : n0 ≤ h.size := O.1 ▸ O.2.1
theorem own_rem22 (x : Int32) : 0 ≤ ((x &&& (2147483647 : Int32)) % (22 : Int32)).toInt ∧ ((x &&& (2147483647 : Int32)) % (22 : Int32)).toInt < 22 := by
  have h1 := c_mask x (2147483647 : Int32) 31 (by decide) (by decide)
  have h2 := (c_irem (x &&& (2147483647 : Int32)) (22 : Int32) 22 (by decide)).1 (by omega)
  omega
theorem own_cases22 {z : Int32} (h0 : 0 ≤ z.toInt) (h1 : z.toInt < 22) : z = (0 : Int32) ∨ z = (1 : Int32) ∨ z = (2 : Int32) ∨ z = (3 : Int32) ∨ z = (4 : Int32) ∨ z = (5 : Int32) ∨ z = (6 : Int32) ∨ z = (7 : Int32) ∨ z = (8 : Int32) ∨ z = (9 : Int32) ∨ z = (10 : Int32) ∨ z = (11 : Int32) ∨ z = (12 : Int32) ∨ z = (13 : Int32) ∨ z = (14 : Int32) ∨ z = (15 : Int32) ∨ z = (16 : Int32) ∨ z = (17 : Int32) ∨ z = (18 : Int32) ∨ z = (19 : Int32) ∨ z = (20 : Int32) ∨ z = (21 : Int32) := by
  rcases (by omega : z.toInt = 0 ∨ 1 ≤ z.toInt) with h | h0
  · exact Or.inl (Int32.toInt_inj.mp (h.trans (by decide)))
  rcases (by omega : z.toInt = 1 ∨ 2 ≤ z.toInt) with h | h0
  · exact Or.inr (Or.inl (Int32.toInt_inj.mp (h.trans (by decide))))
  rcases (by omega : z.toInt = 2 ∨ 3 ≤ z.toInt) with h | h0
  · exact Or.inr (Or.inr (Or.inl (Int32.toInt_inj.mp (h.trans (by decide)))))
  rcases (by omega : z.toInt = 3 ∨ 4 ≤ z.toInt) with h | h0
  · exact Or.inr (Or.inr (Or.inr (Or.inl (Int32.toInt_inj.mp (h.trans (by decide))))))
  rcases (by omega : z.toInt = 4 ∨ 5 ≤ z.toInt) with h | h0
  · exact Or.inr (Or.inr (Or.inr (Or.inr (Or.inl (Int32.toInt_inj.mp (h.trans (by decide)))))))
  rcases (by omega : z.toInt = 5 ∨ 6 ≤ z.toInt) with h | h0
  · exact Or.inr (Or.inr (Or.inr (Or.inr (Or.inr (Or.inl (Int32.toInt_inj.mp (h.trans (by decide))))))))
  rcases (by omega : z.toInt = 6 ∨ 7 ≤ z.toInt) with h | h0
  · exact Or.inr (Or.inr (Or.inr (Or.inr (Or.inr (Or.inr (Or.inl (Int32.toInt_inj.mp (h.trans (by decide)))))))))
  rcases (by omega : z.toInt = 7 ∨ 8 ≤ z.toInt) with h | h0
  · exact Or.inr (Or.inr (Or.inr (Or.inr (Or.inr (Or.inr (Or.inr (Or.inl (Int32.toInt_inj.mp (h.trans (by decide))))))))))
  rcases (by omega : z.toInt = 8 ∨ 9 ≤ z.toInt) with h | h0
  · exact Or.inr (Or.inr (Or.inr (Or.inr (Or.inr (Or.inr (Or.inr (Or.inr (Or.inl (Int32.toInt_inj.mp (h.trans (by decide)))))))))))
  rcases (by omega : z.toInt = 9 ∨ 10 ≤ z.toInt) with h | h0
  · exact Or.inr (Or.inr (Or.inr (Or.inr (Or.inr (Or.inr (Or.inr (Or.inr (Or.inr (Or.inl (Int32.toInt_inj.mp (h.trans (by decide))))))))))))
  rcases (by omega : z.toInt = 10 ∨ 11 ≤ z.toInt) with h | h0
  · exact Or.inr (Or.inr (Or.inr (Or.inr (Or.inr (Or.inr (Or.inr (Or.inr (Or.inr (Or.inr (Or.inl (Int32.toInt_inj.mp (h.trans (by decide)))))))))))))
  rcases (by omega : z.toInt = 11 ∨ 12 ≤ z.toInt) with h | h0
  · exact Or.inr (Or.inr (Or.inr (Or.inr (Or.inr (Or.inr (Or.inr (Or.inr (Or.inr (Or.inr (Or.inr (Or.inl (Int32.toInt_inj.mp (h.trans (by decide))))))))))))))
  rcases (by omega : z.toInt = 12 ∨ 13 ≤ z.toInt) with h | h0
  · exact Or.inr (Or.inr (Or.inr (Or.inr (Or.inr (Or.inr (Or.inr (Or.inr (Or.inr (Or.inr (Or.inr (Or.inr (Or.inl (Int32.toInt_inj.mp (h.trans (by decide)))))))))))))))
  rcases (by omega : z.toInt = 13 ∨ 14 ≤ z.toInt) with h | h0
  · exact Or.inr (Or.inr (Or.inr (Or.inr (Or.inr (Or.inr (Or.inr (Or.inr (Or.inr (Or.inr (Or.inr (Or.inr (Or.inr (Or.inl (Int32.toInt_inj.mp (h.trans (by decide))))))))))))))))
  rcases (by omega : z.toInt = 14 ∨ 15 ≤ z.toInt) with h | h0
  · exact Or.inr (Or.inr (Or.inr (Or.inr (Or.inr (Or.inr (Or.inr (Or.inr (Or.inr (Or.inr (Or.inr (Or.inr (Or.inr (Or.inr (Or.inl (Int32.toInt_inj.mp (h.trans (by decide)))))))))))))))))
  rcases (by omega : z.toInt = 15 ∨ 16 ≤ z.toInt) with h | h0
  · exact Or.inr (Or.inr (Or.inr (Or.inr (Or.inr (Or.inr (Or.inr (Or.inr (Or.inr (Or.inr (Or.inr (Or.inr (Or.inr (Or.inr (Or.inr (Or.inl (Int32.toInt_inj.mp (h.trans (by decide))))))))))))))))))
  rcases (by omega : z.toInt = 16 ∨ 17 ≤ z.toInt) with h | h0
  · exact Or.inr (Or.inr (Or.inr (Or.inr (Or.inr (Or.inr (Or.inr (Or.inr (Or.inr (Or.inr (Or.inr (Or.inr (Or.inr (Or.inr (Or.inr (Or.inr (Or.inl (Int32.toInt_inj.mp (h.trans (by decide)))))))))))))))))))
  rcases (by omega : z.toInt = 17 ∨ 18 ≤ z.toInt) with h | h0
  · exact Or.inr (Or.inr (Or.inr (Or.inr (Or.inr (Or.inr (Or.inr (Or.inr (Or.inr (Or.inr (Or.inr (Or.inr (Or.inr (Or.inr (Or.inr (Or.inr (Or.inr (Or.inl (Int32.toInt_inj.mp (h.trans (by decide))))))))))))))))))))
  rcases (by omega : z.toInt = 18 ∨ 19 ≤ z.toInt) with h | h0
  · exact Or.inr (Or.inr (Or.inr (Or.inr (Or.inr (Or.inr (Or.inr (Or.inr (Or.inr (Or.inr (Or.inr (Or.inr (Or.inr (Or.inr (Or.inr (Or.inr (Or.inr (Or.inr (Or.inl (Int32.toInt_inj.mp (h.trans (by decide)))))))))))))))))))))
  rcases (by omega : z.toInt = 19 ∨ 20 ≤ z.toInt) with h | h0
  · exact Or.inr (Or.inr (Or.inr (Or.inr (Or.inr (Or.inr (Or.inr (Or.inr (Or.inr (Or.inr (Or.inr (Or.inr (Or.inr (Or.inr (Or.inr (Or.inr (Or.inr (Or.inr (Or.inr (Or.inl (Int32.toInt_inj.mp (h.trans (by decide))))))))))))))))))))))
  rcases (by omega : z.toInt = 20 ∨ 21 ≤ z.toInt) with h | h0
  · exact Or.inr (Or.inr (Or.inr (Or.inr (Or.inr (Or.inr (Or.inr (Or.inr (Or.inr (Or.inr (Or.inr (Or.inr (Or.inr (Or.inr (Or.inr (Or.inr (Or.inr (Or.inr (Or.inr (Or.inr (Or.inl (Int32.toInt_inj.mp (h.trans (by decide)))))))))))))))))))))))
  have h : z.toInt = 21 := by omega
  exact Or.inr (Or.inr (Or.inr (Or.inr (Or.inr (Or.inr (Or.inr (Or.inr (Or.inr (Or.inr (Or.inr (Or.inr (Or.inr (Or.inr (Or.inr (Or.inr (Or.inr (Or.inr (Or.inr (Or.inr (Or.inr ((Int32.toInt_inj.mp (h.trans (by decide))))))))))))))))))))))))
theorem d_prog_45_method_6_code_0 : decode prog_45_method_6_code 0 = .ok (.aload_n 0, 1) := by decide +kernel
theorem d_prog_45_method_6_code_1 : decode prog_45_method_6_code 1 = .ok (.getstatic 13, 3) := by decide +kernel
theorem d_prog_45_method_6_code_4 : decode prog_45_method_6_code 4 = .ok (.if_acmp .eq 10, 3) := by decide +kernel
theorem d_prog_45_method_6_code_7 : decode prog_45_method_6_code 7 = .ok (.aload_n 0, 1) := by decide +kernel
theorem d_prog_45_method_6_code_8 : decode prog_45_method_6_code 8 = .ok (.getstatic 43, 3) := by decide +kernel
theorem d_prog_45_method_6_code_11 : decode prog_45_method_6_code 11 = .ok (.if_acmp .ne 7, 3) := by decide +kernel
theorem d_prog_45_method_6_code_18 : decode prog_45_method_6_code 18 = .ok (.iconst 0, 1) := by decide +kernel
theorem d_prog_45_method_6_code_19 : decode prog_45_method_6_code 19 = .ok (.ireturn, 1) := by decide +kernel
theorem pn_com_example_shapewright_shapewright_model_ShapeType : plainName "com/example/shapewright/shapewright/model/ShapeType" = true := by first | (simp [plainName, overriddenIn]; done) | decide +kernel
theorem ef_rm_isString_1 (m : MethodId) (w_BLOB : Addr) : entryFrame m #[(.ref w_BLOB)] 1 = mkF m 0 #[.val (.ref w_BLOB)] [] := by first | (simp [entryFrame, mkF, argsToLocals, Value.category]; done) | rfl
def Q_rm_isString_1 (Z : State) (w_STRING : Addr) (w_BLOB : Addr) (w_ENUM : Addr) (h0 : Heap) (n0 : Nat) (v : Option Value) (h : Heap) (L : List Loc) : Prop := v = some (.int (0 : Int32)) ∧ Fr n0 L ∧ h = h0
set_option maxRecDepth 65536 in
set_option maxHeartbeats 40000000 in
theorem rm_isString_1 (l : Launch) (Z : State) (a0 : Array Value) (hw : ∀ d ∈ tables_1, d.before a0 Z = true) (ws : List Jvm.Cond) (w_STRING : Addr) (w_BLOB : Addr) (w_ENUM : Addr) (h0 : Heap) (n0 : Nat) (O0 : Old Z n0 h0)  (S_STRING : Sta Z Z.heap "com/example/shapewright/shapewright/model/ShapeType" "STRING" "Lcom/example/shapewright/shapewright/model/ShapeType;" (.ref w_STRING)) (F_ordinal_BLOB : Fld Z Z.heap w_BLOB "java/lang/Enum" "ordinal" "I" (.int (0 : Int32))) (F_ordinal_STRING : Fld Z Z.heap w_STRING "java/lang/Enum" "ordinal" "I" (.int (3 : Int32))) (S_ENUM : Sta Z Z.heap "com/example/shapewright/shapewright/model/ShapeType" "ENUM" "Lcom/example/shapewright/shapewright/model/ShapeType;" (.ref w_ENUM)) (F_ordinal_ENUM : Fld Z Z.heap w_ENUM "java/lang/Enum" "ordinal" "I" (.int (13 : Int32))) :
    MetFree l (⟨"com/example/shapewright/shapewright/model/ShapeType", "isString", "()Z"⟩ : MethodName) (head1 (Jvm.Cond.code (⟨"com/example/shapewright/shapewright/model/ShapeType", "isString", "()Z"⟩ : MethodName) prog_45_method_6_code 1 (some .boolean) :: ws) ({ frames := 0, cells := 0, slots := 0, locals := 0 } : Room)) (fun a U => a = #[(.ref w_BLOB)] ∧ Z.Warmed39 U.vm ∧ U.heap = h0) (fun _ _ _ _ _ => True) (fun _ U o U' => ∃ v L, o = .returned v ∧ Q_rm_isString_1 Z w_STRING w_BLOB w_ENUM h0 n0 v U'.heap L ∧ FrameEnd U o U' L ({ frames := 0, cells := 0, slots := 0, locals := 0 } : Room).cells ({ frames := 0, cells := 0, slots := 0, locals := 0 } : Room).slots) := by
  refine MetFree.of_bodySF (plainFor_of_name pn_com_example_shapewright_shapewright_model_ShapeType) hisR ?_
  intro p e s m args below meth c s₁ Bd hml0 hP hK
  obtain ⟨rfl, hZ, hh⟩ := hP
  have hx := Bd.exec
  have hby := Bd.bytes
  have hml : c.maxLocals = 1 := hml0
  have hown : s.vm.findClass "com/example/shapewright/shapewright/model/ShapeType" = some m.cls := findClass_of_methodNamed Bd.named
  have hnm := (name_of_methodNamed Bd.named Bd.method).1
  have X0 : Stand p l e ({ frames := 0, cells := 0, slots := 0, locals := 0 } : Room) s m #[(.ref w_BLOB)] below meth c s₁ [] 0 0 := Stand.of_body Bd
  have e0 : s₁.heap = h0 := by rw [← hh, Bd.state]; rfl
  have N0 := Fr.nil n0
  have pre0 : ∀ t, Steps p.tables e below (s₁.setTop (mkF m 0 #[.val (.ref w_BLOB)] [])) t → Steps p.tables e below (s₁.setTop (entryFrame m #[(.ref w_BLOB)] 1)) t := fun t k => castTop (ef_rm_isString_1 m w_BLOB) k
  have K0 := Keep.refl h0 []
  obtain ⟨T74, X74, e74, st74⟩ := getS2 X0 hx hZ hown (host := "") (Or.inl (hw _ (List.mem_of_getElem? (i := 54) rfl))) Via.refl e0 (S_STRING.ext O0.2) (g := (mkF m 1 #[.val (.ref w_BLOB)] [(.ref w_BLOB)])) rfl (hb hby d_prog_45_method_6_code_1)
  obtain ⟨T75, X75, e75, st75⟩ := getS2 X74 hx hZ hown (host := "") (Or.inl (hw _ (List.mem_of_getElem? (i := 55) rfl))) Via.refl e74 (S_ENUM.ext O0.2) (g := (mkF m 8 #[.val (.ref w_BLOB)] [(.ref w_BLOB)])) rfl (hb hby d_prog_45_method_6_code_8)
  have pre76 : ∀ t, Steps p.tables e below (T75.setTop (mkF m 19 #[.val (.ref w_BLOB)] [(.int (0 : Int32))])) t → Steps p.tables e below (s₁.setTop (entryFrame m #[(.ref w_BLOB)] 1)) t := by
    intro t kt
    refine pre0 t ?_
    show Steps p.tables e below (s₁.setTop (mkF m 0 #[.val (.ref w_BLOB)] [])) _
    refine XS.aloadN X0.here hx rfl (hb hby d_prog_45_method_6_code_0) rfl rfl ?_
    show Steps p.tables e below (s₁.setTop (mkF m 1 #[.val (.ref w_BLOB)] [(.ref w_BLOB)])) _
    refine st74 _ ?_
    show Steps p.tables e below (T74.setTop (mkF m 4 #[.val (.ref w_BLOB)] [(.ref w_STRING), (.ref w_BLOB)])) _
    refine Jvm.RoadKit.acmp (g := (mkF m 4 #[.val (.ref w_BLOB)] [(.ref w_STRING), (.ref w_BLOB)])) X74 hx rfl rfl rfl (pc0 := 4) (pc' := 7) (same := false) rfl (hb hby d_prog_45_method_6_code_4) rfl (decide_eq_false fun q => (Fld.ne F_ordinal_BLOB F_ordinal_STRING (fun q => absurd (Value.int.inj q) (by decide))) (Value.ref.inj q)) (by decide) (by decide) ?_
    show Steps p.tables e below (T74.setTop (mkF m 7 #[.val (.ref w_BLOB)] [])) _
    refine XS.aloadN X74.here hx rfl (hb hby d_prog_45_method_6_code_7) rfl rfl ?_
    show Steps p.tables e below (T74.setTop (mkF m 8 #[.val (.ref w_BLOB)] [(.ref w_BLOB)])) _
    refine st75 _ ?_
    show Steps p.tables e below (T75.setTop (mkF m 11 #[.val (.ref w_BLOB)] [(.ref w_ENUM), (.ref w_BLOB)])) _
    refine Jvm.RoadKit.acmp (g := (mkF m 11 #[.val (.ref w_BLOB)] [(.ref w_ENUM), (.ref w_BLOB)])) X75 hx rfl rfl rfl (pc0 := 11) (pc' := 18) (same := false) rfl (hb hby d_prog_45_method_6_code_11) rfl (decide_eq_false fun q => (Fld.ne F_ordinal_BLOB F_ordinal_ENUM (fun q => absurd (Value.int.inj q) (by decide))) (Value.ref.inj q)) (by decide) (by decide) ?_
    show Steps p.tables e below (T75.setTop (mkF m 18 #[.val (.ref w_BLOB)] [])) _
    refine XS.iconst X75.here hx rfl (hb hby d_prog_45_method_6_code_18) ?_
    exact kt
  obtain ⟨fs, hr, hrun, hended, hW, hsame⟩ := X75.leave (v := some (.int (0 : Int32))) (fun h => by rw [Bd.returns] at h; cases h)
  refine ⟨_, _, pre76 _ ?_, hrun, hended, _, _, rfl, ?_, ⟨_, rfl⟩, hW, hsame.mono (by decide) (by decide)⟩
  · show Steps p.tables e below (T75.setTop (mkF m 19 #[.val (.ref w_BLOB)] [(.int (0 : Int32))])) _
    exact retN X75 hx (t := .boolean) Bd.returns (by simp) (hb hby d_prog_45_method_6_code_19) hr
  · show Q_rm_isString_1 Z w_STRING w_BLOB w_ENUM h0 n0 _ T75.heap _
    rw [e75]
    exact ⟨rfl, N0, rfl⟩
theorem ef_rm_isString_2 (m : MethodId) (w_BOOLEAN : Addr) : entryFrame m #[(.ref w_BOOLEAN)] 1 = mkF m 0 #[.val (.ref w_BOOLEAN)] [] := by first | (simp [entryFrame, mkF, argsToLocals, Value.category]; done) | rfl
def Q_rm_isString_2 (Z : State) (w_STRING : Addr) (w_BOOLEAN : Addr) (w_ENUM : Addr) (h0 : Heap) (n0 : Nat) (v : Option Value) (h : Heap) (L : List Loc) : Prop := v = some (.int (0 : Int32)) ∧ Fr n0 L ∧ h = h0
set_option maxRecDepth 65536 in
set_option maxHeartbeats 40000000 in
theorem rm_isString_2 (l : Launch) (Z : State) (a0 : Array Value) (hw : ∀ d ∈ tables_1, d.before a0 Z = true) (ws : List Jvm.Cond) (w_STRING : Addr) (w_BOOLEAN : Addr) (w_ENUM : Addr) (h0 : Heap) (n0 : Nat) (O0 : Old Z n0 h0)  (S_STRING : Sta Z Z.heap "com/example/shapewright/shapewright/model/ShapeType" "STRING" "Lcom/example/shapewright/shapewright/model/ShapeType;" (.ref w_STRING)) (F_ordinal_BOOLEAN : Fld Z Z.heap w_BOOLEAN "java/lang/Enum" "ordinal" "I" (.int (1 : Int32))) (F_ordinal_STRING : Fld Z Z.heap w_STRING "java/lang/Enum" "ordinal" "I" (.int (3 : Int32))) (S_ENUM : Sta Z Z.heap "com/example/shapewright/shapewright/model/ShapeType" "ENUM" "Lcom/example/shapewright/shapewright/model/ShapeType;" (.ref w_ENUM)) (F_ordinal_ENUM : Fld Z Z.heap w_ENUM "java/lang/Enum" "ordinal" "I" (.int (13 : Int32))) :
    MetFree l (⟨"com/example/shapewright/shapewright/model/ShapeType", "isString", "()Z"⟩ : MethodName) (head1 (Jvm.Cond.code (⟨"com/example/shapewright/shapewright/model/ShapeType", "isString", "()Z"⟩ : MethodName) prog_45_method_6_code 1 (some .boolean) :: ws) ({ frames := 0, cells := 0, slots := 0, locals := 0 } : Room)) (fun a U => a = #[(.ref w_BOOLEAN)] ∧ Z.Warmed39 U.vm ∧ U.heap = h0) (fun _ _ _ _ _ => True) (fun _ U o U' => ∃ v L, o = .returned v ∧ Q_rm_isString_2 Z w_STRING w_BOOLEAN w_ENUM h0 n0 v U'.heap L ∧ FrameEnd U o U' L ({ frames := 0, cells := 0, slots := 0, locals := 0 } : Room).cells ({ frames := 0, cells := 0, slots := 0, locals := 0 } : Room).slots) := by
  refine MetFree.of_bodySF (plainFor_of_name pn_com_example_shapewright_shapewright_model_ShapeType) hisR ?_
  intro p e s m args below meth c s₁ Bd hml0 hP hK
  obtain ⟨rfl, hZ, hh⟩ := hP
  have hx := Bd.exec
  have hby := Bd.bytes
  have hml : c.maxLocals = 1 := hml0
  have hown : s.vm.findClass "com/example/shapewright/shapewright/model/ShapeType" = some m.cls := findClass_of_methodNamed Bd.named
  have hnm := (name_of_methodNamed Bd.named Bd.method).1
  have X0 : Stand p l e ({ frames := 0, cells := 0, slots := 0, locals := 0 } : Room) s m #[(.ref w_BOOLEAN)] below meth c s₁ [] 0 0 := Stand.of_body Bd
  have e0 : s₁.heap = h0 := by rw [← hh, Bd.state]; rfl
  have N0 := Fr.nil n0
  have pre0 : ∀ t, Steps p.tables e below (s₁.setTop (mkF m 0 #[.val (.ref w_BOOLEAN)] [])) t → Steps p.tables e below (s₁.setTop (entryFrame m #[(.ref w_BOOLEAN)] 1)) t := fun t k => castTop (ef_rm_isString_2 m w_BOOLEAN) k
  have K0 := Keep.refl h0 []
  obtain ⟨T84, X84, e84, st84⟩ := getS2 X0 hx hZ hown (host := "") (Or.inl (hw _ (List.mem_of_getElem? (i := 54) rfl))) Via.refl e0 (S_STRING.ext O0.2) (g := (mkF m 1 #[.val (.ref w_BOOLEAN)] [(.ref w_BOOLEAN)])) rfl (hb hby d_prog_45_method_6_code_1)
  obtain ⟨T85, X85, e85, st85⟩ := getS2 X84 hx hZ hown (host := "") (Or.inl (hw _ (List.mem_of_getElem? (i := 55) rfl))) Via.refl e84 (S_ENUM.ext O0.2) (g := (mkF m 8 #[.val (.ref w_BOOLEAN)] [(.ref w_BOOLEAN)])) rfl (hb hby d_prog_45_method_6_code_8)
  have pre86 : ∀ t, Steps p.tables e below (T85.setTop (mkF m 19 #[.val (.ref w_BOOLEAN)] [(.int (0 : Int32))])) t → Steps p.tables e below (s₁.setTop (entryFrame m #[(.ref w_BOOLEAN)] 1)) t := by
    intro t kt
    refine pre0 t ?_
    show Steps p.tables e below (s₁.setTop (mkF m 0 #[.val (.ref w_BOOLEAN)] [])) _
    refine XS.aloadN X0.here hx rfl (hb hby d_prog_45_method_6_code_0) rfl rfl ?_
    show Steps p.tables e below (s₁.setTop (mkF m 1 #[.val (.ref w_BOOLEAN)] [(.ref w_BOOLEAN)])) _
    refine st84 _ ?_
    show Steps p.tables e below (T84.setTop (mkF m 4 #[.val (.ref w_BOOLEAN)] [(.ref w_STRING), (.ref w_BOOLEAN)])) _
    refine Jvm.RoadKit.acmp (g := (mkF m 4 #[.val (.ref w_BOOLEAN)] [(.ref w_STRING), (.ref w_BOOLEAN)])) X84 hx rfl rfl rfl (pc0 := 4) (pc' := 7) (same := false) rfl (hb hby d_prog_45_method_6_code_4) rfl (decide_eq_false fun q => (Fld.ne F_ordinal_BOOLEAN F_ordinal_STRING (fun q => absurd (Value.int.inj q) (by decide))) (Value.ref.inj q)) (by decide) (by decide) ?_
    show Steps p.tables e below (T84.setTop (mkF m 7 #[.val (.ref w_BOOLEAN)] [])) _
    refine XS.aloadN X84.here hx rfl (hb hby d_prog_45_method_6_code_7) rfl rfl ?_
    show Steps p.tables e below (T84.setTop (mkF m 8 #[.val (.ref w_BOOLEAN)] [(.ref w_BOOLEAN)])) _
    refine st85 _ ?_
    show Steps p.tables e below (T85.setTop (mkF m 11 #[.val (.ref w_BOOLEAN)] [(.ref w_ENUM), (.ref w_BOOLEAN)])) _
    refine Jvm.RoadKit.acmp (g := (mkF m 11 #[.val (.ref w_BOOLEAN)] [(.ref w_ENUM), (.ref w_BOOLEAN)])) X85 hx rfl rfl rfl (pc0 := 11) (pc' := 18) (same := false) rfl (hb hby d_prog_45_method_6_code_11) rfl (decide_eq_false fun q => (Fld.ne F_ordinal_BOOLEAN F_ordinal_ENUM (fun q => absurd (Value.int.inj q) (by decide))) (Value.ref.inj q)) (by decide) (by decide) ?_
    show Steps p.tables e below (T85.setTop (mkF m 18 #[.val (.ref w_BOOLEAN)] [])) _
    refine XS.iconst X85.here hx rfl (hb hby d_prog_45_method_6_code_18) ?_
    exact kt
  obtain ⟨fs, hr, hrun, hended, hW, hsame⟩ := X85.leave (v := some (.int (0 : Int32))) (fun h => by rw [Bd.returns] at h; cases h)
  refine ⟨_, _, pre86 _ ?_, hrun, hended, _, _, rfl, ?_, ⟨_, rfl⟩, hW, hsame.mono (by decide) (by decide)⟩
  · show Steps p.tables e below (T85.setTop (mkF m 19 #[.val (.ref w_BOOLEAN)] [(.int (0 : Int32))])) _
    exact retN X85 hx (t := .boolean) Bd.returns (by simp) (hb hby d_prog_45_method_6_code_19) hr
  · show Q_rm_isString_2 Z w_STRING w_BOOLEAN w_ENUM h0 n0 _ T85.heap _
    rw [e85]
    exact ⟨rfl, N0, rfl⟩
theorem ef_rm_isString_3 (m : MethodId) (w_DOCUMENT : Addr) : entryFrame m #[(.ref w_DOCUMENT)] 1 = mkF m 0 #[.val (.ref w_DOCUMENT)] [] := by first | (simp [entryFrame, mkF, argsToLocals, Value.category]; done) | rfl
def Q_rm_isString_3 (Z : State) (w_STRING : Addr) (w_DOCUMENT : Addr) (w_ENUM : Addr) (h0 : Heap) (n0 : Nat) (v : Option Value) (h : Heap) (L : List Loc) : Prop := v = some (.int (0 : Int32)) ∧ Fr n0 L ∧ h = h0
set_option maxRecDepth 65536 in
set_option maxHeartbeats 40000000 in
theorem rm_isString_3 (l : Launch) (Z : State) (a0 : Array Value) (hw : ∀ d ∈ tables_1, d.before a0 Z = true) (ws : List Jvm.Cond) (w_STRING : Addr) (w_DOCUMENT : Addr) (w_ENUM : Addr) (h0 : Heap) (n0 : Nat) (O0 : Old Z n0 h0)  (S_STRING : Sta Z Z.heap "com/example/shapewright/shapewright/model/ShapeType" "STRING" "Lcom/example/shapewright/shapewright/model/ShapeType;" (.ref w_STRING)) (F_ordinal_DOCUMENT : Fld Z Z.heap w_DOCUMENT "java/lang/Enum" "ordinal" "I" (.int (2 : Int32))) (F_ordinal_STRING : Fld Z Z.heap w_STRING "java/lang/Enum" "ordinal" "I" (.int (3 : Int32))) (S_ENUM : Sta Z Z.heap "com/example/shapewright/shapewright/model/ShapeType" "ENUM" "Lcom/example/shapewright/shapewright/model/ShapeType;" (.ref w_ENUM)) (F_ordinal_ENUM : Fld Z Z.heap w_ENUM "java/lang/Enum" "ordinal" "I" (.int (13 : Int32))) :
    MetFree l (⟨"com/example/shapewright/shapewright/model/ShapeType", "isString", "()Z"⟩ : MethodName) (head1 (Jvm.Cond.code (⟨"com/example/shapewright/shapewright/model/ShapeType", "isString", "()Z"⟩ : MethodName) prog_45_method_6_code 1 (some .boolean) :: ws) ({ frames := 0, cells := 0, slots := 0, locals := 0 } : Room)) (fun a U => a = #[(.ref w_DOCUMENT)] ∧ Z.Warmed39 U.vm ∧ U.heap = h0) (fun _ _ _ _ _ => True) (fun _ U o U' => ∃ v L, o = .returned v ∧ Q_rm_isString_3 Z w_STRING w_DOCUMENT w_ENUM h0 n0 v U'.heap L ∧ FrameEnd U o U' L ({ frames := 0, cells := 0, slots := 0, locals := 0 } : Room).cells ({ frames := 0, cells := 0, slots := 0, locals := 0 } : Room).slots) := by
  refine MetFree.of_bodySF (plainFor_of_name pn_com_example_shapewright_shapewright_model_ShapeType) hisR ?_
  intro p e s m args below meth c s₁ Bd hml0 hP hK
  obtain ⟨rfl, hZ, hh⟩ := hP
  have hx := Bd.exec
  have hby := Bd.bytes
  have hml : c.maxLocals = 1 := hml0
  have hown : s.vm.findClass "com/example/shapewright/shapewright/model/ShapeType" = some m.cls := findClass_of_methodNamed Bd.named
  have hnm := (name_of_methodNamed Bd.named Bd.method).1
  have X0 : Stand p l e ({ frames := 0, cells := 0, slots := 0, locals := 0 } : Room) s m #[(.ref w_DOCUMENT)] below meth c s₁ [] 0 0 := Stand.of_body Bd
  have e0 : s₁.heap = h0 := by rw [← hh, Bd.state]; rfl
  have N0 := Fr.nil n0
  have pre0 : ∀ t, Steps p.tables e below (s₁.setTop (mkF m 0 #[.val (.ref w_DOCUMENT)] [])) t → Steps p.tables e below (s₁.setTop (entryFrame m #[(.ref w_DOCUMENT)] 1)) t := fun t k => castTop (ef_rm_isString_3 m w_DOCUMENT) k
  have K0 := Keep.refl h0 []
  obtain ⟨T94, X94, e94, st94⟩ := getS2 X0 hx hZ hown (host := "") (Or.inl (hw _ (List.mem_of_getElem? (i := 54) rfl))) Via.refl e0 (S_STRING.ext O0.2) (g := (mkF m 1 #[.val (.ref w_DOCUMENT)] [(.ref w_DOCUMENT)])) rfl (hb hby d_prog_45_method_6_code_1)
  obtain ⟨T95, X95, e95, st95⟩ := getS2 X94 hx hZ hown (host := "") (Or.inl (hw _ (List.mem_of_getElem? (i := 55) rfl))) Via.refl e94 (S_ENUM.ext O0.2) (g := (mkF m 8 #[.val (.ref w_DOCUMENT)] [(.ref w_DOCUMENT)])) rfl (hb hby d_prog_45_method_6_code_8)
  have pre96 : ∀ t, Steps p.tables e below (T95.setTop (mkF m 19 #[.val (.ref w_DOCUMENT)] [(.int (0 : Int32))])) t → Steps p.tables e below (s₁.setTop (entryFrame m #[(.ref w_DOCUMENT)] 1)) t := by
    intro t kt
    refine pre0 t ?_
    show Steps p.tables e below (s₁.setTop (mkF m 0 #[.val (.ref w_DOCUMENT)] [])) _
    refine XS.aloadN X0.here hx rfl (hb hby d_prog_45_method_6_code_0) rfl rfl ?_
    show Steps p.tables e below (s₁.setTop (mkF m 1 #[.val (.ref w_DOCUMENT)] [(.ref w_DOCUMENT)])) _
    refine st94 _ ?_
    show Steps p.tables e below (T94.setTop (mkF m 4 #[.val (.ref w_DOCUMENT)] [(.ref w_STRING), (.ref w_DOCUMENT)])) _
    refine Jvm.RoadKit.acmp (g := (mkF m 4 #[.val (.ref w_DOCUMENT)] [(.ref w_STRING), (.ref w_DOCUMENT)])) X94 hx rfl rfl rfl (pc0 := 4) (pc' := 7) (same := false) rfl (hb hby d_prog_45_method_6_code_4) rfl (decide_eq_false fun q => (Fld.ne F_ordinal_DOCUMENT F_ordinal_STRING (fun q => absurd (Value.int.inj q) (by decide))) (Value.ref.inj q)) (by decide) (by decide) ?_
    show Steps p.tables e below (T94.setTop (mkF m 7 #[.val (.ref w_DOCUMENT)] [])) _
    refine XS.aloadN X94.here hx rfl (hb hby d_prog_45_method_6_code_7) rfl rfl ?_
    show Steps p.tables e below (T94.setTop (mkF m 8 #[.val (.ref w_DOCUMENT)] [(.ref w_DOCUMENT)])) _
    refine st95 _ ?_
    show Steps p.tables e below (T95.setTop (mkF m 11 #[.val (.ref w_DOCUMENT)] [(.ref w_ENUM), (.ref w_DOCUMENT)])) _
    refine Jvm.RoadKit.acmp (g := (mkF m 11 #[.val (.ref w_DOCUMENT)] [(.ref w_ENUM), (.ref w_DOCUMENT)])) X95 hx rfl rfl rfl (pc0 := 11) (pc' := 18) (same := false) rfl (hb hby d_prog_45_method_6_code_11) rfl (decide_eq_false fun q => (Fld.ne F_ordinal_DOCUMENT F_ordinal_ENUM (fun q => absurd (Value.int.inj q) (by decide))) (Value.ref.inj q)) (by decide) (by decide) ?_
    show Steps p.tables e below (T95.setTop (mkF m 18 #[.val (.ref w_DOCUMENT)] [])) _
    refine XS.iconst X95.here hx rfl (hb hby d_prog_45_method_6_code_18) ?_
    exact kt
  obtain ⟨fs, hr, hrun, hended, hW, hsame⟩ := X95.leave (v := some (.int (0 : Int32))) (fun h => by rw [Bd.returns] at h; cases h)
  refine ⟨_, _, pre96 _ ?_, hrun, hended, _, _, rfl, ?_, ⟨_, rfl⟩, hW, hsame.mono (by decide) (by decide)⟩
  · show Steps p.tables e below (T95.setTop (mkF m 19 #[.val (.ref w_DOCUMENT)] [(.int (0 : Int32))])) _
    exact retN X95 hx (t := .boolean) Bd.returns (by simp) (hb hby d_prog_45_method_6_code_19) hr
  · show Q_rm_isString_3 Z w_STRING w_DOCUMENT w_ENUM h0 n0 _ T95.heap _
    rw [e95]
    exact ⟨rfl, N0, rfl⟩
theorem d_prog_45_method_6_code_14 : decode prog_45_method_6_code 14 = .ok (.iconst 1, 1) := by decide +kernel
theorem d_prog_45_method_6_code_15 : decode prog_45_method_6_code 15 = .ok (.goto 4, 3) := by decide +kernel
theorem ef_rm_isString_4 (m : MethodId) (w_STRING : Addr) : entryFrame m #[(.ref w_STRING)] 1 = mkF m 0 #[.val (.ref w_STRING)] [] := by first | (simp [entryFrame, mkF, argsToLocals, Value.category]; done) | rfl
def Q_rm_isString_4 (Z : State) (w_STRING : Addr) (h0 : Heap) (n0 : Nat) (v : Option Value) (h : Heap) (L : List Loc) : Prop := v = some (.int (1 : Int32)) ∧ Fr n0 L ∧ h = h0
set_option maxRecDepth 65536 in
set_option maxHeartbeats 40000000 in
theorem rm_isString_4 (l : Launch) (Z : State) (a0 : Array Value) (hw : ∀ d ∈ tables_1, d.before a0 Z = true) (ws : List Jvm.Cond) (w_STRING : Addr) (h0 : Heap) (n0 : Nat) (O0 : Old Z n0 h0)  (S_STRING : Sta Z Z.heap "com/example/shapewright/shapewright/model/ShapeType" "STRING" "Lcom/example/shapewright/shapewright/model/ShapeType;" (.ref w_STRING)) :
    MetFree l (⟨"com/example/shapewright/shapewright/model/ShapeType", "isString", "()Z"⟩ : MethodName) (head1 (Jvm.Cond.code (⟨"com/example/shapewright/shapewright/model/ShapeType", "isString", "()Z"⟩ : MethodName) prog_45_method_6_code 1 (some .boolean) :: ws) ({ frames := 0, cells := 0, slots := 0, locals := 0 } : Room)) (fun a U => a = #[(.ref w_STRING)] ∧ Z.Warmed39 U.vm ∧ U.heap = h0) (fun _ _ _ _ _ => True) (fun _ U o U' => ∃ v L, o = .returned v ∧ Q_rm_isString_4 Z w_STRING h0 n0 v U'.heap L ∧ FrameEnd U o U' L ({ frames := 0, cells := 0, slots := 0, locals := 0 } : Room).cells ({ frames := 0, cells := 0, slots := 0, locals := 0 } : Room).slots) := by
  refine MetFree.of_bodySF (plainFor_of_name pn_com_example_shapewright_shapewright_model_ShapeType) hisR ?_
  intro p e s m args below meth c s₁ Bd hml0 hP hK
  obtain ⟨rfl, hZ, hh⟩ := hP
  have hx := Bd.exec
  have hby := Bd.bytes
  have hml : c.maxLocals = 1 := hml0
  have hown : s.vm.findClass "com/example/shapewright/shapewright/model/ShapeType" = some m.cls := findClass_of_methodNamed Bd.named
  have hnm := (name_of_methodNamed Bd.named Bd.method).1
  have X0 : Stand p l e ({ frames := 0, cells := 0, slots := 0, locals := 0 } : Room) s m #[(.ref w_STRING)] below meth c s₁ [] 0 0 := Stand.of_body Bd
  have e0 : s₁.heap = h0 := by rw [← hh, Bd.state]; rfl
  have N0 := Fr.nil n0
  have pre0 : ∀ t, Steps p.tables e below (s₁.setTop (mkF m 0 #[.val (.ref w_STRING)] [])) t → Steps p.tables e below (s₁.setTop (entryFrame m #[(.ref w_STRING)] 1)) t := fun t k => castTop (ef_rm_isString_4 m w_STRING) k
  have K0 := Keep.refl h0 []
  obtain ⟨T103, X103, e103, st103⟩ := getS2 X0 hx hZ hown (host := "") (Or.inl (hw _ (List.mem_of_getElem? (i := 54) rfl))) Via.refl e0 (S_STRING.ext O0.2) (g := (mkF m 1 #[.val (.ref w_STRING)] [(.ref w_STRING)])) rfl (hb hby d_prog_45_method_6_code_1)
  have pre104 : ∀ t, Steps p.tables e below (T103.setTop (mkF m 19 #[.val (.ref w_STRING)] [(.int (1 : Int32))])) t → Steps p.tables e below (s₁.setTop (entryFrame m #[(.ref w_STRING)] 1)) t := by
    intro t kt
    refine pre0 t ?_
    show Steps p.tables e below (s₁.setTop (mkF m 0 #[.val (.ref w_STRING)] [])) _
    refine XS.aloadN X0.here hx rfl (hb hby d_prog_45_method_6_code_0) rfl rfl ?_
    show Steps p.tables e below (s₁.setTop (mkF m 1 #[.val (.ref w_STRING)] [(.ref w_STRING)])) _
    refine st103 _ ?_
    show Steps p.tables e below (T103.setTop (mkF m 4 #[.val (.ref w_STRING)] [(.ref w_STRING), (.ref w_STRING)])) _
    refine Jvm.RoadKit.acmp (g := (mkF m 4 #[.val (.ref w_STRING)] [(.ref w_STRING), (.ref w_STRING)])) X103 hx rfl rfl rfl (pc0 := 4) (pc' := 14) (same := true) rfl (hb hby d_prog_45_method_6_code_4) rfl (decide_eq_true rfl) (by decide) (by decide) ?_
    show Steps p.tables e below (T103.setTop (mkF m 14 #[.val (.ref w_STRING)] [])) _
    refine XS.iconst X103.here hx rfl (hb hby d_prog_45_method_6_code_14) ?_
    show Steps p.tables e below (T103.setTop (mkF m 15 #[.val (.ref w_STRING)] [(.int (1 : Int32))])) _
    refine XS.goto X103.here hx rfl (pc0 := 15) (pc' := 19) rfl (hb hby d_prog_45_method_6_code_15) (by decide) (by decide) ?_
    exact kt
  obtain ⟨fs, hr, hrun, hended, hW, hsame⟩ := X103.leave (v := some (.int (1 : Int32))) (fun h => by rw [Bd.returns] at h; cases h)
  refine ⟨_, _, pre104 _ ?_, hrun, hended, _, _, rfl, ?_, ⟨_, rfl⟩, hW, hsame.mono (by decide) (by decide)⟩
  · show Steps p.tables e below (T103.setTop (mkF m 19 #[.val (.ref w_STRING)] [(.int (1 : Int32))])) _
    exact retN X103 hx (t := .boolean) Bd.returns (by simp) (hb hby d_prog_45_method_6_code_19) hr
  · show Q_rm_isString_4 Z w_STRING h0 n0 _ T103.heap _
    rw [e103]
    exact ⟨rfl, N0, rfl⟩
theorem ef_rm_isString_5 (m : MethodId) (w_BYTE : Addr) : entryFrame m #[(.ref w_BYTE)] 1 = mkF m 0 #[.val (.ref w_BYTE)] [] := by first | (simp [entryFrame, mkF, argsToLocals, Value.category]; done) | rfl
def Q_rm_isString_5 (Z : State) (w_STRING : Addr) (w_BYTE : Addr) (w_ENUM : Addr) (h0 : Heap) (n0 : Nat) (v : Option Value) (h : Heap) (L : List Loc) : Prop := v = some (.int (0 : Int32)) ∧ Fr n0 L ∧ h = h0
set_option maxRecDepth 65536 in
set_option maxHeartbeats 40000000 in
theorem rm_isString_5 (l : Launch) (Z : State) (a0 : Array Value) (hw : ∀ d ∈ tables_1, d.before a0 Z = true) (ws : List Jvm.Cond) (w_STRING : Addr) (w_BYTE : Addr) (w_ENUM : Addr) (h0 : Heap) (n0 : Nat) (O0 : Old Z n0 h0)  (S_STRING : Sta Z Z.heap "com/example/shapewright/shapewright/model/ShapeType" "STRING" "Lcom/example/shapewright/shapewright/model/ShapeType;" (.ref w_STRING)) (F_ordinal_BYTE : Fld Z Z.heap w_BYTE "java/lang/Enum" "ordinal" "I" (.int (4 : Int32))) (F_ordinal_STRING : Fld Z Z.heap w_STRING "java/lang/Enum" "ordinal" "I" (.int (3 : Int32))) (S_ENUM : Sta Z Z.heap "com/example/shapewright/shapewright/model/ShapeType" "ENUM" "Lcom/example/shapewright/shapewright/model/ShapeType;" (.ref w_ENUM)) (F_ordinal_ENUM : Fld Z Z.heap w_ENUM "java/lang/Enum" "ordinal" "I" (.int (13 : Int32))) :
    MetFree l (⟨"com/example/shapewright/shapewright/model/ShapeType", "isString", "()Z"⟩ : MethodName) (head1 (Jvm.Cond.code (⟨"com/example/shapewright/shapewright/model/ShapeType", "isString", "()Z"⟩ : MethodName) prog_45_method_6_code 1 (some .boolean) :: ws) ({ frames := 0, cells := 0, slots := 0, locals := 0 } : Room)) (fun a U => a = #[(.ref w_BYTE)] ∧ Z.Warmed39 U.vm ∧ U.heap = h0) (fun _ _ _ _ _ => True) (fun _ U o U' => ∃ v L, o = .returned v ∧ Q_rm_isString_5 Z w_STRING w_BYTE w_ENUM h0 n0 v U'.heap L ∧ FrameEnd U o U' L ({ frames := 0, cells := 0, slots := 0, locals := 0 } : Room).cells ({ frames := 0, cells := 0, slots := 0, locals := 0 } : Room).slots) := by
  refine MetFree.of_bodySF (plainFor_of_name pn_com_example_shapewright_shapewright_model_ShapeType) hisR ?_
  intro p e s m args below meth c s₁ Bd hml0 hP hK
  obtain ⟨rfl, hZ, hh⟩ := hP
  have hx := Bd.exec
  have hby := Bd.bytes
  have hml : c.maxLocals = 1 := hml0
  have hown : s.vm.findClass "com/example/shapewright/shapewright/model/ShapeType" = some m.cls := findClass_of_methodNamed Bd.named
  have hnm := (name_of_methodNamed Bd.named Bd.method).1
  have X0 : Stand p l e ({ frames := 0, cells := 0, slots := 0, locals := 0 } : Room) s m #[(.ref w_BYTE)] below meth c s₁ [] 0 0 := Stand.of_body Bd
  have e0 : s₁.heap = h0 := by rw [← hh, Bd.state]; rfl
  have N0 := Fr.nil n0
  have pre0 : ∀ t, Steps p.tables e below (s₁.setTop (mkF m 0 #[.val (.ref w_BYTE)] [])) t → Steps p.tables e below (s₁.setTop (entryFrame m #[(.ref w_BYTE)] 1)) t := fun t k => castTop (ef_rm_isString_5 m w_BYTE) k
  have K0 := Keep.refl h0 []
  obtain ⟨T112, X112, e112, st112⟩ := getS2 X0 hx hZ hown (host := "") (Or.inl (hw _ (List.mem_of_getElem? (i := 54) rfl))) Via.refl e0 (S_STRING.ext O0.2) (g := (mkF m 1 #[.val (.ref w_BYTE)] [(.ref w_BYTE)])) rfl (hb hby d_prog_45_method_6_code_1)
  obtain ⟨T113, X113, e113, st113⟩ := getS2 X112 hx hZ hown (host := "") (Or.inl (hw _ (List.mem_of_getElem? (i := 55) rfl))) Via.refl e112 (S_ENUM.ext O0.2) (g := (mkF m 8 #[.val (.ref w_BYTE)] [(.ref w_BYTE)])) rfl (hb hby d_prog_45_method_6_code_8)
  have pre114 : ∀ t, Steps p.tables e below (T113.setTop (mkF m 19 #[.val (.ref w_BYTE)] [(.int (0 : Int32))])) t → Steps p.tables e below (s₁.setTop (entryFrame m #[(.ref w_BYTE)] 1)) t := by
    intro t kt
    refine pre0 t ?_
    show Steps p.tables e below (s₁.setTop (mkF m 0 #[.val (.ref w_BYTE)] [])) _
    refine XS.aloadN X0.here hx rfl (hb hby d_prog_45_method_6_code_0) rfl rfl ?_
    show Steps p.tables e below (s₁.setTop (mkF m 1 #[.val (.ref w_BYTE)] [(.ref w_BYTE)])) _
    refine st112 _ ?_
    show Steps p.tables e below (T112.setTop (mkF m 4 #[.val (.ref w_BYTE)] [(.ref w_STRING), (.ref w_BYTE)])) _
    refine Jvm.RoadKit.acmp (g := (mkF m 4 #[.val (.ref w_BYTE)] [(.ref w_STRING), (.ref w_BYTE)])) X112 hx rfl rfl rfl (pc0 := 4) (pc' := 7) (same := false) rfl (hb hby d_prog_45_method_6_code_4) rfl (decide_eq_false fun q => (Fld.ne F_ordinal_BYTE F_ordinal_STRING (fun q => absurd (Value.int.inj q) (by decide))) (Value.ref.inj q)) (by decide) (by decide) ?_
    show Steps p.tables e below (T112.setTop (mkF m 7 #[.val (.ref w_BYTE)] [])) _
    refine XS.aloadN X112.here hx rfl (hb hby d_prog_45_method_6_code_7) rfl rfl ?_
    show Steps p.tables e below (T112.setTop (mkF m 8 #[.val (.ref w_BYTE)] [(.ref w_BYTE)])) _
    refine st113 _ ?_
    show Steps p.tables e below (T113.setTop (mkF m 11 #[.val (.ref w_BYTE)] [(.ref w_ENUM), (.ref w_BYTE)])) _
    refine Jvm.RoadKit.acmp (g := (mkF m 11 #[.val (.ref w_BYTE)] [(.ref w_ENUM), (.ref w_BYTE)])) X113 hx rfl rfl rfl (pc0 := 11) (pc' := 18) (same := false) rfl (hb hby d_prog_45_method_6_code_11) rfl (decide_eq_false fun q => (Fld.ne F_ordinal_BYTE F_ordinal_ENUM (fun q => absurd (Value.int.inj q) (by decide))) (Value.ref.inj q)) (by decide) (by decide) ?_
    show Steps p.tables e below (T113.setTop (mkF m 18 #[.val (.ref w_BYTE)] [])) _
    refine XS.iconst X113.here hx rfl (hb hby d_prog_45_method_6_code_18) ?_
    exact kt
  obtain ⟨fs, hr, hrun, hended, hW, hsame⟩ := X113.leave (v := some (.int (0 : Int32))) (fun h => by rw [Bd.returns] at h; cases h)
  refine ⟨_, _, pre114 _ ?_, hrun, hended, _, _, rfl, ?_, ⟨_, rfl⟩, hW, hsame.mono (by decide) (by decide)⟩
  · show Steps p.tables e below (T113.setTop (mkF m 19 #[.val (.ref w_BYTE)] [(.int (0 : Int32))])) _
    exact retN X113 hx (t := .boolean) Bd.returns (by simp) (hb hby d_prog_45_method_6_code_19) hr
  · show Q_rm_isString_5 Z w_STRING w_BYTE w_ENUM h0 n0 _ T113.heap _
    rw [e113]
    exact ⟨rfl, N0, rfl⟩
theorem ef_rm_isString_6 (m : MethodId) (w_SHORT : Addr) : entryFrame m #[(.ref w_SHORT)] 1 = mkF m 0 #[.val (.ref w_SHORT)] [] := by first | (simp [entryFrame, mkF, argsToLocals, Value.category]; done) | rfl
def Q_rm_isString_6 (Z : State) (w_STRING : Addr) (w_SHORT : Addr) (w_ENUM : Addr) (h0 : Heap) (n0 : Nat) (v : Option Value) (h : Heap) (L : List Loc) : Prop := v = some (.int (0 : Int32)) ∧ Fr n0 L ∧ h = h0
set_option maxRecDepth 65536 in
set_option maxHeartbeats 40000000 in
theorem rm_isString_6 (l : Launch) (Z : State) (a0 : Array Value) (hw : ∀ d ∈ tables_1, d.before a0 Z = true) (ws : List Jvm.Cond) (w_STRING : Addr) (w_SHORT : Addr) (w_ENUM : Addr) (h0 : Heap) (n0 : Nat) (O0 : Old Z n0 h0)  (S_STRING : Sta Z Z.heap "com/example/shapewright/shapewright/model/ShapeType" "STRING" "Lcom/example/shapewright/shapewright/model/ShapeType;" (.ref w_STRING)) (F_ordinal_SHORT : Fld Z Z.heap w_SHORT "java/lang/Enum" "ordinal" "I" (.int (5 : Int32))) (F_ordinal_STRING : Fld Z Z.heap w_STRING "java/lang/Enum" "ordinal" "I" (.int (3 : Int32))) (S_ENUM : Sta Z Z.heap "com/example/shapewright/shapewright/model/ShapeType" "ENUM" "Lcom/example/shapewright/shapewright/model/ShapeType;" (.ref w_ENUM)) (F_ordinal_ENUM : Fld Z Z.heap w_ENUM "java/lang/Enum" "ordinal" "I" (.int (13 : Int32))) :
    MetFree l (⟨"com/example/shapewright/shapewright/model/ShapeType", "isString", "()Z"⟩ : MethodName) (head1 (Jvm.Cond.code (⟨"com/example/shapewright/shapewright/model/ShapeType", "isString", "()Z"⟩ : MethodName) prog_45_method_6_code 1 (some .boolean) :: ws) ({ frames := 0, cells := 0, slots := 0, locals := 0 } : Room)) (fun a U => a = #[(.ref w_SHORT)] ∧ Z.Warmed39 U.vm ∧ U.heap = h0) (fun _ _ _ _ _ => True) (fun _ U o U' => ∃ v L, o = .returned v ∧ Q_rm_isString_6 Z w_STRING w_SHORT w_ENUM h0 n0 v U'.heap L ∧ FrameEnd U o U' L ({ frames := 0, cells := 0, slots := 0, locals := 0 } : Room).cells ({ frames := 0, cells := 0, slots := 0, locals := 0 } : Room).slots) := by
  refine MetFree.of_bodySF (plainFor_of_name pn_com_example_shapewright_shapewright_model_ShapeType) hisR ?_
  intro p e s m args below meth c s₁ Bd hml0 hP hK
  obtain ⟨rfl, hZ, hh⟩ := hP
  have hx := Bd.exec
  have hby := Bd.bytes
  have hml : c.maxLocals = 1 := hml0
  have hown : s.vm.findClass "com/example/shapewright/shapewright/model/ShapeType" = some m.cls := findClass_of_methodNamed Bd.named
  have hnm := (name_of_methodNamed Bd.named Bd.method).1
  have X0 : Stand p l e ({ frames := 0, cells := 0, slots := 0, locals := 0 } : Room) s m #[(.ref w_SHORT)] below meth c s₁ [] 0 0 := Stand.of_body Bd
  have e0 : s₁.heap = h0 := by rw [← hh, Bd.state]; rfl
  have N0 := Fr.nil n0
  have pre0 : ∀ t, Steps p.tables e below (s₁.setTop (mkF m 0 #[.val (.ref w_SHORT)] [])) t → Steps p.tables e below (s₁.setTop (entryFrame m #[(.ref w_SHORT)] 1)) t := fun t k => castTop (ef_rm_isString_6 m w_SHORT) k
  have K0 := Keep.refl h0 []
  obtain ⟨T122, X122, e122, st122⟩ := getS2 X0 hx hZ hown (host := "") (Or.inl (hw _ (List.mem_of_getElem? (i := 54) rfl))) Via.refl e0 (S_STRING.ext O0.2) (g := (mkF m 1 #[.val (.ref w_SHORT)] [(.ref w_SHORT)])) rfl (hb hby d_prog_45_method_6_code_1)
  obtain ⟨T123, X123, e123, st123⟩ := getS2 X122 hx hZ hown (host := "") (Or.inl (hw _ (List.mem_of_getElem? (i := 55) rfl))) Via.refl e122 (S_ENUM.ext O0.2) (g := (mkF m 8 #[.val (.ref w_SHORT)] [(.ref w_SHORT)])) rfl (hb hby d_prog_45_method_6_code_8)
  have pre124 : ∀ t, Steps p.tables e below (T123.setTop (mkF m 19 #[.val (.ref w_SHORT)] [(.int (0 : Int32))])) t → Steps p.tables e below (s₁.setTop (entryFrame m #[(.ref w_SHORT)] 1)) t := by
    intro t kt
    refine pre0 t ?_
    show Steps p.tables e below (s₁.setTop (mkF m 0 #[.val (.ref w_SHORT)] [])) _
    refine XS.aloadN X0.here hx rfl (hb hby d_prog_45_method_6_code_0) rfl rfl ?_
    show Steps p.tables e below (s₁.setTop (mkF m 1 #[.val (.ref w_SHORT)] [(.ref w_SHORT)])) _
    refine st122 _ ?_
    show Steps p.tables e below (T122.setTop (mkF m 4 #[.val (.ref w_SHORT)] [(.ref w_STRING), (.ref w_SHORT)])) _
    refine Jvm.RoadKit.acmp (g := (mkF m 4 #[.val (.ref w_SHORT)] [(.ref w_STRING), (.ref w_SHORT)])) X122 hx rfl rfl rfl (pc0 := 4) (pc' := 7) (same := false) rfl (hb hby d_prog_45_method_6_code_4) rfl (decide_eq_false fun q => (Fld.ne F_ordinal_SHORT F_ordinal_STRING (fun q => absurd (Value.int.inj q) (by decide))) (Value.ref.inj q)) (by decide) (by decide) ?_
    show Steps p.tables e below (T122.setTop (mkF m 7 #[.val (.ref w_SHORT)] [])) _
    refine XS.aloadN X122.here hx rfl (hb hby d_prog_45_method_6_code_7) rfl rfl ?_
    show Steps p.tables e below (T122.setTop (mkF m 8 #[.val (.ref w_SHORT)] [(.ref w_SHORT)])) _
    refine st123 _ ?_
    show Steps p.tables e below (T123.setTop (mkF m 11 #[.val (.ref w_SHORT)] [(.ref w_ENUM), (.ref w_SHORT)])) _
    refine Jvm.RoadKit.acmp (g := (mkF m 11 #[.val (.ref w_SHORT)] [(.ref w_ENUM), (.ref w_SHORT)])) X123 hx rfl rfl rfl (pc0 := 11) (pc' := 18) (same := false) rfl (hb hby d_prog_45_method_6_code_11) rfl (decide_eq_false fun q => (Fld.ne F_ordinal_SHORT F_ordinal_ENUM (fun q => absurd (Value.int.inj q) (by decide))) (Value.ref.inj q)) (by decide) (by decide) ?_
    show Steps p.tables e below (T123.setTop (mkF m 18 #[.val (.ref w_SHORT)] [])) _
    refine XS.iconst X123.here hx rfl (hb hby d_prog_45_method_6_code_18) ?_
    exact kt
  obtain ⟨fs, hr, hrun, hended, hW, hsame⟩ := X123.leave (v := some (.int (0 : Int32))) (fun h => by rw [Bd.returns] at h; cases h)
  refine ⟨_, _, pre124 _ ?_, hrun, hended, _, _, rfl, ?_, ⟨_, rfl⟩, hW, hsame.mono (by decide) (by decide)⟩
  · show Steps p.tables e below (T123.setTop (mkF m 19 #[.val (.ref w_SHORT)] [(.int (0 : Int32))])) _
    exact retN X123 hx (t := .boolean) Bd.returns (by simp) (hb hby d_prog_45_method_6_code_19) hr
  · show Q_rm_isString_6 Z w_STRING w_SHORT w_ENUM h0 n0 _ T123.heap _
    rw [e123]
    exact ⟨rfl, N0, rfl⟩
theorem ef_rm_isString_7 (m : MethodId) (w_INTEGER : Addr) : entryFrame m #[(.ref w_INTEGER)] 1 = mkF m 0 #[.val (.ref w_INTEGER)] [] := by first | (simp [entryFrame, mkF, argsToLocals, Value.category]; done) | rfl
def Q_rm_isString_7 (Z : State) (w_STRING : Addr) (w_INTEGER : Addr) (w_ENUM : Addr) (h0 : Heap) (n0 : Nat) (v : Option Value) (h : Heap) (L : List Loc) : Prop := v = some (.int (0 : Int32)) ∧ Fr n0 L ∧ h = h0
set_option maxRecDepth 65536 in
set_option maxHeartbeats 40000000 in
theorem rm_isString_7 (l : Launch) (Z : State) (a0 : Array Value) (hw : ∀ d ∈ tables_1, d.before a0 Z = true) (ws : List Jvm.Cond) (w_STRING : Addr) (w_INTEGER : Addr) (w_ENUM : Addr) (h0 : Heap) (n0 : Nat) (O0 : Old Z n0 h0)  (S_STRING : Sta Z Z.heap "com/example/shapewright/shapewright/model/ShapeType" "STRING" "Lcom/example/shapewright/shapewright/model/ShapeType;" (.ref w_STRING)) (F_ordinal_INTEGER : Fld Z Z.heap w_INTEGER "java/lang/Enum" "ordinal" "I" (.int (6 : Int32))) (F_ordinal_STRING : Fld Z Z.heap w_STRING "java/lang/Enum" "ordinal" "I" (.int (3 : Int32))) (S_ENUM : Sta Z Z.heap "com/example/shapewright/shapewright/model/ShapeType" "ENUM" "Lcom/example/shapewright/shapewright/model/ShapeType;" (.ref w_ENUM)) (F_ordinal_ENUM : Fld Z Z.heap w_ENUM "java/lang/Enum" "ordinal" "I" (.int (13 : Int32))) :
    MetFree l (⟨"com/example/shapewright/shapewright/model/ShapeType", "isString", "()Z"⟩ : MethodName) (head1 (Jvm.Cond.code (⟨"com/example/shapewright/shapewright/model/ShapeType", "isString", "()Z"⟩ : MethodName) prog_45_method_6_code 1 (some .boolean) :: ws) ({ frames := 0, cells := 0, slots := 0, locals := 0 } : Room)) (fun a U => a = #[(.ref w_INTEGER)] ∧ Z.Warmed39 U.vm ∧ U.heap = h0) (fun _ _ _ _ _ => True) (fun _ U o U' => ∃ v L, o = .returned v ∧ Q_rm_isString_7 Z w_STRING w_INTEGER w_ENUM h0 n0 v U'.heap L ∧ FrameEnd U o U' L ({ frames := 0, cells := 0, slots := 0, locals := 0 } : Room).cells ({ frames := 0, cells := 0, slots := 0, locals := 0 } : Room).slots) := by
  refine MetFree.of_bodySF (plainFor_of_name pn_com_example_shapewright_shapewright_model_ShapeType) hisR ?_
  intro p e s m args below meth c s₁ Bd hml0 hP hK
  obtain ⟨rfl, hZ, hh⟩ := hP
  have hx := Bd.exec
  have hby := Bd.bytes
  have hml : c.maxLocals = 1 := hml0
  have hown : s.vm.findClass "com/example/shapewright/shapewright/model/ShapeType" = some m.cls := findClass_of_methodNamed Bd.named
  have hnm := (name_of_methodNamed Bd.named Bd.method).1
  have X0 : Stand p l e ({ frames := 0, cells := 0, slots := 0, locals := 0 } : Room) s m #[(.ref w_INTEGER)] below meth c s₁ [] 0 0 := Stand.of_body Bd
  have e0 : s₁.heap = h0 := by rw [← hh, Bd.state]; rfl
  have N0 := Fr.nil n0
  have pre0 : ∀ t, Steps p.tables e below (s₁.setTop (mkF m 0 #[.val (.ref w_INTEGER)] [])) t → Steps p.tables e below (s₁.setTop (entryFrame m #[(.ref w_INTEGER)] 1)) t := fun t k => castTop (ef_rm_isString_7 m w_INTEGER) k
  have K0 := Keep.refl h0 []
  obtain ⟨T132, X132, e132, st132⟩ := getS2 X0 hx hZ hown (host := "") (Or.inl (hw _ (List.mem_of_getElem? (i := 54) rfl))) Via.refl e0 (S_STRING.ext O0.2) (g := (mkF m 1 #[.val (.ref w_INTEGER)] [(.ref w_INTEGER)])) rfl (hb hby d_prog_45_method_6_code_1)
  obtain ⟨T133, X133, e133, st133⟩ := getS2 X132 hx hZ hown (host := "") (Or.inl (hw _ (List.mem_of_getElem? (i := 55) rfl))) Via.refl e132 (S_ENUM.ext O0.2) (g := (mkF m 8 #[.val (.ref w_INTEGER)] [(.ref w_INTEGER)])) rfl (hb hby d_prog_45_method_6_code_8)
  have pre134 : ∀ t, Steps p.tables e below (T133.setTop (mkF m 19 #[.val (.ref w_INTEGER)] [(.int (0 : Int32))])) t → Steps p.tables e below (s₁.setTop (entryFrame m #[(.ref w_INTEGER)] 1)) t := by
    intro t kt
    refine pre0 t ?_
    show Steps p.tables e below (s₁.setTop (mkF m 0 #[.val (.ref w_INTEGER)] [])) _
    refine XS.aloadN X0.here hx rfl (hb hby d_prog_45_method_6_code_0) rfl rfl ?_
    show Steps p.tables e below (s₁.setTop (mkF m 1 #[.val (.ref w_INTEGER)] [(.ref w_INTEGER)])) _
    refine st132 _ ?_
    show Steps p.tables e below (T132.setTop (mkF m 4 #[.val (.ref w_INTEGER)] [(.ref w_STRING), (.ref w_INTEGER)])) _
    refine Jvm.RoadKit.acmp (g := (mkF m 4 #[.val (.ref w_INTEGER)] [(.ref w_STRING), (.ref w_INTEGER)])) X132 hx rfl rfl rfl (pc0 := 4) (pc' := 7) (same := false) rfl (hb hby d_prog_45_method_6_code_4) rfl (decide_eq_false fun q => (Fld.ne F_ordinal_INTEGER F_ordinal_STRING (fun q => absurd (Value.int.inj q) (by decide))) (Value.ref.inj q)) (by decide) (by decide) ?_
    show Steps p.tables e below (T132.setTop (mkF m 7 #[.val (.ref w_INTEGER)] [])) _
    refine XS.aloadN X132.here hx rfl (hb hby d_prog_45_method_6_code_7) rfl rfl ?_
    show Steps p.tables e below (T132.setTop (mkF m 8 #[.val (.ref w_INTEGER)] [(.ref w_INTEGER)])) _
    refine st133 _ ?_
    show Steps p.tables e below (T133.setTop (mkF m 11 #[.val (.ref w_INTEGER)] [(.ref w_ENUM), (.ref w_INTEGER)])) _
    refine Jvm.RoadKit.acmp (g := (mkF m 11 #[.val (.ref w_INTEGER)] [(.ref w_ENUM), (.ref w_INTEGER)])) X133 hx rfl rfl rfl (pc0 := 11) (pc' := 18) (same := false) rfl (hb hby d_prog_45_method_6_code_11) rfl (decide_eq_false fun q => (Fld.ne F_ordinal_INTEGER F_ordinal_ENUM (fun q => absurd (Value.int.inj q) (by decide))) (Value.ref.inj q)) (by decide) (by decide) ?_
    show Steps p.tables e below (T133.setTop (mkF m 18 #[.val (.ref w_INTEGER)] [])) _
    refine XS.iconst X133.here hx rfl (hb hby d_prog_45_method_6_code_18) ?_
    exact kt
  obtain ⟨fs, hr, hrun, hended, hW, hsame⟩ := X133.leave (v := some (.int (0 : Int32))) (fun h => by rw [Bd.returns] at h; cases h)
  refine ⟨_, _, pre134 _ ?_, hrun, hended, _, _, rfl, ?_, ⟨_, rfl⟩, hW, hsame.mono (by decide) (by decide)⟩
  · show Steps p.tables e below (T133.setTop (mkF m 19 #[.val (.ref w_INTEGER)] [(.int (0 : Int32))])) _
    exact retN X133 hx (t := .boolean) Bd.returns (by simp) (hb hby d_prog_45_method_6_code_19) hr
  · show Q_rm_isString_7 Z w_STRING w_INTEGER w_ENUM h0 n0 _ T133.heap _
    rw [e133]
    exact ⟨rfl, N0, rfl⟩
theorem ef_rm_isString_8 (m : MethodId) (w_LONG : Addr) : entryFrame m #[(.ref w_LONG)] 1 = mkF m 0 #[.val (.ref w_LONG)] [] := by first | (simp [entryFrame, mkF, argsToLocals, Value.category]; done) | rfl
def Q_rm_isString_8 (Z : State) (w_STRING : Addr) (w_LONG : Addr) (w_ENUM : Addr) (h0 : Heap) (n0 : Nat) (v : Option Value) (h : Heap) (L : List Loc) : Prop := v = some (.int (0 : Int32)) ∧ Fr n0 L ∧ h = h0
set_option maxRecDepth 65536 in
set_option maxHeartbeats 40000000 in
theorem rm_isString_8 (l : Launch) (Z : State) (a0 : Array Value) (hw : ∀ d ∈ tables_1, d.before a0 Z = true) (ws : List Jvm.Cond) (w_STRING : Addr) (w_LONG : Addr) (w_ENUM : Addr) (h0 : Heap) (n0 : Nat) (O0 : Old Z n0 h0)  (S_STRING : Sta Z Z.heap "com/example/shapewright/shapewright/model/ShapeType" "STRING" "Lcom/example/shapewright/shapewright/model/ShapeType;" (.ref w_STRING)) (F_ordinal_LONG : Fld Z Z.heap w_LONG "java/lang/Enum" "ordinal" "I" (.int (7 : Int32))) (F_ordinal_STRING : Fld Z Z.heap w_STRING "java/lang/Enum" "ordinal" "I" (.int (3 : Int32))) (S_ENUM : Sta Z Z.heap "com/example/shapewright/shapewright/model/ShapeType" "ENUM" "Lcom/example/shapewright/shapewright/model/ShapeType;" (.ref w_ENUM)) (F_ordinal_ENUM : Fld Z Z.heap w_ENUM "java/lang/Enum" "ordinal" "I" (.int (13 : Int32))) :
    MetFree l (⟨"com/example/shapewright/shapewright/model/ShapeType", "isString", "()Z"⟩ : MethodName) (head1 (Jvm.Cond.code (⟨"com/example/shapewright/shapewright/model/ShapeType", "isString", "()Z"⟩ : MethodName) prog_45_method_6_code 1 (some .boolean) :: ws) ({ frames := 0, cells := 0, slots := 0, locals := 0 } : Room)) (fun a U => a = #[(.ref w_LONG)] ∧ Z.Warmed39 U.vm ∧ U.heap = h0) (fun _ _ _ _ _ => True) (fun _ U o U' => ∃ v L, o = .returned v ∧ Q_rm_isString_8 Z w_STRING w_LONG w_ENUM h0 n0 v U'.heap L ∧ FrameEnd U o U' L ({ frames := 0, cells := 0, slots := 0, locals := 0 } : Room).cells ({ frames := 0, cells := 0, slots := 0, locals := 0 } : Room).slots) := by
  refine MetFree.of_bodySF (plainFor_of_name pn_com_example_shapewright_shapewright_model_ShapeType) hisR ?_
  intro p e s m args below meth c s₁ Bd hml0 hP hK
  obtain ⟨rfl, hZ, hh⟩ := hP
  have hx := Bd.exec
  have hby := Bd.bytes
  have hml : c.maxLocals = 1 := hml0
  have hown : s.vm.findClass "com/example/shapewright/shapewright/model/ShapeType" = some m.cls := findClass_of_methodNamed Bd.named
  have hnm := (name_of_methodNamed Bd.named Bd.method).1
  have X0 : Stand p l e ({ frames := 0, cells := 0, slots := 0, locals := 0 } : Room) s m #[(.ref w_LONG)] below meth c s₁ [] 0 0 := Stand.of_body Bd
  have e0 : s₁.heap = h0 := by rw [← hh, Bd.state]; rfl
  have N0 := Fr.nil n0
  have pre0 : ∀ t, Steps p.tables e below (s₁.setTop (mkF m 0 #[.val (.ref w_LONG)] [])) t → Steps p.tables e below (s₁.setTop (entryFrame m #[(.ref w_LONG)] 1)) t := fun t k => castTop (ef_rm_isString_8 m w_LONG) k
  have K0 := Keep.refl h0 []
  obtain ⟨T142, X142, e142, st142⟩ := getS2 X0 hx hZ hown (host := "") (Or.inl (hw _ (List.mem_of_getElem? (i := 54) rfl))) Via.refl e0 (S_STRING.ext O0.2) (g := (mkF m 1 #[.val (.ref w_LONG)] [(.ref w_LONG)])) rfl (hb hby d_prog_45_method_6_code_1)
  obtain ⟨T143, X143, e143, st143⟩ := getS2 X142 hx hZ hown (host := "") (Or.inl (hw _ (List.mem_of_getElem? (i := 55) rfl))) Via.refl e142 (S_ENUM.ext O0.2) (g := (mkF m 8 #[.val (.ref w_LONG)] [(.ref w_LONG)])) rfl (hb hby d_prog_45_method_6_code_8)
  have pre144 : ∀ t, Steps p.tables e below (T143.setTop (mkF m 19 #[.val (.ref w_LONG)] [(.int (0 : Int32))])) t → Steps p.tables e below (s₁.setTop (entryFrame m #[(.ref w_LONG)] 1)) t := by
    intro t kt
    refine pre0 t ?_
    show Steps p.tables e below (s₁.setTop (mkF m 0 #[.val (.ref w_LONG)] [])) _
    refine XS.aloadN X0.here hx rfl (hb hby d_prog_45_method_6_code_0) rfl rfl ?_
    show Steps p.tables e below (s₁.setTop (mkF m 1 #[.val (.ref w_LONG)] [(.ref w_LONG)])) _
    refine st142 _ ?_
    show Steps p.tables e below (T142.setTop (mkF m 4 #[.val (.ref w_LONG)] [(.ref w_STRING), (.ref w_LONG)])) _
    refine Jvm.RoadKit.acmp (g := (mkF m 4 #[.val (.ref w_LONG)] [(.ref w_STRING), (.ref w_LONG)])) X142 hx rfl rfl rfl (pc0 := 4) (pc' := 7) (same := false) rfl (hb hby d_prog_45_method_6_code_4) rfl (decide_eq_false fun q => (Fld.ne F_ordinal_LONG F_ordinal_STRING (fun q => absurd (Value.int.inj q) (by decide))) (Value.ref.inj q)) (by decide) (by decide) ?_
    show Steps p.tables e below (T142.setTop (mkF m 7 #[.val (.ref w_LONG)] [])) _
    refine XS.aloadN X142.here hx rfl (hb hby d_prog_45_method_6_code_7) rfl rfl ?_
    show Steps p.tables e below (T142.setTop (mkF m 8 #[.val (.ref w_LONG)] [(.ref w_LONG)])) _
    refine st143 _ ?_
    show Steps p.tables e below (T143.setTop (mkF m 11 #[.val (.ref w_LONG)] [(.ref w_ENUM), (.ref w_LONG)])) _
    refine Jvm.RoadKit.acmp (g := (mkF m 11 #[.val (.ref w_LONG)] [(.ref w_ENUM), (.ref w_LONG)])) X143 hx rfl rfl rfl (pc0 := 11) (pc' := 18) (same := false) rfl (hb hby d_prog_45_method_6_code_11) rfl (decide_eq_false fun q => (Fld.ne F_ordinal_LONG F_ordinal_ENUM (fun q => absurd (Value.int.inj q) (by decide))) (Value.ref.inj q)) (by decide) (by decide) ?_
    show Steps p.tables e below (T143.setTop (mkF m 18 #[.val (.ref w_LONG)] [])) _
    refine XS.iconst X143.here hx rfl (hb hby d_prog_45_method_6_code_18) ?_
    exact kt
  obtain ⟨fs, hr, hrun, hended, hW, hsame⟩ := X143.leave (v := some (.int (0 : Int32))) (fun h => by rw [Bd.returns] at h; cases h)
  refine ⟨_, _, pre144 _ ?_, hrun, hended, _, _, rfl, ?_, ⟨_, rfl⟩, hW, hsame.mono (by decide) (by decide)⟩
  · show Steps p.tables e below (T143.setTop (mkF m 19 #[.val (.ref w_LONG)] [(.int (0 : Int32))])) _
    exact retN X143 hx (t := .boolean) Bd.returns (by simp) (hb hby d_prog_45_method_6_code_19) hr
  · show Q_rm_isString_8 Z w_STRING w_LONG w_ENUM h0 n0 _ T143.heap _
    rw [e143]
    exact ⟨rfl, N0, rfl⟩
theorem ef_rm_isString_9 (m : MethodId) (w_FLOAT : Addr) : entryFrame m #[(.ref w_FLOAT)] 1 = mkF m 0 #[.val (.ref w_FLOAT)] [] := by first | (simp [entryFrame, mkF, argsToLocals, Value.category]; done) | rfl
def Q_rm_isString_9 (Z : State) (w_STRING : Addr) (w_FLOAT : Addr) (w_ENUM : Addr) (h0 : Heap) (n0 : Nat) (v : Option Value) (h : Heap) (L : List Loc) : Prop := v = some (.int (0 : Int32)) ∧ Fr n0 L ∧ h = h0
set_option maxRecDepth 65536 in
set_option maxHeartbeats 40000000 in
theorem rm_isString_9 (l : Launch) (Z : State) (a0 : Array Value) (hw : ∀ d ∈ tables_1, d.before a0 Z = true) (ws : List Jvm.Cond) (w_STRING : Addr) (w_FLOAT : Addr) (w_ENUM : Addr) (h0 : Heap) (n0 : Nat) (O0 : Old Z n0 h0)  (S_STRING : Sta Z Z.heap "com/example/shapewright/shapewright/model/ShapeType" "STRING" "Lcom/example/shapewright/shapewright/model/ShapeType;" (.ref w_STRING)) (F_ordinal_FLOAT : Fld Z Z.heap w_FLOAT "java/lang/Enum" "ordinal" "I" (.int (8 : Int32))) (F_ordinal_STRING : Fld Z Z.heap w_STRING "java/lang/Enum" "ordinal" "I" (.int (3 : Int32))) (S_ENUM : Sta Z Z.heap "com/example/shapewright/shapewright/model/ShapeType" "ENUM" "Lcom/example/shapewright/shapewright/model/ShapeType;" (.ref w_ENUM)) (F_ordinal_ENUM : Fld Z Z.heap w_ENUM "java/lang/Enum" "ordinal" "I" (.int (13 : Int32))) :
    MetFree l (⟨"com/example/shapewright/shapewright/model/ShapeType", "isString", "()Z"⟩ : MethodName) (head1 (Jvm.Cond.code (⟨"com/example/shapewright/shapewright/model/ShapeType", "isString", "()Z"⟩ : MethodName) prog_45_method_6_code 1 (some .boolean) :: ws) ({ frames := 0, cells := 0, slots := 0, locals := 0 } : Room)) (fun a U => a = #[(.ref w_FLOAT)] ∧ Z.Warmed39 U.vm ∧ U.heap = h0) (fun _ _ _ _ _ => True) (fun _ U o U' => ∃ v L, o = .returned v ∧ Q_rm_isString_9 Z w_STRING w_FLOAT w_ENUM h0 n0 v U'.heap L ∧ FrameEnd U o U' L ({ frames := 0, cells := 0, slots := 0, locals := 0 } : Room).cells ({ frames := 0, cells := 0, slots := 0, locals := 0 } : Room).slots) := by
  refine MetFree.of_bodySF (plainFor_of_name pn_com_example_shapewright_shapewright_model_ShapeType) hisR ?_
  intro p e s m args below meth c s₁ Bd hml0 hP hK
  obtain ⟨rfl, hZ, hh⟩ := hP
  have hx := Bd.exec
  have hby := Bd.bytes
  have hml : c.maxLocals = 1 := hml0
  have hown : s.vm.findClass "com/example/shapewright/shapewright/model/ShapeType" = some m.cls := findClass_of_methodNamed Bd.named
  have hnm := (name_of_methodNamed Bd.named Bd.method).1
  have X0 : Stand p l e ({ frames := 0, cells := 0, slots := 0, locals := 0 } : Room) s m #[(.ref w_FLOAT)] below meth c s₁ [] 0 0 := Stand.of_body Bd
  have e0 : s₁.heap = h0 := by rw [← hh, Bd.state]; rfl
  have N0 := Fr.nil n0
  have pre0 : ∀ t, Steps p.tables e below (s₁.setTop (mkF m 0 #[.val (.ref w_FLOAT)] [])) t → Steps p.tables e below (s₁.setTop (entryFrame m #[(.ref w_FLOAT)] 1)) t := fun t k => castTop (ef_rm_isString_9 m w_FLOAT) k
  have K0 := Keep.refl h0 []
  obtain ⟨T152, X152, e152, st152⟩ := getS2 X0 hx hZ hown (host := "") (Or.inl (hw _ (List.mem_of_getElem? (i := 54) rfl))) Via.refl e0 (S_STRING.ext O0.2) (g := (mkF m 1 #[.val (.ref w_FLOAT)] [(.ref w_FLOAT)])) rfl (hb hby d_prog_45_method_6_code_1)
  obtain ⟨T153, X153, e153, st153⟩ := getS2 X152 hx hZ hown (host := "") (Or.inl (hw _ (List.mem_of_getElem? (i := 55) rfl))) Via.refl e152 (S_ENUM.ext O0.2) (g := (mkF m 8 #[.val (.ref w_FLOAT)] [(.ref w_FLOAT)])) rfl (hb hby d_prog_45_method_6_code_8)
  have pre154 : ∀ t, Steps p.tables e below (T153.setTop (mkF m 19 #[.val (.ref w_FLOAT)] [(.int (0 : Int32))])) t → Steps p.tables e below (s₁.setTop (entryFrame m #[(.ref w_FLOAT)] 1)) t := by
    intro t kt
    refine pre0 t ?_
    show Steps p.tables e below (s₁.setTop (mkF m 0 #[.val (.ref w_FLOAT)] [])) _
    refine XS.aloadN X0.here hx rfl (hb hby d_prog_45_method_6_code_0) rfl rfl ?_
    show Steps p.tables e below (s₁.setTop (mkF m 1 #[.val (.ref w_FLOAT)] [(.ref w_FLOAT)])) _
    refine st152 _ ?_
    show Steps p.tables e below (T152.setTop (mkF m 4 #[.val (.ref w_FLOAT)] [(.ref w_STRING), (.ref w_FLOAT)])) _
    refine Jvm.RoadKit.acmp (g := (mkF m 4 #[.val (.ref w_FLOAT)] [(.ref w_STRING), (.ref w_FLOAT)])) X152 hx rfl rfl rfl (pc0 := 4) (pc' := 7) (same := false) rfl (hb hby d_prog_45_method_6_code_4) rfl (decide_eq_false fun q => (Fld.ne F_ordinal_FLOAT F_ordinal_STRING (fun q => absurd (Value.int.inj q) (by decide))) (Value.ref.inj q)) (by decide) (by decide) ?_
    show Steps p.tables e below (T152.setTop (mkF m 7 #[.val (.ref w_FLOAT)] [])) _
    refine XS.aloadN X152.here hx rfl (hb hby d_prog_45_method_6_code_7) rfl rfl ?_
    show Steps p.tables e below (T152.setTop (mkF m 8 #[.val (.ref w_FLOAT)] [(.ref w_FLOAT)])) _
    refine st153 _ ?_
    show Steps p.tables e below (T153.setTop (mkF m 11 #[.val (.ref w_FLOAT)] [(.ref w_ENUM), (.ref w_FLOAT)])) _
    refine Jvm.RoadKit.acmp (g := (mkF m 11 #[.val (.ref w_FLOAT)] [(.ref w_ENUM), (.ref w_FLOAT)])) X153 hx rfl rfl rfl (pc0 := 11) (pc' := 18) (same := false) rfl (hb hby d_prog_45_method_6_code_11) rfl (decide_eq_false fun q => (Fld.ne F_ordinal_FLOAT F_ordinal_ENUM (fun q => absurd (Value.int.inj q) (by decide))) (Value.ref.inj q)) (by decide) (by decide) ?_
    show Steps p.tables e below (T153.setTop (mkF m 18 #[.val (.ref w_FLOAT)] [])) _
    refine XS.iconst X153.here hx rfl (hb hby d_prog_45_method_6_code_18) ?_
    exact kt
  obtain ⟨fs, hr, hrun, hended, hW, hsame⟩ := X153.leave (v := some (.int (0 : Int32))) (fun h => by rw [Bd.returns] at h; cases h)
  refine ⟨_, _, pre154 _ ?_, hrun, hended, _, _, rfl, ?_, ⟨_, rfl⟩, hW, hsame.mono (by decide) (by decide)⟩
  · show Steps p.tables e below (T153.setTop (mkF m 19 #[.val (.ref w_FLOAT)] [(.int (0 : Int32))])) _
    exact retN X153 hx (t := .boolean) Bd.returns (by simp) (hb hby d_prog_45_method_6_code_19) hr
  · show Q_rm_isString_9 Z w_STRING w_FLOAT w_ENUM h0 n0 _ T153.heap _
    rw [e153]
    exact ⟨rfl, N0, rfl⟩
theorem ef_rm_isString_10 (m : MethodId) (w_DOUBLE : Addr) : entryFrame m #[(.ref w_DOUBLE)] 1 = mkF m 0 #[.val (.ref w_DOUBLE)] [] := by first | (simp [entryFrame, mkF, argsToLocals, Value.category]; done) | rfl
def Q_rm_isString_10 (Z : State) (w_STRING : Addr) (w_DOUBLE : Addr) (w_ENUM : Addr) (h0 : Heap) (n0 : Nat) (v : Option Value) (h : Heap) (L : List Loc) : Prop := v = some (.int (0 : Int32)) ∧ Fr n0 L ∧ h = h0
set_option maxRecDepth 65536 in
set_option maxHeartbeats 40000000 in
theorem rm_isString_10 (l : Launch) (Z : State) (a0 : Array Value) (hw : ∀ d ∈ tables_1, d.before a0 Z = true) (ws : List Jvm.Cond) (w_STRING : Addr) (w_DOUBLE : Addr) (w_ENUM : Addr) (h0 : Heap) (n0 : Nat) (O0 : Old Z n0 h0)  (S_STRING : Sta Z Z.heap "com/example/shapewright/shapewright/model/ShapeType" "STRING" "Lcom/example/shapewright/shapewright/model/ShapeType;" (.ref w_STRING)) (F_ordinal_DOUBLE : Fld Z Z.heap w_DOUBLE "java/lang/Enum" "ordinal" "I" (.int (9 : Int32))) (F_ordinal_STRING : Fld Z Z.heap w_STRING "java/lang/Enum" "ordinal" "I" (.int (3 : Int32))) (S_ENUM : Sta Z Z.heap "com/example/shapewright/shapewright/model/ShapeType" "ENUM" "Lcom/example/shapewright/shapewright/model/ShapeType;" (.ref w_ENUM)) (F_ordinal_ENUM : Fld Z Z.heap w_ENUM "java/lang/Enum" "ordinal" "I" (.int (13 : Int32))) :
    MetFree l (⟨"com/example/shapewright/shapewright/model/ShapeType", "isString", "()Z"⟩ : MethodName) (head1 (Jvm.Cond.code (⟨"com/example/shapewright/shapewright/model/ShapeType", "isString", "()Z"⟩ : MethodName) prog_45_method_6_code 1 (some .boolean) :: ws) ({ frames := 0, cells := 0, slots := 0, locals := 0 } : Room)) (fun a U => a = #[(.ref w_DOUBLE)] ∧ Z.Warmed39 U.vm ∧ U.heap = h0) (fun _ _ _ _ _ => True) (fun _ U o U' => ∃ v L, o = .returned v ∧ Q_rm_isString_10 Z w_STRING w_DOUBLE w_ENUM h0 n0 v U'.heap L ∧ FrameEnd U o U' L ({ frames := 0, cells := 0, slots := 0, locals := 0 } : Room).cells ({ frames := 0, cells := 0, slots := 0, locals := 0 } : Room).slots) := by
  refine MetFree.of_bodySF (plainFor_of_name pn_com_example_shapewright_shapewright_model_ShapeType) hisR ?_
  intro p e s m args below meth c s₁ Bd hml0 hP hK
  obtain ⟨rfl, hZ, hh⟩ := hP
  have hx := Bd.exec
  have hby := Bd.bytes
  have hml : c.maxLocals = 1 := hml0
  have hown : s.vm.findClass "com/example/shapewright/shapewright/model/ShapeType" = some m.cls := findClass_of_methodNamed Bd.named
  have hnm := (name_of_methodNamed Bd.named Bd.method).1
  have X0 : Stand p l e ({ frames := 0, cells := 0, slots := 0, locals := 0 } : Room) s m #[(.ref w_DOUBLE)] below meth c s₁ [] 0 0 := Stand.of_body Bd
  have e0 : s₁.heap = h0 := by rw [← hh, Bd.state]; rfl
  have N0 := Fr.nil n0
  have pre0 : ∀ t, Steps p.tables e below (s₁.setTop (mkF m 0 #[.val (.ref w_DOUBLE)] [])) t → Steps p.tables e below (s₁.setTop (entryFrame m #[(.ref w_DOUBLE)] 1)) t := fun t k => castTop (ef_rm_isString_10 m w_DOUBLE) k
  have K0 := Keep.refl h0 []
  obtain ⟨T162, X162, e162, st162⟩ := getS2 X0 hx hZ hown (host := "") (Or.inl (hw _ (List.mem_of_getElem? (i := 54) rfl))) Via.refl e0 (S_STRING.ext O0.2) (g := (mkF m 1 #[.val (.ref w_DOUBLE)] [(.ref w_DOUBLE)])) rfl (hb hby d_prog_45_method_6_code_1)
  obtain ⟨T163, X163, e163, st163⟩ := getS2 X162 hx hZ hown (host := "") (Or.inl (hw _ (List.mem_of_getElem? (i := 55) rfl))) Via.refl e162 (S_ENUM.ext O0.2) (g := (mkF m 8 #[.val (.ref w_DOUBLE)] [(.ref w_DOUBLE)])) rfl (hb hby d_prog_45_method_6_code_8)
  have pre164 : ∀ t, Steps p.tables e below (T163.setTop (mkF m 19 #[.val (.ref w_DOUBLE)] [(.int (0 : Int32))])) t → Steps p.tables e below (s₁.setTop (entryFrame m #[(.ref w_DOUBLE)] 1)) t := by
    intro t kt
    refine pre0 t ?_
    show Steps p.tables e below (s₁.setTop (mkF m 0 #[.val (.ref w_DOUBLE)] [])) _
    refine XS.aloadN X0.here hx rfl (hb hby d_prog_45_method_6_code_0) rfl rfl ?_
    show Steps p.tables e below (s₁.setTop (mkF m 1 #[.val (.ref w_DOUBLE)] [(.ref w_DOUBLE)])) _
    refine st162 _ ?_
    show Steps p.tables e below (T162.setTop (mkF m 4 #[.val (.ref w_DOUBLE)] [(.ref w_STRING), (.ref w_DOUBLE)])) _
    refine Jvm.RoadKit.acmp (g := (mkF m 4 #[.val (.ref w_DOUBLE)] [(.ref w_STRING), (.ref w_DOUBLE)])) X162 hx rfl rfl rfl (pc0 := 4) (pc' := 7) (same := false) rfl (hb hby d_prog_45_method_6_code_4) rfl (decide_eq_false fun q => (Fld.ne F_ordinal_DOUBLE F_ordinal_STRING (fun q => absurd (Value.int.inj q) (by decide))) (Value.ref.inj q)) (by decide) (by decide) ?_
    show Steps p.tables e below (T162.setTop (mkF m 7 #[.val (.ref w_DOUBLE)] [])) _
    refine XS.aloadN X162.here hx rfl (hb hby d_prog_45_method_6_code_7) rfl rfl ?_
    show Steps p.tables e below (T162.setTop (mkF m 8 #[.val (.ref w_DOUBLE)] [(.ref w_DOUBLE)])) _
    refine st163 _ ?_
    show Steps p.tables e below (T163.setTop (mkF m 11 #[.val (.ref w_DOUBLE)] [(.ref w_ENUM), (.ref w_DOUBLE)])) _
    refine Jvm.RoadKit.acmp (g := (mkF m 11 #[.val (.ref w_DOUBLE)] [(.ref w_ENUM), (.ref w_DOUBLE)])) X163 hx rfl rfl rfl (pc0 := 11) (pc' := 18) (same := false) rfl (hb hby d_prog_45_method_6_code_11) rfl (decide_eq_false fun q => (Fld.ne F_ordinal_DOUBLE F_ordinal_ENUM (fun q => absurd (Value.int.inj q) (by decide))) (Value.ref.inj q)) (by decide) (by decide) ?_
    show Steps p.tables e below (T163.setTop (mkF m 18 #[.val (.ref w_DOUBLE)] [])) _
    refine XS.iconst X163.here hx rfl (hb hby d_prog_45_method_6_code_18) ?_
    exact kt
  obtain ⟨fs, hr, hrun, hended, hW, hsame⟩ := X163.leave (v := some (.int (0 : Int32))) (fun h => by rw [Bd.returns] at h; cases h)
  refine ⟨_, _, pre164 _ ?_, hrun, hended, _, _, rfl, ?_, ⟨_, rfl⟩, hW, hsame.mono (by decide) (by decide)⟩
  · show Steps p.tables e below (T163.setTop (mkF m 19 #[.val (.ref w_DOUBLE)] [(.int (0 : Int32))])) _
    exact retN X163 hx (t := .boolean) Bd.returns (by simp) (hb hby d_prog_45_method_6_code_19) hr
  · show Q_rm_isString_10 Z w_STRING w_DOUBLE w_ENUM h0 n0 _ T163.heap _
    rw [e163]
    exact ⟨rfl, N0, rfl⟩
theorem ef_rm_isString_11 (m : MethodId) (w_BIG_INTEGER : Addr) : entryFrame m #[(.ref w_BIG_INTEGER)] 1 = mkF m 0 #[.val (.ref w_BIG_INTEGER)] [] := by first | (simp [entryFrame, mkF, argsToLocals, Value.category]; done) | rfl
def Q_rm_isString_11 (Z : State) (w_STRING : Addr) (w_BIG_INTEGER : Addr) (w_ENUM : Addr) (h0 : Heap) (n0 : Nat) (v : Option Value) (h : Heap) (L : List Loc) : Prop := v = some (.int (0 : Int32)) ∧ Fr n0 L ∧ h = h0
set_option maxRecDepth 65536 in
set_option maxHeartbeats 40000000 in
theorem rm_isString_11 (l : Launch) (Z : State) (a0 : Array Value) (hw : ∀ d ∈ tables_1, d.before a0 Z = true) (ws : List Jvm.Cond) (w_STRING : Addr) (w_BIG_INTEGER : Addr) (w_ENUM : Addr) (h0 : Heap) (n0 : Nat) (O0 : Old Z n0 h0)  (S_STRING : Sta Z Z.heap "com/example/shapewright/shapewright/model/ShapeType" "STRING" "Lcom/example/shapewright/shapewright/model/ShapeType;" (.ref w_STRING)) (F_ordinal_BIG_INTEGER : Fld Z Z.heap w_BIG_INTEGER "java/lang/Enum" "ordinal" "I" (.int (10 : Int32))) (F_ordinal_STRING : Fld Z Z.heap w_STRING "java/lang/Enum" "ordinal" "I" (.int (3 : Int32))) (S_ENUM : Sta Z Z.heap "com/example/shapewright/shapewright/model/ShapeType" "ENUM" "Lcom/example/shapewright/shapewright/model/ShapeType;" (.ref w_ENUM)) (F_ordinal_ENUM : Fld Z Z.heap w_ENUM "java/lang/Enum" "ordinal" "I" (.int (13 : Int32))) :
    MetFree l (⟨"com/example/shapewright/shapewright/model/ShapeType", "isString", "()Z"⟩ : MethodName) (head1 (Jvm.Cond.code (⟨"com/example/shapewright/shapewright/model/ShapeType", "isString", "()Z"⟩ : MethodName) prog_45_method_6_code 1 (some .boolean) :: ws) ({ frames := 0, cells := 0, slots := 0, locals := 0 } : Room)) (fun a U => a = #[(.ref w_BIG_INTEGER)] ∧ Z.Warmed39 U.vm ∧ U.heap = h0) (fun _ _ _ _ _ => True) (fun _ U o U' => ∃ v L, o = .returned v ∧ Q_rm_isString_11 Z w_STRING w_BIG_INTEGER w_ENUM h0 n0 v U'.heap L ∧ FrameEnd U o U' L ({ frames := 0, cells := 0, slots := 0, locals := 0 } : Room).cells ({ frames := 0, cells := 0, slots := 0, locals := 0 } : Room).slots) := by
  refine MetFree.of_bodySF (plainFor_of_name pn_com_example_shapewright_shapewright_model_ShapeType) hisR ?_
  intro p e s m args below meth c s₁ Bd hml0 hP hK
  obtain ⟨rfl, hZ, hh⟩ := hP
  have hx := Bd.exec
  have hby := Bd.bytes
  have hml : c.maxLocals = 1 := hml0
  have hown : s.vm.findClass "com/example/shapewright/shapewright/model/ShapeType" = some m.cls := findClass_of_methodNamed Bd.named
  have hnm := (name_of_methodNamed Bd.named Bd.method).1
  have X0 : Stand p l e ({ frames := 0, cells := 0, slots := 0, locals := 0 } : Room) s m #[(.ref w_BIG_INTEGER)] below meth c s₁ [] 0 0 := Stand.of_body Bd
  have e0 : s₁.heap = h0 := by rw [← hh, Bd.state]; rfl
  have N0 := Fr.nil n0
  have pre0 : ∀ t, Steps p.tables e below (s₁.setTop (mkF m 0 #[.val (.ref w_BIG_INTEGER)] [])) t → Steps p.tables e below (s₁.setTop (entryFrame m #[(.ref w_BIG_INTEGER)] 1)) t := fun t k => castTop (ef_rm_isString_11 m w_BIG_INTEGER) k
  have K0 := Keep.refl h0 []
  obtain ⟨T172, X172, e172, st172⟩ := getS2 X0 hx hZ hown (host := "") (Or.inl (hw _ (List.mem_of_getElem? (i := 54) rfl))) Via.refl e0 (S_STRING.ext O0.2) (g := (mkF m 1 #[.val (.ref w_BIG_INTEGER)] [(.ref w_BIG_INTEGER)])) rfl (hb hby d_prog_45_method_6_code_1)
  obtain ⟨T173, X173, e173, st173⟩ := getS2 X172 hx hZ hown (host := "") (Or.inl (hw _ (List.mem_of_getElem? (i := 55) rfl))) Via.refl e172 (S_ENUM.ext O0.2) (g := (mkF m 8 #[.val (.ref w_BIG_INTEGER)] [(.ref w_BIG_INTEGER)])) rfl (hb hby d_prog_45_method_6_code_8)
  have pre174 : ∀ t, Steps p.tables e below (T173.setTop (mkF m 19 #[.val (.ref w_BIG_INTEGER)] [(.int (0 : Int32))])) t → Steps p.tables e below (s₁.setTop (entryFrame m #[(.ref w_BIG_INTEGER)] 1)) t := by
    intro t kt
    refine pre0 t ?_
    show Steps p.tables e below (s₁.setTop (mkF m 0 #[.val (.ref w_BIG_INTEGER)] [])) _
    refine XS.aloadN X0.here hx rfl (hb hby d_prog_45_method_6_code_0) rfl rfl ?_
    show Steps p.tables e below (s₁.setTop (mkF m 1 #[.val (.ref w_BIG_INTEGER)] [(.ref w_BIG_INTEGER)])) _
    refine st172 _ ?_
    show Steps p.tables e below (T172.setTop (mkF m 4 #[.val (.ref w_BIG_INTEGER)] [(.ref w_STRING), (.ref w_BIG_INTEGER)])) _
    refine Jvm.RoadKit.acmp (g := (mkF m 4 #[.val (.ref w_BIG_INTEGER)] [(.ref w_STRING), (.ref w_BIG_INTEGER)])) X172 hx rfl rfl rfl (pc0 := 4) (pc' := 7) (same := false) rfl (hb hby d_prog_45_method_6_code_4) rfl (decide_eq_false fun q => (Fld.ne F_ordinal_BIG_INTEGER F_ordinal_STRING (fun q => absurd (Value.int.inj q) (by decide))) (Value.ref.inj q)) (by decide) (by decide) ?_
    show Steps p.tables e below (T172.setTop (mkF m 7 #[.val (.ref w_BIG_INTEGER)] [])) _
    refine XS.aloadN X172.here hx rfl (hb hby d_prog_45_method_6_code_7) rfl rfl ?_
    show Steps p.tables e below (T172.setTop (mkF m 8 #[.val (.ref w_BIG_INTEGER)] [(.ref w_BIG_INTEGER)])) _
    refine st173 _ ?_
    show Steps p.tables e below (T173.setTop (mkF m 11 #[.val (.ref w_BIG_INTEGER)] [(.ref w_ENUM), (.ref w_BIG_INTEGER)])) _
    refine Jvm.RoadKit.acmp (g := (mkF m 11 #[.val (.ref w_BIG_INTEGER)] [(.ref w_ENUM), (.ref w_BIG_INTEGER)])) X173 hx rfl rfl rfl (pc0 := 11) (pc' := 18) (same := false) rfl (hb hby d_prog_45_method_6_code_11) rfl (decide_eq_false fun q => (Fld.ne F_ordinal_BIG_INTEGER F_ordinal_ENUM (fun q => absurd (Value.int.inj q) (by decide))) (Value.ref.inj q)) (by decide) (by decide) ?_
    show Steps p.tables e below (T173.setTop (mkF m 18 #[.val (.ref w_BIG_INTEGER)] [])) _
    refine XS.iconst X173.here hx rfl (hb hby d_prog_45_method_6_code_18) ?_
    exact kt
  obtain ⟨fs, hr, hrun, hended, hW, hsame⟩ := X173.leave (v := some (.int (0 : Int32))) (fun h => by rw [Bd.returns] at h; cases h)
  refine ⟨_, _, pre174 _ ?_, hrun, hended, _, _, rfl, ?_, ⟨_, rfl⟩, hW, hsame.mono (by decide) (by decide)⟩
  · show Steps p.tables e below (T173.setTop (mkF m 19 #[.val (.ref w_BIG_INTEGER)] [(.int (0 : Int32))])) _
    exact retN X173 hx (t := .boolean) Bd.returns (by simp) (hb hby d_prog_45_method_6_code_19) hr
  · show Q_rm_isString_11 Z w_STRING w_BIG_INTEGER w_ENUM h0 n0 _ T173.heap _
    rw [e173]
    exact ⟨rfl, N0, rfl⟩
theorem ef_rm_isString_12 (m : MethodId) (w_BIG_DECIMAL : Addr) : entryFrame m #[(.ref w_BIG_DECIMAL)] 1 = mkF m 0 #[.val (.ref w_BIG_DECIMAL)] [] := by first | (simp [entryFrame, mkF, argsToLocals, Value.category]; done) | rfl
def Q_rm_isString_12 (Z : State) (w_STRING : Addr) (w_BIG_DECIMAL : Addr) (w_ENUM : Addr) (h0 : Heap) (n0 : Nat) (v : Option Value) (h : Heap) (L : List Loc) : Prop := v = some (.int (0 : Int32)) ∧ Fr n0 L ∧ h = h0
set_option maxRecDepth 65536 in
set_option maxHeartbeats 40000000 in
theorem rm_isString_12 (l : Launch) (Z : State) (a0 : Array Value) (hw : ∀ d ∈ tables_1, d.before a0 Z = true) (ws : List Jvm.Cond) (w_STRING : Addr) (w_BIG_DECIMAL : Addr) (w_ENUM : Addr) (h0 : Heap) (n0 : Nat) (O0 : Old Z n0 h0)  (S_STRING : Sta Z Z.heap "com/example/shapewright/shapewright/model/ShapeType" "STRING" "Lcom/example/shapewright/shapewright/model/ShapeType;" (.ref w_STRING)) (F_ordinal_BIG_DECIMAL : Fld Z Z.heap w_BIG_DECIMAL "java/lang/Enum" "ordinal" "I" (.int (11 : Int32))) (F_ordinal_STRING : Fld Z Z.heap w_STRING "java/lang/Enum" "ordinal" "I" (.int (3 : Int32))) (S_ENUM : Sta Z Z.heap "com/example/shapewright/shapewright/model/ShapeType" "ENUM" "Lcom/example/shapewright/shapewright/model/ShapeType;" (.ref w_ENUM)) (F_ordinal_ENUM : Fld Z Z.heap w_ENUM "java/lang/Enum" "ordinal" "I" (.int (13 : Int32))) :
    MetFree l (⟨"com/example/shapewright/shapewright/model/ShapeType", "isString", "()Z"⟩ : MethodName) (head1 (Jvm.Cond.code (⟨"com/example/shapewright/shapewright/model/ShapeType", "isString", "()Z"⟩ : MethodName) prog_45_method_6_code 1 (some .boolean) :: ws) ({ frames := 0, cells := 0, slots := 0, locals := 0 } : Room)) (fun a U => a = #[(.ref w_BIG_DECIMAL)] ∧ Z.Warmed39 U.vm ∧ U.heap = h0) (fun _ _ _ _ _ => True) (fun _ U o U' => ∃ v L, o = .returned v ∧ Q_rm_isString_12 Z w_STRING w_BIG_DECIMAL w_ENUM h0 n0 v U'.heap L ∧ FrameEnd U o U' L ({ frames := 0, cells := 0, slots := 0, locals := 0 } : Room).cells ({ frames := 0, cells := 0, slots := 0, locals := 0 } : Room).slots) := by
  refine MetFree.of_bodySF (plainFor_of_name pn_com_example_shapewright_shapewright_model_ShapeType) hisR ?_
  intro p e s m args below meth c s₁ Bd hml0 hP hK
  obtain ⟨rfl, hZ, hh⟩ := hP
  have hx := Bd.exec
  have hby := Bd.bytes
  have hml : c.maxLocals = 1 := hml0
  have hown : s.vm.findClass "com/example/shapewright/shapewright/model/ShapeType" = some m.cls := findClass_of_methodNamed Bd.named
  have hnm := (name_of_methodNamed Bd.named Bd.method).1
  have X0 : Stand p l e ({ frames := 0, cells := 0, slots := 0, locals := 0 } : Room) s m #[(.ref w_BIG_DECIMAL)] below meth c s₁ [] 0 0 := Stand.of_body Bd
  have e0 : s₁.heap = h0 := by rw [← hh, Bd.state]; rfl
  have N0 := Fr.nil n0
  have pre0 : ∀ t, Steps p.tables e below (s₁.setTop (mkF m 0 #[.val (.ref w_BIG_DECIMAL)] [])) t → Steps p.tables e below (s₁.setTop (entryFrame m #[(.ref w_BIG_DECIMAL)] 1)) t := fun t k => castTop (ef_rm_isString_12 m w_BIG_DECIMAL) k
  have K0 := Keep.refl h0 []
  obtain ⟨T182, X182, e182, st182⟩ := getS2 X0 hx hZ hown (host := "") (Or.inl (hw _ (List.mem_of_getElem? (i := 54) rfl))) Via.refl e0 (S_STRING.ext O0.2) (g := (mkF m 1 #[.val (.ref w_BIG_DECIMAL)] [(.ref w_BIG_DECIMAL)])) rfl (hb hby d_prog_45_method_6_code_1)
  obtain ⟨T183, X183, e183, st183⟩ := getS2 X182 hx hZ hown (host := "") (Or.inl (hw _ (List.mem_of_getElem? (i := 55) rfl))) Via.refl e182 (S_ENUM.ext O0.2) (g := (mkF m 8 #[.val (.ref w_BIG_DECIMAL)] [(.ref w_BIG_DECIMAL)])) rfl (hb hby d_prog_45_method_6_code_8)
  have pre184 : ∀ t, Steps p.tables e below (T183.setTop (mkF m 19 #[.val (.ref w_BIG_DECIMAL)] [(.int (0 : Int32))])) t → Steps p.tables e below (s₁.setTop (entryFrame m #[(.ref w_BIG_DECIMAL)] 1)) t := by
    intro t kt
    refine pre0 t ?_
    show Steps p.tables e below (s₁.setTop (mkF m 0 #[.val (.ref w_BIG_DECIMAL)] [])) _
    refine XS.aloadN X0.here hx rfl (hb hby d_prog_45_method_6_code_0) rfl rfl ?_
    show Steps p.tables e below (s₁.setTop (mkF m 1 #[.val (.ref w_BIG_DECIMAL)] [(.ref w_BIG_DECIMAL)])) _
    refine st182 _ ?_
    show Steps p.tables e below (T182.setTop (mkF m 4 #[.val (.ref w_BIG_DECIMAL)] [(.ref w_STRING), (.ref w_BIG_DECIMAL)])) _
    refine Jvm.RoadKit.acmp (g := (mkF m 4 #[.val (.ref w_BIG_DECIMAL)] [(.ref w_STRING), (.ref w_BIG_DECIMAL)])) X182 hx rfl rfl rfl (pc0 := 4) (pc' := 7) (same := false) rfl (hb hby d_prog_45_method_6_code_4) rfl (decide_eq_false fun q => (Fld.ne F_ordinal_BIG_DECIMAL F_ordinal_STRING (fun q => absurd (Value.int.inj q) (by decide))) (Value.ref.inj q)) (by decide) (by decide) ?_
    show Steps p.tables e below (T182.setTop (mkF m 7 #[.val (.ref w_BIG_DECIMAL)] [])) _
    refine XS.aloadN X182.here hx rfl (hb hby d_prog_45_method_6_code_7) rfl rfl ?_
    show Steps p.tables e below (T182.setTop (mkF m 8 #[.val (.ref w_BIG_DECIMAL)] [(.ref w_BIG_DECIMAL)])) _
    refine st183 _ ?_
    show Steps p.tables e below (T183.setTop (mkF m 11 #[.val (.ref w_BIG_DECIMAL)] [(.ref w_ENUM), (.ref w_BIG_DECIMAL)])) _
    refine Jvm.RoadKit.acmp (g := (mkF m 11 #[.val (.ref w_BIG_DECIMAL)] [(.ref w_ENUM), (.ref w_BIG_DECIMAL)])) X183 hx rfl rfl rfl (pc0 := 11) (pc' := 18) (same := false) rfl (hb hby d_prog_45_method_6_code_11) rfl (decide_eq_false fun q => (Fld.ne F_ordinal_BIG_DECIMAL F_ordinal_ENUM (fun q => absurd (Value.int.inj q) (by decide))) (Value.ref.inj q)) (by decide) (by decide) ?_
    show Steps p.tables e below (T183.setTop (mkF m 18 #[.val (.ref w_BIG_DECIMAL)] [])) _
    refine XS.iconst X183.here hx rfl (hb hby d_prog_45_method_6_code_18) ?_
    exact kt
  obtain ⟨fs, hr, hrun, hended, hW, hsame⟩ := X183.leave (v := some (.int (0 : Int32))) (fun h => by rw [Bd.returns] at h; cases h)
  refine ⟨_, _, pre184 _ ?_, hrun, hended, _, _, rfl, ?_, ⟨_, rfl⟩, hW, hsame.mono (by decide) (by decide)⟩
  · show Steps p.tables e below (T183.setTop (mkF m 19 #[.val (.ref w_BIG_DECIMAL)] [(.int (0 : Int32))])) _
    exact retN X183 hx (t := .boolean) Bd.returns (by simp) (hb hby d_prog_45_method_6_code_19) hr
  · show Q_rm_isString_12 Z w_STRING w_BIG_DECIMAL w_ENUM h0 n0 _ T183.heap _
    rw [e183]
    exact ⟨rfl, N0, rfl⟩
theorem ef_rm_isString_13 (m : MethodId) (w_TIMESTAMP : Addr) : entryFrame m #[(.ref w_TIMESTAMP)] 1 = mkF m 0 #[.val (.ref w_TIMESTAMP)] [] := by first | (simp [entryFrame, mkF, argsToLocals, Value.category]; done) | rfl
def Q_rm_isString_13 (Z : State) (w_STRING : Addr) (w_TIMESTAMP : Addr) (w_ENUM : Addr) (h0 : Heap) (n0 : Nat) (v : Option Value) (h : Heap) (L : List Loc) : Prop := v = some (.int (0 : Int32)) ∧ Fr n0 L ∧ h = h0
set_option maxRecDepth 65536 in
set_option maxHeartbeats 40000000 in
theorem rm_isString_13 (l : Launch) (Z : State) (a0 : Array Value) (hw : ∀ d ∈ tables_1, d.before a0 Z = true) (ws : List Jvm.Cond) (w_STRING : Addr) (w_TIMESTAMP : Addr) (w_ENUM : Addr) (h0 : Heap) (n0 : Nat) (O0 : Old Z n0 h0)  (S_STRING : Sta Z Z.heap "com/example/shapewright/shapewright/model/ShapeType" "STRING" "Lcom/example/shapewright/shapewright/model/ShapeType;" (.ref w_STRING)) (F_ordinal_TIMESTAMP : Fld Z Z.heap w_TIMESTAMP "java/lang/Enum" "ordinal" "I" (.int (12 : Int32))) (F_ordinal_STRING : Fld Z Z.heap w_STRING "java/lang/Enum" "ordinal" "I" (.int (3 : Int32))) (S_ENUM : Sta Z Z.heap "com/example/shapewright/shapewright/model/ShapeType" "ENUM" "Lcom/example/shapewright/shapewright/model/ShapeType;" (.ref w_ENUM)) (F_ordinal_ENUM : Fld Z Z.heap w_ENUM "java/lang/Enum" "ordinal" "I" (.int (13 : Int32))) :
    MetFree l (⟨"com/example/shapewright/shapewright/model/ShapeType", "isString", "()Z"⟩ : MethodName) (head1 (Jvm.Cond.code (⟨"com/example/shapewright/shapewright/model/ShapeType", "isString", "()Z"⟩ : MethodName) prog_45_method_6_code 1 (some .boolean) :: ws) ({ frames := 0, cells := 0, slots := 0, locals := 0 } : Room)) (fun a U => a = #[(.ref w_TIMESTAMP)] ∧ Z.Warmed39 U.vm ∧ U.heap = h0) (fun _ _ _ _ _ => True) (fun _ U o U' => ∃ v L, o = .returned v ∧ Q_rm_isString_13 Z w_STRING w_TIMESTAMP w_ENUM h0 n0 v U'.heap L ∧ FrameEnd U o U' L ({ frames := 0, cells := 0, slots := 0, locals := 0 } : Room).cells ({ frames := 0, cells := 0, slots := 0, locals := 0 } : Room).slots) := by
  refine MetFree.of_bodySF (plainFor_of_name pn_com_example_shapewright_shapewright_model_ShapeType) hisR ?_
  intro p e s m args below meth c s₁ Bd hml0 hP hK
  obtain ⟨rfl, hZ, hh⟩ := hP
  have hx := Bd.exec
  have hby := Bd.bytes
  have hml : c.maxLocals = 1 := hml0
  have hown : s.vm.findClass "com/example/shapewright/shapewright/model/ShapeType" = some m.cls := findClass_of_methodNamed Bd.named
  have hnm := (name_of_methodNamed Bd.named Bd.method).1
  have X0 : Stand p l e ({ frames := 0, cells := 0, slots := 0, locals := 0 } : Room) s m #[(.ref w_TIMESTAMP)] below meth c s₁ [] 0 0 := Stand.of_body Bd
  have e0 : s₁.heap = h0 := by rw [← hh, Bd.state]; rfl
  have N0 := Fr.nil n0
  have pre0 : ∀ t, Steps p.tables e below (s₁.setTop (mkF m 0 #[.val (.ref w_TIMESTAMP)] [])) t → Steps p.tables e below (s₁.setTop (entryFrame m #[(.ref w_TIMESTAMP)] 1)) t := fun t k => castTop (ef_rm_isString_13 m w_TIMESTAMP) k
  have K0 := Keep.refl h0 []
  obtain ⟨T192, X192, e192, st192⟩ := getS2 X0 hx hZ hown (host := "") (Or.inl (hw _ (List.mem_of_getElem? (i := 54) rfl))) Via.refl e0 (S_STRING.ext O0.2) (g := (mkF m 1 #[.val (.ref w_TIMESTAMP)] [(.ref w_TIMESTAMP)])) rfl (hb hby d_prog_45_method_6_code_1)
  obtain ⟨T193, X193, e193, st193⟩ := getS2 X192 hx hZ hown (host := "") (Or.inl (hw _ (List.mem_of_getElem? (i := 55) rfl))) Via.refl e192 (S_ENUM.ext O0.2) (g := (mkF m 8 #[.val (.ref w_TIMESTAMP)] [(.ref w_TIMESTAMP)])) rfl (hb hby d_prog_45_method_6_code_8)
  have pre194 : ∀ t, Steps p.tables e below (T193.setTop (mkF m 19 #[.val (.ref w_TIMESTAMP)] [(.int (0 : Int32))])) t → Steps p.tables e below (s₁.setTop (entryFrame m #[(.ref w_TIMESTAMP)] 1)) t := by
    intro t kt
    refine pre0 t ?_
    show Steps p.tables e below (s₁.setTop (mkF m 0 #[.val (.ref w_TIMESTAMP)] [])) _
    refine XS.aloadN X0.here hx rfl (hb hby d_prog_45_method_6_code_0) rfl rfl ?_
    show Steps p.tables e below (s₁.setTop (mkF m 1 #[.val (.ref w_TIMESTAMP)] [(.ref w_TIMESTAMP)])) _
    refine st192 _ ?_
    show Steps p.tables e below (T192.setTop (mkF m 4 #[.val (.ref w_TIMESTAMP)] [(.ref w_STRING), (.ref w_TIMESTAMP)])) _
    refine Jvm.RoadKit.acmp (g := (mkF m 4 #[.val (.ref w_TIMESTAMP)] [(.ref w_STRING), (.ref w_TIMESTAMP)])) X192 hx rfl rfl rfl (pc0 := 4) (pc' := 7) (same := false) rfl (hb hby d_prog_45_method_6_code_4) rfl (decide_eq_false fun q => (Fld.ne F_ordinal_TIMESTAMP F_ordinal_STRING (fun q => absurd (Value.int.inj q) (by decide))) (Value.ref.inj q)) (by decide) (by decide) ?_
    show Steps p.tables e below (T192.setTop (mkF m 7 #[.val (.ref w_TIMESTAMP)] [])) _
    refine XS.aloadN X192.here hx rfl (hb hby d_prog_45_method_6_code_7) rfl rfl ?_
    show Steps p.tables e below (T192.setTop (mkF m 8 #[.val (.ref w_TIMESTAMP)] [(.ref w_TIMESTAMP)])) _
    refine st193 _ ?_
    show Steps p.tables e below (T193.setTop (mkF m 11 #[.val (.ref w_TIMESTAMP)] [(.ref w_ENUM), (.ref w_TIMESTAMP)])) _
    refine Jvm.RoadKit.acmp (g := (mkF m 11 #[.val (.ref w_TIMESTAMP)] [(.ref w_ENUM), (.ref w_TIMESTAMP)])) X193 hx rfl rfl rfl (pc0 := 11) (pc' := 18) (same := false) rfl (hb hby d_prog_45_method_6_code_11) rfl (decide_eq_false fun q => (Fld.ne F_ordinal_TIMESTAMP F_ordinal_ENUM (fun q => absurd (Value.int.inj q) (by decide))) (Value.ref.inj q)) (by decide) (by decide) ?_
    show Steps p.tables e below (T193.setTop (mkF m 18 #[.val (.ref w_TIMESTAMP)] [])) _
    refine XS.iconst X193.here hx rfl (hb hby d_prog_45_method_6_code_18) ?_
    exact kt
  obtain ⟨fs, hr, hrun, hended, hW, hsame⟩ := X193.leave (v := some (.int (0 : Int32))) (fun h => by rw [Bd.returns] at h; cases h)
  refine ⟨_, _, pre194 _ ?_, hrun, hended, _, _, rfl, ?_, ⟨_, rfl⟩, hW, hsame.mono (by decide) (by decide)⟩
  · show Steps p.tables e below (T193.setTop (mkF m 19 #[.val (.ref w_TIMESTAMP)] [(.int (0 : Int32))])) _
    exact retN X193 hx (t := .boolean) Bd.returns (by simp) (hb hby d_prog_45_method_6_code_19) hr
  · show Q_rm_isString_13 Z w_STRING w_TIMESTAMP w_ENUM h0 n0 _ T193.heap _
    rw [e193]
    exact ⟨rfl, N0, rfl⟩
theorem ef_rm_isString_14 (m : MethodId) (w_ENUM : Addr) : entryFrame m #[(.ref w_ENUM)] 1 = mkF m 0 #[.val (.ref w_ENUM)] [] := by first | (simp [entryFrame, mkF, argsToLocals, Value.category]; done) | rfl
def Q_rm_isString_14 (Z : State) (w_STRING : Addr) (w_ENUM : Addr) (h0 : Heap) (n0 : Nat) (v : Option Value) (h : Heap) (L : List Loc) : Prop := v = some (.int (1 : Int32)) ∧ Fr n0 L ∧ h = h0
set_option maxRecDepth 65536 in
set_option maxHeartbeats 40000000 in
theorem rm_isString_14 (l : Launch) (Z : State) (a0 : Array Value) (hw : ∀ d ∈ tables_1, d.before a0 Z = true) (ws : List Jvm.Cond) (w_STRING : Addr) (w_ENUM : Addr) (h0 : Heap) (n0 : Nat) (O0 : Old Z n0 h0)  (S_STRING : Sta Z Z.heap "com/example/shapewright/shapewright/model/ShapeType" "STRING" "Lcom/example/shapewright/shapewright/model/ShapeType;" (.ref w_STRING)) (F_ordinal_ENUM : Fld Z Z.heap w_ENUM "java/lang/Enum" "ordinal" "I" (.int (13 : Int32))) (F_ordinal_STRING : Fld Z Z.heap w_STRING "java/lang/Enum" "ordinal" "I" (.int (3 : Int32))) (S_ENUM : Sta Z Z.heap "com/example/shapewright/shapewright/model/ShapeType" "ENUM" "Lcom/example/shapewright/shapewright/model/ShapeType;" (.ref w_ENUM)) :
    MetFree l (⟨"com/example/shapewright/shapewright/model/ShapeType", "isString", "()Z"⟩ : MethodName) (head1 (Jvm.Cond.code (⟨"com/example/shapewright/shapewright/model/ShapeType", "isString", "()Z"⟩ : MethodName) prog_45_method_6_code 1 (some .boolean) :: ws) ({ frames := 0, cells := 0, slots := 0, locals := 0 } : Room)) (fun a U => a = #[(.ref w_ENUM)] ∧ Z.Warmed39 U.vm ∧ U.heap = h0) (fun _ _ _ _ _ => True) (fun _ U o U' => ∃ v L, o = .returned v ∧ Q_rm_isString_14 Z w_STRING w_ENUM h0 n0 v U'.heap L ∧ FrameEnd U o U' L ({ frames := 0, cells := 0, slots := 0, locals := 0 } : Room).cells ({ frames := 0, cells := 0, slots := 0, locals := 0 } : Room).slots) := by
  refine MetFree.of_bodySF (plainFor_of_name pn_com_example_shapewright_shapewright_model_ShapeType) hisR ?_
  intro p e s m args below meth c s₁ Bd hml0 hP hK
  obtain ⟨rfl, hZ, hh⟩ := hP
  have hx := Bd.exec
  have hby := Bd.bytes
  have hml : c.maxLocals = 1 := hml0
  have hown : s.vm.findClass "com/example/shapewright/shapewright/model/ShapeType" = some m.cls := findClass_of_methodNamed Bd.named
  have hnm := (name_of_methodNamed Bd.named Bd.method).1
  have X0 : Stand p l e ({ frames := 0, cells := 0, slots := 0, locals := 0 } : Room) s m #[(.ref w_ENUM)] below meth c s₁ [] 0 0 := Stand.of_body Bd
  have e0 : s₁.heap = h0 := by rw [← hh, Bd.state]; rfl
  have N0 := Fr.nil n0
  have pre0 : ∀ t, Steps p.tables e below (s₁.setTop (mkF m 0 #[.val (.ref w_ENUM)] [])) t → Steps p.tables e below (s₁.setTop (entryFrame m #[(.ref w_ENUM)] 1)) t := fun t k => castTop (ef_rm_isString_14 m w_ENUM) k
  have K0 := Keep.refl h0 []
  obtain ⟨T202, X202, e202, st202⟩ := getS2 X0 hx hZ hown (host := "") (Or.inl (hw _ (List.mem_of_getElem? (i := 54) rfl))) Via.refl e0 (S_STRING.ext O0.2) (g := (mkF m 1 #[.val (.ref w_ENUM)] [(.ref w_ENUM)])) rfl (hb hby d_prog_45_method_6_code_1)
  obtain ⟨T203, X203, e203, st203⟩ := getS2 X202 hx hZ hown (host := "") (Or.inl (hw _ (List.mem_of_getElem? (i := 55) rfl))) Via.refl e202 (S_ENUM.ext O0.2) (g := (mkF m 8 #[.val (.ref w_ENUM)] [(.ref w_ENUM)])) rfl (hb hby d_prog_45_method_6_code_8)
  have pre204 : ∀ t, Steps p.tables e below (T203.setTop (mkF m 19 #[.val (.ref w_ENUM)] [(.int (1 : Int32))])) t → Steps p.tables e below (s₁.setTop (entryFrame m #[(.ref w_ENUM)] 1)) t := by
    intro t kt
    refine pre0 t ?_
    show Steps p.tables e below (s₁.setTop (mkF m 0 #[.val (.ref w_ENUM)] [])) _
    refine XS.aloadN X0.here hx rfl (hb hby d_prog_45_method_6_code_0) rfl rfl ?_
    show Steps p.tables e below (s₁.setTop (mkF m 1 #[.val (.ref w_ENUM)] [(.ref w_ENUM)])) _
    refine st202 _ ?_
    show Steps p.tables e below (T202.setTop (mkF m 4 #[.val (.ref w_ENUM)] [(.ref w_STRING), (.ref w_ENUM)])) _
    refine Jvm.RoadKit.acmp (g := (mkF m 4 #[.val (.ref w_ENUM)] [(.ref w_STRING), (.ref w_ENUM)])) X202 hx rfl rfl rfl (pc0 := 4) (pc' := 7) (same := false) rfl (hb hby d_prog_45_method_6_code_4) rfl (decide_eq_false fun q => (Fld.ne F_ordinal_ENUM F_ordinal_STRING (fun q => absurd (Value.int.inj q) (by decide))) (Value.ref.inj q)) (by decide) (by decide) ?_
    show Steps p.tables e below (T202.setTop (mkF m 7 #[.val (.ref w_ENUM)] [])) _
    refine XS.aloadN X202.here hx rfl (hb hby d_prog_45_method_6_code_7) rfl rfl ?_
    show Steps p.tables e below (T202.setTop (mkF m 8 #[.val (.ref w_ENUM)] [(.ref w_ENUM)])) _
    refine st203 _ ?_
    show Steps p.tables e below (T203.setTop (mkF m 11 #[.val (.ref w_ENUM)] [(.ref w_ENUM), (.ref w_ENUM)])) _
    refine Jvm.RoadKit.acmp (g := (mkF m 11 #[.val (.ref w_ENUM)] [(.ref w_ENUM), (.ref w_ENUM)])) X203 hx rfl rfl rfl (pc0 := 11) (pc' := 14) (same := true) rfl (hb hby d_prog_45_method_6_code_11) rfl (decide_eq_true rfl) (by decide) (by decide) ?_
    show Steps p.tables e below (T203.setTop (mkF m 14 #[.val (.ref w_ENUM)] [])) _
    refine XS.iconst X203.here hx rfl (hb hby d_prog_45_method_6_code_14) ?_
    show Steps p.tables e below (T203.setTop (mkF m 15 #[.val (.ref w_ENUM)] [(.int (1 : Int32))])) _
    refine XS.goto X203.here hx rfl (pc0 := 15) (pc' := 19) rfl (hb hby d_prog_45_method_6_code_15) (by decide) (by decide) ?_
    exact kt
  obtain ⟨fs, hr, hrun, hended, hW, hsame⟩ := X203.leave (v := some (.int (1 : Int32))) (fun h => by rw [Bd.returns] at h; cases h)
  refine ⟨_, _, pre204 _ ?_, hrun, hended, _, _, rfl, ?_, ⟨_, rfl⟩, hW, hsame.mono (by decide) (by decide)⟩
  · show Steps p.tables e below (T203.setTop (mkF m 19 #[.val (.ref w_ENUM)] [(.int (1 : Int32))])) _
    exact retN X203 hx (t := .boolean) Bd.returns (by simp) (hb hby d_prog_45_method_6_code_19) hr
  · show Q_rm_isString_14 Z w_STRING w_ENUM h0 n0 _ T203.heap _
    rw [e203]
    exact ⟨rfl, N0, rfl⟩
theorem ef_rm_isString_15 (m : MethodId) (w_INT_ENUM : Addr) : entryFrame m #[(.ref w_INT_ENUM)] 1 = mkF m 0 #[.val (.ref w_INT_ENUM)] [] := by first | (simp [entryFrame, mkF, argsToLocals, Value.category]; done) | rfl
def Q_rm_isString_15 (Z : State) (w_STRING : Addr) (w_INT_ENUM : Addr) (w_ENUM : Addr) (h0 : Heap) (n0 : Nat) (v : Option Value) (h : Heap) (L : List Loc) : Prop := v = some (.int (0 : Int32)) ∧ Fr n0 L ∧ h = h0
set_option maxRecDepth 65536 in
set_option maxHeartbeats 40000000 in
theorem rm_isString_15 (l : Launch) (Z : State) (a0 : Array Value) (hw : ∀ d ∈ tables_1, d.before a0 Z = true) (ws : List Jvm.Cond) (w_STRING : Addr) (w_INT_ENUM : Addr) (w_ENUM : Addr) (h0 : Heap) (n0 : Nat) (O0 : Old Z n0 h0)  (S_STRING : Sta Z Z.heap "com/example/shapewright/shapewright/model/ShapeType" "STRING" "Lcom/example/shapewright/shapewright/model/ShapeType;" (.ref w_STRING)) (F_ordinal_INT_ENUM : Fld Z Z.heap w_INT_ENUM "java/lang/Enum" "ordinal" "I" (.int (14 : Int32))) (F_ordinal_STRING : Fld Z Z.heap w_STRING "java/lang/Enum" "ordinal" "I" (.int (3 : Int32))) (S_ENUM : Sta Z Z.heap "com/example/shapewright/shapewright/model/ShapeType" "ENUM" "Lcom/example/shapewright/shapewright/model/ShapeType;" (.ref w_ENUM)) (F_ordinal_ENUM : Fld Z Z.heap w_ENUM "java/lang/Enum" "ordinal" "I" (.int (13 : Int32))) :
    MetFree l (⟨"com/example/shapewright/shapewright/model/ShapeType", "isString", "()Z"⟩ : MethodName) (head1 (Jvm.Cond.code (⟨"com/example/shapewright/shapewright/model/ShapeType", "isString", "()Z"⟩ : MethodName) prog_45_method_6_code 1 (some .boolean) :: ws) ({ frames := 0, cells := 0, slots := 0, locals := 0 } : Room)) (fun a U => a = #[(.ref w_INT_ENUM)] ∧ Z.Warmed39 U.vm ∧ U.heap = h0) (fun _ _ _ _ _ => True) (fun _ U o U' => ∃ v L, o = .returned v ∧ Q_rm_isString_15 Z w_STRING w_INT_ENUM w_ENUM h0 n0 v U'.heap L ∧ FrameEnd U o U' L ({ frames := 0, cells := 0, slots := 0, locals := 0 } : Room).cells ({ frames := 0, cells := 0, slots := 0, locals := 0 } : Room).slots) := by
  refine MetFree.of_bodySF (plainFor_of_name pn_com_example_shapewright_shapewright_model_ShapeType) hisR ?_
  intro p e s m args below meth c s₁ Bd hml0 hP hK
  obtain ⟨rfl, hZ, hh⟩ := hP
  have hx := Bd.exec
  have hby := Bd.bytes
  have hml : c.maxLocals = 1 := hml0
  have hown : s.vm.findClass "com/example/shapewright/shapewright/model/ShapeType" = some m.cls := findClass_of_methodNamed Bd.named
  have hnm := (name_of_methodNamed Bd.named Bd.method).1
  have X0 : Stand p l e ({ frames := 0, cells := 0, slots := 0, locals := 0 } : Room) s m #[(.ref w_INT_ENUM)] below meth c s₁ [] 0 0 := Stand.of_body Bd
  have e0 : s₁.heap = h0 := by rw [← hh, Bd.state]; rfl
  have N0 := Fr.nil n0
  have pre0 : ∀ t, Steps p.tables e below (s₁.setTop (mkF m 0 #[.val (.ref w_INT_ENUM)] [])) t → Steps p.tables e below (s₁.setTop (entryFrame m #[(.ref w_INT_ENUM)] 1)) t := fun t k => castTop (ef_rm_isString_15 m w_INT_ENUM) k
  have K0 := Keep.refl h0 []
  obtain ⟨T212, X212, e212, st212⟩ := getS2 X0 hx hZ hown (host := "") (Or.inl (hw _ (List.mem_of_getElem? (i := 54) rfl))) Via.refl e0 (S_STRING.ext O0.2) (g := (mkF m 1 #[.val (.ref w_INT_ENUM)] [(.ref w_INT_ENUM)])) rfl (hb hby d_prog_45_method_6_code_1)
  obtain ⟨T213, X213, e213, st213⟩ := getS2 X212 hx hZ hown (host := "") (Or.inl (hw _ (List.mem_of_getElem? (i := 55) rfl))) Via.refl e212 (S_ENUM.ext O0.2) (g := (mkF m 8 #[.val (.ref w_INT_ENUM)] [(.ref w_INT_ENUM)])) rfl (hb hby d_prog_45_method_6_code_8)
  have pre214 : ∀ t, Steps p.tables e below (T213.setTop (mkF m 19 #[.val (.ref w_INT_ENUM)] [(.int (0 : Int32))])) t → Steps p.tables e below (s₁.setTop (entryFrame m #[(.ref w_INT_ENUM)] 1)) t := by
    intro t kt
    refine pre0 t ?_
    show Steps p.tables e below (s₁.setTop (mkF m 0 #[.val (.ref w_INT_ENUM)] [])) _
    refine XS.aloadN X0.here hx rfl (hb hby d_prog_45_method_6_code_0) rfl rfl ?_
    show Steps p.tables e below (s₁.setTop (mkF m 1 #[.val (.ref w_INT_ENUM)] [(.ref w_INT_ENUM)])) _
    refine st212 _ ?_
    show Steps p.tables e below (T212.setTop (mkF m 4 #[.val (.ref w_INT_ENUM)] [(.ref w_STRING), (.ref w_INT_ENUM)])) _
    refine Jvm.RoadKit.acmp (g := (mkF m 4 #[.val (.ref w_INT_ENUM)] [(.ref w_STRING), (.ref w_INT_ENUM)])) X212 hx rfl rfl rfl (pc0 := 4) (pc' := 7) (same := false) rfl (hb hby d_prog_45_method_6_code_4) rfl (decide_eq_false fun q => (Fld.ne F_ordinal_INT_ENUM F_ordinal_STRING (fun q => absurd (Value.int.inj q) (by decide))) (Value.ref.inj q)) (by decide) (by decide) ?_
    show Steps p.tables e below (T212.setTop (mkF m 7 #[.val (.ref w_INT_ENUM)] [])) _
    refine XS.aloadN X212.here hx rfl (hb hby d_prog_45_method_6_code_7) rfl rfl ?_
    show Steps p.tables e below (T212.setTop (mkF m 8 #[.val (.ref w_INT_ENUM)] [(.ref w_INT_ENUM)])) _
    refine st213 _ ?_
    show Steps p.tables e below (T213.setTop (mkF m 11 #[.val (.ref w_INT_ENUM)] [(.ref w_ENUM), (.ref w_INT_ENUM)])) _
    refine Jvm.RoadKit.acmp (g := (mkF m 11 #[.val (.ref w_INT_ENUM)] [(.ref w_ENUM), (.ref w_INT_ENUM)])) X213 hx rfl rfl rfl (pc0 := 11) (pc' := 18) (same := false) rfl (hb hby d_prog_45_method_6_code_11) rfl (decide_eq_false fun q => (Fld.ne F_ordinal_INT_ENUM F_ordinal_ENUM (fun q => absurd (Value.int.inj q) (by decide))) (Value.ref.inj q)) (by decide) (by decide) ?_
    show Steps p.tables e below (T213.setTop (mkF m 18 #[.val (.ref w_INT_ENUM)] [])) _
    refine XS.iconst X213.here hx rfl (hb hby d_prog_45_method_6_code_18) ?_
    exact kt
  obtain ⟨fs, hr, hrun, hended, hW, hsame⟩ := X213.leave (v := some (.int (0 : Int32))) (fun h => by rw [Bd.returns] at h; cases h)
  refine ⟨_, _, pre214 _ ?_, hrun, hended, _, _, rfl, ?_, ⟨_, rfl⟩, hW, hsame.mono (by decide) (by decide)⟩
  · show Steps p.tables e below (T213.setTop (mkF m 19 #[.val (.ref w_INT_ENUM)] [(.int (0 : Int32))])) _
    exact retN X213 hx (t := .boolean) Bd.returns (by simp) (hb hby d_prog_45_method_6_code_19) hr
  · show Q_rm_isString_15 Z w_STRING w_INT_ENUM w_ENUM h0 n0 _ T213.heap _
    rw [e213]
    exact ⟨rfl, N0, rfl⟩
theorem ef_rm_isString_16 (m : MethodId) (w_LIST : Addr) : entryFrame m #[(.ref w_LIST)] 1 = mkF m 0 #[.val (.ref w_LIST)] [] := by first | (simp [entryFrame, mkF, argsToLocals, Value.category]; done) | rfl
def Q_rm_isString_16 (Z : State) (w_STRING : Addr) (w_LIST : Addr) (w_ENUM : Addr) (h0 : Heap) (n0 : Nat) (v : Option Value) (h : Heap) (L : List Loc) : Prop := v = some (.int (0 : Int32)) ∧ Fr n0 L ∧ h = h0
set_option maxRecDepth 65536 in
set_option maxHeartbeats 40000000 in
theorem rm_isString_16 (l : Launch) (Z : State) (a0 : Array Value) (hw : ∀ d ∈ tables_1, d.before a0 Z = true) (ws : List Jvm.Cond) (w_STRING : Addr) (w_LIST : Addr) (w_ENUM : Addr) (h0 : Heap) (n0 : Nat) (O0 : Old Z n0 h0)  (S_STRING : Sta Z Z.heap "com/example/shapewright/shapewright/model/ShapeType" "STRING" "Lcom/example/shapewright/shapewright/model/ShapeType;" (.ref w_STRING)) (F_ordinal_LIST : Fld Z Z.heap w_LIST "java/lang/Enum" "ordinal" "I" (.int (15 : Int32))) (F_ordinal_STRING : Fld Z Z.heap w_STRING "java/lang/Enum" "ordinal" "I" (.int (3 : Int32))) (S_ENUM : Sta Z Z.heap "com/example/shapewright/shapewright/model/ShapeType" "ENUM" "Lcom/example/shapewright/shapewright/model/ShapeType;" (.ref w_ENUM)) (F_ordinal_ENUM : Fld Z Z.heap w_ENUM "java/lang/Enum" "ordinal" "I" (.int (13 : Int32))) :
    MetFree l (⟨"com/example/shapewright/shapewright/model/ShapeType", "isString", "()Z"⟩ : MethodName) (head1 (Jvm.Cond.code (⟨"com/example/shapewright/shapewright/model/ShapeType", "isString", "()Z"⟩ : MethodName) prog_45_method_6_code 1 (some .boolean) :: ws) ({ frames := 0, cells := 0, slots := 0, locals := 0 } : Room)) (fun a U => a = #[(.ref w_LIST)] ∧ Z.Warmed39 U.vm ∧ U.heap = h0) (fun _ _ _ _ _ => True) (fun _ U o U' => ∃ v L, o = .returned v ∧ Q_rm_isString_16 Z w_STRING w_LIST w_ENUM h0 n0 v U'.heap L ∧ FrameEnd U o U' L ({ frames := 0, cells := 0, slots := 0, locals := 0 } : Room).cells ({ frames := 0, cells := 0, slots := 0, locals := 0 } : Room).slots) := by
  refine MetFree.of_bodySF (plainFor_of_name pn_com_example_shapewright_shapewright_model_ShapeType) hisR ?_
  intro p e s m args below meth c s₁ Bd hml0 hP hK
  obtain ⟨rfl, hZ, hh⟩ := hP
  have hx := Bd.exec
  have hby := Bd.bytes
  have hml : c.maxLocals = 1 := hml0
  have hown : s.vm.findClass "com/example/shapewright/shapewright/model/ShapeType" = some m.cls := findClass_of_methodNamed Bd.named
  have hnm := (name_of_methodNamed Bd.named Bd.method).1
  have X0 : Stand p l e ({ frames := 0, cells := 0, slots := 0, locals := 0 } : Room) s m #[(.ref w_LIST)] below meth c s₁ [] 0 0 := Stand.of_body Bd
  have e0 : s₁.heap = h0 := by rw [← hh, Bd.state]; rfl
  have N0 := Fr.nil n0
  have pre0 : ∀ t, Steps p.tables e below (s₁.setTop (mkF m 0 #[.val (.ref w_LIST)] [])) t → Steps p.tables e below (s₁.setTop (entryFrame m #[(.ref w_LIST)] 1)) t := fun t k => castTop (ef_rm_isString_16 m w_LIST) k
  have K0 := Keep.refl h0 []
  obtain ⟨T222, X222, e222, st222⟩ := getS2 X0 hx hZ hown (host := "") (Or.inl (hw _ (List.mem_of_getElem? (i := 54) rfl))) Via.refl e0 (S_STRING.ext O0.2) (g := (mkF m 1 #[.val (.ref w_LIST)] [(.ref w_LIST)])) rfl (hb hby d_prog_45_method_6_code_1)
  obtain ⟨T223, X223, e223, st223⟩ := getS2 X222 hx hZ hown (host := "") (Or.inl (hw _ (List.mem_of_getElem? (i := 55) rfl))) Via.refl e222 (S_ENUM.ext O0.2) (g := (mkF m 8 #[.val (.ref w_LIST)] [(.ref w_LIST)])) rfl (hb hby d_prog_45_method_6_code_8)
  have pre224 : ∀ t, Steps p.tables e below (T223.setTop (mkF m 19 #[.val (.ref w_LIST)] [(.int (0 : Int32))])) t → Steps p.tables e below (s₁.setTop (entryFrame m #[(.ref w_LIST)] 1)) t := by
    intro t kt
    refine pre0 t ?_
    show Steps p.tables e below (s₁.setTop (mkF m 0 #[.val (.ref w_LIST)] [])) _
    refine XS.aloadN X0.here hx rfl (hb hby d_prog_45_method_6_code_0) rfl rfl ?_
    show Steps p.tables e below (s₁.setTop (mkF m 1 #[.val (.ref w_LIST)] [(.ref w_LIST)])) _
    refine st222 _ ?_
    show Steps p.tables e below (T222.setTop (mkF m 4 #[.val (.ref w_LIST)] [(.ref w_STRING), (.ref w_LIST)])) _
    refine Jvm.RoadKit.acmp (g := (mkF m 4 #[.val (.ref w_LIST)] [(.ref w_STRING), (.ref w_LIST)])) X222 hx rfl rfl rfl (pc0 := 4) (pc' := 7) (same := false) rfl (hb hby d_prog_45_method_6_code_4) rfl (decide_eq_false fun q => (Fld.ne F_ordinal_LIST F_ordinal_STRING (fun q => absurd (Value.int.inj q) (by decide))) (Value.ref.inj q)) (by decide) (by decide) ?_
    show Steps p.tables e below (T222.setTop (mkF m 7 #[.val (.ref w_LIST)] [])) _
    refine XS.aloadN X222.here hx rfl (hb hby d_prog_45_method_6_code_7) rfl rfl ?_
    show Steps p.tables e below (T222.setTop (mkF m 8 #[.val (.ref w_LIST)] [(.ref w_LIST)])) _
    refine st223 _ ?_
    show Steps p.tables e below (T223.setTop (mkF m 11 #[.val (.ref w_LIST)] [(.ref w_ENUM), (.ref w_LIST)])) _
    refine Jvm.RoadKit.acmp (g := (mkF m 11 #[.val (.ref w_LIST)] [(.ref w_ENUM), (.ref w_LIST)])) X223 hx rfl rfl rfl (pc0 := 11) (pc' := 18) (same := false) rfl (hb hby d_prog_45_method_6_code_11) rfl (decide_eq_false fun q => (Fld.ne F_ordinal_LIST F_ordinal_ENUM (fun q => absurd (Value.int.inj q) (by decide))) (Value.ref.inj q)) (by decide) (by decide) ?_
    show Steps p.tables e below (T223.setTop (mkF m 18 #[.val (.ref w_LIST)] [])) _
    refine XS.iconst X223.here hx rfl (hb hby d_prog_45_method_6_code_18) ?_
    exact kt
  obtain ⟨fs, hr, hrun, hended, hW, hsame⟩ := X223.leave (v := some (.int (0 : Int32))) (fun h => by rw [Bd.returns] at h; cases h)
  refine ⟨_, _, pre224 _ ?_, hrun, hended, _, _, rfl, ?_, ⟨_, rfl⟩, hW, hsame.mono (by decide) (by decide)⟩
  · show Steps p.tables e below (T223.setTop (mkF m 19 #[.val (.ref w_LIST)] [(.int (0 : Int32))])) _
    exact retN X223 hx (t := .boolean) Bd.returns (by simp) (hb hby d_prog_45_method_6_code_19) hr
  · show Q_rm_isString_16 Z w_STRING w_LIST w_ENUM h0 n0 _ T223.heap _
    rw [e223]
    exact ⟨rfl, N0, rfl⟩
theorem ef_rm_isString_17 (m : MethodId) (w_MAP : Addr) : entryFrame m #[(.ref w_MAP)] 1 = mkF m 0 #[.val (.ref w_MAP)] [] := by first | (simp [entryFrame, mkF, argsToLocals, Value.category]; done) | rfl
def Q_rm_isString_17 (Z : State) (w_STRING : Addr) (w_MAP : Addr) (w_ENUM : Addr) (h0 : Heap) (n0 : Nat) (v : Option Value) (h : Heap) (L : List Loc) : Prop := v = some (.int (0 : Int32)) ∧ Fr n0 L ∧ h = h0
set_option maxRecDepth 65536 in
set_option maxHeartbeats 40000000 in
theorem rm_isString_17 (l : Launch) (Z : State) (a0 : Array Value) (hw : ∀ d ∈ tables_1, d.before a0 Z = true) (ws : List Jvm.Cond) (w_STRING : Addr) (w_MAP : Addr) (w_ENUM : Addr) (h0 : Heap) (n0 : Nat) (O0 : Old Z n0 h0)  (S_STRING : Sta Z Z.heap "com/example/shapewright/shapewright/model/ShapeType" "STRING" "Lcom/example/shapewright/shapewright/model/ShapeType;" (.ref w_STRING)) (F_ordinal_MAP : Fld Z Z.heap w_MAP "java/lang/Enum" "ordinal" "I" (.int (16 : Int32))) (F_ordinal_STRING : Fld Z Z.heap w_STRING "java/lang/Enum" "ordinal" "I" (.int (3 : Int32))) (S_ENUM : Sta Z Z.heap "com/example/shapewright/shapewright/model/ShapeType" "ENUM" "Lcom/example/shapewright/shapewright/model/ShapeType;" (.ref w_ENUM)) (F_ordinal_ENUM : Fld Z Z.heap w_ENUM "java/lang/Enum" "ordinal" "I" (.int (13 : Int32))) :
    MetFree l (⟨"com/example/shapewright/shapewright/model/ShapeType", "isString", "()Z"⟩ : MethodName) (head1 (Jvm.Cond.code (⟨"com/example/shapewright/shapewright/model/ShapeType", "isString", "()Z"⟩ : MethodName) prog_45_method_6_code 1 (some .boolean) :: ws) ({ frames := 0, cells := 0, slots := 0, locals := 0 } : Room)) (fun a U => a = #[(.ref w_MAP)] ∧ Z.Warmed39 U.vm ∧ U.heap = h0) (fun _ _ _ _ _ => True) (fun _ U o U' => ∃ v L, o = .returned v ∧ Q_rm_isString_17 Z w_STRING w_MAP w_ENUM h0 n0 v U'.heap L ∧ FrameEnd U o U' L ({ frames := 0, cells := 0, slots := 0, locals := 0 } : Room).cells ({ frames := 0, cells := 0, slots := 0, locals := 0 } : Room).slots) := by
  refine MetFree.of_bodySF (plainFor_of_name pn_com_example_shapewright_shapewright_model_ShapeType) hisR ?_
  intro p e s m args below meth c s₁ Bd hml0 hP hK
  obtain ⟨rfl, hZ, hh⟩ := hP
  have hx := Bd.exec
  have hby := Bd.bytes
  have hml : c.maxLocals = 1 := hml0
  have hown : s.vm.findClass "com/example/shapewright/shapewright/model/ShapeType" = some m.cls := findClass_of_methodNamed Bd.named
  have hnm := (name_of_methodNamed Bd.named Bd.method).1
  have X0 : Stand p l e ({ frames := 0, cells := 0, slots := 0, locals := 0 } : Room) s m #[(.ref w_MAP)] below meth c s₁ [] 0 0 := Stand.of_body Bd
  have e0 : s₁.heap = h0 := by rw [← hh, Bd.state]; rfl
  have N0 := Fr.nil n0
  have pre0 : ∀ t, Steps p.tables e below (s₁.setTop (mkF m 0 #[.val (.ref w_MAP)] [])) t → Steps p.tables e below (s₁.setTop (entryFrame m #[(.ref w_MAP)] 1)) t := fun t k => castTop (ef_rm_isString_17 m w_MAP) k
  have K0 := Keep.refl h0 []
  obtain ⟨T232, X232, e232, st232⟩ := getS2 X0 hx hZ hown (host := "") (Or.inl (hw _ (List.mem_of_getElem? (i := 54) rfl))) Via.refl e0 (S_STRING.ext O0.2) (g := (mkF m 1 #[.val (.ref w_MAP)] [(.ref w_MAP)])) rfl (hb hby d_prog_45_method_6_code_1)
  obtain ⟨T233, X233, e233, st233⟩ := getS2 X232 hx hZ hown (host := "") (Or.inl (hw _ (List.mem_of_getElem? (i := 55) rfl))) Via.refl e232 (S_ENUM.ext O0.2) (g := (mkF m 8 #[.val (.ref w_MAP)] [(.ref w_MAP)])) rfl (hb hby d_prog_45_method_6_code_8)
  have pre234 : ∀ t, Steps p.tables e below (T233.setTop (mkF m 19 #[.val (.ref w_MAP)] [(.int (0 : Int32))])) t → Steps p.tables e below (s₁.setTop (entryFrame m #[(.ref w_MAP)] 1)) t := by
    intro t kt
    refine pre0 t ?_
    show Steps p.tables e below (s₁.setTop (mkF m 0 #[.val (.ref w_MAP)] [])) _
    refine XS.aloadN X0.here hx rfl (hb hby d_prog_45_method_6_code_0) rfl rfl ?_
    show Steps p.tables e below (s₁.setTop (mkF m 1 #[.val (.ref w_MAP)] [(.ref w_MAP)])) _
    refine st232 _ ?_
    show Steps p.tables e below (T232.setTop (mkF m 4 #[.val (.ref w_MAP)] [(.ref w_STRING), (.ref w_MAP)])) _
    refine Jvm.RoadKit.acmp (g := (mkF m 4 #[.val (.ref w_MAP)] [(.ref w_STRING), (.ref w_MAP)])) X232 hx rfl rfl rfl (pc0 := 4) (pc' := 7) (same := false) rfl (hb hby d_prog_45_method_6_code_4) rfl (decide_eq_false fun q => (Fld.ne F_ordinal_MAP F_ordinal_STRING (fun q => absurd (Value.int.inj q) (by decide))) (Value.ref.inj q)) (by decide) (by decide) ?_
    show Steps p.tables e below (T232.setTop (mkF m 7 #[.val (.ref w_MAP)] [])) _
    refine XS.aloadN X232.here hx rfl (hb hby d_prog_45_method_6_code_7) rfl rfl ?_
    show Steps p.tables e below (T232.setTop (mkF m 8 #[.val (.ref w_MAP)] [(.ref w_MAP)])) _
    refine st233 _ ?_
    show Steps p.tables e below (T233.setTop (mkF m 11 #[.val (.ref w_MAP)] [(.ref w_ENUM), (.ref w_MAP)])) _
    refine Jvm.RoadKit.acmp (g := (mkF m 11 #[.val (.ref w_MAP)] [(.ref w_ENUM), (.ref w_MAP)])) X233 hx rfl rfl rfl (pc0 := 11) (pc' := 18) (same := false) rfl (hb hby d_prog_45_method_6_code_11) rfl (decide_eq_false fun q => (Fld.ne F_ordinal_MAP F_ordinal_ENUM (fun q => absurd (Value.int.inj q) (by decide))) (Value.ref.inj q)) (by decide) (by decide) ?_
    show Steps p.tables e below (T233.setTop (mkF m 18 #[.val (.ref w_MAP)] [])) _
    refine XS.iconst X233.here hx rfl (hb hby d_prog_45_method_6_code_18) ?_
    exact kt
  obtain ⟨fs, hr, hrun, hended, hW, hsame⟩ := X233.leave (v := some (.int (0 : Int32))) (fun h => by rw [Bd.returns] at h; cases h)
  refine ⟨_, _, pre234 _ ?_, hrun, hended, _, _, rfl, ?_, ⟨_, rfl⟩, hW, hsame.mono (by decide) (by decide)⟩
  · show Steps p.tables e below (T233.setTop (mkF m 19 #[.val (.ref w_MAP)] [(.int (0 : Int32))])) _
    exact retN X233 hx (t := .boolean) Bd.returns (by simp) (hb hby d_prog_45_method_6_code_19) hr
  · show Q_rm_isString_17 Z w_STRING w_MAP w_ENUM h0 n0 _ T233.heap _
    rw [e233]
    exact ⟨rfl, N0, rfl⟩
theorem ef_rm_isString_18 (m : MethodId) (w_STRUCTURE : Addr) : entryFrame m #[(.ref w_STRUCTURE)] 1 = mkF m 0 #[.val (.ref w_STRUCTURE)] [] := by first | (simp [entryFrame, mkF, argsToLocals, Value.category]; done) | rfl
def Q_rm_isString_18 (Z : State) (w_STRING : Addr) (w_STRUCTURE : Addr) (w_ENUM : Addr) (h0 : Heap) (n0 : Nat) (v : Option Value) (h : Heap) (L : List Loc) : Prop := v = some (.int (0 : Int32)) ∧ Fr n0 L ∧ h = h0
set_option maxRecDepth 65536 in
set_option maxHeartbeats 40000000 in
theorem rm_isString_18 (l : Launch) (Z : State) (a0 : Array Value) (hw : ∀ d ∈ tables_1, d.before a0 Z = true) (ws : List Jvm.Cond) (w_STRING : Addr) (w_STRUCTURE : Addr) (w_ENUM : Addr) (h0 : Heap) (n0 : Nat) (O0 : Old Z n0 h0)  (S_STRING : Sta Z Z.heap "com/example/shapewright/shapewright/model/ShapeType" "STRING" "Lcom/example/shapewright/shapewright/model/ShapeType;" (.ref w_STRING)) (F_ordinal_STRUCTURE : Fld Z Z.heap w_STRUCTURE "java/lang/Enum" "ordinal" "I" (.int (17 : Int32))) (F_ordinal_STRING : Fld Z Z.heap w_STRING "java/lang/Enum" "ordinal" "I" (.int (3 : Int32))) (S_ENUM : Sta Z Z.heap "com/example/shapewright/shapewright/model/ShapeType" "ENUM" "Lcom/example/shapewright/shapewright/model/ShapeType;" (.ref w_ENUM)) (F_ordinal_ENUM : Fld Z Z.heap w_ENUM "java/lang/Enum" "ordinal" "I" (.int (13 : Int32))) :
    MetFree l (⟨"com/example/shapewright/shapewright/model/ShapeType", "isString", "()Z"⟩ : MethodName) (head1 (Jvm.Cond.code (⟨"com/example/shapewright/shapewright/model/ShapeType", "isString", "()Z"⟩ : MethodName) prog_45_method_6_code 1 (some .boolean) :: ws) ({ frames := 0, cells := 0, slots := 0, locals := 0 } : Room)) (fun a U => a = #[(.ref w_STRUCTURE)] ∧ Z.Warmed39 U.vm ∧ U.heap = h0) (fun _ _ _ _ _ => True) (fun _ U o U' => ∃ v L, o = .returned v ∧ Q_rm_isString_18 Z w_STRING w_STRUCTURE w_ENUM h0 n0 v U'.heap L ∧ FrameEnd U o U' L ({ frames := 0, cells := 0, slots := 0, locals := 0 } : Room).cells ({ frames := 0, cells := 0, slots := 0, locals := 0 } : Room).slots) := by
  refine MetFree.of_bodySF (plainFor_of_name pn_com_example_shapewright_shapewright_model_ShapeType) hisR ?_
  intro p e s m args below meth c s₁ Bd hml0 hP hK
  obtain ⟨rfl, hZ, hh⟩ := hP
  have hx := Bd.exec
  have hby := Bd.bytes
  have hml : c.maxLocals = 1 := hml0
  have hown : s.vm.findClass "com/example/shapewright/shapewright/model/ShapeType" = some m.cls := findClass_of_methodNamed Bd.named
  have hnm := (name_of_methodNamed Bd.named Bd.method).1
  have X0 : Stand p l e ({ frames := 0, cells := 0, slots := 0, locals := 0 } : Room) s m #[(.ref w_STRUCTURE)] below meth c s₁ [] 0 0 := Stand.of_body Bd
  have e0 : s₁.heap = h0 := by rw [← hh, Bd.state]; rfl
  have N0 := Fr.nil n0
  have pre0 : ∀ t, Steps p.tables e below (s₁.setTop (mkF m 0 #[.val (.ref w_STRUCTURE)] [])) t → Steps p.tables e below (s₁.setTop (entryFrame m #[(.ref w_STRUCTURE)] 1)) t := fun t k => castTop (ef_rm_isString_18 m w_STRUCTURE) k
  have K0 := Keep.refl h0 []
  obtain ⟨T242, X242, e242, st242⟩ := getS2 X0 hx hZ hown (host := "") (Or.inl (hw _ (List.mem_of_getElem? (i := 54) rfl))) Via.refl e0 (S_STRING.ext O0.2) (g := (mkF m 1 #[.val (.ref w_STRUCTURE)] [(.ref w_STRUCTURE)])) rfl (hb hby d_prog_45_method_6_code_1)
  obtain ⟨T243, X243, e243, st243⟩ := getS2 X242 hx hZ hown (host := "") (Or.inl (hw _ (List.mem_of_getElem? (i := 55) rfl))) Via.refl e242 (S_ENUM.ext O0.2) (g := (mkF m 8 #[.val (.ref w_STRUCTURE)] [(.ref w_STRUCTURE)])) rfl (hb hby d_prog_45_method_6_code_8)
  have pre244 : ∀ t, Steps p.tables e below (T243.setTop (mkF m 19 #[.val (.ref w_STRUCTURE)] [(.int (0 : Int32))])) t → Steps p.tables e below (s₁.setTop (entryFrame m #[(.ref w_STRUCTURE)] 1)) t := by
    intro t kt
    refine pre0 t ?_
    show Steps p.tables e below (s₁.setTop (mkF m 0 #[.val (.ref w_STRUCTURE)] [])) _
    refine XS.aloadN X0.here hx rfl (hb hby d_prog_45_method_6_code_0) rfl rfl ?_
    show Steps p.tables e below (s₁.setTop (mkF m 1 #[.val (.ref w_STRUCTURE)] [(.ref w_STRUCTURE)])) _
    refine st242 _ ?_
    show Steps p.tables e below (T242.setTop (mkF m 4 #[.val (.ref w_STRUCTURE)] [(.ref w_STRING), (.ref w_STRUCTURE)])) _
    refine Jvm.RoadKit.acmp (g := (mkF m 4 #[.val (.ref w_STRUCTURE)] [(.ref w_STRING), (.ref w_STRUCTURE)])) X242 hx rfl rfl rfl (pc0 := 4) (pc' := 7) (same := false) rfl (hb hby d_prog_45_method_6_code_4) rfl (decide_eq_false fun q => (Fld.ne F_ordinal_STRUCTURE F_ordinal_STRING (fun q => absurd (Value.int.inj q) (by decide))) (Value.ref.inj q)) (by decide) (by decide) ?_
    show Steps p.tables e below (T242.setTop (mkF m 7 #[.val (.ref w_STRUCTURE)] [])) _
    refine XS.aloadN X242.here hx rfl (hb hby d_prog_45_method_6_code_7) rfl rfl ?_
    show Steps p.tables e below (T242.setTop (mkF m 8 #[.val (.ref w_STRUCTURE)] [(.ref w_STRUCTURE)])) _
    refine st243 _ ?_
    show Steps p.tables e below (T243.setTop (mkF m 11 #[.val (.ref w_STRUCTURE)] [(.ref w_ENUM), (.ref w_STRUCTURE)])) _
    refine Jvm.RoadKit.acmp (g := (mkF m 11 #[.val (.ref w_STRUCTURE)] [(.ref w_ENUM), (.ref w_STRUCTURE)])) X243 hx rfl rfl rfl (pc0 := 11) (pc' := 18) (same := false) rfl (hb hby d_prog_45_method_6_code_11) rfl (decide_eq_false fun q => (Fld.ne F_ordinal_STRUCTURE F_ordinal_ENUM (fun q => absurd (Value.int.inj q) (by decide))) (Value.ref.inj q)) (by decide) (by decide) ?_
    show Steps p.tables e below (T243.setTop (mkF m 18 #[.val (.ref w_STRUCTURE)] [])) _
    refine XS.iconst X243.here hx rfl (hb hby d_prog_45_method_6_code_18) ?_
    exact kt
  obtain ⟨fs, hr, hrun, hended, hW, hsame⟩ := X243.leave (v := some (.int (0 : Int32))) (fun h => by rw [Bd.returns] at h; cases h)
  refine ⟨_, _, pre244 _ ?_, hrun, hended, _, _, rfl, ?_, ⟨_, rfl⟩, hW, hsame.mono (by decide) (by decide)⟩
  · show Steps p.tables e below (T243.setTop (mkF m 19 #[.val (.ref w_STRUCTURE)] [(.int (0 : Int32))])) _
    exact retN X243 hx (t := .boolean) Bd.returns (by simp) (hb hby d_prog_45_method_6_code_19) hr
  · show Q_rm_isString_18 Z w_STRING w_STRUCTURE w_ENUM h0 n0 _ T243.heap _
    rw [e243]
    exact ⟨rfl, N0, rfl⟩
theorem ef_rm_isString_19 (m : MethodId) (w_UNION : Addr) : entryFrame m #[(.ref w_UNION)] 1 = mkF m 0 #[.val (.ref w_UNION)] [] := by first | (simp [entryFrame, mkF, argsToLocals, Value.category]; done) | rfl
def Q_rm_isString_19 (Z : State) (w_STRING : Addr) (w_UNION : Addr) (w_ENUM : Addr) (h0 : Heap) (n0 : Nat) (v : Option Value) (h : Heap) (L : List Loc) : Prop := v = some (.int (0 : Int32)) ∧ Fr n0 L ∧ h = h0
set_option maxRecDepth 65536 in
set_option maxHeartbeats 40000000 in
theorem rm_isString_19 (l : Launch) (Z : State) (a0 : Array Value) (hw : ∀ d ∈ tables_1, d.before a0 Z = true) (ws : List Jvm.Cond) (w_STRING : Addr) (w_UNION : Addr) (w_ENUM : Addr) (h0 : Heap) (n0 : Nat) (O0 : Old Z n0 h0)  (S_STRING : Sta Z Z.heap "com/example/shapewright/shapewright/model/ShapeType" "STRING" "Lcom/example/shapewright/shapewright/model/ShapeType;" (.ref w_STRING)) (F_ordinal_UNION : Fld Z Z.heap w_UNION "java/lang/Enum" "ordinal" "I" (.int (18 : Int32))) (F_ordinal_STRING : Fld Z Z.heap w_STRING "java/lang/Enum" "ordinal" "I" (.int (3 : Int32))) (S_ENUM : Sta Z Z.heap "com/example/shapewright/shapewright/model/ShapeType" "ENUM" "Lcom/example/shapewright/shapewright/model/ShapeType;" (.ref w_ENUM)) (F_ordinal_ENUM : Fld Z Z.heap w_ENUM "java/lang/Enum" "ordinal" "I" (.int (13 : Int32))) :
    MetFree l (⟨"com/example/shapewright/shapewright/model/ShapeType", "isString", "()Z"⟩ : MethodName) (head1 (Jvm.Cond.code (⟨"com/example/shapewright/shapewright/model/ShapeType", "isString", "()Z"⟩ : MethodName) prog_45_method_6_code 1 (some .boolean) :: ws) ({ frames := 0, cells := 0, slots := 0, locals := 0 } : Room)) (fun a U => a = #[(.ref w_UNION)] ∧ Z.Warmed39 U.vm ∧ U.heap = h0) (fun _ _ _ _ _ => True) (fun _ U o U' => ∃ v L, o = .returned v ∧ Q_rm_isString_19 Z w_STRING w_UNION w_ENUM h0 n0 v U'.heap L ∧ FrameEnd U o U' L ({ frames := 0, cells := 0, slots := 0, locals := 0 } : Room).cells ({ frames := 0, cells := 0, slots := 0, locals := 0 } : Room).slots) := by
  refine MetFree.of_bodySF (plainFor_of_name pn_com_example_shapewright_shapewright_model_ShapeType) hisR ?_
  intro p e s m args below meth c s₁ Bd hml0 hP hK
  obtain ⟨rfl, hZ, hh⟩ := hP
  have hx := Bd.exec
  have hby := Bd.bytes
  have hml : c.maxLocals = 1 := hml0
  have hown : s.vm.findClass "com/example/shapewright/shapewright/model/ShapeType" = some m.cls := findClass_of_methodNamed Bd.named
  have hnm := (name_of_methodNamed Bd.named Bd.method).1
  have X0 : Stand p l e ({ frames := 0, cells := 0, slots := 0, locals := 0 } : Room) s m #[(.ref w_UNION)] below meth c s₁ [] 0 0 := Stand.of_body Bd
  have e0 : s₁.heap = h0 := by rw [← hh, Bd.state]; rfl
  have N0 := Fr.nil n0
  have pre0 : ∀ t, Steps p.tables e below (s₁.setTop (mkF m 0 #[.val (.ref w_UNION)] [])) t → Steps p.tables e below (s₁.setTop (entryFrame m #[(.ref w_UNION)] 1)) t := fun t k => castTop (ef_rm_isString_19 m w_UNION) k
  have K0 := Keep.refl h0 []
  obtain ⟨T252, X252, e252, st252⟩ := getS2 X0 hx hZ hown (host := "") (Or.inl (hw _ (List.mem_of_getElem? (i := 54) rfl))) Via.refl e0 (S_STRING.ext O0.2) (g := (mkF m 1 #[.val (.ref w_UNION)] [(.ref w_UNION)])) rfl (hb hby d_prog_45_method_6_code_1)
  obtain ⟨T253, X253, e253, st253⟩ := getS2 X252 hx hZ hown (host := "") (Or.inl (hw _ (List.mem_of_getElem? (i := 55) rfl))) Via.refl e252 (S_ENUM.ext O0.2) (g := (mkF m 8 #[.val (.ref w_UNION)] [(.ref w_UNION)])) rfl (hb hby d_prog_45_method_6_code_8)
  have pre254 : ∀ t, Steps p.tables e below (T253.setTop (mkF m 19 #[.val (.ref w_UNION)] [(.int (0 : Int32))])) t → Steps p.tables e below (s₁.setTop (entryFrame m #[(.ref w_UNION)] 1)) t := by
    intro t kt
    refine pre0 t ?_
    show Steps p.tables e below (s₁.setTop (mkF m 0 #[.val (.ref w_UNION)] [])) _
    refine XS.aloadN X0.here hx rfl (hb hby d_prog_45_method_6_code_0) rfl rfl ?_
    show Steps p.tables e below (s₁.setTop (mkF m 1 #[.val (.ref w_UNION)] [(.ref w_UNION)])) _
    refine st252 _ ?_
    show Steps p.tables e below (T252.setTop (mkF m 4 #[.val (.ref w_UNION)] [(.ref w_STRING), (.ref w_UNION)])) _
    refine Jvm.RoadKit.acmp (g := (mkF m 4 #[.val (.ref w_UNION)] [(.ref w_STRING), (.ref w_UNION)])) X252 hx rfl rfl rfl (pc0 := 4) (pc' := 7) (same := false) rfl (hb hby d_prog_45_method_6_code_4) rfl (decide_eq_false fun q => (Fld.ne F_ordinal_UNION F_ordinal_STRING (fun q => absurd (Value.int.inj q) (by decide))) (Value.ref.inj q)) (by decide) (by decide) ?_
    show Steps p.tables e below (T252.setTop (mkF m 7 #[.val (.ref w_UNION)] [])) _
    refine XS.aloadN X252.here hx rfl (hb hby d_prog_45_method_6_code_7) rfl rfl ?_
    show Steps p.tables e below (T252.setTop (mkF m 8 #[.val (.ref w_UNION)] [(.ref w_UNION)])) _
    refine st253 _ ?_
    show Steps p.tables e below (T253.setTop (mkF m 11 #[.val (.ref w_UNION)] [(.ref w_ENUM), (.ref w_UNION)])) _
    refine Jvm.RoadKit.acmp (g := (mkF m 11 #[.val (.ref w_UNION)] [(.ref w_ENUM), (.ref w_UNION)])) X253 hx rfl rfl rfl (pc0 := 11) (pc' := 18) (same := false) rfl (hb hby d_prog_45_method_6_code_11) rfl (decide_eq_false fun q => (Fld.ne F_ordinal_UNION F_ordinal_ENUM (fun q => absurd (Value.int.inj q) (by decide))) (Value.ref.inj q)) (by decide) (by decide) ?_
    show Steps p.tables e below (T253.setTop (mkF m 18 #[.val (.ref w_UNION)] [])) _
    refine XS.iconst X253.here hx rfl (hb hby d_prog_45_method_6_code_18) ?_
    exact kt
  obtain ⟨fs, hr, hrun, hended, hW, hsame⟩ := X253.leave (v := some (.int (0 : Int32))) (fun h => by rw [Bd.returns] at h; cases h)
  refine ⟨_, _, pre254 _ ?_, hrun, hended, _, _, rfl, ?_, ⟨_, rfl⟩, hW, hsame.mono (by decide) (by decide)⟩
  · show Steps p.tables e below (T253.setTop (mkF m 19 #[.val (.ref w_UNION)] [(.int (0 : Int32))])) _
    exact retN X253 hx (t := .boolean) Bd.returns (by simp) (hb hby d_prog_45_method_6_code_19) hr
  · show Q_rm_isString_19 Z w_STRING w_UNION w_ENUM h0 n0 _ T253.heap _
    rw [e253]
    exact ⟨rfl, N0, rfl⟩
theorem ef_rm_isString_20 (m : MethodId) (w_SERVICE : Addr) : entryFrame m #[(.ref w_SERVICE)] 1 = mkF m 0 #[.val (.ref w_SERVICE)] [] := by first | (simp [entryFrame, mkF, argsToLocals, Value.category]; done) | rfl
def Q_rm_isString_20 (Z : State) (w_STRING : Addr) (w_SERVICE : Addr) (w_ENUM : Addr) (h0 : Heap) (n0 : Nat) (v : Option Value) (h : Heap) (L : List Loc) : Prop := v = some (.int (0 : Int32)) ∧ Fr n0 L ∧ h = h0
set_option maxRecDepth 65536 in
set_option maxHeartbeats 40000000 in
theorem rm_isString_20 (l : Launch) (Z : State) (a0 : Array Value) (hw : ∀ d ∈ tables_1, d.before a0 Z = true) (ws : List Jvm.Cond) (w_STRING : Addr) (w_SERVICE : Addr) (w_ENUM : Addr) (h0 : Heap) (n0 : Nat) (O0 : Old Z n0 h0)  (S_STRING : Sta Z Z.heap "com/example/shapewright/shapewright/model/ShapeType" "STRING" "Lcom/example/shapewright/shapewright/model/ShapeType;" (.ref w_STRING)) (F_ordinal_SERVICE : Fld Z Z.heap w_SERVICE "java/lang/Enum" "ordinal" "I" (.int (19 : Int32))) (F_ordinal_STRING : Fld Z Z.heap w_STRING "java/lang/Enum" "ordinal" "I" (.int (3 : Int32))) (S_ENUM : Sta Z Z.heap "com/example/shapewright/shapewright/model/ShapeType" "ENUM" "Lcom/example/shapewright/shapewright/model/ShapeType;" (.ref w_ENUM)) (F_ordinal_ENUM : Fld Z Z.heap w_ENUM "java/lang/Enum" "ordinal" "I" (.int (13 : Int32))) :
    MetFree l (⟨"com/example/shapewright/shapewright/model/ShapeType", "isString", "()Z"⟩ : MethodName) (head1 (Jvm.Cond.code (⟨"com/example/shapewright/shapewright/model/ShapeType", "isString", "()Z"⟩ : MethodName) prog_45_method_6_code 1 (some .boolean) :: ws) ({ frames := 0, cells := 0, slots := 0, locals := 0 } : Room)) (fun a U => a = #[(.ref w_SERVICE)] ∧ Z.Warmed39 U.vm ∧ U.heap = h0) (fun _ _ _ _ _ => True) (fun _ U o U' => ∃ v L, o = .returned v ∧ Q_rm_isString_20 Z w_STRING w_SERVICE w_ENUM h0 n0 v U'.heap L ∧ FrameEnd U o U' L ({ frames := 0, cells := 0, slots := 0, locals := 0 } : Room).cells ({ frames := 0, cells := 0, slots := 0, locals := 0 } : Room).slots) := by
  refine MetFree.of_bodySF (plainFor_of_name pn_com_example_shapewright_shapewright_model_ShapeType) hisR ?_
  intro p e s m args below meth c s₁ Bd hml0 hP hK
  obtain ⟨rfl, hZ, hh⟩ := hP
  have hx := Bd.exec
  have hby := Bd.bytes
  have hml : c.maxLocals = 1 := hml0
  have hown : s.vm.findClass "com/example/shapewright/shapewright/model/ShapeType" = some m.cls := findClass_of_methodNamed Bd.named
  have hnm := (name_of_methodNamed Bd.named Bd.method).1
  have X0 : Stand p l e ({ frames := 0, cells := 0, slots := 0, locals := 0 } : Room) s m #[(.ref w_SERVICE)] below meth c s₁ [] 0 0 := Stand.of_body Bd
  have e0 : s₁.heap = h0 := by rw [← hh, Bd.state]; rfl
  have N0 := Fr.nil n0
  have pre0 : ∀ t, Steps p.tables e below (s₁.setTop (mkF m 0 #[.val (.ref w_SERVICE)] [])) t → Steps p.tables e below (s₁.setTop (entryFrame m #[(.ref w_SERVICE)] 1)) t := fun t k => castTop (ef_rm_isString_20 m w_SERVICE) k
  have K0 := Keep.refl h0 []
  obtain ⟨T262, X262, e262, st262⟩ := getS2 X0 hx hZ hown (host := "") (Or.inl (hw _ (List.mem_of_getElem? (i := 54) rfl))) Via.refl e0 (S_STRING.ext O0.2) (g := (mkF m 1 #[.val (.ref w_SERVICE)] [(.ref w_SERVICE)])) rfl (hb hby d_prog_45_method_6_code_1)
  obtain ⟨T263, X263, e263, st263⟩ := getS2 X262 hx hZ hown (host := "") (Or.inl (hw _ (List.mem_of_getElem? (i := 55) rfl))) Via.refl e262 (S_ENUM.ext O0.2) (g := (mkF m 8 #[.val (.ref w_SERVICE)] [(.ref w_SERVICE)])) rfl (hb hby d_prog_45_method_6_code_8)
  have pre264 : ∀ t, Steps p.tables e below (T263.setTop (mkF m 19 #[.val (.ref w_SERVICE)] [(.int (0 : Int32))])) t → Steps p.tables e below (s₁.setTop (entryFrame m #[(.ref w_SERVICE)] 1)) t := by
    intro t kt
    refine pre0 t ?_
    show Steps p.tables e below (s₁.setTop (mkF m 0 #[.val (.ref w_SERVICE)] [])) _
    refine XS.aloadN X0.here hx rfl (hb hby d_prog_45_method_6_code_0) rfl rfl ?_
    show Steps p.tables e below (s₁.setTop (mkF m 1 #[.val (.ref w_SERVICE)] [(.ref w_SERVICE)])) _
    refine st262 _ ?_
    show Steps p.tables e below (T262.setTop (mkF m 4 #[.val (.ref w_SERVICE)] [(.ref w_STRING), (.ref w_SERVICE)])) _
    refine Jvm.RoadKit.acmp (g := (mkF m 4 #[.val (.ref w_SERVICE)] [(.ref w_STRING), (.ref w_SERVICE)])) X262 hx rfl rfl rfl (pc0 := 4) (pc' := 7) (same := false) rfl (hb hby d_prog_45_method_6_code_4) rfl (decide_eq_false fun q => (Fld.ne F_ordinal_SERVICE F_ordinal_STRING (fun q => absurd (Value.int.inj q) (by decide))) (Value.ref.inj q)) (by decide) (by decide) ?_
    show Steps p.tables e below (T262.setTop (mkF m 7 #[.val (.ref w_SERVICE)] [])) _
    refine XS.aloadN X262.here hx rfl (hb hby d_prog_45_method_6_code_7) rfl rfl ?_
    show Steps p.tables e below (T262.setTop (mkF m 8 #[.val (.ref w_SERVICE)] [(.ref w_SERVICE)])) _
    refine st263 _ ?_
    show Steps p.tables e below (T263.setTop (mkF m 11 #[.val (.ref w_SERVICE)] [(.ref w_ENUM), (.ref w_SERVICE)])) _
    refine Jvm.RoadKit.acmp (g := (mkF m 11 #[.val (.ref w_SERVICE)] [(.ref w_ENUM), (.ref w_SERVICE)])) X263 hx rfl rfl rfl (pc0 := 11) (pc' := 18) (same := false) rfl (hb hby d_prog_45_method_6_code_11) rfl (decide_eq_false fun q => (Fld.ne F_ordinal_SERVICE F_ordinal_ENUM (fun q => absurd (Value.int.inj q) (by decide))) (Value.ref.inj q)) (by decide) (by decide) ?_
    show Steps p.tables e below (T263.setTop (mkF m 18 #[.val (.ref w_SERVICE)] [])) _
    refine XS.iconst X263.here hx rfl (hb hby d_prog_45_method_6_code_18) ?_
    exact kt
  obtain ⟨fs, hr, hrun, hended, hW, hsame⟩ := X263.leave (v := some (.int (0 : Int32))) (fun h => by rw [Bd.returns] at h; cases h)
  refine ⟨_, _, pre264 _ ?_, hrun, hended, _, _, rfl, ?_, ⟨_, rfl⟩, hW, hsame.mono (by decide) (by decide)⟩
  · show Steps p.tables e below (T263.setTop (mkF m 19 #[.val (.ref w_SERVICE)] [(.int (0 : Int32))])) _
    exact retN X263 hx (t := .boolean) Bd.returns (by simp) (hb hby d_prog_45_method_6_code_19) hr
  · show Q_rm_isString_20 Z w_STRING w_SERVICE w_ENUM h0 n0 _ T263.heap _
    rw [e263]
    exact ⟨rfl, N0, rfl⟩
theorem ef_rm_isString_21 (m : MethodId) (w_OPERATION : Addr) : entryFrame m #[(.ref w_OPERATION)] 1 = mkF m 0 #[.val (.ref w_OPERATION)] [] := by first | (simp [entryFrame, mkF, argsToLocals, Value.category]; done) | rfl
def Q_rm_isString_21 (Z : State) (w_STRING : Addr) (w_OPERATION : Addr) (w_ENUM : Addr) (h0 : Heap) (n0 : Nat) (v : Option Value) (h : Heap) (L : List Loc) : Prop := v = some (.int (0 : Int32)) ∧ Fr n0 L ∧ h = h0
set_option maxRecDepth 65536 in
set_option maxHeartbeats 40000000 in
theorem rm_isString_21 (l : Launch) (Z : State) (a0 : Array Value) (hw : ∀ d ∈ tables_1, d.before a0 Z = true) (ws : List Jvm.Cond) (w_STRING : Addr) (w_OPERATION : Addr) (w_ENUM : Addr) (h0 : Heap) (n0 : Nat) (O0 : Old Z n0 h0)  (S_STRING : Sta Z Z.heap "com/example/shapewright/shapewright/model/ShapeType" "STRING" "Lcom/example/shapewright/shapewright/model/ShapeType;" (.ref w_STRING)) (F_ordinal_OPERATION : Fld Z Z.heap w_OPERATION "java/lang/Enum" "ordinal" "I" (.int (20 : Int32))) (F_ordinal_STRING : Fld Z Z.heap w_STRING "java/lang/Enum" "ordinal" "I" (.int (3 : Int32))) (S_ENUM : Sta Z Z.heap "com/example/shapewright/shapewright/model/ShapeType" "ENUM" "Lcom/example/shapewright/shapewright/model/ShapeType;" (.ref w_ENUM)) (F_ordinal_ENUM : Fld Z Z.heap w_ENUM "java/lang/Enum" "ordinal" "I" (.int (13 : Int32))) :
    MetFree l (⟨"com/example/shapewright/shapewright/model/ShapeType", "isString", "()Z"⟩ : MethodName) (head1 (Jvm.Cond.code (⟨"com/example/shapewright/shapewright/model/ShapeType", "isString", "()Z"⟩ : MethodName) prog_45_method_6_code 1 (some .boolean) :: ws) ({ frames := 0, cells := 0, slots := 0, locals := 0 } : Room)) (fun a U => a = #[(.ref w_OPERATION)] ∧ Z.Warmed39 U.vm ∧ U.heap = h0) (fun _ _ _ _ _ => True) (fun _ U o U' => ∃ v L, o = .returned v ∧ Q_rm_isString_21 Z w_STRING w_OPERATION w_ENUM h0 n0 v U'.heap L ∧ FrameEnd U o U' L ({ frames := 0, cells := 0, slots := 0, locals := 0 } : Room).cells ({ frames := 0, cells := 0, slots := 0, locals := 0 } : Room).slots) := by
  refine MetFree.of_bodySF (plainFor_of_name pn_com_example_shapewright_shapewright_model_ShapeType) hisR ?_
  intro p e s m args below meth c s₁ Bd hml0 hP hK
  obtain ⟨rfl, hZ, hh⟩ := hP
  have hx := Bd.exec
  have hby := Bd.bytes
  have hml : c.maxLocals = 1 := hml0
  have hown : s.vm.findClass "com/example/shapewright/shapewright/model/ShapeType" = some m.cls := findClass_of_methodNamed Bd.named
  have hnm := (name_of_methodNamed Bd.named Bd.method).1
  have X0 : Stand p l e ({ frames := 0, cells := 0, slots := 0, locals := 0 } : Room) s m #[(.ref w_OPERATION)] below meth c s₁ [] 0 0 := Stand.of_body Bd
  have e0 : s₁.heap = h0 := by rw [← hh, Bd.state]; rfl
  have N0 := Fr.nil n0
  have pre0 : ∀ t, Steps p.tables e below (s₁.setTop (mkF m 0 #[.val (.ref w_OPERATION)] [])) t → Steps p.tables e below (s₁.setTop (entryFrame m #[(.ref w_OPERATION)] 1)) t := fun t k => castTop (ef_rm_isString_21 m w_OPERATION) k
  have K0 := Keep.refl h0 []
  obtain ⟨T272, X272, e272, st272⟩ := getS2 X0 hx hZ hown (host := "") (Or.inl (hw _ (List.mem_of_getElem? (i := 54) rfl))) Via.refl e0 (S_STRING.ext O0.2) (g := (mkF m 1 #[.val (.ref w_OPERATION)] [(.ref w_OPERATION)])) rfl (hb hby d_prog_45_method_6_code_1)
  obtain ⟨T273, X273, e273, st273⟩ := getS2 X272 hx hZ hown (host := "") (Or.inl (hw _ (List.mem_of_getElem? (i := 55) rfl))) Via.refl e272 (S_ENUM.ext O0.2) (g := (mkF m 8 #[.val (.ref w_OPERATION)] [(.ref w_OPERATION)])) rfl (hb hby d_prog_45_method_6_code_8)
  have pre274 : ∀ t, Steps p.tables e below (T273.setTop (mkF m 19 #[.val (.ref w_OPERATION)] [(.int (0 : Int32))])) t → Steps p.tables e below (s₁.setTop (entryFrame m #[(.ref w_OPERATION)] 1)) t := by
    intro t kt
    refine pre0 t ?_
    show Steps p.tables e below (s₁.setTop (mkF m 0 #[.val (.ref w_OPERATION)] [])) _
    refine XS.aloadN X0.here hx rfl (hb hby d_prog_45_method_6_code_0) rfl rfl ?_
    show Steps p.tables e below (s₁.setTop (mkF m 1 #[.val (.ref w_OPERATION)] [(.ref w_OPERATION)])) _
    refine st272 _ ?_
    show Steps p.tables e below (T272.setTop (mkF m 4 #[.val (.ref w_OPERATION)] [(.ref w_STRING), (.ref w_OPERATION)])) _
    refine Jvm.RoadKit.acmp (g := (mkF m 4 #[.val (.ref w_OPERATION)] [(.ref w_STRING), (.ref w_OPERATION)])) X272 hx rfl rfl rfl (pc0 := 4) (pc' := 7) (same := false) rfl (hb hby d_prog_45_method_6_code_4) rfl (decide_eq_false fun q => (Fld.ne F_ordinal_OPERATION F_ordinal_STRING (fun q => absurd (Value.int.inj q) (by decide))) (Value.ref.inj q)) (by decide) (by decide) ?_
    show Steps p.tables e below (T272.setTop (mkF m 7 #[.val (.ref w_OPERATION)] [])) _
    refine XS.aloadN X272.here hx rfl (hb hby d_prog_45_method_6_code_7) rfl rfl ?_
    show Steps p.tables e below (T272.setTop (mkF m 8 #[.val (.ref w_OPERATION)] [(.ref w_OPERATION)])) _
    refine st273 _ ?_
    show Steps p.tables e below (T273.setTop (mkF m 11 #[.val (.ref w_OPERATION)] [(.ref w_ENUM), (.ref w_OPERATION)])) _
    refine Jvm.RoadKit.acmp (g := (mkF m 11 #[.val (.ref w_OPERATION)] [(.ref w_ENUM), (.ref w_OPERATION)])) X273 hx rfl rfl rfl (pc0 := 11) (pc' := 18) (same := false) rfl (hb hby d_prog_45_method_6_code_11) rfl (decide_eq_false fun q => (Fld.ne F_ordinal_OPERATION F_ordinal_ENUM (fun q => absurd (Value.int.inj q) (by decide))) (Value.ref.inj q)) (by decide) (by decide) ?_
    show Steps p.tables e below (T273.setTop (mkF m 18 #[.val (.ref w_OPERATION)] [])) _
    refine XS.iconst X273.here hx rfl (hb hby d_prog_45_method_6_code_18) ?_
    exact kt
  obtain ⟨fs, hr, hrun, hended, hW, hsame⟩ := X273.leave (v := some (.int (0 : Int32))) (fun h => by rw [Bd.returns] at h; cases h)
  refine ⟨_, _, pre274 _ ?_, hrun, hended, _, _, rfl, ?_, ⟨_, rfl⟩, hW, hsame.mono (by decide) (by decide)⟩
  · show Steps p.tables e below (T273.setTop (mkF m 19 #[.val (.ref w_OPERATION)] [(.int (0 : Int32))])) _
    exact retN X273 hx (t := .boolean) Bd.returns (by simp) (hb hby d_prog_45_method_6_code_19) hr
  · show Q_rm_isString_21 Z w_STRING w_OPERATION w_ENUM h0 n0 _ T273.heap _
    rw [e273]
    exact ⟨rfl, N0, rfl⟩
theorem ef_rm_isString_22 (m : MethodId) (w_RESOURCE : Addr) : entryFrame m #[(.ref w_RESOURCE)] 1 = mkF m 0 #[.val (.ref w_RESOURCE)] [] := by first | (simp [entryFrame, mkF, argsToLocals, Value.category]; done) | rfl
def Q_rm_isString_22 (Z : State) (w_STRING : Addr) (w_RESOURCE : Addr) (w_ENUM : Addr) (h0 : Heap) (n0 : Nat) (v : Option Value) (h : Heap) (L : List Loc) : Prop := v = some (.int (0 : Int32)) ∧ Fr n0 L ∧ h = h0
set_option maxRecDepth 65536 in
set_option maxHeartbeats 40000000 in
theorem rm_isString_22 (l : Launch) (Z : State) (a0 : Array Value) (hw : ∀ d ∈ tables_1, d.before a0 Z = true) (ws : List Jvm.Cond) (w_STRING : Addr) (w_RESOURCE : Addr) (w_ENUM : Addr) (h0 : Heap) (n0 : Nat) (O0 : Old Z n0 h0)  (S_STRING : Sta Z Z.heap "com/example/shapewright/shapewright/model/ShapeType" "STRING" "Lcom/example/shapewright/shapewright/model/ShapeType;" (.ref w_STRING)) (F_ordinal_RESOURCE : Fld Z Z.heap w_RESOURCE "java/lang/Enum" "ordinal" "I" (.int (21 : Int32))) (F_ordinal_STRING : Fld Z Z.heap w_STRING "java/lang/Enum" "ordinal" "I" (.int (3 : Int32))) (S_ENUM : Sta Z Z.heap "com/example/shapewright/shapewright/model/ShapeType" "ENUM" "Lcom/example/shapewright/shapewright/model/ShapeType;" (.ref w_ENUM)) (F_ordinal_ENUM : Fld Z Z.heap w_ENUM "java/lang/Enum" "ordinal" "I" (.int (13 : Int32))) :
    MetFree l (⟨"com/example/shapewright/shapewright/model/ShapeType", "isString", "()Z"⟩ : MethodName) (head1 (Jvm.Cond.code (⟨"com/example/shapewright/shapewright/model/ShapeType", "isString", "()Z"⟩ : MethodName) prog_45_method_6_code 1 (some .boolean) :: ws) ({ frames := 0, cells := 0, slots := 0, locals := 0 } : Room)) (fun a U => a = #[(.ref w_RESOURCE)] ∧ Z.Warmed39 U.vm ∧ U.heap = h0) (fun _ _ _ _ _ => True) (fun _ U o U' => ∃ v L, o = .returned v ∧ Q_rm_isString_22 Z w_STRING w_RESOURCE w_ENUM h0 n0 v U'.heap L ∧ FrameEnd U o U' L ({ frames := 0, cells := 0, slots := 0, locals := 0 } : Room).cells ({ frames := 0, cells := 0, slots := 0, locals := 0 } : Room).slots) := by
  refine MetFree.of_bodySF (plainFor_of_name pn_com_example_shapewright_shapewright_model_ShapeType) hisR ?_
  intro p e s m args below meth c s₁ Bd hml0 hP hK
  obtain ⟨rfl, hZ, hh⟩ := hP
  have hx := Bd.exec
  have hby := Bd.bytes
  have hml : c.maxLocals = 1 := hml0
  have hown : s.vm.findClass "com/example/shapewright/shapewright/model/ShapeType" = some m.cls := findClass_of_methodNamed Bd.named
  have hnm := (name_of_methodNamed Bd.named Bd.method).1
  have X0 : Stand p l e ({ frames := 0, cells := 0, slots := 0, locals := 0 } : Room) s m #[(.ref w_RESOURCE)] below meth c s₁ [] 0 0 := Stand.of_body Bd
  have e0 : s₁.heap = h0 := by rw [← hh, Bd.state]; rfl
  have N0 := Fr.nil n0
  have pre0 : ∀ t, Steps p.tables e below (s₁.setTop (mkF m 0 #[.val (.ref w_RESOURCE)] [])) t → Steps p.tables e below (s₁.setTop (entryFrame m #[(.ref w_RESOURCE)] 1)) t := fun t k => castTop (ef_rm_isString_22 m w_RESOURCE) k
  have K0 := Keep.refl h0 []
  obtain ⟨T282, X282, e282, st282⟩ := getS2 X0 hx hZ hown (host := "") (Or.inl (hw _ (List.mem_of_getElem? (i := 54) rfl))) Via.refl e0 (S_STRING.ext O0.2) (g := (mkF m 1 #[.val (.ref w_RESOURCE)] [(.ref w_RESOURCE)])) rfl (hb hby d_prog_45_method_6_code_1)
  obtain ⟨T283, X283, e283, st283⟩ := getS2 X282 hx hZ hown (host := "") (Or.inl (hw _ (List.mem_of_getElem? (i := 55) rfl))) Via.refl e282 (S_ENUM.ext O0.2) (g := (mkF m 8 #[.val (.ref w_RESOURCE)] [(.ref w_RESOURCE)])) rfl (hb hby d_prog_45_method_6_code_8)
  have pre284 : ∀ t, Steps p.tables e below (T283.setTop (mkF m 19 #[.val (.ref w_RESOURCE)] [(.int (0 : Int32))])) t → Steps p.tables e below (s₁.setTop (entryFrame m #[(.ref w_RESOURCE)] 1)) t := by
    intro t kt
    refine pre0 t ?_
    show Steps p.tables e below (s₁.setTop (mkF m 0 #[.val (.ref w_RESOURCE)] [])) _
    refine XS.aloadN X0.here hx rfl (hb hby d_prog_45_method_6_code_0) rfl rfl ?_
    show Steps p.tables e below (s₁.setTop (mkF m 1 #[.val (.ref w_RESOURCE)] [(.ref w_RESOURCE)])) _
    refine st282 _ ?_
    show Steps p.tables e below (T282.setTop (mkF m 4 #[.val (.ref w_RESOURCE)] [(.ref w_STRING), (.ref w_RESOURCE)])) _
    refine Jvm.RoadKit.acmp (g := (mkF m 4 #[.val (.ref w_RESOURCE)] [(.ref w_STRING), (.ref w_RESOURCE)])) X282 hx rfl rfl rfl (pc0 := 4) (pc' := 7) (same := false) rfl (hb hby d_prog_45_method_6_code_4) rfl (decide_eq_false fun q => (Fld.ne F_ordinal_RESOURCE F_ordinal_STRING (fun q => absurd (Value.int.inj q) (by decide))) (Value.ref.inj q)) (by decide) (by decide) ?_
    show Steps p.tables e below (T282.setTop (mkF m 7 #[.val (.ref w_RESOURCE)] [])) _
    refine XS.aloadN X282.here hx rfl (hb hby d_prog_45_method_6_code_7) rfl rfl ?_
    show Steps p.tables e below (T282.setTop (mkF m 8 #[.val (.ref w_RESOURCE)] [(.ref w_RESOURCE)])) _
    refine st283 _ ?_
    show Steps p.tables e below (T283.setTop (mkF m 11 #[.val (.ref w_RESOURCE)] [(.ref w_ENUM), (.ref w_RESOURCE)])) _
    refine Jvm.RoadKit.acmp (g := (mkF m 11 #[.val (.ref w_RESOURCE)] [(.ref w_ENUM), (.ref w_RESOURCE)])) X283 hx rfl rfl rfl (pc0 := 11) (pc' := 18) (same := false) rfl (hb hby d_prog_45_method_6_code_11) rfl (decide_eq_false fun q => (Fld.ne F_ordinal_RESOURCE F_ordinal_ENUM (fun q => absurd (Value.int.inj q) (by decide))) (Value.ref.inj q)) (by decide) (by decide) ?_
    show Steps p.tables e below (T283.setTop (mkF m 18 #[.val (.ref w_RESOURCE)] [])) _
    refine XS.iconst X283.here hx rfl (hb hby d_prog_45_method_6_code_18) ?_
    exact kt
  obtain ⟨fs, hr, hrun, hended, hW, hsame⟩ := X283.leave (v := some (.int (0 : Int32))) (fun h => by rw [Bd.returns] at h; cases h)
  refine ⟨_, _, pre284 _ ?_, hrun, hended, _, _, rfl, ?_, ⟨_, rfl⟩, hW, hsame.mono (by decide) (by decide)⟩
  · show Steps p.tables e below (T283.setTop (mkF m 19 #[.val (.ref w_RESOURCE)] [(.int (0 : Int32))])) _
    exact retN X283 hx (t := .boolean) Bd.returns (by simp) (hb hby d_prog_45_method_6_code_19) hr
  · show Q_rm_isString_22 Z w_STRING w_RESOURCE w_ENUM h0 n0 _ T283.heap _
    rw [e283]
    exact ⟨rfl, N0, rfl⟩
theorem pd___Z : parseMethodDescriptor "()Z" = some ⟨[], some .boolean⟩ := by decide +kernel
theorem pn_com_example_shapewright_shapewright_model_ShapeTypeIsStringPinLaw : plainName "com/example/shapewright/shapewright/model/ShapeTypeIsStringPinLaw" = true := by first | (simp [plainName, overriddenIn]; done) | decide +kernel
theorem ef_rm0 (m : MethodId) (p0 : Int32) : entryFrame m #[(.int p0)] maxLocals = mkF m 0 #[.val (.int p0), .unset, .unset, .unset] [] := by first | (simp [entryFrame, mkF, argsToLocals, Value.category, maxLocals]; done) | rfl
def Q_rm0 (Z : State) (p0 : Int32) (w_BLOB : Addr) (w_BOOLEAN : Addr) (w_DOCUMENT : Addr) (w_STRING : Addr) (w_BYTE : Addr) (w_SHORT : Addr) (w_INTEGER : Addr) (w_LONG : Addr) (w_FLOAT : Addr) (w_DOUBLE : Addr) (w_BIG_INTEGER : Addr) (w_BIG_DECIMAL : Addr) (w_TIMESTAMP : Addr) (w_ENUM : Addr) (w_INT_ENUM : Addr) (w_LIST : Addr) (w_MAP : Addr) (w_STRUCTURE : Addr) (w_UNION : Addr) (w_SERVICE : Addr) (w_OPERATION : Addr) (w_RESOURCE : Addr) (h0 : Heap) (n0 : Nat) (v : Option Value) (h : Heap) (L : List Loc) : Prop := v = some (.int 1) ∧ Fr n0 L
set_option maxRecDepth 65536 in
set_option maxHeartbeats 40000000 in
theorem rm0 (l : Launch) (Z : State) (a0 : Array Value) (hw : ∀ d ∈ tables_1, d.before a0 Z = true) (ws : List Jvm.Cond) (p0 : Int32) (w_BLOB : Addr) (w_BOOLEAN : Addr) (w_DOCUMENT : Addr) (w_STRING : Addr) (w_BYTE : Addr) (w_SHORT : Addr) (w_INTEGER : Addr) (w_LONG : Addr) (w_FLOAT : Addr) (w_DOUBLE : Addr) (w_BIG_INTEGER : Addr) (w_BIG_DECIMAL : Addr) (w_TIMESTAMP : Addr) (w_ENUM : Addr) (w_INT_ENUM : Addr) (w_LIST : Addr) (w_MAP : Addr) (w_STRUCTURE : Addr) (w_UNION : Addr) (w_SERVICE : Addr) (w_OPERATION : Addr) (w_RESOURCE : Addr) (h0 : Heap) (n0 : Nat) (O0 : Old Z n0 h0) (S_BLOB : Sta Z Z.heap "com/example/shapewright/shapewright/model/ShapeType" "BLOB" "Lcom/example/shapewright/shapewright/model/ShapeType;" (.ref w_BLOB)) (E_BLOB : Exa Z Z.heap w_BLOB "com/example/shapewright/shapewright/model/ShapeType") (S_BOOLEAN : Sta Z Z.heap "com/example/shapewright/shapewright/model/ShapeType" "BOOLEAN" "Lcom/example/shapewright/shapewright/model/ShapeType;" (.ref w_BOOLEAN)) (E_BOOLEAN : Exa Z Z.heap w_BOOLEAN "com/example/shapewright/shapewright/model/ShapeType") (S_DOCUMENT : Sta Z Z.heap "com/example/shapewright/shapewright/model/ShapeType" "DOCUMENT" "Lcom/example/shapewright/shapewright/model/ShapeType;" (.ref w_DOCUMENT)) (E_DOCUMENT : Exa Z Z.heap w_DOCUMENT "com/example/shapewright/shapewright/model/ShapeType") (S_STRING : Sta Z Z.heap "com/example/shapewright/shapewright/model/ShapeType" "STRING" "Lcom/example/shapewright/shapewright/model/ShapeType;" (.ref w_STRING)) (E_STRING : Exa Z Z.heap w_STRING "com/example/shapewright/shapewright/model/ShapeType") (S_BYTE : Sta Z Z.heap "com/example/shapewright/shapewright/model/ShapeType" "BYTE" "Lcom/example/shapewright/shapewright/model/ShapeType;" (.ref w_BYTE)) (E_BYTE : Exa Z Z.heap w_BYTE "com/example/shapewright/shapewright/model/ShapeType") (S_SHORT : Sta Z Z.heap "com/example/shapewright/shapewright/model/ShapeType" "SHORT" "Lcom/example/shapewright/shapewright/model/ShapeType;" (.ref w_SHORT)) (E_SHORT : Exa Z Z.heap w_SHORT "com/example/shapewright/shapewright/model/ShapeType") (S_INTEGER : Sta Z Z.heap "com/example/shapewright/shapewright/model/ShapeType" "INTEGER" "Lcom/example/shapewright/shapewright/model/ShapeType;" (.ref w_INTEGER)) (E_INTEGER : Exa Z Z.heap w_INTEGER "com/example/shapewright/shapewright/model/ShapeType") (S_LONG : Sta Z Z.heap "com/example/shapewright/shapewright/model/ShapeType" "LONG" "Lcom/example/shapewright/shapewright/model/ShapeType;" (.ref w_LONG)) (E_LONG : Exa Z Z.heap w_LONG "com/example/shapewright/shapewright/model/ShapeType") (S_FLOAT : Sta Z Z.heap "com/example/shapewright/shapewright/model/ShapeType" "FLOAT" "Lcom/example/shapewright/shapewright/model/ShapeType;" (.ref w_FLOAT)) (E_FLOAT : Exa Z Z.heap w_FLOAT "com/example/shapewright/shapewright/model/ShapeType") (S_DOUBLE : Sta Z Z.heap "com/example/shapewright/shapewright/model/ShapeType" "DOUBLE" "Lcom/example/shapewright/shapewright/model/ShapeType;" (.ref w_DOUBLE)) (E_DOUBLE : Exa Z Z.heap w_DOUBLE "com/example/shapewright/shapewright/model/ShapeType") (S_BIG_INTEGER : Sta Z Z.heap "com/example/shapewright/shapewright/model/ShapeType" "BIG_INTEGER" "Lcom/example/shapewright/shapewright/model/ShapeType;" (.ref w_BIG_INTEGER)) (E_BIG_INTEGER : Exa Z Z.heap w_BIG_INTEGER "com/example/shapewright/shapewright/model/ShapeType") (S_BIG_DECIMAL : Sta Z Z.heap "com/example/shapewright/shapewright/model/ShapeType" "BIG_DECIMAL" "Lcom/example/shapewright/shapewright/model/ShapeType;" (.ref w_BIG_DECIMAL)) (E_BIG_DECIMAL : Exa Z Z.heap w_BIG_DECIMAL "com/example/shapewright/shapewright/model/ShapeType") (S_TIMESTAMP : Sta Z Z.heap "com/example/shapewright/shapewright/model/ShapeType" "TIMESTAMP" "Lcom/example/shapewright/shapewright/model/ShapeType;" (.ref w_TIMESTAMP)) (E_TIMESTAMP : Exa Z Z.heap w_TIMESTAMP "com/example/shapewright/shapewright/model/ShapeType") (S_ENUM : Sta Z Z.heap "com/example/shapewright/shapewright/model/ShapeType" "ENUM" "Lcom/example/shapewright/shapewright/model/ShapeType;" (.ref w_ENUM)) (E_ENUM : Exa Z Z.heap w_ENUM "com/example/shapewright/shapewright/model/ShapeType") (S_INT_ENUM : Sta Z Z.heap "com/example/shapewright/shapewright/model/ShapeType" "INT_ENUM" "Lcom/example/shapewright/shapewright/model/ShapeType;" (.ref w_INT_ENUM)) (E_INT_ENUM : Exa Z Z.heap w_INT_ENUM "com/example/shapewright/shapewright/model/ShapeType") (S_LIST : Sta Z Z.heap "com/example/shapewright/shapewright/model/ShapeType" "LIST" "Lcom/example/shapewright/shapewright/model/ShapeType;" (.ref w_LIST)) (E_LIST : Exa Z Z.heap w_LIST "com/example/shapewright/shapewright/model/ShapeType") (S_MAP : Sta Z Z.heap "com/example/shapewright/shapewright/model/ShapeType" "MAP" "Lcom/example/shapewright/shapewright/model/ShapeType;" (.ref w_MAP)) (E_MAP : Exa Z Z.heap w_MAP "com/example/shapewright/shapewright/model/ShapeType") (S_STRUCTURE : Sta Z Z.heap "com/example/shapewright/shapewright/model/ShapeType" "STRUCTURE" "Lcom/example/shapewright/shapewright/model/ShapeType;" (.ref w_STRUCTURE)) (E_STRUCTURE : Exa Z Z.heap w_STRUCTURE "com/example/shapewright/shapewright/model/ShapeType") (S_UNION : Sta Z Z.heap "com/example/shapewright/shapewright/model/ShapeType" "UNION" "Lcom/example/shapewright/shapewright/model/ShapeType;" (.ref w_UNION)) (E_UNION : Exa Z Z.heap w_UNION "com/example/shapewright/shapewright/model/ShapeType") (S_SERVICE : Sta Z Z.heap "com/example/shapewright/shapewright/model/ShapeType" "SERVICE" "Lcom/example/shapewright/shapewright/model/ShapeType;" (.ref w_SERVICE)) (E_SERVICE : Exa Z Z.heap w_SERVICE "com/example/shapewright/shapewright/model/ShapeType") (S_OPERATION : Sta Z Z.heap "com/example/shapewright/shapewright/model/ShapeType" "OPERATION" "Lcom/example/shapewright/shapewright/model/ShapeType;" (.ref w_OPERATION)) (E_OPERATION : Exa Z Z.heap w_OPERATION "com/example/shapewright/shapewright/model/ShapeType") (S_RESOURCE : Sta Z Z.heap "com/example/shapewright/shapewright/model/ShapeType" "RESOURCE" "Lcom/example/shapewright/shapewright/model/ShapeType;" (.ref w_RESOURCE)) (E_RESOURCE : Exa Z Z.heap w_RESOURCE "com/example/shapewright/shapewright/model/ShapeType") (F_ordinal_BLOB : Fld Z Z.heap w_BLOB "java/lang/Enum" "ordinal" "I" (.int (0 : Int32))) (F_ordinal_STRING : Fld Z Z.heap w_STRING "java/lang/Enum" "ordinal" "I" (.int (3 : Int32))) (F_ordinal_ENUM : Fld Z Z.heap w_ENUM "java/lang/Enum" "ordinal" "I" (.int (13 : Int32))) (F_ordinal_BOOLEAN : Fld Z Z.heap w_BOOLEAN "java/lang/Enum" "ordinal" "I" (.int (1 : Int32))) (F_ordinal_DOCUMENT : Fld Z Z.heap w_DOCUMENT "java/lang/Enum" "ordinal" "I" (.int (2 : Int32))) (F_ordinal_BYTE : Fld Z Z.heap w_BYTE "java/lang/Enum" "ordinal" "I" (.int (4 : Int32))) (F_ordinal_SHORT : Fld Z Z.heap w_SHORT "java/lang/Enum" "ordinal" "I" (.int (5 : Int32))) (F_ordinal_INTEGER : Fld Z Z.heap w_INTEGER "java/lang/Enum" "ordinal" "I" (.int (6 : Int32))) (F_ordinal_LONG : Fld Z Z.heap w_LONG "java/lang/Enum" "ordinal" "I" (.int (7 : Int32))) (F_ordinal_FLOAT : Fld Z Z.heap w_FLOAT "java/lang/Enum" "ordinal" "I" (.int (8 : Int32))) (F_ordinal_DOUBLE : Fld Z Z.heap w_DOUBLE "java/lang/Enum" "ordinal" "I" (.int (9 : Int32))) (F_ordinal_BIG_INTEGER : Fld Z Z.heap w_BIG_INTEGER "java/lang/Enum" "ordinal" "I" (.int (10 : Int32))) (F_ordinal_BIG_DECIMAL : Fld Z Z.heap w_BIG_DECIMAL "java/lang/Enum" "ordinal" "I" (.int (11 : Int32))) (F_ordinal_TIMESTAMP : Fld Z Z.heap w_TIMESTAMP "java/lang/Enum" "ordinal" "I" (.int (12 : Int32))) (F_ordinal_INT_ENUM : Fld Z Z.heap w_INT_ENUM "java/lang/Enum" "ordinal" "I" (.int (14 : Int32))) (F_ordinal_LIST : Fld Z Z.heap w_LIST "java/lang/Enum" "ordinal" "I" (.int (15 : Int32))) (F_ordinal_MAP : Fld Z Z.heap w_MAP "java/lang/Enum" "ordinal" "I" (.int (16 : Int32))) (F_ordinal_STRUCTURE : Fld Z Z.heap w_STRUCTURE "java/lang/Enum" "ordinal" "I" (.int (17 : Int32))) (F_ordinal_UNION : Fld Z Z.heap w_UNION "java/lang/Enum" "ordinal" "I" (.int (18 : Int32))) (F_ordinal_SERVICE : Fld Z Z.heap w_SERVICE "java/lang/Enum" "ordinal" "I" (.int (19 : Int32))) (F_ordinal_OPERATION : Fld Z Z.heap w_OPERATION "java/lang/Enum" "ordinal" "I" (.int (20 : Int32))) (F_ordinal_RESOURCE : Fld Z Z.heap w_RESOURCE "java/lang/Enum" "ordinal" "I" (.int (21 : Int32))) :
    MetFree l x (head1 (Jvm.Cond.code x code maxLocals ret :: ws) room_1) (fun a U => a = #[(.int p0)] ∧ Z.Warmed39 U.vm ∧ U.heap = h0) (fun _ _ _ _ _ => True) (fun _ U o U' => ∃ v L, o = .returned v ∧ Q_rm0 Z p0 w_BLOB w_BOOLEAN w_DOCUMENT w_STRING w_BYTE w_SHORT w_INTEGER w_LONG w_FLOAT w_DOUBLE w_BIG_INTEGER w_BIG_DECIMAL w_TIMESTAMP w_ENUM w_INT_ENUM w_LIST w_MAP w_STRUCTURE w_UNION w_SERVICE w_OPERATION w_RESOURCE h0 n0 v U'.heap L ∧ FrameEnd U o U' L room_1.cells room_1.slots) := by
  refine MetFree.of_bodySF (plainFor_of_name pn_com_example_shapewright_shapewright_model_ShapeTypeIsStringPinLaw) hisR ?_
  intro p e s m args below meth c s₁ Bd hml0 hP hK
  obtain ⟨rfl, hZ, hh⟩ := hP
  have hx := Bd.exec
  have hby := Bd.bytes
  have hml : c.maxLocals = 4 := hml0
  have hown : s.vm.findClass "com/example/shapewright/shapewright/model/ShapeTypeIsStringPinLaw" = some m.cls := findClass_of_methodNamed Bd.named
  have hnm := (name_of_methodNamed Bd.named Bd.method).1
  have X0 : Stand p l e room_1 s m #[(.int p0)] below meth c s₁ [] 0 0 := Stand.of_body Bd
  have e0 : s₁.heap = h0 := by rw [← hh, Bd.state]; rfl
  have N0 := Fr.nil n0
  have pre0 : ∀ t, Steps p.tables e below (s₁.setTop (mkF m 0 #[.val (.int p0), .unset, .unset, .unset] [])) t → Steps p.tables e below (s₁.setTop (entryFrame m #[(.int p0)] maxLocals)) t := fun t k => castTop (ef_rm0 m p0) k
  obtain ⟨T1, h1, k1, X1, e1, E1, A1, Ov1, st1⟩ := newR X0 hx hZ hown (hw _ (List.mem_of_getElem? (i := 0) rfl)) (hw _ (List.mem_of_getElem? (i := 1) rfl)) e0 (g := (mkF m 2 #[.val (.int p0), .unset, .unset, .unset] [(.int (22 : Int32))])) rfl (hb hby at_2) rfl (by decide) (cap := 22) (by decide) (by decide) (by decide) (by decide)
  obtain ⟨b1, g1⟩ : ∃ z, z = h0.size := ⟨_, rfl⟩
  have ge_b1 : n0 ≤ b1 := Nat.le_trans (own_z O0) (Nat.le_of_eq g1.symm)
  rw [← g1] at A1 st1
  have O1 := O0.ext E1
  have V_b1 : Arv Z h1 b1 k1 (.object "com/example/shapewright/shapewright/model/ShapeType") (22 : Int32) [.null, .null, .null, .null, .null, .null, .null, .null, .null, .null, .null, .null, .null, .null, .null, .null, .null, .null, .null, .null, .null, .null] .null := (Arv.new A1 (by decide)).pad (pad_rep [] .null 22)
  obtain ⟨T2, X2, e2, st2⟩ := getS2 X1 hx hZ hown (host := "") (Or.inl (hw _ (List.mem_of_getElem? (i := 2) rfl))) Via.refl e1 (S_BLOB.ext O1.2) (g := (mkF m 7 #[.val (.int p0), .unset, .unset, .unset] [(.int (0 : Int32)), (.ref b1), (.ref b1)])) rfl (hb hby at_7)
  have vt3 := V_b1
  obtain ⟨cl3, Ar3, q3, S3, Ng3, Ha3, G3⟩ := vt3
  have hin3 : ¬ ((0 : Int32) < 0 ∨ cl3.slots.size ≤ ((0 : Int32)).toNatClampNeg) := inb_of S3 ⟨by decide, by decide⟩
  obtain ⟨T4, h4, X4, e4, W4, st4⟩ := stR X2 hx hZ e2 Ar3 (j := (0 : Int32)) hin3 rfl (Sto.ofV Ar3 q3 Ov1 (Ins.self (E_BLOB.ext O1.2))) (g := (mkF m 10 #[.val (.int p0), .unset, .unset, .unset] [(.ref w_BLOB), (.int (0 : Int32)), (.ref b1), (.ref b1)])) rfl rfl (hb hby at_10)
  have V_b1 : Arv Z h4 b1 k1 (.object "com/example/shapewright/shapewright/model/ShapeType") (22 : Int32) [(.ref w_BLOB), .null, .null, .null, .null, .null, .null, .null, .null, .null, .null, .null, .null, .null, .null, .null, .null, .null, .null, .null, .null, .null] .null := Arv.set Ar3 q3 S3 Ng3 Ha3 G3 rfl W4 0 rfl (Nat.le_of_ble_eq_true rfl)
  have O4 := O1.wr W4 ge_b1
  have N4 := Fr.snoc X4 N0 ge_b1
  obtain ⟨T5, X5, e5, st5⟩ := getS2 X4 hx hZ hown (host := "") (Or.inl (hw _ (List.mem_of_getElem? (i := 6) rfl))) Via.refl e4 (S_BOOLEAN.ext O4.2) (g := (mkF m 13 #[.val (.int p0), .unset, .unset, .unset] [(.int (1 : Int32)), (.ref b1), (.ref b1)])) rfl (hb hby at_13)
  have vt6 := V_b1
  obtain ⟨cl6, Ar6, q6, S6, Ng6, Ha6, G6⟩ := vt6
  have hin6 : ¬ ((1 : Int32) < 0 ∨ cl6.slots.size ≤ ((1 : Int32)).toNatClampNeg) := inb_of S6 ⟨by decide, by decide⟩
  obtain ⟨T7, h7, X7, e7, W7, st7⟩ := stR X5 hx hZ e5 Ar6 (j := (1 : Int32)) hin6 rfl (Sto.ofV Ar6 q6 Ov1 (Ins.self (E_BOOLEAN.ext O4.2))) (g := (mkF m 16 #[.val (.int p0), .unset, .unset, .unset] [(.ref w_BOOLEAN), (.int (1 : Int32)), (.ref b1), (.ref b1)])) rfl rfl (hb hby at_16)
  have V_b1 : Arv Z h7 b1 k1 (.object "com/example/shapewright/shapewright/model/ShapeType") (22 : Int32) [(.ref w_BLOB), (.ref w_BOOLEAN), .null, .null, .null, .null, .null, .null, .null, .null, .null, .null, .null, .null, .null, .null, .null, .null, .null, .null, .null, .null] .null := Arv.set Ar6 q6 S6 Ng6 Ha6 G6 rfl W7 1 rfl (Nat.le_of_ble_eq_true rfl)
  have O7 := O4.wr W7 ge_b1
  have N7 := Fr.snoc X7 N4 ge_b1
  obtain ⟨T8, X8, e8, st8⟩ := getS2 X7 hx hZ hown (host := "") (Or.inl (hw _ (List.mem_of_getElem? (i := 8) rfl))) Via.refl e7 (S_DOCUMENT.ext O7.2) (g := (mkF m 19 #[.val (.int p0), .unset, .unset, .unset] [(.int (2 : Int32)), (.ref b1), (.ref b1)])) rfl (hb hby at_19)
  have vt9 := V_b1
  obtain ⟨cl9, Ar9, q9, S9, Ng9, Ha9, G9⟩ := vt9
  have hin9 : ¬ ((2 : Int32) < 0 ∨ cl9.slots.size ≤ ((2 : Int32)).toNatClampNeg) := inb_of S9 ⟨by decide, by decide⟩
  obtain ⟨T10, h10, X10, e10, W10, st10⟩ := stR X8 hx hZ e8 Ar9 (j := (2 : Int32)) hin9 rfl (Sto.ofV Ar9 q9 Ov1 (Ins.self (E_DOCUMENT.ext O7.2))) (g := (mkF m 22 #[.val (.int p0), .unset, .unset, .unset] [(.ref w_DOCUMENT), (.int (2 : Int32)), (.ref b1), (.ref b1)])) rfl rfl (hb hby at_22)
  have V_b1 : Arv Z h10 b1 k1 (.object "com/example/shapewright/shapewright/model/ShapeType") (22 : Int32) [(.ref w_BLOB), (.ref w_BOOLEAN), (.ref w_DOCUMENT), .null, .null, .null, .null, .null, .null, .null, .null, .null, .null, .null, .null, .null, .null, .null, .null, .null, .null, .null] .null := Arv.set Ar9 q9 S9 Ng9 Ha9 G9 rfl W10 2 rfl (Nat.le_of_ble_eq_true rfl)
  have O10 := O7.wr W10 ge_b1
  have N10 := Fr.snoc X10 N7 ge_b1
  obtain ⟨T11, X11, e11, st11⟩ := getS2 X10 hx hZ hown (host := "") (Or.inl (hw _ (List.mem_of_getElem? (i := 10) rfl))) Via.refl e10 (S_STRING.ext O10.2) (g := (mkF m 25 #[.val (.int p0), .unset, .unset, .unset] [(.int (3 : Int32)), (.ref b1), (.ref b1)])) rfl (hb hby at_25)
  have vt12 := V_b1
  obtain ⟨cl12, Ar12, q12, S12, Ng12, Ha12, G12⟩ := vt12
  have hin12 : ¬ ((3 : Int32) < 0 ∨ cl12.slots.size ≤ ((3 : Int32)).toNatClampNeg) := inb_of S12 ⟨by decide, by decide⟩
  obtain ⟨T13, h13, X13, e13, W13, st13⟩ := stR X11 hx hZ e11 Ar12 (j := (3 : Int32)) hin12 rfl (Sto.ofV Ar12 q12 Ov1 (Ins.self (E_STRING.ext O10.2))) (g := (mkF m 28 #[.val (.int p0), .unset, .unset, .unset] [(.ref w_STRING), (.int (3 : Int32)), (.ref b1), (.ref b1)])) rfl rfl (hb hby at_28)
  have V_b1 : Arv Z h13 b1 k1 (.object "com/example/shapewright/shapewright/model/ShapeType") (22 : Int32) [(.ref w_BLOB), (.ref w_BOOLEAN), (.ref w_DOCUMENT), (.ref w_STRING), .null, .null, .null, .null, .null, .null, .null, .null, .null, .null, .null, .null, .null, .null, .null, .null, .null, .null] .null := Arv.set Ar12 q12 S12 Ng12 Ha12 G12 rfl W13 3 rfl (Nat.le_of_ble_eq_true rfl)
  have O13 := O10.wr W13 ge_b1
  have N13 := Fr.snoc X13 N10 ge_b1
  obtain ⟨T14, X14, e14, st14⟩ := getS2 X13 hx hZ hown (host := "") (Or.inl (hw _ (List.mem_of_getElem? (i := 12) rfl))) Via.refl e13 (S_BYTE.ext O13.2) (g := (mkF m 31 #[.val (.int p0), .unset, .unset, .unset] [(.int (4 : Int32)), (.ref b1), (.ref b1)])) rfl (hb hby at_31)
  have vt15 := V_b1
  obtain ⟨cl15, Ar15, q15, S15, Ng15, Ha15, G15⟩ := vt15
  have hin15 : ¬ ((4 : Int32) < 0 ∨ cl15.slots.size ≤ ((4 : Int32)).toNatClampNeg) := inb_of S15 ⟨by decide, by decide⟩
  obtain ⟨T16, h16, X16, e16, W16, st16⟩ := stR X14 hx hZ e14 Ar15 (j := (4 : Int32)) hin15 rfl (Sto.ofV Ar15 q15 Ov1 (Ins.self (E_BYTE.ext O13.2))) (g := (mkF m 34 #[.val (.int p0), .unset, .unset, .unset] [(.ref w_BYTE), (.int (4 : Int32)), (.ref b1), (.ref b1)])) rfl rfl (hb hby at_34)
  have V_b1 : Arv Z h16 b1 k1 (.object "com/example/shapewright/shapewright/model/ShapeType") (22 : Int32) [(.ref w_BLOB), (.ref w_BOOLEAN), (.ref w_DOCUMENT), (.ref w_STRING), (.ref w_BYTE), .null, .null, .null, .null, .null, .null, .null, .null, .null, .null, .null, .null, .null, .null, .null, .null, .null] .null := Arv.set Ar15 q15 S15 Ng15 Ha15 G15 rfl W16 4 rfl (Nat.le_of_ble_eq_true rfl)
  have O16 := O13.wr W16 ge_b1
  have N16 := Fr.snoc X16 N13 ge_b1
  obtain ⟨T17, X17, e17, st17⟩ := getS2 X16 hx hZ hown (host := "") (Or.inl (hw _ (List.mem_of_getElem? (i := 14) rfl))) Via.refl e16 (S_SHORT.ext O16.2) (g := (mkF m 37 #[.val (.int p0), .unset, .unset, .unset] [(.int (5 : Int32)), (.ref b1), (.ref b1)])) rfl (hb hby at_37)
  have vt18 := V_b1
  obtain ⟨cl18, Ar18, q18, S18, Ng18, Ha18, G18⟩ := vt18
  have hin18 : ¬ ((5 : Int32) < 0 ∨ cl18.slots.size ≤ ((5 : Int32)).toNatClampNeg) := inb_of S18 ⟨by decide, by decide⟩
  obtain ⟨T19, h19, X19, e19, W19, st19⟩ := stR X17 hx hZ e17 Ar18 (j := (5 : Int32)) hin18 rfl (Sto.ofV Ar18 q18 Ov1 (Ins.self (E_SHORT.ext O16.2))) (g := (mkF m 40 #[.val (.int p0), .unset, .unset, .unset] [(.ref w_SHORT), (.int (5 : Int32)), (.ref b1), (.ref b1)])) rfl rfl (hb hby at_40)
  have V_b1 : Arv Z h19 b1 k1 (.object "com/example/shapewright/shapewright/model/ShapeType") (22 : Int32) [(.ref w_BLOB), (.ref w_BOOLEAN), (.ref w_DOCUMENT), (.ref w_STRING), (.ref w_BYTE), (.ref w_SHORT), .null, .null, .null, .null, .null, .null, .null, .null, .null, .null, .null, .null, .null, .null, .null, .null] .null := Arv.set Ar18 q18 S18 Ng18 Ha18 G18 rfl W19 5 rfl (Nat.le_of_ble_eq_true rfl)
  have O19 := O16.wr W19 ge_b1
  have N19 := Fr.snoc X19 N16 ge_b1
  obtain ⟨T20, X20, e20, st20⟩ := getS2 X19 hx hZ hown (host := "") (Or.inl (hw _ (List.mem_of_getElem? (i := 16) rfl))) Via.refl e19 (S_INTEGER.ext O19.2) (g := (mkF m 44 #[.val (.int p0), .unset, .unset, .unset] [(.int (6 : Int32)), (.ref b1), (.ref b1)])) rfl (hb hby at_44)
  have vt21 := V_b1
  obtain ⟨cl21, Ar21, q21, S21, Ng21, Ha21, G21⟩ := vt21
  have hin21 : ¬ ((6 : Int32) < 0 ∨ cl21.slots.size ≤ ((6 : Int32)).toNatClampNeg) := inb_of S21 ⟨by decide, by decide⟩
  obtain ⟨T22, h22, X22, e22, W22, st22⟩ := stR X20 hx hZ e20 Ar21 (j := (6 : Int32)) hin21 rfl (Sto.ofV Ar21 q21 Ov1 (Ins.self (E_INTEGER.ext O19.2))) (g := (mkF m 47 #[.val (.int p0), .unset, .unset, .unset] [(.ref w_INTEGER), (.int (6 : Int32)), (.ref b1), (.ref b1)])) rfl rfl (hb hby at_47)
  have V_b1 : Arv Z h22 b1 k1 (.object "com/example/shapewright/shapewright/model/ShapeType") (22 : Int32) [(.ref w_BLOB), (.ref w_BOOLEAN), (.ref w_DOCUMENT), (.ref w_STRING), (.ref w_BYTE), (.ref w_SHORT), (.ref w_INTEGER), .null, .null, .null, .null, .null, .null, .null, .null, .null, .null, .null, .null, .null, .null, .null] .null := Arv.set Ar21 q21 S21 Ng21 Ha21 G21 rfl W22 6 rfl (Nat.le_of_ble_eq_true rfl)
  have O22 := O19.wr W22 ge_b1
  have N22 := Fr.snoc X22 N19 ge_b1
  obtain ⟨T23, X23, e23, st23⟩ := getS2 X22 hx hZ hown (host := "") (Or.inl (hw _ (List.mem_of_getElem? (i := 18) rfl))) Via.refl e22 (S_LONG.ext O22.2) (g := (mkF m 51 #[.val (.int p0), .unset, .unset, .unset] [(.int (7 : Int32)), (.ref b1), (.ref b1)])) rfl (hb hby at_51)
  have vt24 := V_b1
  obtain ⟨cl24, Ar24, q24, S24, Ng24, Ha24, G24⟩ := vt24
  have hin24 : ¬ ((7 : Int32) < 0 ∨ cl24.slots.size ≤ ((7 : Int32)).toNatClampNeg) := inb_of S24 ⟨by decide, by decide⟩
  obtain ⟨T25, h25, X25, e25, W25, st25⟩ := stR X23 hx hZ e23 Ar24 (j := (7 : Int32)) hin24 rfl (Sto.ofV Ar24 q24 Ov1 (Ins.self (E_LONG.ext O22.2))) (g := (mkF m 54 #[.val (.int p0), .unset, .unset, .unset] [(.ref w_LONG), (.int (7 : Int32)), (.ref b1), (.ref b1)])) rfl rfl (hb hby at_54)
  have V_b1 : Arv Z h25 b1 k1 (.object "com/example/shapewright/shapewright/model/ShapeType") (22 : Int32) [(.ref w_BLOB), (.ref w_BOOLEAN), (.ref w_DOCUMENT), (.ref w_STRING), (.ref w_BYTE), (.ref w_SHORT), (.ref w_INTEGER), (.ref w_LONG), .null, .null, .null, .null, .null, .null, .null, .null, .null, .null, .null, .null, .null, .null] .null := Arv.set Ar24 q24 S24 Ng24 Ha24 G24 rfl W25 7 rfl (Nat.le_of_ble_eq_true rfl)
  have O25 := O22.wr W25 ge_b1
  have N25 := Fr.snoc X25 N22 ge_b1
  obtain ⟨T26, X26, e26, st26⟩ := getS2 X25 hx hZ hown (host := "") (Or.inl (hw _ (List.mem_of_getElem? (i := 20) rfl))) Via.refl e25 (S_FLOAT.ext O25.2) (g := (mkF m 58 #[.val (.int p0), .unset, .unset, .unset] [(.int (8 : Int32)), (.ref b1), (.ref b1)])) rfl (hb hby at_58)
  have vt27 := V_b1
  obtain ⟨cl27, Ar27, q27, S27, Ng27, Ha27, G27⟩ := vt27
  have hin27 : ¬ ((8 : Int32) < 0 ∨ cl27.slots.size ≤ ((8 : Int32)).toNatClampNeg) := inb_of S27 ⟨by decide, by decide⟩
  obtain ⟨T28, h28, X28, e28, W28, st28⟩ := stR X26 hx hZ e26 Ar27 (j := (8 : Int32)) hin27 rfl (Sto.ofV Ar27 q27 Ov1 (Ins.self (E_FLOAT.ext O25.2))) (g := (mkF m 61 #[.val (.int p0), .unset, .unset, .unset] [(.ref w_FLOAT), (.int (8 : Int32)), (.ref b1), (.ref b1)])) rfl rfl (hb hby at_61)
  have V_b1 : Arv Z h28 b1 k1 (.object "com/example/shapewright/shapewright/model/ShapeType") (22 : Int32) [(.ref w_BLOB), (.ref w_BOOLEAN), (.ref w_DOCUMENT), (.ref w_STRING), (.ref w_BYTE), (.ref w_SHORT), (.ref w_INTEGER), (.ref w_LONG), (.ref w_FLOAT), .null, .null, .null, .null, .null, .null, .null, .null, .null, .null, .null, .null, .null] .null := Arv.set Ar27 q27 S27 Ng27 Ha27 G27 rfl W28 8 rfl (Nat.le_of_ble_eq_true rfl)
  have O28 := O25.wr W28 ge_b1
  have N28 := Fr.snoc X28 N25 ge_b1
  obtain ⟨T29, X29, e29, st29⟩ := getS2 X28 hx hZ hown (host := "") (Or.inl (hw _ (List.mem_of_getElem? (i := 22) rfl))) Via.refl e28 (S_DOUBLE.ext O28.2) (g := (mkF m 65 #[.val (.int p0), .unset, .unset, .unset] [(.int (9 : Int32)), (.ref b1), (.ref b1)])) rfl (hb hby at_65)
  have vt30 := V_b1
  obtain ⟨cl30, Ar30, q30, S30, Ng30, Ha30, G30⟩ := vt30
  have hin30 : ¬ ((9 : Int32) < 0 ∨ cl30.slots.size ≤ ((9 : Int32)).toNatClampNeg) := inb_of S30 ⟨by decide, by decide⟩
  obtain ⟨T31, h31, X31, e31, W31, st31⟩ := stR X29 hx hZ e29 Ar30 (j := (9 : Int32)) hin30 rfl (Sto.ofV Ar30 q30 Ov1 (Ins.self (E_DOUBLE.ext O28.2))) (g := (mkF m 68 #[.val (.int p0), .unset, .unset, .unset] [(.ref w_DOUBLE), (.int (9 : Int32)), (.ref b1), (.ref b1)])) rfl rfl (hb hby at_68)
  have V_b1 : Arv Z h31 b1 k1 (.object "com/example/shapewright/shapewright/model/ShapeType") (22 : Int32) [(.ref w_BLOB), (.ref w_BOOLEAN), (.ref w_DOCUMENT), (.ref w_STRING), (.ref w_BYTE), (.ref w_SHORT), (.ref w_INTEGER), (.ref w_LONG), (.ref w_FLOAT), (.ref w_DOUBLE), .null, .null, .null, .null, .null, .null, .null, .null, .null, .null, .null, .null] .null := Arv.set Ar30 q30 S30 Ng30 Ha30 G30 rfl W31 9 rfl (Nat.le_of_ble_eq_true rfl)
  have O31 := O28.wr W31 ge_b1
  have N31 := Fr.snoc X31 N28 ge_b1
  obtain ⟨T32, X32, e32, st32⟩ := getS2 X31 hx hZ hown (host := "") (Or.inl (hw _ (List.mem_of_getElem? (i := 24) rfl))) Via.refl e31 (S_BIG_INTEGER.ext O31.2) (g := (mkF m 72 #[.val (.int p0), .unset, .unset, .unset] [(.int (10 : Int32)), (.ref b1), (.ref b1)])) rfl (hb hby at_72)
  have vt33 := V_b1
  obtain ⟨cl33, Ar33, q33, S33, Ng33, Ha33, G33⟩ := vt33
  have hin33 : ¬ ((10 : Int32) < 0 ∨ cl33.slots.size ≤ ((10 : Int32)).toNatClampNeg) := inb_of S33 ⟨by decide, by decide⟩
  obtain ⟨T34, h34, X34, e34, W34, st34⟩ := stR X32 hx hZ e32 Ar33 (j := (10 : Int32)) hin33 rfl (Sto.ofV Ar33 q33 Ov1 (Ins.self (E_BIG_INTEGER.ext O31.2))) (g := (mkF m 75 #[.val (.int p0), .unset, .unset, .unset] [(.ref w_BIG_INTEGER), (.int (10 : Int32)), (.ref b1), (.ref b1)])) rfl rfl (hb hby at_75)
  have V_b1 : Arv Z h34 b1 k1 (.object "com/example/shapewright/shapewright/model/ShapeType") (22 : Int32) [(.ref w_BLOB), (.ref w_BOOLEAN), (.ref w_DOCUMENT), (.ref w_STRING), (.ref w_BYTE), (.ref w_SHORT), (.ref w_INTEGER), (.ref w_LONG), (.ref w_FLOAT), (.ref w_DOUBLE), (.ref w_BIG_INTEGER), .null, .null, .null, .null, .null, .null, .null, .null, .null, .null, .null] .null := Arv.set Ar33 q33 S33 Ng33 Ha33 G33 rfl W34 10 rfl (Nat.le_of_ble_eq_true rfl)
  have O34 := O31.wr W34 ge_b1
  have N34 := Fr.snoc X34 N31 ge_b1
  obtain ⟨T35, X35, e35, st35⟩ := getS2 X34 hx hZ hown (host := "") (Or.inl (hw _ (List.mem_of_getElem? (i := 26) rfl))) Via.refl e34 (S_BIG_DECIMAL.ext O34.2) (g := (mkF m 79 #[.val (.int p0), .unset, .unset, .unset] [(.int (11 : Int32)), (.ref b1), (.ref b1)])) rfl (hb hby at_79)
  have vt36 := V_b1
  obtain ⟨cl36, Ar36, q36, S36, Ng36, Ha36, G36⟩ := vt36
  have hin36 : ¬ ((11 : Int32) < 0 ∨ cl36.slots.size ≤ ((11 : Int32)).toNatClampNeg) := inb_of S36 ⟨by decide, by decide⟩
  obtain ⟨T37, h37, X37, e37, W37, st37⟩ := stR X35 hx hZ e35 Ar36 (j := (11 : Int32)) hin36 rfl (Sto.ofV Ar36 q36 Ov1 (Ins.self (E_BIG_DECIMAL.ext O34.2))) (g := (mkF m 82 #[.val (.int p0), .unset, .unset, .unset] [(.ref w_BIG_DECIMAL), (.int (11 : Int32)), (.ref b1), (.ref b1)])) rfl rfl (hb hby at_82)
  have V_b1 : Arv Z h37 b1 k1 (.object "com/example/shapewright/shapewright/model/ShapeType") (22 : Int32) [(.ref w_BLOB), (.ref w_BOOLEAN), (.ref w_DOCUMENT), (.ref w_STRING), (.ref w_BYTE), (.ref w_SHORT), (.ref w_INTEGER), (.ref w_LONG), (.ref w_FLOAT), (.ref w_DOUBLE), (.ref w_BIG_INTEGER), (.ref w_BIG_DECIMAL), .null, .null, .null, .null, .null, .null, .null, .null, .null, .null] .null := Arv.set Ar36 q36 S36 Ng36 Ha36 G36 rfl W37 11 rfl (Nat.le_of_ble_eq_true rfl)
  have O37 := O34.wr W37 ge_b1
  have N37 := Fr.snoc X37 N34 ge_b1
  obtain ⟨T38, X38, e38, st38⟩ := getS2 X37 hx hZ hown (host := "") (Or.inl (hw _ (List.mem_of_getElem? (i := 28) rfl))) Via.refl e37 (S_TIMESTAMP.ext O37.2) (g := (mkF m 86 #[.val (.int p0), .unset, .unset, .unset] [(.int (12 : Int32)), (.ref b1), (.ref b1)])) rfl (hb hby at_86)
  have vt39 := V_b1
  obtain ⟨cl39, Ar39, q39, S39, Ng39, Ha39, G39⟩ := vt39
  have hin39 : ¬ ((12 : Int32) < 0 ∨ cl39.slots.size ≤ ((12 : Int32)).toNatClampNeg) := inb_of S39 ⟨by decide, by decide⟩
  obtain ⟨T40, h40, X40, e40, W40, st40⟩ := stR X38 hx hZ e38 Ar39 (j := (12 : Int32)) hin39 rfl (Sto.ofV Ar39 q39 Ov1 (Ins.self (E_TIMESTAMP.ext O37.2))) (g := (mkF m 89 #[.val (.int p0), .unset, .unset, .unset] [(.ref w_TIMESTAMP), (.int (12 : Int32)), (.ref b1), (.ref b1)])) rfl rfl (hb hby at_89)
  have V_b1 : Arv Z h40 b1 k1 (.object "com/example/shapewright/shapewright/model/ShapeType") (22 : Int32) [(.ref w_BLOB), (.ref w_BOOLEAN), (.ref w_DOCUMENT), (.ref w_STRING), (.ref w_BYTE), (.ref w_SHORT), (.ref w_INTEGER), (.ref w_LONG), (.ref w_FLOAT), (.ref w_DOUBLE), (.ref w_BIG_INTEGER), (.ref w_BIG_DECIMAL), (.ref w_TIMESTAMP), .null, .null, .null, .null, .null, .null, .null, .null, .null] .null := Arv.set Ar39 q39 S39 Ng39 Ha39 G39 rfl W40 12 rfl (Nat.le_of_ble_eq_true rfl)
  have O40 := O37.wr W40 ge_b1
  have N40 := Fr.snoc X40 N37 ge_b1
  obtain ⟨T41, X41, e41, st41⟩ := getS2 X40 hx hZ hown (host := "") (Or.inl (hw _ (List.mem_of_getElem? (i := 30) rfl))) Via.refl e40 (S_ENUM.ext O40.2) (g := (mkF m 93 #[.val (.int p0), .unset, .unset, .unset] [(.int (13 : Int32)), (.ref b1), (.ref b1)])) rfl (hb hby at_93)
  have vt42 := V_b1
  obtain ⟨cl42, Ar42, q42, S42, Ng42, Ha42, G42⟩ := vt42
  have hin42 : ¬ ((13 : Int32) < 0 ∨ cl42.slots.size ≤ ((13 : Int32)).toNatClampNeg) := inb_of S42 ⟨by decide, by decide⟩
  obtain ⟨T43, h43, X43, e43, W43, st43⟩ := stR X41 hx hZ e41 Ar42 (j := (13 : Int32)) hin42 rfl (Sto.ofV Ar42 q42 Ov1 (Ins.self (E_ENUM.ext O40.2))) (g := (mkF m 96 #[.val (.int p0), .unset, .unset, .unset] [(.ref w_ENUM), (.int (13 : Int32)), (.ref b1), (.ref b1)])) rfl rfl (hb hby at_96)
  have V_b1 : Arv Z h43 b1 k1 (.object "com/example/shapewright/shapewright/model/ShapeType") (22 : Int32) [(.ref w_BLOB), (.ref w_BOOLEAN), (.ref w_DOCUMENT), (.ref w_STRING), (.ref w_BYTE), (.ref w_SHORT), (.ref w_INTEGER), (.ref w_LONG), (.ref w_FLOAT), (.ref w_DOUBLE), (.ref w_BIG_INTEGER), (.ref w_BIG_DECIMAL), (.ref w_TIMESTAMP), (.ref w_ENUM), .null, .null, .null, .null, .null, .null, .null, .null] .null := Arv.set Ar42 q42 S42 Ng42 Ha42 G42 rfl W43 13 rfl (Nat.le_of_ble_eq_true rfl)
  have O43 := O40.wr W43 ge_b1
  have N43 := Fr.snoc X43 N40 ge_b1
  obtain ⟨T44, X44, e44, st44⟩ := getS2 X43 hx hZ hown (host := "") (Or.inl (hw _ (List.mem_of_getElem? (i := 32) rfl))) Via.refl e43 (S_INT_ENUM.ext O43.2) (g := (mkF m 100 #[.val (.int p0), .unset, .unset, .unset] [(.int (14 : Int32)), (.ref b1), (.ref b1)])) rfl (hb hby at_100)
  have vt45 := V_b1
  obtain ⟨cl45, Ar45, q45, S45, Ng45, Ha45, G45⟩ := vt45
  have hin45 : ¬ ((14 : Int32) < 0 ∨ cl45.slots.size ≤ ((14 : Int32)).toNatClampNeg) := inb_of S45 ⟨by decide, by decide⟩
  obtain ⟨T46, h46, X46, e46, W46, st46⟩ := stR X44 hx hZ e44 Ar45 (j := (14 : Int32)) hin45 rfl (Sto.ofV Ar45 q45 Ov1 (Ins.self (E_INT_ENUM.ext O43.2))) (g := (mkF m 103 #[.val (.int p0), .unset, .unset, .unset] [(.ref w_INT_ENUM), (.int (14 : Int32)), (.ref b1), (.ref b1)])) rfl rfl (hb hby at_103)
  have V_b1 : Arv Z h46 b1 k1 (.object "com/example/shapewright/shapewright/model/ShapeType") (22 : Int32) [(.ref w_BLOB), (.ref w_BOOLEAN), (.ref w_DOCUMENT), (.ref w_STRING), (.ref w_BYTE), (.ref w_SHORT), (.ref w_INTEGER), (.ref w_LONG), (.ref w_FLOAT), (.ref w_DOUBLE), (.ref w_BIG_INTEGER), (.ref w_BIG_DECIMAL), (.ref w_TIMESTAMP), (.ref w_ENUM), (.ref w_INT_ENUM), .null, .null, .null, .null, .null, .null, .null] .null := Arv.set Ar45 q45 S45 Ng45 Ha45 G45 rfl W46 14 rfl (Nat.le_of_ble_eq_true rfl)
  have O46 := O43.wr W46 ge_b1
  have N46 := Fr.snoc X46 N43 ge_b1
  obtain ⟨T47, X47, e47, st47⟩ := getS2 X46 hx hZ hown (host := "") (Or.inl (hw _ (List.mem_of_getElem? (i := 34) rfl))) Via.refl e46 (S_LIST.ext O46.2) (g := (mkF m 107 #[.val (.int p0), .unset, .unset, .unset] [(.int (15 : Int32)), (.ref b1), (.ref b1)])) rfl (hb hby at_107)
  have vt48 := V_b1
  obtain ⟨cl48, Ar48, q48, S48, Ng48, Ha48, G48⟩ := vt48
  have hin48 : ¬ ((15 : Int32) < 0 ∨ cl48.slots.size ≤ ((15 : Int32)).toNatClampNeg) := inb_of S48 ⟨by decide, by decide⟩
  obtain ⟨T49, h49, X49, e49, W49, st49⟩ := stR X47 hx hZ e47 Ar48 (j := (15 : Int32)) hin48 rfl (Sto.ofV Ar48 q48 Ov1 (Ins.self (E_LIST.ext O46.2))) (g := (mkF m 110 #[.val (.int p0), .unset, .unset, .unset] [(.ref w_LIST), (.int (15 : Int32)), (.ref b1), (.ref b1)])) rfl rfl (hb hby at_110)
  have V_b1 : Arv Z h49 b1 k1 (.object "com/example/shapewright/shapewright/model/ShapeType") (22 : Int32) [(.ref w_BLOB), (.ref w_BOOLEAN), (.ref w_DOCUMENT), (.ref w_STRING), (.ref w_BYTE), (.ref w_SHORT), (.ref w_INTEGER), (.ref w_LONG), (.ref w_FLOAT), (.ref w_DOUBLE), (.ref w_BIG_INTEGER), (.ref w_BIG_DECIMAL), (.ref w_TIMESTAMP), (.ref w_ENUM), (.ref w_INT_ENUM), (.ref w_LIST), .null, .null, .null, .null, .null, .null] .null := Arv.set Ar48 q48 S48 Ng48 Ha48 G48 rfl W49 15 rfl (Nat.le_of_ble_eq_true rfl)
  have O49 := O46.wr W49 ge_b1
  have N49 := Fr.snoc X49 N46 ge_b1
  obtain ⟨T50, X50, e50, st50⟩ := getS2 X49 hx hZ hown (host := "") (Or.inl (hw _ (List.mem_of_getElem? (i := 36) rfl))) Via.refl e49 (S_MAP.ext O49.2) (g := (mkF m 114 #[.val (.int p0), .unset, .unset, .unset] [(.int (16 : Int32)), (.ref b1), (.ref b1)])) rfl (hb hby at_114)
  have vt51 := V_b1
  obtain ⟨cl51, Ar51, q51, S51, Ng51, Ha51, G51⟩ := vt51
  have hin51 : ¬ ((16 : Int32) < 0 ∨ cl51.slots.size ≤ ((16 : Int32)).toNatClampNeg) := inb_of S51 ⟨by decide, by decide⟩
  obtain ⟨T52, h52, X52, e52, W52, st52⟩ := stR X50 hx hZ e50 Ar51 (j := (16 : Int32)) hin51 rfl (Sto.ofV Ar51 q51 Ov1 (Ins.self (E_MAP.ext O49.2))) (g := (mkF m 117 #[.val (.int p0), .unset, .unset, .unset] [(.ref w_MAP), (.int (16 : Int32)), (.ref b1), (.ref b1)])) rfl rfl (hb hby at_117)
  have V_b1 : Arv Z h52 b1 k1 (.object "com/example/shapewright/shapewright/model/ShapeType") (22 : Int32) [(.ref w_BLOB), (.ref w_BOOLEAN), (.ref w_DOCUMENT), (.ref w_STRING), (.ref w_BYTE), (.ref w_SHORT), (.ref w_INTEGER), (.ref w_LONG), (.ref w_FLOAT), (.ref w_DOUBLE), (.ref w_BIG_INTEGER), (.ref w_BIG_DECIMAL), (.ref w_TIMESTAMP), (.ref w_ENUM), (.ref w_INT_ENUM), (.ref w_LIST), (.ref w_MAP), .null, .null, .null, .null, .null] .null := Arv.set Ar51 q51 S51 Ng51 Ha51 G51 rfl W52 16 rfl (Nat.le_of_ble_eq_true rfl)
  have O52 := O49.wr W52 ge_b1
  have N52 := Fr.snoc X52 N49 ge_b1
  obtain ⟨T53, X53, e53, st53⟩ := getS2 X52 hx hZ hown (host := "") (Or.inl (hw _ (List.mem_of_getElem? (i := 38) rfl))) Via.refl e52 (S_STRUCTURE.ext O52.2) (g := (mkF m 121 #[.val (.int p0), .unset, .unset, .unset] [(.int (17 : Int32)), (.ref b1), (.ref b1)])) rfl (hb hby at_121)
  have vt54 := V_b1
  obtain ⟨cl54, Ar54, q54, S54, Ng54, Ha54, G54⟩ := vt54
  have hin54 : ¬ ((17 : Int32) < 0 ∨ cl54.slots.size ≤ ((17 : Int32)).toNatClampNeg) := inb_of S54 ⟨by decide, by decide⟩
  obtain ⟨T55, h55, X55, e55, W55, st55⟩ := stR X53 hx hZ e53 Ar54 (j := (17 : Int32)) hin54 rfl (Sto.ofV Ar54 q54 Ov1 (Ins.self (E_STRUCTURE.ext O52.2))) (g := (mkF m 124 #[.val (.int p0), .unset, .unset, .unset] [(.ref w_STRUCTURE), (.int (17 : Int32)), (.ref b1), (.ref b1)])) rfl rfl (hb hby at_124)
  have V_b1 : Arv Z h55 b1 k1 (.object "com/example/shapewright/shapewright/model/ShapeType") (22 : Int32) [(.ref w_BLOB), (.ref w_BOOLEAN), (.ref w_DOCUMENT), (.ref w_STRING), (.ref w_BYTE), (.ref w_SHORT), (.ref w_INTEGER), (.ref w_LONG), (.ref w_FLOAT), (.ref w_DOUBLE), (.ref w_BIG_INTEGER), (.ref w_BIG_DECIMAL), (.ref w_TIMESTAMP), (.ref w_ENUM), (.ref w_INT_ENUM), (.ref w_LIST), (.ref w_MAP), (.ref w_STRUCTURE), .null, .null, .null, .null] .null := Arv.set Ar54 q54 S54 Ng54 Ha54 G54 rfl W55 17 rfl (Nat.le_of_ble_eq_true rfl)
  have O55 := O52.wr W55 ge_b1
  have N55 := Fr.snoc X55 N52 ge_b1
  obtain ⟨T56, X56, e56, st56⟩ := getS2 X55 hx hZ hown (host := "") (Or.inl (hw _ (List.mem_of_getElem? (i := 40) rfl))) Via.refl e55 (S_UNION.ext O55.2) (g := (mkF m 128 #[.val (.int p0), .unset, .unset, .unset] [(.int (18 : Int32)), (.ref b1), (.ref b1)])) rfl (hb hby at_128)
  have vt57 := V_b1
  obtain ⟨cl57, Ar57, q57, S57, Ng57, Ha57, G57⟩ := vt57
  have hin57 : ¬ ((18 : Int32) < 0 ∨ cl57.slots.size ≤ ((18 : Int32)).toNatClampNeg) := inb_of S57 ⟨by decide, by decide⟩
  obtain ⟨T58, h58, X58, e58, W58, st58⟩ := stR X56 hx hZ e56 Ar57 (j := (18 : Int32)) hin57 rfl (Sto.ofV Ar57 q57 Ov1 (Ins.self (E_UNION.ext O55.2))) (g := (mkF m 131 #[.val (.int p0), .unset, .unset, .unset] [(.ref w_UNION), (.int (18 : Int32)), (.ref b1), (.ref b1)])) rfl rfl (hb hby at_131)
  have V_b1 : Arv Z h58 b1 k1 (.object "com/example/shapewright/shapewright/model/ShapeType") (22 : Int32) [(.ref w_BLOB), (.ref w_BOOLEAN), (.ref w_DOCUMENT), (.ref w_STRING), (.ref w_BYTE), (.ref w_SHORT), (.ref w_INTEGER), (.ref w_LONG), (.ref w_FLOAT), (.ref w_DOUBLE), (.ref w_BIG_INTEGER), (.ref w_BIG_DECIMAL), (.ref w_TIMESTAMP), (.ref w_ENUM), (.ref w_INT_ENUM), (.ref w_LIST), (.ref w_MAP), (.ref w_STRUCTURE), (.ref w_UNION), .null, .null, .null] .null := Arv.set Ar57 q57 S57 Ng57 Ha57 G57 rfl W58 18 rfl (Nat.le_of_ble_eq_true rfl)
  have O58 := O55.wr W58 ge_b1
  have N58 := Fr.snoc X58 N55 ge_b1
  obtain ⟨T59, X59, e59, st59⟩ := getS2 X58 hx hZ hown (host := "") (Or.inl (hw _ (List.mem_of_getElem? (i := 42) rfl))) Via.refl e58 (S_SERVICE.ext O58.2) (g := (mkF m 135 #[.val (.int p0), .unset, .unset, .unset] [(.int (19 : Int32)), (.ref b1), (.ref b1)])) rfl (hb hby at_135)
  have vt60 := V_b1
  obtain ⟨cl60, Ar60, q60, S60, Ng60, Ha60, G60⟩ := vt60
  have hin60 : ¬ ((19 : Int32) < 0 ∨ cl60.slots.size ≤ ((19 : Int32)).toNatClampNeg) := inb_of S60 ⟨by decide, by decide⟩
  obtain ⟨T61, h61, X61, e61, W61, st61⟩ := stR X59 hx hZ e59 Ar60 (j := (19 : Int32)) hin60 rfl (Sto.ofV Ar60 q60 Ov1 (Ins.self (E_SERVICE.ext O58.2))) (g := (mkF m 138 #[.val (.int p0), .unset, .unset, .unset] [(.ref w_SERVICE), (.int (19 : Int32)), (.ref b1), (.ref b1)])) rfl rfl (hb hby at_138)
  have V_b1 : Arv Z h61 b1 k1 (.object "com/example/shapewright/shapewright/model/ShapeType") (22 : Int32) [(.ref w_BLOB), (.ref w_BOOLEAN), (.ref w_DOCUMENT), (.ref w_STRING), (.ref w_BYTE), (.ref w_SHORT), (.ref w_INTEGER), (.ref w_LONG), (.ref w_FLOAT), (.ref w_DOUBLE), (.ref w_BIG_INTEGER), (.ref w_BIG_DECIMAL), (.ref w_TIMESTAMP), (.ref w_ENUM), (.ref w_INT_ENUM), (.ref w_LIST), (.ref w_MAP), (.ref w_STRUCTURE), (.ref w_UNION), (.ref w_SERVICE), .null, .null] .null := Arv.set Ar60 q60 S60 Ng60 Ha60 G60 rfl W61 19 rfl (Nat.le_of_ble_eq_true rfl)
  have O61 := O58.wr W61 ge_b1
  have N61 := Fr.snoc X61 N58 ge_b1
  obtain ⟨T62, X62, e62, st62⟩ := getS2 X61 hx hZ hown (host := "") (Or.inl (hw _ (List.mem_of_getElem? (i := 44) rfl))) Via.refl e61 (S_OPERATION.ext O61.2) (g := (mkF m 142 #[.val (.int p0), .unset, .unset, .unset] [(.int (20 : Int32)), (.ref b1), (.ref b1)])) rfl (hb hby at_142)
  have vt63 := V_b1
  obtain ⟨cl63, Ar63, q63, S63, Ng63, Ha63, G63⟩ := vt63
  have hin63 : ¬ ((20 : Int32) < 0 ∨ cl63.slots.size ≤ ((20 : Int32)).toNatClampNeg) := inb_of S63 ⟨by decide, by decide⟩
  obtain ⟨T64, h64, X64, e64, W64, st64⟩ := stR X62 hx hZ e62 Ar63 (j := (20 : Int32)) hin63 rfl (Sto.ofV Ar63 q63 Ov1 (Ins.self (E_OPERATION.ext O61.2))) (g := (mkF m 145 #[.val (.int p0), .unset, .unset, .unset] [(.ref w_OPERATION), (.int (20 : Int32)), (.ref b1), (.ref b1)])) rfl rfl (hb hby at_145)
  have V_b1 : Arv Z h64 b1 k1 (.object "com/example/shapewright/shapewright/model/ShapeType") (22 : Int32) [(.ref w_BLOB), (.ref w_BOOLEAN), (.ref w_DOCUMENT), (.ref w_STRING), (.ref w_BYTE), (.ref w_SHORT), (.ref w_INTEGER), (.ref w_LONG), (.ref w_FLOAT), (.ref w_DOUBLE), (.ref w_BIG_INTEGER), (.ref w_BIG_DECIMAL), (.ref w_TIMESTAMP), (.ref w_ENUM), (.ref w_INT_ENUM), (.ref w_LIST), (.ref w_MAP), (.ref w_STRUCTURE), (.ref w_UNION), (.ref w_SERVICE), (.ref w_OPERATION), .null] .null := Arv.set Ar63 q63 S63 Ng63 Ha63 G63 rfl W64 20 rfl (Nat.le_of_ble_eq_true rfl)
  have O64 := O61.wr W64 ge_b1
  have N64 := Fr.snoc X64 N61 ge_b1
  obtain ⟨T65, X65, e65, st65⟩ := getS2 X64 hx hZ hown (host := "") (Or.inl (hw _ (List.mem_of_getElem? (i := 46) rfl))) Via.refl e64 (S_RESOURCE.ext O64.2) (g := (mkF m 149 #[.val (.int p0), .unset, .unset, .unset] [(.int (21 : Int32)), (.ref b1), (.ref b1)])) rfl (hb hby at_149)
  have vt66 := V_b1
  obtain ⟨cl66, Ar66, q66, S66, Ng66, Ha66, G66⟩ := vt66
  have hin66 : ¬ ((21 : Int32) < 0 ∨ cl66.slots.size ≤ ((21 : Int32)).toNatClampNeg) := inb_of S66 ⟨by decide, by decide⟩
  obtain ⟨T67, h67, X67, e67, W67, st67⟩ := stR X65 hx hZ e65 Ar66 (j := (21 : Int32)) hin66 rfl (Sto.ofV Ar66 q66 Ov1 (Ins.self (E_RESOURCE.ext O64.2))) (g := (mkF m 152 #[.val (.int p0), .unset, .unset, .unset] [(.ref w_RESOURCE), (.int (21 : Int32)), (.ref b1), (.ref b1)])) rfl rfl (hb hby at_152)
  have V_b1 : Arv Z h67 b1 k1 (.object "com/example/shapewright/shapewright/model/ShapeType") (22 : Int32) [(.ref w_BLOB), (.ref w_BOOLEAN), (.ref w_DOCUMENT), (.ref w_STRING), (.ref w_BYTE), (.ref w_SHORT), (.ref w_INTEGER), (.ref w_LONG), (.ref w_FLOAT), (.ref w_DOUBLE), (.ref w_BIG_INTEGER), (.ref w_BIG_DECIMAL), (.ref w_TIMESTAMP), (.ref w_ENUM), (.ref w_INT_ENUM), (.ref w_LIST), (.ref w_MAP), (.ref w_STRUCTURE), (.ref w_UNION), (.ref w_SERVICE), (.ref w_OPERATION), (.ref w_RESOURCE)] .null := Arv.set Ar66 q66 S66 Ng66 Ha66 G66 rfl W67 21 rfl (Nat.le_of_ble_eq_true rfl)
  have O67 := O64.wr W67 ge_b1
  have N67 := Fr.snoc X67 N64 ge_b1
  have pre68 : ∀ t, Steps p.tables e below (T67.setTop (mkF m 162 #[.val (.int p0), .val (.ref b1), .val (.int ((p0 &&& (2147483647 : Int32)) % (22 : Int32))), .unset] [])) t → Steps p.tables e below (s₁.setTop (entryFrame m #[(.int p0)] maxLocals)) t := by
    intro t kt
    refine pre0 t ?_
    show Steps p.tables e below (s₁.setTop (mkF m 0 #[.val (.int p0), .unset, .unset, .unset] [])) _
    refine XS.bipush X0.here hx rfl (hb hby at_0) ?_
    show Steps p.tables e below (s₁.setTop (mkF m 2 #[.val (.int p0), .unset, .unset, .unset] [(.int (22 : Int32))])) _
    refine st1 _ ?_
    show Steps p.tables e below (T1.setTop (mkF m 5 #[.val (.int p0), .unset, .unset, .unset] [(.ref b1)])) _
    refine XS.dup X1.here hx rfl (hb hby at_5) rfl rfl ?_
    show Steps p.tables e below (T1.setTop (mkF m 6 #[.val (.int p0), .unset, .unset, .unset] [(.ref b1), (.ref b1)])) _
    refine XS.iconst X1.here hx rfl (hb hby at_6) ?_
    show Steps p.tables e below (T1.setTop (mkF m 7 #[.val (.int p0), .unset, .unset, .unset] [(.int (0 : Int32)), (.ref b1), (.ref b1)])) _
    refine st2 _ ?_
    show Steps p.tables e below (T2.setTop (mkF m 10 #[.val (.int p0), .unset, .unset, .unset] [(.ref w_BLOB), (.int (0 : Int32)), (.ref b1), (.ref b1)])) _
    refine st4 _ ?_
    show Steps p.tables e below (T4.setTop (mkF m 11 #[.val (.int p0), .unset, .unset, .unset] [(.ref b1)])) _
    refine XS.dup X4.here hx rfl (hb hby at_11) rfl rfl ?_
    show Steps p.tables e below (T4.setTop (mkF m 12 #[.val (.int p0), .unset, .unset, .unset] [(.ref b1), (.ref b1)])) _
    refine XS.iconst X4.here hx rfl (hb hby at_12) ?_
    show Steps p.tables e below (T4.setTop (mkF m 13 #[.val (.int p0), .unset, .unset, .unset] [(.int (1 : Int32)), (.ref b1), (.ref b1)])) _
    refine st5 _ ?_
    show Steps p.tables e below (T5.setTop (mkF m 16 #[.val (.int p0), .unset, .unset, .unset] [(.ref w_BOOLEAN), (.int (1 : Int32)), (.ref b1), (.ref b1)])) _
    refine st7 _ ?_
    show Steps p.tables e below (T7.setTop (mkF m 17 #[.val (.int p0), .unset, .unset, .unset] [(.ref b1)])) _
    refine XS.dup X7.here hx rfl (hb hby at_17) rfl rfl ?_
    show Steps p.tables e below (T7.setTop (mkF m 18 #[.val (.int p0), .unset, .unset, .unset] [(.ref b1), (.ref b1)])) _
    refine XS.iconst X7.here hx rfl (hb hby at_18) ?_
    show Steps p.tables e below (T7.setTop (mkF m 19 #[.val (.int p0), .unset, .unset, .unset] [(.int (2 : Int32)), (.ref b1), (.ref b1)])) _
    refine st8 _ ?_
    show Steps p.tables e below (T8.setTop (mkF m 22 #[.val (.int p0), .unset, .unset, .unset] [(.ref w_DOCUMENT), (.int (2 : Int32)), (.ref b1), (.ref b1)])) _
    refine st10 _ ?_
    show Steps p.tables e below (T10.setTop (mkF m 23 #[.val (.int p0), .unset, .unset, .unset] [(.ref b1)])) _
    refine XS.dup X10.here hx rfl (hb hby at_23) rfl rfl ?_
    show Steps p.tables e below (T10.setTop (mkF m 24 #[.val (.int p0), .unset, .unset, .unset] [(.ref b1), (.ref b1)])) _
    refine XS.iconst X10.here hx rfl (hb hby at_24) ?_
    show Steps p.tables e below (T10.setTop (mkF m 25 #[.val (.int p0), .unset, .unset, .unset] [(.int (3 : Int32)), (.ref b1), (.ref b1)])) _
    refine st11 _ ?_
    show Steps p.tables e below (T11.setTop (mkF m 28 #[.val (.int p0), .unset, .unset, .unset] [(.ref w_STRING), (.int (3 : Int32)), (.ref b1), (.ref b1)])) _
    refine st13 _ ?_
    show Steps p.tables e below (T13.setTop (mkF m 29 #[.val (.int p0), .unset, .unset, .unset] [(.ref b1)])) _
    refine XS.dup X13.here hx rfl (hb hby at_29) rfl rfl ?_
    show Steps p.tables e below (T13.setTop (mkF m 30 #[.val (.int p0), .unset, .unset, .unset] [(.ref b1), (.ref b1)])) _
    refine XS.iconst X13.here hx rfl (hb hby at_30) ?_
    show Steps p.tables e below (T13.setTop (mkF m 31 #[.val (.int p0), .unset, .unset, .unset] [(.int (4 : Int32)), (.ref b1), (.ref b1)])) _
    refine st14 _ ?_
    show Steps p.tables e below (T14.setTop (mkF m 34 #[.val (.int p0), .unset, .unset, .unset] [(.ref w_BYTE), (.int (4 : Int32)), (.ref b1), (.ref b1)])) _
    refine st16 _ ?_
    show Steps p.tables e below (T16.setTop (mkF m 35 #[.val (.int p0), .unset, .unset, .unset] [(.ref b1)])) _
    refine XS.dup X16.here hx rfl (hb hby at_35) rfl rfl ?_
    show Steps p.tables e below (T16.setTop (mkF m 36 #[.val (.int p0), .unset, .unset, .unset] [(.ref b1), (.ref b1)])) _
    refine XS.iconst X16.here hx rfl (hb hby at_36) ?_
    show Steps p.tables e below (T16.setTop (mkF m 37 #[.val (.int p0), .unset, .unset, .unset] [(.int (5 : Int32)), (.ref b1), (.ref b1)])) _
    refine st17 _ ?_
    show Steps p.tables e below (T17.setTop (mkF m 40 #[.val (.int p0), .unset, .unset, .unset] [(.ref w_SHORT), (.int (5 : Int32)), (.ref b1), (.ref b1)])) _
    refine st19 _ ?_
    show Steps p.tables e below (T19.setTop (mkF m 41 #[.val (.int p0), .unset, .unset, .unset] [(.ref b1)])) _
    refine XS.dup X19.here hx rfl (hb hby at_41) rfl rfl ?_
    show Steps p.tables e below (T19.setTop (mkF m 42 #[.val (.int p0), .unset, .unset, .unset] [(.ref b1), (.ref b1)])) _
    refine XS.bipush X19.here hx rfl (hb hby at_42) ?_
    show Steps p.tables e below (T19.setTop (mkF m 44 #[.val (.int p0), .unset, .unset, .unset] [(.int (6 : Int32)), (.ref b1), (.ref b1)])) _
    refine st20 _ ?_
    show Steps p.tables e below (T20.setTop (mkF m 47 #[.val (.int p0), .unset, .unset, .unset] [(.ref w_INTEGER), (.int (6 : Int32)), (.ref b1), (.ref b1)])) _
    refine st22 _ ?_
    show Steps p.tables e below (T22.setTop (mkF m 48 #[.val (.int p0), .unset, .unset, .unset] [(.ref b1)])) _
    refine XS.dup X22.here hx rfl (hb hby at_48) rfl rfl ?_
    show Steps p.tables e below (T22.setTop (mkF m 49 #[.val (.int p0), .unset, .unset, .unset] [(.ref b1), (.ref b1)])) _
    refine XS.bipush X22.here hx rfl (hb hby at_49) ?_
    show Steps p.tables e below (T22.setTop (mkF m 51 #[.val (.int p0), .unset, .unset, .unset] [(.int (7 : Int32)), (.ref b1), (.ref b1)])) _
    refine st23 _ ?_
    show Steps p.tables e below (T23.setTop (mkF m 54 #[.val (.int p0), .unset, .unset, .unset] [(.ref w_LONG), (.int (7 : Int32)), (.ref b1), (.ref b1)])) _
    refine st25 _ ?_
    show Steps p.tables e below (T25.setTop (mkF m 55 #[.val (.int p0), .unset, .unset, .unset] [(.ref b1)])) _
    refine XS.dup X25.here hx rfl (hb hby at_55) rfl rfl ?_
    show Steps p.tables e below (T25.setTop (mkF m 56 #[.val (.int p0), .unset, .unset, .unset] [(.ref b1), (.ref b1)])) _
    refine XS.bipush X25.here hx rfl (hb hby at_56) ?_
    show Steps p.tables e below (T25.setTop (mkF m 58 #[.val (.int p0), .unset, .unset, .unset] [(.int (8 : Int32)), (.ref b1), (.ref b1)])) _
    refine st26 _ ?_
    show Steps p.tables e below (T26.setTop (mkF m 61 #[.val (.int p0), .unset, .unset, .unset] [(.ref w_FLOAT), (.int (8 : Int32)), (.ref b1), (.ref b1)])) _
    refine st28 _ ?_
    show Steps p.tables e below (T28.setTop (mkF m 62 #[.val (.int p0), .unset, .unset, .unset] [(.ref b1)])) _
    refine XS.dup X28.here hx rfl (hb hby at_62) rfl rfl ?_
    show Steps p.tables e below (T28.setTop (mkF m 63 #[.val (.int p0), .unset, .unset, .unset] [(.ref b1), (.ref b1)])) _
    refine XS.bipush X28.here hx rfl (hb hby at_63) ?_
    show Steps p.tables e below (T28.setTop (mkF m 65 #[.val (.int p0), .unset, .unset, .unset] [(.int (9 : Int32)), (.ref b1), (.ref b1)])) _
    refine st29 _ ?_
    show Steps p.tables e below (T29.setTop (mkF m 68 #[.val (.int p0), .unset, .unset, .unset] [(.ref w_DOUBLE), (.int (9 : Int32)), (.ref b1), (.ref b1)])) _
    refine st31 _ ?_
    show Steps p.tables e below (T31.setTop (mkF m 69 #[.val (.int p0), .unset, .unset, .unset] [(.ref b1)])) _
    refine XS.dup X31.here hx rfl (hb hby at_69) rfl rfl ?_
    show Steps p.tables e below (T31.setTop (mkF m 70 #[.val (.int p0), .unset, .unset, .unset] [(.ref b1), (.ref b1)])) _
    refine XS.bipush X31.here hx rfl (hb hby at_70) ?_
    show Steps p.tables e below (T31.setTop (mkF m 72 #[.val (.int p0), .unset, .unset, .unset] [(.int (10 : Int32)), (.ref b1), (.ref b1)])) _
    refine st32 _ ?_
    show Steps p.tables e below (T32.setTop (mkF m 75 #[.val (.int p0), .unset, .unset, .unset] [(.ref w_BIG_INTEGER), (.int (10 : Int32)), (.ref b1), (.ref b1)])) _
    refine st34 _ ?_
    show Steps p.tables e below (T34.setTop (mkF m 76 #[.val (.int p0), .unset, .unset, .unset] [(.ref b1)])) _
    refine XS.dup X34.here hx rfl (hb hby at_76) rfl rfl ?_
    show Steps p.tables e below (T34.setTop (mkF m 77 #[.val (.int p0), .unset, .unset, .unset] [(.ref b1), (.ref b1)])) _
    refine XS.bipush X34.here hx rfl (hb hby at_77) ?_
    show Steps p.tables e below (T34.setTop (mkF m 79 #[.val (.int p0), .unset, .unset, .unset] [(.int (11 : Int32)), (.ref b1), (.ref b1)])) _
    refine st35 _ ?_
    show Steps p.tables e below (T35.setTop (mkF m 82 #[.val (.int p0), .unset, .unset, .unset] [(.ref w_BIG_DECIMAL), (.int (11 : Int32)), (.ref b1), (.ref b1)])) _
    refine st37 _ ?_
    show Steps p.tables e below (T37.setTop (mkF m 83 #[.val (.int p0), .unset, .unset, .unset] [(.ref b1)])) _
    refine XS.dup X37.here hx rfl (hb hby at_83) rfl rfl ?_
    show Steps p.tables e below (T37.setTop (mkF m 84 #[.val (.int p0), .unset, .unset, .unset] [(.ref b1), (.ref b1)])) _
    refine XS.bipush X37.here hx rfl (hb hby at_84) ?_
    show Steps p.tables e below (T37.setTop (mkF m 86 #[.val (.int p0), .unset, .unset, .unset] [(.int (12 : Int32)), (.ref b1), (.ref b1)])) _
    refine st38 _ ?_
    show Steps p.tables e below (T38.setTop (mkF m 89 #[.val (.int p0), .unset, .unset, .unset] [(.ref w_TIMESTAMP), (.int (12 : Int32)), (.ref b1), (.ref b1)])) _
    refine st40 _ ?_
    show Steps p.tables e below (T40.setTop (mkF m 90 #[.val (.int p0), .unset, .unset, .unset] [(.ref b1)])) _
    refine XS.dup X40.here hx rfl (hb hby at_90) rfl rfl ?_
    show Steps p.tables e below (T40.setTop (mkF m 91 #[.val (.int p0), .unset, .unset, .unset] [(.ref b1), (.ref b1)])) _
    refine XS.bipush X40.here hx rfl (hb hby at_91) ?_
    show Steps p.tables e below (T40.setTop (mkF m 93 #[.val (.int p0), .unset, .unset, .unset] [(.int (13 : Int32)), (.ref b1), (.ref b1)])) _
    refine st41 _ ?_
    show Steps p.tables e below (T41.setTop (mkF m 96 #[.val (.int p0), .unset, .unset, .unset] [(.ref w_ENUM), (.int (13 : Int32)), (.ref b1), (.ref b1)])) _
    refine st43 _ ?_
    show Steps p.tables e below (T43.setTop (mkF m 97 #[.val (.int p0), .unset, .unset, .unset] [(.ref b1)])) _
    refine XS.dup X43.here hx rfl (hb hby at_97) rfl rfl ?_
    show Steps p.tables e below (T43.setTop (mkF m 98 #[.val (.int p0), .unset, .unset, .unset] [(.ref b1), (.ref b1)])) _
    refine XS.bipush X43.here hx rfl (hb hby at_98) ?_
    show Steps p.tables e below (T43.setTop (mkF m 100 #[.val (.int p0), .unset, .unset, .unset] [(.int (14 : Int32)), (.ref b1), (.ref b1)])) _
    refine st44 _ ?_
    show Steps p.tables e below (T44.setTop (mkF m 103 #[.val (.int p0), .unset, .unset, .unset] [(.ref w_INT_ENUM), (.int (14 : Int32)), (.ref b1), (.ref b1)])) _
    refine st46 _ ?_
    show Steps p.tables e below (T46.setTop (mkF m 104 #[.val (.int p0), .unset, .unset, .unset] [(.ref b1)])) _
    refine XS.dup X46.here hx rfl (hb hby at_104) rfl rfl ?_
    show Steps p.tables e below (T46.setTop (mkF m 105 #[.val (.int p0), .unset, .unset, .unset] [(.ref b1), (.ref b1)])) _
    refine XS.bipush X46.here hx rfl (hb hby at_105) ?_
    show Steps p.tables e below (T46.setTop (mkF m 107 #[.val (.int p0), .unset, .unset, .unset] [(.int (15 : Int32)), (.ref b1), (.ref b1)])) _
    refine st47 _ ?_
    show Steps p.tables e below (T47.setTop (mkF m 110 #[.val (.int p0), .unset, .unset, .unset] [(.ref w_LIST), (.int (15 : Int32)), (.ref b1), (.ref b1)])) _
    refine st49 _ ?_
    show Steps p.tables e below (T49.setTop (mkF m 111 #[.val (.int p0), .unset, .unset, .unset] [(.ref b1)])) _
    refine XS.dup X49.here hx rfl (hb hby at_111) rfl rfl ?_
    show Steps p.tables e below (T49.setTop (mkF m 112 #[.val (.int p0), .unset, .unset, .unset] [(.ref b1), (.ref b1)])) _
    refine XS.bipush X49.here hx rfl (hb hby at_112) ?_
    show Steps p.tables e below (T49.setTop (mkF m 114 #[.val (.int p0), .unset, .unset, .unset] [(.int (16 : Int32)), (.ref b1), (.ref b1)])) _
    refine st50 _ ?_
    show Steps p.tables e below (T50.setTop (mkF m 117 #[.val (.int p0), .unset, .unset, .unset] [(.ref w_MAP), (.int (16 : Int32)), (.ref b1), (.ref b1)])) _
    refine st52 _ ?_
    show Steps p.tables e below (T52.setTop (mkF m 118 #[.val (.int p0), .unset, .unset, .unset] [(.ref b1)])) _
    refine XS.dup X52.here hx rfl (hb hby at_118) rfl rfl ?_
    show Steps p.tables e below (T52.setTop (mkF m 119 #[.val (.int p0), .unset, .unset, .unset] [(.ref b1), (.ref b1)])) _
    refine XS.bipush X52.here hx rfl (hb hby at_119) ?_
    show Steps p.tables e below (T52.setTop (mkF m 121 #[.val (.int p0), .unset, .unset, .unset] [(.int (17 : Int32)), (.ref b1), (.ref b1)])) _
    refine st53 _ ?_
    show Steps p.tables e below (T53.setTop (mkF m 124 #[.val (.int p0), .unset, .unset, .unset] [(.ref w_STRUCTURE), (.int (17 : Int32)), (.ref b1), (.ref b1)])) _
    refine st55 _ ?_
    show Steps p.tables e below (T55.setTop (mkF m 125 #[.val (.int p0), .unset, .unset, .unset] [(.ref b1)])) _
    refine XS.dup X55.here hx rfl (hb hby at_125) rfl rfl ?_
    show Steps p.tables e below (T55.setTop (mkF m 126 #[.val (.int p0), .unset, .unset, .unset] [(.ref b1), (.ref b1)])) _
    refine XS.bipush X55.here hx rfl (hb hby at_126) ?_
    show Steps p.tables e below (T55.setTop (mkF m 128 #[.val (.int p0), .unset, .unset, .unset] [(.int (18 : Int32)), (.ref b1), (.ref b1)])) _
    refine st56 _ ?_
    show Steps p.tables e below (T56.setTop (mkF m 131 #[.val (.int p0), .unset, .unset, .unset] [(.ref w_UNION), (.int (18 : Int32)), (.ref b1), (.ref b1)])) _
    refine st58 _ ?_
    show Steps p.tables e below (T58.setTop (mkF m 132 #[.val (.int p0), .unset, .unset, .unset] [(.ref b1)])) _
    refine XS.dup X58.here hx rfl (hb hby at_132) rfl rfl ?_
    show Steps p.tables e below (T58.setTop (mkF m 133 #[.val (.int p0), .unset, .unset, .unset] [(.ref b1), (.ref b1)])) _
    refine XS.bipush X58.here hx rfl (hb hby at_133) ?_
    show Steps p.tables e below (T58.setTop (mkF m 135 #[.val (.int p0), .unset, .unset, .unset] [(.int (19 : Int32)), (.ref b1), (.ref b1)])) _
    refine st59 _ ?_
    show Steps p.tables e below (T59.setTop (mkF m 138 #[.val (.int p0), .unset, .unset, .unset] [(.ref w_SERVICE), (.int (19 : Int32)), (.ref b1), (.ref b1)])) _
    refine st61 _ ?_
    show Steps p.tables e below (T61.setTop (mkF m 139 #[.val (.int p0), .unset, .unset, .unset] [(.ref b1)])) _
    refine XS.dup X61.here hx rfl (hb hby at_139) rfl rfl ?_
    show Steps p.tables e below (T61.setTop (mkF m 140 #[.val (.int p0), .unset, .unset, .unset] [(.ref b1), (.ref b1)])) _
    refine XS.bipush X61.here hx rfl (hb hby at_140) ?_
    show Steps p.tables e below (T61.setTop (mkF m 142 #[.val (.int p0), .unset, .unset, .unset] [(.int (20 : Int32)), (.ref b1), (.ref b1)])) _
    refine st62 _ ?_
    show Steps p.tables e below (T62.setTop (mkF m 145 #[.val (.int p0), .unset, .unset, .unset] [(.ref w_OPERATION), (.int (20 : Int32)), (.ref b1), (.ref b1)])) _
    refine st64 _ ?_
    show Steps p.tables e below (T64.setTop (mkF m 146 #[.val (.int p0), .unset, .unset, .unset] [(.ref b1)])) _
    refine XS.dup X64.here hx rfl (hb hby at_146) rfl rfl ?_
    show Steps p.tables e below (T64.setTop (mkF m 147 #[.val (.int p0), .unset, .unset, .unset] [(.ref b1), (.ref b1)])) _
    refine XS.bipush X64.here hx rfl (hb hby at_147) ?_
    show Steps p.tables e below (T64.setTop (mkF m 149 #[.val (.int p0), .unset, .unset, .unset] [(.int (21 : Int32)), (.ref b1), (.ref b1)])) _
    refine st65 _ ?_
    show Steps p.tables e below (T65.setTop (mkF m 152 #[.val (.int p0), .unset, .unset, .unset] [(.ref w_RESOURCE), (.int (21 : Int32)), (.ref b1), (.ref b1)])) _
    refine st67 _ ?_
    show Steps p.tables e below (T67.setTop (mkF m 153 #[.val (.int p0), .unset, .unset, .unset] [(.ref b1)])) _
    refine XS.astoreN X67.here hx rfl (hb hby at_153) rfl rfl (l' := #[.val (.int p0), .val (.ref b1), .unset, .unset]) rfl ?_
    show Steps p.tables e below (T67.setTop (mkF m 154 #[.val (.int p0), .val (.ref b1), .unset, .unset] [])) _
    refine XS.iloadN X67.here hx rfl (hb hby at_154) rfl ?_
    show Steps p.tables e below (T67.setTop (mkF m 155 #[.val (.int p0), .val (.ref b1), .unset, .unset] [(.int p0)])) _
    refine X67.ldcInt hx hown (mvT hZ (hw _ (List.mem_of_getElem? (i := 48) rfl))) (g := (mkF m 155 #[.val (.int p0), .val (.ref b1), .unset, .unset] [(.int p0)])) rfl (hb hby at_155) _ ?_
    show Steps p.tables e below (T67.setTop (mkF m 157 #[.val (.int p0), .val (.ref b1), .unset, .unset] [(.int (2147483647 : Int32)), (.int p0)])) _
    refine XS.iand X67.here hx rfl (hb hby at_157) rfl ?_
    show Steps p.tables e below (T67.setTop (mkF m 158 #[.val (.int p0), .val (.ref b1), .unset, .unset] [(.int (p0 &&& (2147483647 : Int32)))])) _
    refine XS.bipush X67.here hx rfl (hb hby at_158) ?_
    show Steps p.tables e below (T67.setTop (mkF m 160 #[.val (.int p0), .val (.ref b1), .unset, .unset] [(.int (22 : Int32)), (.int (p0 &&& (2147483647 : Int32)))])) _
    refine iremM X67 hx rfl (hb hby at_160) rfl (by decide) ?_
    show Steps p.tables e below (T67.setTop (mkF m 161 #[.val (.int p0), .val (.ref b1), .unset, .unset] [(.int ((p0 &&& (2147483647 : Int32)) % (22 : Int32)))])) _
    refine XS.istoreN X67.here hx rfl (hb hby at_161) rfl (l' := #[.val (.int p0), .val (.ref b1), .val (.int ((p0 &&& (2147483647 : Int32)) % (22 : Int32))), .unset]) rfl ?_
    exact kt
  rcases own_cases22 (own_rem22 p0).1 (own_rem22 p0).2 with hk | hk | hk | hk | hk | hk | hk | hk | hk | hk | hk | hk | hk | hk | hk | hk | hk | hk | hk | hk | hk | hk
  · rw [hk] at pre68
    have vt71 := V_b1
    obtain ⟨cl71, Ar71, q71, S71, Ng71, Ha71, G71⟩ := vt71
    have hin71 : ¬ ((0 : Int32) < 0 ∨ cl71.slots.size ≤ ((0 : Int32)).toNatClampNeg) := inb_of S71 ⟨by decide, by decide⟩
    have hat71 : cl71.slots[((0 : Int32)).toNatClampNeg]? = some (.ref w_BLOB) := Ha71.at hin71 rfl
    obtain ⟨lc72, X72, N72⟩ := own_pack X67 N67
    obtain ⟨cq73, kq73, q73a, q73b, q73c⟩ := isOf hZ e67 (E_BLOB.ext O67.2)
    obtain ⟨_, _, ⟨T73, L73, k73, n73⟩, -, X73, ⟨Lc73, hQ73, l73, y73, z73⟩, st73⟩ := X72.virtualBack hx (y := (⟨"com/example/shapewright/shapewright/model/ShapeType", "isString", "()Z"⟩ : MethodName)) (z := (⟨"com/example/shapewright/shapewright/model/ShapeType", "isString", "()Z"⟩ : MethodName)) hown (mvT hZ (hw _ (List.mem_of_getElem? (i := 49) rfl))) (mvT hZ (hw _ (List.mem_of_getElem? (i := 50) rfl))) (notFace_of_selects (args := #[]) (mvT hZ (hw _ (List.mem_of_getElem? (i := 52) rfl)))) (mvT hZ (hw _ (List.mem_of_getElem? (i := 52) rfl))) (mvT hZ (hw _ (List.mem_of_getElem? (i := 51) rfl))) (by decide) (backOf (W := 0) (rm_isString_1 l Z a0 hw [] w_STRING w_BLOB w_ENUM h67 n0 O67  S_STRING F_ordinal_BLOB F_ordinal_STRING S_ENUM F_ordinal_ENUM) hZ (hw _ (List.mem_of_getElem? (i := 53) rfl)) (hw _ (List.mem_of_getElem? (i := 3) rfl)) (by decide) (by decide)) q73a q73c (g := (mkF m 182 #[.val (.int p0), .val (.ref b1), .val (.int (0 : Int32)), .val (.int (0 : Int32))] [(.ref w_BLOB)])) rfl (by rw [hml]; rfl) (Steps.refl _) (argsL := []) (rest := []) (lenOf pd___Z rfl) rfl (by show 2 * 0 + _ ≤ _; exact Nat.le_of_eq rfl) (hb hby at_182) (fun _ _ => ⟨rfl, e67, (by decide : 1 + 0 ≤ _), (by decide : 22 + 0 ≤ _)⟩)
    dsimp only [Pt.U, Pt.locs, Pt.cells, Pt.slots] at X73 l73 y73 z73 st73 hQ73
    subst l73 y73 z73
    obtain ⟨rfl, N73q, e73⟩ := hQ73
    have N73 := Fr.app N72 N73q
    have pre78 : ∀ t, Steps p.tables e below (T73.setTop (mkF m 194 #[.val (.int p0), .val (.ref b1), .val (.int (0 : Int32)), .val (.int (0 : Int32))] [(.int (1 : Int32))])) t → Steps p.tables e below (s₁.setTop (entryFrame m #[(.int p0)] maxLocals)) t := by
      intro t kt
      refine pre68 t ?_
      show Steps p.tables e below (T67.setTop (mkF m 162 #[.val (.int p0), .val (.ref b1), .val (.int (0 : Int32)), .unset] [])) _
      refine XS.iloadN X67.here hx rfl (hb hby at_162) rfl ?_
      show Steps p.tables e below (T67.setTop (mkF m 163 #[.val (.int p0), .val (.ref b1), .val (.int (0 : Int32)), .unset] [(.int (0 : Int32))])) _
      refine XS.iconst X67.here hx rfl (hb hby at_163) ?_
      show Steps p.tables e below (T67.setTop (mkF m 164 #[.val (.int p0), .val (.ref b1), .val (.int (0 : Int32)), .unset] [(.int (3 : Int32)), (.int (0 : Int32))])) _
      refine XS.icmpNo X67.here hx rfl (hb hby at_164) rfl (feq (by decide : ¬ ((0 : Int32) = (3 : Int32)))).1 ?_
      show Steps p.tables e below (T67.setTop (mkF m 167 #[.val (.int p0), .val (.ref b1), .val (.int (0 : Int32)), .unset] [])) _
      refine XS.iloadN X67.here hx rfl (hb hby at_167) rfl ?_
      show Steps p.tables e below (T67.setTop (mkF m 168 #[.val (.int p0), .val (.ref b1), .val (.int (0 : Int32)), .unset] [(.int (0 : Int32))])) _
      refine XS.bipush X67.here hx rfl (hb hby at_168) ?_
      show Steps p.tables e below (T67.setTop (mkF m 170 #[.val (.int p0), .val (.ref b1), .val (.int (0 : Int32)), .unset] [(.int (13 : Int32)), (.int (0 : Int32))])) _
      refine XS.icmpYes X67.here hx rfl (pc0 := 170) (pc' := 177) rfl (hb hby at_170) rfl (feq (by decide : ¬ ((0 : Int32) = (13 : Int32)))).2 (by decide) (by decide) ?_
      show Steps p.tables e below (T67.setTop (mkF m 177 #[.val (.int p0), .val (.ref b1), .val (.int (0 : Int32)), .unset] [])) _
      refine XS.iconst X67.here hx rfl (hb hby at_177) ?_
      show Steps p.tables e below (T67.setTop (mkF m 178 #[.val (.int p0), .val (.ref b1), .val (.int (0 : Int32)), .unset] [(.int (0 : Int32))])) _
      refine XS.istoreN X67.here hx rfl (hb hby at_178) rfl (l' := #[.val (.int p0), .val (.ref b1), .val (.int (0 : Int32)), .val (.int (0 : Int32))]) rfl ?_
      show Steps p.tables e below (T67.setTop (mkF m 179 #[.val (.int p0), .val (.ref b1), .val (.int (0 : Int32)), .val (.int (0 : Int32))] [])) _
      refine XS.aloadN X67.here hx rfl (hb hby at_179) rfl rfl ?_
      show Steps p.tables e below (T67.setTop (mkF m 180 #[.val (.int p0), .val (.ref b1), .val (.int (0 : Int32)), .val (.int (0 : Int32))] [(.ref b1)])) _
      refine XS.iloadN X67.here hx rfl (hb hby at_180) rfl ?_
      show Steps p.tables e below (T67.setTop (mkF m 181 #[.val (.int p0), .val (.ref b1), .val (.int (0 : Int32)), .val (.int (0 : Int32))] [(.int (0 : Int32)), (.ref b1)])) _
      refine X67.aaload hx (j := (0 : Int32)) (v := (.ref w_BLOB)) (by rw [e67]; exact Ar71.1) (State.isArrayOf_alike hZ.alike Ar71.2.1) rfl Ar71.2.2 hin71 hat71 (g := (mkF m 181 #[.val (.int p0), .val (.ref b1), .val (.int (0 : Int32)), .val (.int (0 : Int32))] [(.int (0 : Int32)), (.ref b1)])) rfl rfl (hb hby at_181) _ ?_
      show Steps p.tables e below (T67.setTop (mkF m 182 #[.val (.int p0), .val (.ref b1), .val (.int (0 : Int32)), .val (.int (0 : Int32))] [(.ref w_BLOB)])) _
      refine st73.trans ?_
      show Steps p.tables e below (T73.setTop (mkF m 185 #[.val (.int p0), .val (.ref b1), .val (.int (0 : Int32)), .val (.int (0 : Int32))] [(.int (0 : Int32))])) _
      refine XS.iloadN X73.here hx rfl (hb hby at_185) rfl ?_
      show Steps p.tables e below (T73.setTop (mkF m 186 #[.val (.int p0), .val (.ref b1), .val (.int (0 : Int32)), .val (.int (0 : Int32))] [(.int (0 : Int32)), (.int (0 : Int32))])) _
      refine XS.icmpNo X73.here hx rfl (hb hby at_186) rfl (teq (by decide : (0 : Int32) = (0 : Int32))).2 ?_
      show Steps p.tables e below (T73.setTop (mkF m 189 #[.val (.int p0), .val (.ref b1), .val (.int (0 : Int32)), .val (.int (0 : Int32))] [])) _
      refine XS.iconst X73.here hx rfl (hb hby at_189) ?_
      show Steps p.tables e below (T73.setTop (mkF m 190 #[.val (.int p0), .val (.ref b1), .val (.int (0 : Int32)), .val (.int (0 : Int32))] [(.int (1 : Int32))])) _
      refine XS.goto X73.here hx rfl (pc0 := 190) (pc' := 194) rfl (hb hby at_190) (by decide) (by decide) ?_
      exact kt
    obtain ⟨fs, hr, hrun, hended, hW, hsame⟩ := X73.leave (v := some (.int (1 : Int32))) (fun h => by rw [Bd.returns] at h; cases h)
    refine ⟨_, _, pre78 _ ?_, hrun, hended, _, _, rfl, ?_, ⟨_, rfl⟩, hW, hsame.mono (by decide) (by decide)⟩
    · show Steps p.tables e below (T73.setTop (mkF m 194 #[.val (.int p0), .val (.ref b1), .val (.int (0 : Int32)), .val (.int (0 : Int32))] [(.int (1 : Int32))])) _
      exact retN X73 hx (t := .boolean) Bd.returns (by simp) (hb hby at_194) hr
    · show Q_rm0 Z p0 w_BLOB w_BOOLEAN w_DOCUMENT w_STRING w_BYTE w_SHORT w_INTEGER w_LONG w_FLOAT w_DOUBLE w_BIG_INTEGER w_BIG_DECIMAL w_TIMESTAMP w_ENUM w_INT_ENUM w_LIST w_MAP w_STRUCTURE w_UNION w_SERVICE w_OPERATION w_RESOURCE h0 n0 _ T73.heap _
      rw [e73]
      exact ⟨rfl, N73⟩
  · rw [hk] at pre68
    have vt81 := V_b1
    obtain ⟨cl81, Ar81, q81, S81, Ng81, Ha81, G81⟩ := vt81
    have hin81 : ¬ ((1 : Int32) < 0 ∨ cl81.slots.size ≤ ((1 : Int32)).toNatClampNeg) := inb_of S81 ⟨by decide, by decide⟩
    have hat81 : cl81.slots[((1 : Int32)).toNatClampNeg]? = some (.ref w_BOOLEAN) := Ha81.at hin81 rfl
    obtain ⟨lc82, X82, N82⟩ := own_pack X67 N67
    obtain ⟨cq83, kq83, q83a, q83b, q83c⟩ := isOf hZ e67 (E_BOOLEAN.ext O67.2)
    obtain ⟨_, _, ⟨T83, L83, k83, n83⟩, -, X83, ⟨Lc83, hQ83, l83, y83, z83⟩, st83⟩ := X82.virtualBack hx (y := (⟨"com/example/shapewright/shapewright/model/ShapeType", "isString", "()Z"⟩ : MethodName)) (z := (⟨"com/example/shapewright/shapewright/model/ShapeType", "isString", "()Z"⟩ : MethodName)) hown (mvT hZ (hw _ (List.mem_of_getElem? (i := 49) rfl))) (mvT hZ (hw _ (List.mem_of_getElem? (i := 50) rfl))) (notFace_of_selects (args := #[]) (mvT hZ (hw _ (List.mem_of_getElem? (i := 52) rfl)))) (mvT hZ (hw _ (List.mem_of_getElem? (i := 52) rfl))) (mvT hZ (hw _ (List.mem_of_getElem? (i := 51) rfl))) (by decide) (backOf (W := 0) (rm_isString_2 l Z a0 hw [] w_STRING w_BOOLEAN w_ENUM h67 n0 O67  S_STRING F_ordinal_BOOLEAN F_ordinal_STRING S_ENUM F_ordinal_ENUM) hZ (hw _ (List.mem_of_getElem? (i := 53) rfl)) (hw _ (List.mem_of_getElem? (i := 3) rfl)) (by decide) (by decide)) q83a q83c (g := (mkF m 182 #[.val (.int p0), .val (.ref b1), .val (.int (1 : Int32)), .val (.int (0 : Int32))] [(.ref w_BOOLEAN)])) rfl (by rw [hml]; rfl) (Steps.refl _) (argsL := []) (rest := []) (lenOf pd___Z rfl) rfl (by show 2 * 0 + _ ≤ _; exact Nat.le_of_eq rfl) (hb hby at_182) (fun _ _ => ⟨rfl, e67, (by decide : 1 + 0 ≤ _), (by decide : 22 + 0 ≤ _)⟩)
    dsimp only [Pt.U, Pt.locs, Pt.cells, Pt.slots] at X83 l83 y83 z83 st83 hQ83
    subst l83 y83 z83
    obtain ⟨rfl, N83q, e83⟩ := hQ83
    have N83 := Fr.app N82 N83q
    have pre88 : ∀ t, Steps p.tables e below (T83.setTop (mkF m 194 #[.val (.int p0), .val (.ref b1), .val (.int (1 : Int32)), .val (.int (0 : Int32))] [(.int (1 : Int32))])) t → Steps p.tables e below (s₁.setTop (entryFrame m #[(.int p0)] maxLocals)) t := by
      intro t kt
      refine pre68 t ?_
      show Steps p.tables e below (T67.setTop (mkF m 162 #[.val (.int p0), .val (.ref b1), .val (.int (1 : Int32)), .unset] [])) _
      refine XS.iloadN X67.here hx rfl (hb hby at_162) rfl ?_
      show Steps p.tables e below (T67.setTop (mkF m 163 #[.val (.int p0), .val (.ref b1), .val (.int (1 : Int32)), .unset] [(.int (1 : Int32))])) _
      refine XS.iconst X67.here hx rfl (hb hby at_163) ?_
      show Steps p.tables e below (T67.setTop (mkF m 164 #[.val (.int p0), .val (.ref b1), .val (.int (1 : Int32)), .unset] [(.int (3 : Int32)), (.int (1 : Int32))])) _
      refine XS.icmpNo X67.here hx rfl (hb hby at_164) rfl (feq (by decide : ¬ ((1 : Int32) = (3 : Int32)))).1 ?_
      show Steps p.tables e below (T67.setTop (mkF m 167 #[.val (.int p0), .val (.ref b1), .val (.int (1 : Int32)), .unset] [])) _
      refine XS.iloadN X67.here hx rfl (hb hby at_167) rfl ?_
      show Steps p.tables e below (T67.setTop (mkF m 168 #[.val (.int p0), .val (.ref b1), .val (.int (1 : Int32)), .unset] [(.int (1 : Int32))])) _
      refine XS.bipush X67.here hx rfl (hb hby at_168) ?_
      show Steps p.tables e below (T67.setTop (mkF m 170 #[.val (.int p0), .val (.ref b1), .val (.int (1 : Int32)), .unset] [(.int (13 : Int32)), (.int (1 : Int32))])) _
      refine XS.icmpYes X67.here hx rfl (pc0 := 170) (pc' := 177) rfl (hb hby at_170) rfl (feq (by decide : ¬ ((1 : Int32) = (13 : Int32)))).2 (by decide) (by decide) ?_
      show Steps p.tables e below (T67.setTop (mkF m 177 #[.val (.int p0), .val (.ref b1), .val (.int (1 : Int32)), .unset] [])) _
      refine XS.iconst X67.here hx rfl (hb hby at_177) ?_
      show Steps p.tables e below (T67.setTop (mkF m 178 #[.val (.int p0), .val (.ref b1), .val (.int (1 : Int32)), .unset] [(.int (0 : Int32))])) _
      refine XS.istoreN X67.here hx rfl (hb hby at_178) rfl (l' := #[.val (.int p0), .val (.ref b1), .val (.int (1 : Int32)), .val (.int (0 : Int32))]) rfl ?_
      show Steps p.tables e below (T67.setTop (mkF m 179 #[.val (.int p0), .val (.ref b1), .val (.int (1 : Int32)), .val (.int (0 : Int32))] [])) _
      refine XS.aloadN X67.here hx rfl (hb hby at_179) rfl rfl ?_
      show Steps p.tables e below (T67.setTop (mkF m 180 #[.val (.int p0), .val (.ref b1), .val (.int (1 : Int32)), .val (.int (0 : Int32))] [(.ref b1)])) _
      refine XS.iloadN X67.here hx rfl (hb hby at_180) rfl ?_
      show Steps p.tables e below (T67.setTop (mkF m 181 #[.val (.int p0), .val (.ref b1), .val (.int (1 : Int32)), .val (.int (0 : Int32))] [(.int (1 : Int32)), (.ref b1)])) _
      refine X67.aaload hx (j := (1 : Int32)) (v := (.ref w_BOOLEAN)) (by rw [e67]; exact Ar81.1) (State.isArrayOf_alike hZ.alike Ar81.2.1) rfl Ar81.2.2 hin81 hat81 (g := (mkF m 181 #[.val (.int p0), .val (.ref b1), .val (.int (1 : Int32)), .val (.int (0 : Int32))] [(.int (1 : Int32)), (.ref b1)])) rfl rfl (hb hby at_181) _ ?_
      show Steps p.tables e below (T67.setTop (mkF m 182 #[.val (.int p0), .val (.ref b1), .val (.int (1 : Int32)), .val (.int (0 : Int32))] [(.ref w_BOOLEAN)])) _
      refine st83.trans ?_
      show Steps p.tables e below (T83.setTop (mkF m 185 #[.val (.int p0), .val (.ref b1), .val (.int (1 : Int32)), .val (.int (0 : Int32))] [(.int (0 : Int32))])) _
      refine XS.iloadN X83.here hx rfl (hb hby at_185) rfl ?_
      show Steps p.tables e below (T83.setTop (mkF m 186 #[.val (.int p0), .val (.ref b1), .val (.int (1 : Int32)), .val (.int (0 : Int32))] [(.int (0 : Int32)), (.int (0 : Int32))])) _
      refine XS.icmpNo X83.here hx rfl (hb hby at_186) rfl (teq (by decide : (0 : Int32) = (0 : Int32))).2 ?_
      show Steps p.tables e below (T83.setTop (mkF m 189 #[.val (.int p0), .val (.ref b1), .val (.int (1 : Int32)), .val (.int (0 : Int32))] [])) _
      refine XS.iconst X83.here hx rfl (hb hby at_189) ?_
      show Steps p.tables e below (T83.setTop (mkF m 190 #[.val (.int p0), .val (.ref b1), .val (.int (1 : Int32)), .val (.int (0 : Int32))] [(.int (1 : Int32))])) _
      refine XS.goto X83.here hx rfl (pc0 := 190) (pc' := 194) rfl (hb hby at_190) (by decide) (by decide) ?_
      exact kt
    obtain ⟨fs, hr, hrun, hended, hW, hsame⟩ := X83.leave (v := some (.int (1 : Int32))) (fun h => by rw [Bd.returns] at h; cases h)
    refine ⟨_, _, pre88 _ ?_, hrun, hended, _, _, rfl, ?_, ⟨_, rfl⟩, hW, hsame.mono (by decide) (by decide)⟩
    · show Steps p.tables e below (T83.setTop (mkF m 194 #[.val (.int p0), .val (.ref b1), .val (.int (1 : Int32)), .val (.int (0 : Int32))] [(.int (1 : Int32))])) _
      exact retN X83 hx (t := .boolean) Bd.returns (by simp) (hb hby at_194) hr
    · show Q_rm0 Z p0 w_BLOB w_BOOLEAN w_DOCUMENT w_STRING w_BYTE w_SHORT w_INTEGER w_LONG w_FLOAT w_DOUBLE w_BIG_INTEGER w_BIG_DECIMAL w_TIMESTAMP w_ENUM w_INT_ENUM w_LIST w_MAP w_STRUCTURE w_UNION w_SERVICE w_OPERATION w_RESOURCE h0 n0 _ T83.heap _
      rw [e83]
      exact ⟨rfl, N83⟩
  · rw [hk] at pre68
    have vt91 := V_b1
    obtain ⟨cl91, Ar91, q91, S91, Ng91, Ha91, G91⟩ := vt91
    have hin91 : ¬ ((2 : Int32) < 0 ∨ cl91.slots.size ≤ ((2 : Int32)).toNatClampNeg) := inb_of S91 ⟨by decide, by decide⟩
    have hat91 : cl91.slots[((2 : Int32)).toNatClampNeg]? = some (.ref w_DOCUMENT) := Ha91.at hin91 rfl
    obtain ⟨lc92, X92, N92⟩ := own_pack X67 N67
    obtain ⟨cq93, kq93, q93a, q93b, q93c⟩ := isOf hZ e67 (E_DOCUMENT.ext O67.2)
    obtain ⟨_, _, ⟨T93, L93, k93, n93⟩, -, X93, ⟨Lc93, hQ93, l93, y93, z93⟩, st93⟩ := X92.virtualBack hx (y := (⟨"com/example/shapewright/shapewright/model/ShapeType", "isString", "()Z"⟩ : MethodName)) (z := (⟨"com/example/shapewright/shapewright/model/ShapeType", "isString", "()Z"⟩ : MethodName)) hown (mvT hZ (hw _ (List.mem_of_getElem? (i := 49) rfl))) (mvT hZ (hw _ (List.mem_of_getElem? (i := 50) rfl))) (notFace_of_selects (args := #[]) (mvT hZ (hw _ (List.mem_of_getElem? (i := 52) rfl)))) (mvT hZ (hw _ (List.mem_of_getElem? (i := 52) rfl))) (mvT hZ (hw _ (List.mem_of_getElem? (i := 51) rfl))) (by decide) (backOf (W := 0) (rm_isString_3 l Z a0 hw [] w_STRING w_DOCUMENT w_ENUM h67 n0 O67  S_STRING F_ordinal_DOCUMENT F_ordinal_STRING S_ENUM F_ordinal_ENUM) hZ (hw _ (List.mem_of_getElem? (i := 53) rfl)) (hw _ (List.mem_of_getElem? (i := 3) rfl)) (by decide) (by decide)) q93a q93c (g := (mkF m 182 #[.val (.int p0), .val (.ref b1), .val (.int (2 : Int32)), .val (.int (0 : Int32))] [(.ref w_DOCUMENT)])) rfl (by rw [hml]; rfl) (Steps.refl _) (argsL := []) (rest := []) (lenOf pd___Z rfl) rfl (by show 2 * 0 + _ ≤ _; exact Nat.le_of_eq rfl) (hb hby at_182) (fun _ _ => ⟨rfl, e67, (by decide : 1 + 0 ≤ _), (by decide : 22 + 0 ≤ _)⟩)
    dsimp only [Pt.U, Pt.locs, Pt.cells, Pt.slots] at X93 l93 y93 z93 st93 hQ93
    subst l93 y93 z93
    obtain ⟨rfl, N93q, e93⟩ := hQ93
    have N93 := Fr.app N92 N93q
    have pre98 : ∀ t, Steps p.tables e below (T93.setTop (mkF m 194 #[.val (.int p0), .val (.ref b1), .val (.int (2 : Int32)), .val (.int (0 : Int32))] [(.int (1 : Int32))])) t → Steps p.tables e below (s₁.setTop (entryFrame m #[(.int p0)] maxLocals)) t := by
      intro t kt
      refine pre68 t ?_
      show Steps p.tables e below (T67.setTop (mkF m 162 #[.val (.int p0), .val (.ref b1), .val (.int (2 : Int32)), .unset] [])) _
      refine XS.iloadN X67.here hx rfl (hb hby at_162) rfl ?_
      show Steps p.tables e below (T67.setTop (mkF m 163 #[.val (.int p0), .val (.ref b1), .val (.int (2 : Int32)), .unset] [(.int (2 : Int32))])) _
      refine XS.iconst X67.here hx rfl (hb hby at_163) ?_
      show Steps p.tables e below (T67.setTop (mkF m 164 #[.val (.int p0), .val (.ref b1), .val (.int (2 : Int32)), .unset] [(.int (3 : Int32)), (.int (2 : Int32))])) _
      refine XS.icmpNo X67.here hx rfl (hb hby at_164) rfl (feq (by decide : ¬ ((2 : Int32) = (3 : Int32)))).1 ?_
      show Steps p.tables e below (T67.setTop (mkF m 167 #[.val (.int p0), .val (.ref b1), .val (.int (2 : Int32)), .unset] [])) _
      refine XS.iloadN X67.here hx rfl (hb hby at_167) rfl ?_
      show Steps p.tables e below (T67.setTop (mkF m 168 #[.val (.int p0), .val (.ref b1), .val (.int (2 : Int32)), .unset] [(.int (2 : Int32))])) _
      refine XS.bipush X67.here hx rfl (hb hby at_168) ?_
      show Steps p.tables e below (T67.setTop (mkF m 170 #[.val (.int p0), .val (.ref b1), .val (.int (2 : Int32)), .unset] [(.int (13 : Int32)), (.int (2 : Int32))])) _
      refine XS.icmpYes X67.here hx rfl (pc0 := 170) (pc' := 177) rfl (hb hby at_170) rfl (feq (by decide : ¬ ((2 : Int32) = (13 : Int32)))).2 (by decide) (by decide) ?_
      show Steps p.tables e below (T67.setTop (mkF m 177 #[.val (.int p0), .val (.ref b1), .val (.int (2 : Int32)), .unset] [])) _
      refine XS.iconst X67.here hx rfl (hb hby at_177) ?_
      show Steps p.tables e below (T67.setTop (mkF m 178 #[.val (.int p0), .val (.ref b1), .val (.int (2 : Int32)), .unset] [(.int (0 : Int32))])) _
      refine XS.istoreN X67.here hx rfl (hb hby at_178) rfl (l' := #[.val (.int p0), .val (.ref b1), .val (.int (2 : Int32)), .val (.int (0 : Int32))]) rfl ?_
      show Steps p.tables e below (T67.setTop (mkF m 179 #[.val (.int p0), .val (.ref b1), .val (.int (2 : Int32)), .val (.int (0 : Int32))] [])) _
      refine XS.aloadN X67.here hx rfl (hb hby at_179) rfl rfl ?_
      show Steps p.tables e below (T67.setTop (mkF m 180 #[.val (.int p0), .val (.ref b1), .val (.int (2 : Int32)), .val (.int (0 : Int32))] [(.ref b1)])) _
      refine XS.iloadN X67.here hx rfl (hb hby at_180) rfl ?_
      show Steps p.tables e below (T67.setTop (mkF m 181 #[.val (.int p0), .val (.ref b1), .val (.int (2 : Int32)), .val (.int (0 : Int32))] [(.int (2 : Int32)), (.ref b1)])) _
      refine X67.aaload hx (j := (2 : Int32)) (v := (.ref w_DOCUMENT)) (by rw [e67]; exact Ar91.1) (State.isArrayOf_alike hZ.alike Ar91.2.1) rfl Ar91.2.2 hin91 hat91 (g := (mkF m 181 #[.val (.int p0), .val (.ref b1), .val (.int (2 : Int32)), .val (.int (0 : Int32))] [(.int (2 : Int32)), (.ref b1)])) rfl rfl (hb hby at_181) _ ?_
      show Steps p.tables e below (T67.setTop (mkF m 182 #[.val (.int p0), .val (.ref b1), .val (.int (2 : Int32)), .val (.int (0 : Int32))] [(.ref w_DOCUMENT)])) _
      refine st93.trans ?_
      show Steps p.tables e below (T93.setTop (mkF m 185 #[.val (.int p0), .val (.ref b1), .val (.int (2 : Int32)), .val (.int (0 : Int32))] [(.int (0 : Int32))])) _
      refine XS.iloadN X93.here hx rfl (hb hby at_185) rfl ?_
      show Steps p.tables e below (T93.setTop (mkF m 186 #[.val (.int p0), .val (.ref b1), .val (.int (2 : Int32)), .val (.int (0 : Int32))] [(.int (0 : Int32)), (.int (0 : Int32))])) _
      refine XS.icmpNo X93.here hx rfl (hb hby at_186) rfl (teq (by decide : (0 : Int32) = (0 : Int32))).2 ?_
      show Steps p.tables e below (T93.setTop (mkF m 189 #[.val (.int p0), .val (.ref b1), .val (.int (2 : Int32)), .val (.int (0 : Int32))] [])) _
      refine XS.iconst X93.here hx rfl (hb hby at_189) ?_
      show Steps p.tables e below (T93.setTop (mkF m 190 #[.val (.int p0), .val (.ref b1), .val (.int (2 : Int32)), .val (.int (0 : Int32))] [(.int (1 : Int32))])) _
      refine XS.goto X93.here hx rfl (pc0 := 190) (pc' := 194) rfl (hb hby at_190) (by decide) (by decide) ?_
      exact kt
    obtain ⟨fs, hr, hrun, hended, hW, hsame⟩ := X93.leave (v := some (.int (1 : Int32))) (fun h => by rw [Bd.returns] at h; cases h)
    refine ⟨_, _, pre98 _ ?_, hrun, hended, _, _, rfl, ?_, ⟨_, rfl⟩, hW, hsame.mono (by decide) (by decide)⟩
    · show Steps p.tables e below (T93.setTop (mkF m 194 #[.val (.int p0), .val (.ref b1), .val (.int (2 : Int32)), .val (.int (0 : Int32))] [(.int (1 : Int32))])) _
      exact retN X93 hx (t := .boolean) Bd.returns (by simp) (hb hby at_194) hr
    · show Q_rm0 Z p0 w_BLOB w_BOOLEAN w_DOCUMENT w_STRING w_BYTE w_SHORT w_INTEGER w_LONG w_FLOAT w_DOUBLE w_BIG_INTEGER w_BIG_DECIMAL w_TIMESTAMP w_ENUM w_INT_ENUM w_LIST w_MAP w_STRUCTURE w_UNION w_SERVICE w_OPERATION w_RESOURCE h0 n0 _ T93.heap _
      rw [e93]
      exact ⟨rfl, N93⟩
  · rw [hk] at pre68
    have vt100 := V_b1
    obtain ⟨cl100, Ar100, q100, S100, Ng100, Ha100, G100⟩ := vt100
    have hin100 : ¬ ((3 : Int32) < 0 ∨ cl100.slots.size ≤ ((3 : Int32)).toNatClampNeg) := inb_of S100 ⟨by decide, by decide⟩
    have hat100 : cl100.slots[((3 : Int32)).toNatClampNeg]? = some (.ref w_STRING) := Ha100.at hin100 rfl
    obtain ⟨lc101, X101, N101⟩ := own_pack X67 N67
    obtain ⟨cq102, kq102, q102a, q102b, q102c⟩ := isOf hZ e67 (E_STRING.ext O67.2)
    obtain ⟨_, _, ⟨T102, L102, k102, n102⟩, -, X102, ⟨Lc102, hQ102, l102, y102, z102⟩, st102⟩ := X101.virtualBack hx (y := (⟨"com/example/shapewright/shapewright/model/ShapeType", "isString", "()Z"⟩ : MethodName)) (z := (⟨"com/example/shapewright/shapewright/model/ShapeType", "isString", "()Z"⟩ : MethodName)) hown (mvT hZ (hw _ (List.mem_of_getElem? (i := 49) rfl))) (mvT hZ (hw _ (List.mem_of_getElem? (i := 50) rfl))) (notFace_of_selects (args := #[]) (mvT hZ (hw _ (List.mem_of_getElem? (i := 52) rfl)))) (mvT hZ (hw _ (List.mem_of_getElem? (i := 52) rfl))) (mvT hZ (hw _ (List.mem_of_getElem? (i := 51) rfl))) (by decide) (backOf (W := 0) (rm_isString_4 l Z a0 hw [] w_STRING h67 n0 O67  S_STRING) hZ (hw _ (List.mem_of_getElem? (i := 53) rfl)) (hw _ (List.mem_of_getElem? (i := 3) rfl)) (by decide) (by decide)) q102a q102c (g := (mkF m 182 #[.val (.int p0), .val (.ref b1), .val (.int (3 : Int32)), .val (.int (1 : Int32))] [(.ref w_STRING)])) rfl (by rw [hml]; rfl) (Steps.refl _) (argsL := []) (rest := []) (lenOf pd___Z rfl) rfl (by show 2 * 0 + _ ≤ _; exact Nat.le_of_eq rfl) (hb hby at_182) (fun _ _ => ⟨rfl, e67, (by decide : 1 + 0 ≤ _), (by decide : 22 + 0 ≤ _)⟩)
    dsimp only [Pt.U, Pt.locs, Pt.cells, Pt.slots] at X102 l102 y102 z102 st102 hQ102
    subst l102 y102 z102
    obtain ⟨rfl, N102q, e102⟩ := hQ102
    have N102 := Fr.app N101 N102q
    have pre106 : ∀ t, Steps p.tables e below (T102.setTop (mkF m 194 #[.val (.int p0), .val (.ref b1), .val (.int (3 : Int32)), .val (.int (1 : Int32))] [(.int (1 : Int32))])) t → Steps p.tables e below (s₁.setTop (entryFrame m #[(.int p0)] maxLocals)) t := by
      intro t kt
      refine pre68 t ?_
      show Steps p.tables e below (T67.setTop (mkF m 162 #[.val (.int p0), .val (.ref b1), .val (.int (3 : Int32)), .unset] [])) _
      refine XS.iloadN X67.here hx rfl (hb hby at_162) rfl ?_
      show Steps p.tables e below (T67.setTop (mkF m 163 #[.val (.int p0), .val (.ref b1), .val (.int (3 : Int32)), .unset] [(.int (3 : Int32))])) _
      refine XS.iconst X67.here hx rfl (hb hby at_163) ?_
      show Steps p.tables e below (T67.setTop (mkF m 164 #[.val (.int p0), .val (.ref b1), .val (.int (3 : Int32)), .unset] [(.int (3 : Int32)), (.int (3 : Int32))])) _
      refine XS.icmpYes X67.here hx rfl (pc0 := 164) (pc' := 173) rfl (hb hby at_164) rfl (teq (by decide : (3 : Int32) = (3 : Int32))).1 (by decide) (by decide) ?_
      show Steps p.tables e below (T67.setTop (mkF m 173 #[.val (.int p0), .val (.ref b1), .val (.int (3 : Int32)), .unset] [])) _
      refine XS.iconst X67.here hx rfl (hb hby at_173) ?_
      show Steps p.tables e below (T67.setTop (mkF m 174 #[.val (.int p0), .val (.ref b1), .val (.int (3 : Int32)), .unset] [(.int (1 : Int32))])) _
      refine XS.goto X67.here hx rfl (pc0 := 174) (pc' := 178) rfl (hb hby at_174) (by decide) (by decide) ?_
      show Steps p.tables e below (T67.setTop (mkF m 178 #[.val (.int p0), .val (.ref b1), .val (.int (3 : Int32)), .unset] [(.int (1 : Int32))])) _
      refine XS.istoreN X67.here hx rfl (hb hby at_178) rfl (l' := #[.val (.int p0), .val (.ref b1), .val (.int (3 : Int32)), .val (.int (1 : Int32))]) rfl ?_
      show Steps p.tables e below (T67.setTop (mkF m 179 #[.val (.int p0), .val (.ref b1), .val (.int (3 : Int32)), .val (.int (1 : Int32))] [])) _
      refine XS.aloadN X67.here hx rfl (hb hby at_179) rfl rfl ?_
      show Steps p.tables e below (T67.setTop (mkF m 180 #[.val (.int p0), .val (.ref b1), .val (.int (3 : Int32)), .val (.int (1 : Int32))] [(.ref b1)])) _
      refine XS.iloadN X67.here hx rfl (hb hby at_180) rfl ?_
      show Steps p.tables e below (T67.setTop (mkF m 181 #[.val (.int p0), .val (.ref b1), .val (.int (3 : Int32)), .val (.int (1 : Int32))] [(.int (3 : Int32)), (.ref b1)])) _
      refine X67.aaload hx (j := (3 : Int32)) (v := (.ref w_STRING)) (by rw [e67]; exact Ar100.1) (State.isArrayOf_alike hZ.alike Ar100.2.1) rfl Ar100.2.2 hin100 hat100 (g := (mkF m 181 #[.val (.int p0), .val (.ref b1), .val (.int (3 : Int32)), .val (.int (1 : Int32))] [(.int (3 : Int32)), (.ref b1)])) rfl rfl (hb hby at_181) _ ?_
      show Steps p.tables e below (T67.setTop (mkF m 182 #[.val (.int p0), .val (.ref b1), .val (.int (3 : Int32)), .val (.int (1 : Int32))] [(.ref w_STRING)])) _
      refine st102.trans ?_
      show Steps p.tables e below (T102.setTop (mkF m 185 #[.val (.int p0), .val (.ref b1), .val (.int (3 : Int32)), .val (.int (1 : Int32))] [(.int (1 : Int32))])) _
      refine XS.iloadN X102.here hx rfl (hb hby at_185) rfl ?_
      show Steps p.tables e below (T102.setTop (mkF m 186 #[.val (.int p0), .val (.ref b1), .val (.int (3 : Int32)), .val (.int (1 : Int32))] [(.int (1 : Int32)), (.int (1 : Int32))])) _
      refine XS.icmpNo X102.here hx rfl (hb hby at_186) rfl (teq (by decide : (1 : Int32) = (1 : Int32))).2 ?_
      show Steps p.tables e below (T102.setTop (mkF m 189 #[.val (.int p0), .val (.ref b1), .val (.int (3 : Int32)), .val (.int (1 : Int32))] [])) _
      refine XS.iconst X102.here hx rfl (hb hby at_189) ?_
      show Steps p.tables e below (T102.setTop (mkF m 190 #[.val (.int p0), .val (.ref b1), .val (.int (3 : Int32)), .val (.int (1 : Int32))] [(.int (1 : Int32))])) _
      refine XS.goto X102.here hx rfl (pc0 := 190) (pc' := 194) rfl (hb hby at_190) (by decide) (by decide) ?_
      exact kt
    obtain ⟨fs, hr, hrun, hended, hW, hsame⟩ := X102.leave (v := some (.int (1 : Int32))) (fun h => by rw [Bd.returns] at h; cases h)
    refine ⟨_, _, pre106 _ ?_, hrun, hended, _, _, rfl, ?_, ⟨_, rfl⟩, hW, hsame.mono (by decide) (by decide)⟩
    · show Steps p.tables e below (T102.setTop (mkF m 194 #[.val (.int p0), .val (.ref b1), .val (.int (3 : Int32)), .val (.int (1 : Int32))] [(.int (1 : Int32))])) _
      exact retN X102 hx (t := .boolean) Bd.returns (by simp) (hb hby at_194) hr
    · show Q_rm0 Z p0 w_BLOB w_BOOLEAN w_DOCUMENT w_STRING w_BYTE w_SHORT w_INTEGER w_LONG w_FLOAT w_DOUBLE w_BIG_INTEGER w_BIG_DECIMAL w_TIMESTAMP w_ENUM w_INT_ENUM w_LIST w_MAP w_STRUCTURE w_UNION w_SERVICE w_OPERATION w_RESOURCE h0 n0 _ T102.heap _
      rw [e102]
      exact ⟨rfl, N102⟩
  · rw [hk] at pre68
    have vt109 := V_b1
    obtain ⟨cl109, Ar109, q109, S109, Ng109, Ha109, G109⟩ := vt109
    have hin109 : ¬ ((4 : Int32) < 0 ∨ cl109.slots.size ≤ ((4 : Int32)).toNatClampNeg) := inb_of S109 ⟨by decide, by decide⟩
    have hat109 : cl109.slots[((4 : Int32)).toNatClampNeg]? = some (.ref w_BYTE) := Ha109.at hin109 rfl
    obtain ⟨lc110, X110, N110⟩ := own_pack X67 N67
    obtain ⟨cq111, kq111, q111a, q111b, q111c⟩ := isOf hZ e67 (E_BYTE.ext O67.2)
    obtain ⟨_, _, ⟨T111, L111, k111, n111⟩, -, X111, ⟨Lc111, hQ111, l111, y111, z111⟩, st111⟩ := X110.virtualBack hx (y := (⟨"com/example/shapewright/shapewright/model/ShapeType", "isString", "()Z"⟩ : MethodName)) (z := (⟨"com/example/shapewright/shapewright/model/ShapeType", "isString", "()Z"⟩ : MethodName)) hown (mvT hZ (hw _ (List.mem_of_getElem? (i := 49) rfl))) (mvT hZ (hw _ (List.mem_of_getElem? (i := 50) rfl))) (notFace_of_selects (args := #[]) (mvT hZ (hw _ (List.mem_of_getElem? (i := 52) rfl)))) (mvT hZ (hw _ (List.mem_of_getElem? (i := 52) rfl))) (mvT hZ (hw _ (List.mem_of_getElem? (i := 51) rfl))) (by decide) (backOf (W := 0) (rm_isString_5 l Z a0 hw [] w_STRING w_BYTE w_ENUM h67 n0 O67  S_STRING F_ordinal_BYTE F_ordinal_STRING S_ENUM F_ordinal_ENUM) hZ (hw _ (List.mem_of_getElem? (i := 53) rfl)) (hw _ (List.mem_of_getElem? (i := 3) rfl)) (by decide) (by decide)) q111a q111c (g := (mkF m 182 #[.val (.int p0), .val (.ref b1), .val (.int (4 : Int32)), .val (.int (0 : Int32))] [(.ref w_BYTE)])) rfl (by rw [hml]; rfl) (Steps.refl _) (argsL := []) (rest := []) (lenOf pd___Z rfl) rfl (by show 2 * 0 + _ ≤ _; exact Nat.le_of_eq rfl) (hb hby at_182) (fun _ _ => ⟨rfl, e67, (by decide : 1 + 0 ≤ _), (by decide : 22 + 0 ≤ _)⟩)
    dsimp only [Pt.U, Pt.locs, Pt.cells, Pt.slots] at X111 l111 y111 z111 st111 hQ111
    subst l111 y111 z111
    obtain ⟨rfl, N111q, e111⟩ := hQ111
    have N111 := Fr.app N110 N111q
    have pre116 : ∀ t, Steps p.tables e below (T111.setTop (mkF m 194 #[.val (.int p0), .val (.ref b1), .val (.int (4 : Int32)), .val (.int (0 : Int32))] [(.int (1 : Int32))])) t → Steps p.tables e below (s₁.setTop (entryFrame m #[(.int p0)] maxLocals)) t := by
      intro t kt
      refine pre68 t ?_
      show Steps p.tables e below (T67.setTop (mkF m 162 #[.val (.int p0), .val (.ref b1), .val (.int (4 : Int32)), .unset] [])) _
      refine XS.iloadN X67.here hx rfl (hb hby at_162) rfl ?_
      show Steps p.tables e below (T67.setTop (mkF m 163 #[.val (.int p0), .val (.ref b1), .val (.int (4 : Int32)), .unset] [(.int (4 : Int32))])) _
      refine XS.iconst X67.here hx rfl (hb hby at_163) ?_
      show Steps p.tables e below (T67.setTop (mkF m 164 #[.val (.int p0), .val (.ref b1), .val (.int (4 : Int32)), .unset] [(.int (3 : Int32)), (.int (4 : Int32))])) _
      refine XS.icmpNo X67.here hx rfl (hb hby at_164) rfl (feq (by decide : ¬ ((4 : Int32) = (3 : Int32)))).1 ?_
      show Steps p.tables e below (T67.setTop (mkF m 167 #[.val (.int p0), .val (.ref b1), .val (.int (4 : Int32)), .unset] [])) _
      refine XS.iloadN X67.here hx rfl (hb hby at_167) rfl ?_
      show Steps p.tables e below (T67.setTop (mkF m 168 #[.val (.int p0), .val (.ref b1), .val (.int (4 : Int32)), .unset] [(.int (4 : Int32))])) _
      refine XS.bipush X67.here hx rfl (hb hby at_168) ?_
      show Steps p.tables e below (T67.setTop (mkF m 170 #[.val (.int p0), .val (.ref b1), .val (.int (4 : Int32)), .unset] [(.int (13 : Int32)), (.int (4 : Int32))])) _
      refine XS.icmpYes X67.here hx rfl (pc0 := 170) (pc' := 177) rfl (hb hby at_170) rfl (feq (by decide : ¬ ((4 : Int32) = (13 : Int32)))).2 (by decide) (by decide) ?_
      show Steps p.tables e below (T67.setTop (mkF m 177 #[.val (.int p0), .val (.ref b1), .val (.int (4 : Int32)), .unset] [])) _
      refine XS.iconst X67.here hx rfl (hb hby at_177) ?_
      show Steps p.tables e below (T67.setTop (mkF m 178 #[.val (.int p0), .val (.ref b1), .val (.int (4 : Int32)), .unset] [(.int (0 : Int32))])) _
      refine XS.istoreN X67.here hx rfl (hb hby at_178) rfl (l' := #[.val (.int p0), .val (.ref b1), .val (.int (4 : Int32)), .val (.int (0 : Int32))]) rfl ?_
      show Steps p.tables e below (T67.setTop (mkF m 179 #[.val (.int p0), .val (.ref b1), .val (.int (4 : Int32)), .val (.int (0 : Int32))] [])) _
      refine XS.aloadN X67.here hx rfl (hb hby at_179) rfl rfl ?_
      show Steps p.tables e below (T67.setTop (mkF m 180 #[.val (.int p0), .val (.ref b1), .val (.int (4 : Int32)), .val (.int (0 : Int32))] [(.ref b1)])) _
      refine XS.iloadN X67.here hx rfl (hb hby at_180) rfl ?_
      show Steps p.tables e below (T67.setTop (mkF m 181 #[.val (.int p0), .val (.ref b1), .val (.int (4 : Int32)), .val (.int (0 : Int32))] [(.int (4 : Int32)), (.ref b1)])) _
      refine X67.aaload hx (j := (4 : Int32)) (v := (.ref w_BYTE)) (by rw [e67]; exact Ar109.1) (State.isArrayOf_alike hZ.alike Ar109.2.1) rfl Ar109.2.2 hin109 hat109 (g := (mkF m 181 #[.val (.int p0), .val (.ref b1), .val (.int (4 : Int32)), .val (.int (0 : Int32))] [(.int (4 : Int32)), (.ref b1)])) rfl rfl (hb hby at_181) _ ?_
      show Steps p.tables e below (T67.setTop (mkF m 182 #[.val (.int p0), .val (.ref b1), .val (.int (4 : Int32)), .val (.int (0 : Int32))] [(.ref w_BYTE)])) _
      refine st111.trans ?_
      show Steps p.tables e below (T111.setTop (mkF m 185 #[.val (.int p0), .val (.ref b1), .val (.int (4 : Int32)), .val (.int (0 : Int32))] [(.int (0 : Int32))])) _
      refine XS.iloadN X111.here hx rfl (hb hby at_185) rfl ?_
      show Steps p.tables e below (T111.setTop (mkF m 186 #[.val (.int p0), .val (.ref b1), .val (.int (4 : Int32)), .val (.int (0 : Int32))] [(.int (0 : Int32)), (.int (0 : Int32))])) _
      refine XS.icmpNo X111.here hx rfl (hb hby at_186) rfl (teq (by decide : (0 : Int32) = (0 : Int32))).2 ?_
      show Steps p.tables e below (T111.setTop (mkF m 189 #[.val (.int p0), .val (.ref b1), .val (.int (4 : Int32)), .val (.int (0 : Int32))] [])) _
      refine XS.iconst X111.here hx rfl (hb hby at_189) ?_
      show Steps p.tables e below (T111.setTop (mkF m 190 #[.val (.int p0), .val (.ref b1), .val (.int (4 : Int32)), .val (.int (0 : Int32))] [(.int (1 : Int32))])) _
      refine XS.goto X111.here hx rfl (pc0 := 190) (pc' := 194) rfl (hb hby at_190) (by decide) (by decide) ?_
      exact kt
    obtain ⟨fs, hr, hrun, hended, hW, hsame⟩ := X111.leave (v := some (.int (1 : Int32))) (fun h => by rw [Bd.returns] at h; cases h)
    refine ⟨_, _, pre116 _ ?_, hrun, hended, _, _, rfl, ?_, ⟨_, rfl⟩, hW, hsame.mono (by decide) (by decide)⟩
    · show Steps p.tables e below (T111.setTop (mkF m 194 #[.val (.int p0), .val (.ref b1), .val (.int (4 : Int32)), .val (.int (0 : Int32))] [(.int (1 : Int32))])) _
      exact retN X111 hx (t := .boolean) Bd.returns (by simp) (hb hby at_194) hr
    · show Q_rm0 Z p0 w_BLOB w_BOOLEAN w_DOCUMENT w_STRING w_BYTE w_SHORT w_INTEGER w_LONG w_FLOAT w_DOUBLE w_BIG_INTEGER w_BIG_DECIMAL w_TIMESTAMP w_ENUM w_INT_ENUM w_LIST w_MAP w_STRUCTURE w_UNION w_SERVICE w_OPERATION w_RESOURCE h0 n0 _ T111.heap _
      rw [e111]
      exact ⟨rfl, N111⟩
  · rw [hk] at pre68
    have vt119 := V_b1
    obtain ⟨cl119, Ar119, q119, S119, Ng119, Ha119, G119⟩ := vt119
    have hin119 : ¬ ((5 : Int32) < 0 ∨ cl119.slots.size ≤ ((5 : Int32)).toNatClampNeg) := inb_of S119 ⟨by decide, by decide⟩
    have hat119 : cl119.slots[((5 : Int32)).toNatClampNeg]? = some (.ref w_SHORT) := Ha119.at hin119 rfl
    obtain ⟨lc120, X120, N120⟩ := own_pack X67 N67
    obtain ⟨cq121, kq121, q121a, q121b, q121c⟩ := isOf hZ e67 (E_SHORT.ext O67.2)
    obtain ⟨_, _, ⟨T121, L121, k121, n121⟩, -, X121, ⟨Lc121, hQ121, l121, y121, z121⟩, st121⟩ := X120.virtualBack hx (y := (⟨"com/example/shapewright/shapewright/model/ShapeType", "isString", "()Z"⟩ : MethodName)) (z := (⟨"com/example/shapewright/shapewright/model/ShapeType", "isString", "()Z"⟩ : MethodName)) hown (mvT hZ (hw _ (List.mem_of_getElem? (i := 49) rfl))) (mvT hZ (hw _ (List.mem_of_getElem? (i := 50) rfl))) (notFace_of_selects (args := #[]) (mvT hZ (hw _ (List.mem_of_getElem? (i := 52) rfl)))) (mvT hZ (hw _ (List.mem_of_getElem? (i := 52) rfl))) (mvT hZ (hw _ (List.mem_of_getElem? (i := 51) rfl))) (by decide) (backOf (W := 0) (rm_isString_6 l Z a0 hw [] w_STRING w_SHORT w_ENUM h67 n0 O67  S_STRING F_ordinal_SHORT F_ordinal_STRING S_ENUM F_ordinal_ENUM) hZ (hw _ (List.mem_of_getElem? (i := 53) rfl)) (hw _ (List.mem_of_getElem? (i := 3) rfl)) (by decide) (by decide)) q121a q121c (g := (mkF m 182 #[.val (.int p0), .val (.ref b1), .val (.int (5 : Int32)), .val (.int (0 : Int32))] [(.ref w_SHORT)])) rfl (by rw [hml]; rfl) (Steps.refl _) (argsL := []) (rest := []) (lenOf pd___Z rfl) rfl (by show 2 * 0 + _ ≤ _; exact Nat.le_of_eq rfl) (hb hby at_182) (fun _ _ => ⟨rfl, e67, (by decide : 1 + 0 ≤ _), (by decide : 22 + 0 ≤ _)⟩)
    dsimp only [Pt.U, Pt.locs, Pt.cells, Pt.slots] at X121 l121 y121 z121 st121 hQ121
    subst l121 y121 z121
    obtain ⟨rfl, N121q, e121⟩ := hQ121
    have N121 := Fr.app N120 N121q
    have pre126 : ∀ t, Steps p.tables e below (T121.setTop (mkF m 194 #[.val (.int p0), .val (.ref b1), .val (.int (5 : Int32)), .val (.int (0 : Int32))] [(.int (1 : Int32))])) t → Steps p.tables e below (s₁.setTop (entryFrame m #[(.int p0)] maxLocals)) t := by
      intro t kt
      refine pre68 t ?_
      show Steps p.tables e below (T67.setTop (mkF m 162 #[.val (.int p0), .val (.ref b1), .val (.int (5 : Int32)), .unset] [])) _
      refine XS.iloadN X67.here hx rfl (hb hby at_162) rfl ?_
      show Steps p.tables e below (T67.setTop (mkF m 163 #[.val (.int p0), .val (.ref b1), .val (.int (5 : Int32)), .unset] [(.int (5 : Int32))])) _
      refine XS.iconst X67.here hx rfl (hb hby at_163) ?_
      show Steps p.tables e below (T67.setTop (mkF m 164 #[.val (.int p0), .val (.ref b1), .val (.int (5 : Int32)), .unset] [(.int (3 : Int32)), (.int (5 : Int32))])) _
      refine XS.icmpNo X67.here hx rfl (hb hby at_164) rfl (feq (by decide : ¬ ((5 : Int32) = (3 : Int32)))).1 ?_
      show Steps p.tables e below (T67.setTop (mkF m 167 #[.val (.int p0), .val (.ref b1), .val (.int (5 : Int32)), .unset] [])) _
      refine XS.iloadN X67.here hx rfl (hb hby at_167) rfl ?_
      show Steps p.tables e below (T67.setTop (mkF m 168 #[.val (.int p0), .val (.ref b1), .val (.int (5 : Int32)), .unset] [(.int (5 : Int32))])) _
      refine XS.bipush X67.here hx rfl (hb hby at_168) ?_
      show Steps p.tables e below (T67.setTop (mkF m 170 #[.val (.int p0), .val (.ref b1), .val (.int (5 : Int32)), .unset] [(.int (13 : Int32)), (.int (5 : Int32))])) _
      refine XS.icmpYes X67.here hx rfl (pc0 := 170) (pc' := 177) rfl (hb hby at_170) rfl (feq (by decide : ¬ ((5 : Int32) = (13 : Int32)))).2 (by decide) (by decide) ?_
      show Steps p.tables e below (T67.setTop (mkF m 177 #[.val (.int p0), .val (.ref b1), .val (.int (5 : Int32)), .unset] [])) _
      refine XS.iconst X67.here hx rfl (hb hby at_177) ?_
      show Steps p.tables e below (T67.setTop (mkF m 178 #[.val (.int p0), .val (.ref b1), .val (.int (5 : Int32)), .unset] [(.int (0 : Int32))])) _
      refine XS.istoreN X67.here hx rfl (hb hby at_178) rfl (l' := #[.val (.int p0), .val (.ref b1), .val (.int (5 : Int32)), .val (.int (0 : Int32))]) rfl ?_
      show Steps p.tables e below (T67.setTop (mkF m 179 #[.val (.int p0), .val (.ref b1), .val (.int (5 : Int32)), .val (.int (0 : Int32))] [])) _
      refine XS.aloadN X67.here hx rfl (hb hby at_179) rfl rfl ?_
      show Steps p.tables e below (T67.setTop (mkF m 180 #[.val (.int p0), .val (.ref b1), .val (.int (5 : Int32)), .val (.int (0 : Int32))] [(.ref b1)])) _
      refine XS.iloadN X67.here hx rfl (hb hby at_180) rfl ?_
      show Steps p.tables e below (T67.setTop (mkF m 181 #[.val (.int p0), .val (.ref b1), .val (.int (5 : Int32)), .val (.int (0 : Int32))] [(.int (5 : Int32)), (.ref b1)])) _
      refine X67.aaload hx (j := (5 : Int32)) (v := (.ref w_SHORT)) (by rw [e67]; exact Ar119.1) (State.isArrayOf_alike hZ.alike Ar119.2.1) rfl Ar119.2.2 hin119 hat119 (g := (mkF m 181 #[.val (.int p0), .val (.ref b1), .val (.int (5 : Int32)), .val (.int (0 : Int32))] [(.int (5 : Int32)), (.ref b1)])) rfl rfl (hb hby at_181) _ ?_
      show Steps p.tables e below (T67.setTop (mkF m 182 #[.val (.int p0), .val (.ref b1), .val (.int (5 : Int32)), .val (.int (0 : Int32))] [(.ref w_SHORT)])) _
      refine st121.trans ?_
      show Steps p.tables e below (T121.setTop (mkF m 185 #[.val (.int p0), .val (.ref b1), .val (.int (5 : Int32)), .val (.int (0 : Int32))] [(.int (0 : Int32))])) _
      refine XS.iloadN X121.here hx rfl (hb hby at_185) rfl ?_
      show Steps p.tables e below (T121.setTop (mkF m 186 #[.val (.int p0), .val (.ref b1), .val (.int (5 : Int32)), .val (.int (0 : Int32))] [(.int (0 : Int32)), (.int (0 : Int32))])) _
      refine XS.icmpNo X121.here hx rfl (hb hby at_186) rfl (teq (by decide : (0 : Int32) = (0 : Int32))).2 ?_
      show Steps p.tables e below (T121.setTop (mkF m 189 #[.val (.int p0), .val (.ref b1), .val (.int (5 : Int32)), .val (.int (0 : Int32))] [])) _
      refine XS.iconst X121.here hx rfl (hb hby at_189) ?_
      show Steps p.tables e below (T121.setTop (mkF m 190 #[.val (.int p0), .val (.ref b1), .val (.int (5 : Int32)), .val (.int (0 : Int32))] [(.int (1 : Int32))])) _
      refine XS.goto X121.here hx rfl (pc0 := 190) (pc' := 194) rfl (hb hby at_190) (by decide) (by decide) ?_
      exact kt
    obtain ⟨fs, hr, hrun, hended, hW, hsame⟩ := X121.leave (v := some (.int (1 : Int32))) (fun h => by rw [Bd.returns] at h; cases h)
    refine ⟨_, _, pre126 _ ?_, hrun, hended, _, _, rfl, ?_, ⟨_, rfl⟩, hW, hsame.mono (by decide) (by decide)⟩
    · show Steps p.tables e below (T121.setTop (mkF m 194 #[.val (.int p0), .val (.ref b1), .val (.int (5 : Int32)), .val (.int (0 : Int32))] [(.int (1 : Int32))])) _
      exact retN X121 hx (t := .boolean) Bd.returns (by simp) (hb hby at_194) hr
    · show Q_rm0 Z p0 w_BLOB w_BOOLEAN w_DOCUMENT w_STRING w_BYTE w_SHORT w_INTEGER w_LONG w_FLOAT w_DOUBLE w_BIG_INTEGER w_BIG_DECIMAL w_TIMESTAMP w_ENUM w_INT_ENUM w_LIST w_MAP w_STRUCTURE w_UNION w_SERVICE w_OPERATION w_RESOURCE h0 n0 _ T121.heap _
      rw [e121]
      exact ⟨rfl, N121⟩
  · rw [hk] at pre68
    have vt129 := V_b1
    obtain ⟨cl129, Ar129, q129, S129, Ng129, Ha129, G129⟩ := vt129
    have hin129 : ¬ ((6 : Int32) < 0 ∨ cl129.slots.size ≤ ((6 : Int32)).toNatClampNeg) := inb_of S129 ⟨by decide, by decide⟩
    have hat129 : cl129.slots[((6 : Int32)).toNatClampNeg]? = some (.ref w_INTEGER) := Ha129.at hin129 rfl
    obtain ⟨lc130, X130, N130⟩ := own_pack X67 N67
    obtain ⟨cq131, kq131, q131a, q131b, q131c⟩ := isOf hZ e67 (E_INTEGER.ext O67.2)
    obtain ⟨_, _, ⟨T131, L131, k131, n131⟩, -, X131, ⟨Lc131, hQ131, l131, y131, z131⟩, st131⟩ := X130.virtualBack hx (y := (⟨"com/example/shapewright/shapewright/model/ShapeType", "isString", "()Z"⟩ : MethodName)) (z := (⟨"com/example/shapewright/shapewright/model/ShapeType", "isString", "()Z"⟩ : MethodName)) hown (mvT hZ (hw _ (List.mem_of_getElem? (i := 49) rfl))) (mvT hZ (hw _ (List.mem_of_getElem? (i := 50) rfl))) (notFace_of_selects (args := #[]) (mvT hZ (hw _ (List.mem_of_getElem? (i := 52) rfl)))) (mvT hZ (hw _ (List.mem_of_getElem? (i := 52) rfl))) (mvT hZ (hw _ (List.mem_of_getElem? (i := 51) rfl))) (by decide) (backOf (W := 0) (rm_isString_7 l Z a0 hw [] w_STRING w_INTEGER w_ENUM h67 n0 O67  S_STRING F_ordinal_INTEGER F_ordinal_STRING S_ENUM F_ordinal_ENUM) hZ (hw _ (List.mem_of_getElem? (i := 53) rfl)) (hw _ (List.mem_of_getElem? (i := 3) rfl)) (by decide) (by decide)) q131a q131c (g := (mkF m 182 #[.val (.int p0), .val (.ref b1), .val (.int (6 : Int32)), .val (.int (0 : Int32))] [(.ref w_INTEGER)])) rfl (by rw [hml]; rfl) (Steps.refl _) (argsL := []) (rest := []) (lenOf pd___Z rfl) rfl (by show 2 * 0 + _ ≤ _; exact Nat.le_of_eq rfl) (hb hby at_182) (fun _ _ => ⟨rfl, e67, (by decide : 1 + 0 ≤ _), (by decide : 22 + 0 ≤ _)⟩)
    dsimp only [Pt.U, Pt.locs, Pt.cells, Pt.slots] at X131 l131 y131 z131 st131 hQ131
    subst l131 y131 z131
    obtain ⟨rfl, N131q, e131⟩ := hQ131
    have N131 := Fr.app N130 N131q
    have pre136 : ∀ t, Steps p.tables e below (T131.setTop (mkF m 194 #[.val (.int p0), .val (.ref b1), .val (.int (6 : Int32)), .val (.int (0 : Int32))] [(.int (1 : Int32))])) t → Steps p.tables e below (s₁.setTop (entryFrame m #[(.int p0)] maxLocals)) t := by
      intro t kt
      refine pre68 t ?_
      show Steps p.tables e below (T67.setTop (mkF m 162 #[.val (.int p0), .val (.ref b1), .val (.int (6 : Int32)), .unset] [])) _
      refine XS.iloadN X67.here hx rfl (hb hby at_162) rfl ?_
      show Steps p.tables e below (T67.setTop (mkF m 163 #[.val (.int p0), .val (.ref b1), .val (.int (6 : Int32)), .unset] [(.int (6 : Int32))])) _
      refine XS.iconst X67.here hx rfl (hb hby at_163) ?_
      show Steps p.tables e below (T67.setTop (mkF m 164 #[.val (.int p0), .val (.ref b1), .val (.int (6 : Int32)), .unset] [(.int (3 : Int32)), (.int (6 : Int32))])) _
      refine XS.icmpNo X67.here hx rfl (hb hby at_164) rfl (feq (by decide : ¬ ((6 : Int32) = (3 : Int32)))).1 ?_
      show Steps p.tables e below (T67.setTop (mkF m 167 #[.val (.int p0), .val (.ref b1), .val (.int (6 : Int32)), .unset] [])) _
      refine XS.iloadN X67.here hx rfl (hb hby at_167) rfl ?_
      show Steps p.tables e below (T67.setTop (mkF m 168 #[.val (.int p0), .val (.ref b1), .val (.int (6 : Int32)), .unset] [(.int (6 : Int32))])) _
      refine XS.bipush X67.here hx rfl (hb hby at_168) ?_
      show Steps p.tables e below (T67.setTop (mkF m 170 #[.val (.int p0), .val (.ref b1), .val (.int (6 : Int32)), .unset] [(.int (13 : Int32)), (.int (6 : Int32))])) _
      refine XS.icmpYes X67.here hx rfl (pc0 := 170) (pc' := 177) rfl (hb hby at_170) rfl (feq (by decide : ¬ ((6 : Int32) = (13 : Int32)))).2 (by decide) (by decide) ?_
      show Steps p.tables e below (T67.setTop (mkF m 177 #[.val (.int p0), .val (.ref b1), .val (.int (6 : Int32)), .unset] [])) _
      refine XS.iconst X67.here hx rfl (hb hby at_177) ?_
      show Steps p.tables e below (T67.setTop (mkF m 178 #[.val (.int p0), .val (.ref b1), .val (.int (6 : Int32)), .unset] [(.int (0 : Int32))])) _
      refine XS.istoreN X67.here hx rfl (hb hby at_178) rfl (l' := #[.val (.int p0), .val (.ref b1), .val (.int (6 : Int32)), .val (.int (0 : Int32))]) rfl ?_
      show Steps p.tables e below (T67.setTop (mkF m 179 #[.val (.int p0), .val (.ref b1), .val (.int (6 : Int32)), .val (.int (0 : Int32))] [])) _
      refine XS.aloadN X67.here hx rfl (hb hby at_179) rfl rfl ?_
      show Steps p.tables e below (T67.setTop (mkF m 180 #[.val (.int p0), .val (.ref b1), .val (.int (6 : Int32)), .val (.int (0 : Int32))] [(.ref b1)])) _
      refine XS.iloadN X67.here hx rfl (hb hby at_180) rfl ?_
      show Steps p.tables e below (T67.setTop (mkF m 181 #[.val (.int p0), .val (.ref b1), .val (.int (6 : Int32)), .val (.int (0 : Int32))] [(.int (6 : Int32)), (.ref b1)])) _
      refine X67.aaload hx (j := (6 : Int32)) (v := (.ref w_INTEGER)) (by rw [e67]; exact Ar129.1) (State.isArrayOf_alike hZ.alike Ar129.2.1) rfl Ar129.2.2 hin129 hat129 (g := (mkF m 181 #[.val (.int p0), .val (.ref b1), .val (.int (6 : Int32)), .val (.int (0 : Int32))] [(.int (6 : Int32)), (.ref b1)])) rfl rfl (hb hby at_181) _ ?_
      show Steps p.tables e below (T67.setTop (mkF m 182 #[.val (.int p0), .val (.ref b1), .val (.int (6 : Int32)), .val (.int (0 : Int32))] [(.ref w_INTEGER)])) _
      refine st131.trans ?_
      show Steps p.tables e below (T131.setTop (mkF m 185 #[.val (.int p0), .val (.ref b1), .val (.int (6 : Int32)), .val (.int (0 : Int32))] [(.int (0 : Int32))])) _
      refine XS.iloadN X131.here hx rfl (hb hby at_185) rfl ?_
      show Steps p.tables e below (T131.setTop (mkF m 186 #[.val (.int p0), .val (.ref b1), .val (.int (6 : Int32)), .val (.int (0 : Int32))] [(.int (0 : Int32)), (.int (0 : Int32))])) _
      refine XS.icmpNo X131.here hx rfl (hb hby at_186) rfl (teq (by decide : (0 : Int32) = (0 : Int32))).2 ?_
      show Steps p.tables e below (T131.setTop (mkF m 189 #[.val (.int p0), .val (.ref b1), .val (.int (6 : Int32)), .val (.int (0 : Int32))] [])) _
      refine XS.iconst X131.here hx rfl (hb hby at_189) ?_
      show Steps p.tables e below (T131.setTop (mkF m 190 #[.val (.int p0), .val (.ref b1), .val (.int (6 : Int32)), .val (.int (0 : Int32))] [(.int (1 : Int32))])) _
      refine XS.goto X131.here hx rfl (pc0 := 190) (pc' := 194) rfl (hb hby at_190) (by decide) (by decide) ?_
      exact kt
    obtain ⟨fs, hr, hrun, hended, hW, hsame⟩ := X131.leave (v := some (.int (1 : Int32))) (fun h => by rw [Bd.returns] at h; cases h)
    refine ⟨_, _, pre136 _ ?_, hrun, hended, _, _, rfl, ?_, ⟨_, rfl⟩, hW, hsame.mono (by decide) (by decide)⟩
    · show Steps p.tables e below (T131.setTop (mkF m 194 #[.val (.int p0), .val (.ref b1), .val (.int (6 : Int32)), .val (.int (0 : Int32))] [(.int (1 : Int32))])) _
      exact retN X131 hx (t := .boolean) Bd.returns (by simp) (hb hby at_194) hr
    · show Q_rm0 Z p0 w_BLOB w_BOOLEAN w_DOCUMENT w_STRING w_BYTE w_SHORT w_INTEGER w_LONG w_FLOAT w_DOUBLE w_BIG_INTEGER w_BIG_DECIMAL w_TIMESTAMP w_ENUM w_INT_ENUM w_LIST w_MAP w_STRUCTURE w_UNION w_SERVICE w_OPERATION w_RESOURCE h0 n0 _ T131.heap _
      rw [e131]
      exact ⟨rfl, N131⟩
  · rw [hk] at pre68
    have vt139 := V_b1
    obtain ⟨cl139, Ar139, q139, S139, Ng139, Ha139, G139⟩ := vt139
    have hin139 : ¬ ((7 : Int32) < 0 ∨ cl139.slots.size ≤ ((7 : Int32)).toNatClampNeg) := inb_of S139 ⟨by decide, by decide⟩
    have hat139 : cl139.slots[((7 : Int32)).toNatClampNeg]? = some (.ref w_LONG) := Ha139.at hin139 rfl
    obtain ⟨lc140, X140, N140⟩ := own_pack X67 N67
    obtain ⟨cq141, kq141, q141a, q141b, q141c⟩ := isOf hZ e67 (E_LONG.ext O67.2)
    obtain ⟨_, _, ⟨T141, L141, k141, n141⟩, -, X141, ⟨Lc141, hQ141, l141, y141, z141⟩, st141⟩ := X140.virtualBack hx (y := (⟨"com/example/shapewright/shapewright/model/ShapeType", "isString", "()Z"⟩ : MethodName)) (z := (⟨"com/example/shapewright/shapewright/model/ShapeType", "isString", "()Z"⟩ : MethodName)) hown (mvT hZ (hw _ (List.mem_of_getElem? (i := 49) rfl))) (mvT hZ (hw _ (List.mem_of_getElem? (i := 50) rfl))) (notFace_of_selects (args := #[]) (mvT hZ (hw _ (List.mem_of_getElem? (i := 52) rfl)))) (mvT hZ (hw _ (List.mem_of_getElem? (i := 52) rfl))) (mvT hZ (hw _ (List.mem_of_getElem? (i := 51) rfl))) (by decide) (backOf (W := 0) (rm_isString_8 l Z a0 hw [] w_STRING w_LONG w_ENUM h67 n0 O67  S_STRING F_ordinal_LONG F_ordinal_STRING S_ENUM F_ordinal_ENUM) hZ (hw _ (List.mem_of_getElem? (i := 53) rfl)) (hw _ (List.mem_of_getElem? (i := 3) rfl)) (by decide) (by decide)) q141a q141c (g := (mkF m 182 #[.val (.int p0), .val (.ref b1), .val (.int (7 : Int32)), .val (.int (0 : Int32))] [(.ref w_LONG)])) rfl (by rw [hml]; rfl) (Steps.refl _) (argsL := []) (rest := []) (lenOf pd___Z rfl) rfl (by show 2 * 0 + _ ≤ _; exact Nat.le_of_eq rfl) (hb hby at_182) (fun _ _ => ⟨rfl, e67, (by decide : 1 + 0 ≤ _), (by decide : 22 + 0 ≤ _)⟩)
    dsimp only [Pt.U, Pt.locs, Pt.cells, Pt.slots] at X141 l141 y141 z141 st141 hQ141
    subst l141 y141 z141
    obtain ⟨rfl, N141q, e141⟩ := hQ141
    have N141 := Fr.app N140 N141q
    have pre146 : ∀ t, Steps p.tables e below (T141.setTop (mkF m 194 #[.val (.int p0), .val (.ref b1), .val (.int (7 : Int32)), .val (.int (0 : Int32))] [(.int (1 : Int32))])) t → Steps p.tables e below (s₁.setTop (entryFrame m #[(.int p0)] maxLocals)) t := by
      intro t kt
      refine pre68 t ?_
      show Steps p.tables e below (T67.setTop (mkF m 162 #[.val (.int p0), .val (.ref b1), .val (.int (7 : Int32)), .unset] [])) _
      refine XS.iloadN X67.here hx rfl (hb hby at_162) rfl ?_
      show Steps p.tables e below (T67.setTop (mkF m 163 #[.val (.int p0), .val (.ref b1), .val (.int (7 : Int32)), .unset] [(.int (7 : Int32))])) _
      refine XS.iconst X67.here hx rfl (hb hby at_163) ?_
      show Steps p.tables e below (T67.setTop (mkF m 164 #[.val (.int p0), .val (.ref b1), .val (.int (7 : Int32)), .unset] [(.int (3 : Int32)), (.int (7 : Int32))])) _
      refine XS.icmpNo X67.here hx rfl (hb hby at_164) rfl (feq (by decide : ¬ ((7 : Int32) = (3 : Int32)))).1 ?_
      show Steps p.tables e below (T67.setTop (mkF m 167 #[.val (.int p0), .val (.ref b1), .val (.int (7 : Int32)), .unset] [])) _
      refine XS.iloadN X67.here hx rfl (hb hby at_167) rfl ?_
      show Steps p.tables e below (T67.setTop (mkF m 168 #[.val (.int p0), .val (.ref b1), .val (.int (7 : Int32)), .unset] [(.int (7 : Int32))])) _
      refine XS.bipush X67.here hx rfl (hb hby at_168) ?_
      show Steps p.tables e below (T67.setTop (mkF m 170 #[.val (.int p0), .val (.ref b1), .val (.int (7 : Int32)), .unset] [(.int (13 : Int32)), (.int (7 : Int32))])) _
      refine XS.icmpYes X67.here hx rfl (pc0 := 170) (pc' := 177) rfl (hb hby at_170) rfl (feq (by decide : ¬ ((7 : Int32) = (13 : Int32)))).2 (by decide) (by decide) ?_
      show Steps p.tables e below (T67.setTop (mkF m 177 #[.val (.int p0), .val (.ref b1), .val (.int (7 : Int32)), .unset] [])) _
      refine XS.iconst X67.here hx rfl (hb hby at_177) ?_
      show Steps p.tables e below (T67.setTop (mkF m 178 #[.val (.int p0), .val (.ref b1), .val (.int (7 : Int32)), .unset] [(.int (0 : Int32))])) _
      refine XS.istoreN X67.here hx rfl (hb hby at_178) rfl (l' := #[.val (.int p0), .val (.ref b1), .val (.int (7 : Int32)), .val (.int (0 : Int32))]) rfl ?_
      show Steps p.tables e below (T67.setTop (mkF m 179 #[.val (.int p0), .val (.ref b1), .val (.int (7 : Int32)), .val (.int (0 : Int32))] [])) _
      refine XS.aloadN X67.here hx rfl (hb hby at_179) rfl rfl ?_
      show Steps p.tables e below (T67.setTop (mkF m 180 #[.val (.int p0), .val (.ref b1), .val (.int (7 : Int32)), .val (.int (0 : Int32))] [(.ref b1)])) _
      refine XS.iloadN X67.here hx rfl (hb hby at_180) rfl ?_
      show Steps p.tables e below (T67.setTop (mkF m 181 #[.val (.int p0), .val (.ref b1), .val (.int (7 : Int32)), .val (.int (0 : Int32))] [(.int (7 : Int32)), (.ref b1)])) _
      refine X67.aaload hx (j := (7 : Int32)) (v := (.ref w_LONG)) (by rw [e67]; exact Ar139.1) (State.isArrayOf_alike hZ.alike Ar139.2.1) rfl Ar139.2.2 hin139 hat139 (g := (mkF m 181 #[.val (.int p0), .val (.ref b1), .val (.int (7 : Int32)), .val (.int (0 : Int32))] [(.int (7 : Int32)), (.ref b1)])) rfl rfl (hb hby at_181) _ ?_
      show Steps p.tables e below (T67.setTop (mkF m 182 #[.val (.int p0), .val (.ref b1), .val (.int (7 : Int32)), .val (.int (0 : Int32))] [(.ref w_LONG)])) _
      refine st141.trans ?_
      show Steps p.tables e below (T141.setTop (mkF m 185 #[.val (.int p0), .val (.ref b1), .val (.int (7 : Int32)), .val (.int (0 : Int32))] [(.int (0 : Int32))])) _
      refine XS.iloadN X141.here hx rfl (hb hby at_185) rfl ?_
      show Steps p.tables e below (T141.setTop (mkF m 186 #[.val (.int p0), .val (.ref b1), .val (.int (7 : Int32)), .val (.int (0 : Int32))] [(.int (0 : Int32)), (.int (0 : Int32))])) _
      refine XS.icmpNo X141.here hx rfl (hb hby at_186) rfl (teq (by decide : (0 : Int32) = (0 : Int32))).2 ?_
      show Steps p.tables e below (T141.setTop (mkF m 189 #[.val (.int p0), .val (.ref b1), .val (.int (7 : Int32)), .val (.int (0 : Int32))] [])) _
      refine XS.iconst X141.here hx rfl (hb hby at_189) ?_
      show Steps p.tables e below (T141.setTop (mkF m 190 #[.val (.int p0), .val (.ref b1), .val (.int (7 : Int32)), .val (.int (0 : Int32))] [(.int (1 : Int32))])) _
      refine XS.goto X141.here hx rfl (pc0 := 190) (pc' := 194) rfl (hb hby at_190) (by decide) (by decide) ?_
      exact kt
    obtain ⟨fs, hr, hrun, hended, hW, hsame⟩ := X141.leave (v := some (.int (1 : Int32))) (fun h => by rw [Bd.returns] at h; cases h)
    refine ⟨_, _, pre146 _ ?_, hrun, hended, _, _, rfl, ?_, ⟨_, rfl⟩, hW, hsame.mono (by decide) (by decide)⟩
    · show Steps p.tables e below (T141.setTop (mkF m 194 #[.val (.int p0), .val (.ref b1), .val (.int (7 : Int32)), .val (.int (0 : Int32))] [(.int (1 : Int32))])) _
      exact retN X141 hx (t := .boolean) Bd.returns (by simp) (hb hby at_194) hr
    · show Q_rm0 Z p0 w_BLOB w_BOOLEAN w_DOCUMENT w_STRING w_BYTE w_SHORT w_INTEGER w_LONG w_FLOAT w_DOUBLE w_BIG_INTEGER w_BIG_DECIMAL w_TIMESTAMP w_ENUM w_INT_ENUM w_LIST w_MAP w_STRUCTURE w_UNION w_SERVICE w_OPERATION w_RESOURCE h0 n0 _ T141.heap _
      rw [e141]
      exact ⟨rfl, N141⟩
  · rw [hk] at pre68
    have vt149 := V_b1
    obtain ⟨cl149, Ar149, q149, S149, Ng149, Ha149, G149⟩ := vt149
    have hin149 : ¬ ((8 : Int32) < 0 ∨ cl149.slots.size ≤ ((8 : Int32)).toNatClampNeg) := inb_of S149 ⟨by decide, by decide⟩
    have hat149 : cl149.slots[((8 : Int32)).toNatClampNeg]? = some (.ref w_FLOAT) := Ha149.at hin149 rfl
    obtain ⟨lc150, X150, N150⟩ := own_pack X67 N67
    obtain ⟨cq151, kq151, q151a, q151b, q151c⟩ := isOf hZ e67 (E_FLOAT.ext O67.2)
    obtain ⟨_, _, ⟨T151, L151, k151, n151⟩, -, X151, ⟨Lc151, hQ151, l151, y151, z151⟩, st151⟩ := X150.virtualBack hx (y := (⟨"com/example/shapewright/shapewright/model/ShapeType", "isString", "()Z"⟩ : MethodName)) (z := (⟨"com/example/shapewright/shapewright/model/ShapeType", "isString", "()Z"⟩ : MethodName)) hown (mvT hZ (hw _ (List.mem_of_getElem? (i := 49) rfl))) (mvT hZ (hw _ (List.mem_of_getElem? (i := 50) rfl))) (notFace_of_selects (args := #[]) (mvT hZ (hw _ (List.mem_of_getElem? (i := 52) rfl)))) (mvT hZ (hw _ (List.mem_of_getElem? (i := 52) rfl))) (mvT hZ (hw _ (List.mem_of_getElem? (i := 51) rfl))) (by decide) (backOf (W := 0) (rm_isString_9 l Z a0 hw [] w_STRING w_FLOAT w_ENUM h67 n0 O67  S_STRING F_ordinal_FLOAT F_ordinal_STRING S_ENUM F_ordinal_ENUM) hZ (hw _ (List.mem_of_getElem? (i := 53) rfl)) (hw _ (List.mem_of_getElem? (i := 3) rfl)) (by decide) (by decide)) q151a q151c (g := (mkF m 182 #[.val (.int p0), .val (.ref b1), .val (.int (8 : Int32)), .val (.int (0 : Int32))] [(.ref w_FLOAT)])) rfl (by rw [hml]; rfl) (Steps.refl _) (argsL := []) (rest := []) (lenOf pd___Z rfl) rfl (by show 2 * 0 + _ ≤ _; exact Nat.le_of_eq rfl) (hb hby at_182) (fun _ _ => ⟨rfl, e67, (by decide : 1 + 0 ≤ _), (by decide : 22 + 0 ≤ _)⟩)
    dsimp only [Pt.U, Pt.locs, Pt.cells, Pt.slots] at X151 l151 y151 z151 st151 hQ151
    subst l151 y151 z151
    obtain ⟨rfl, N151q, e151⟩ := hQ151
    have N151 := Fr.app N150 N151q
    have pre156 : ∀ t, Steps p.tables e below (T151.setTop (mkF m 194 #[.val (.int p0), .val (.ref b1), .val (.int (8 : Int32)), .val (.int (0 : Int32))] [(.int (1 : Int32))])) t → Steps p.tables e below (s₁.setTop (entryFrame m #[(.int p0)] maxLocals)) t := by
      intro t kt
      refine pre68 t ?_
      show Steps p.tables e below (T67.setTop (mkF m 162 #[.val (.int p0), .val (.ref b1), .val (.int (8 : Int32)), .unset] [])) _
      refine XS.iloadN X67.here hx rfl (hb hby at_162) rfl ?_
      show Steps p.tables e below (T67.setTop (mkF m 163 #[.val (.int p0), .val (.ref b1), .val (.int (8 : Int32)), .unset] [(.int (8 : Int32))])) _
      refine XS.iconst X67.here hx rfl (hb hby at_163) ?_
      show Steps p.tables e below (T67.setTop (mkF m 164 #[.val (.int p0), .val (.ref b1), .val (.int (8 : Int32)), .unset] [(.int (3 : Int32)), (.int (8 : Int32))])) _
      refine XS.icmpNo X67.here hx rfl (hb hby at_164) rfl (feq (by decide : ¬ ((8 : Int32) = (3 : Int32)))).1 ?_
      show Steps p.tables e below (T67.setTop (mkF m 167 #[.val (.int p0), .val (.ref b1), .val (.int (8 : Int32)), .unset] [])) _
      refine XS.iloadN X67.here hx rfl (hb hby at_167) rfl ?_
      show Steps p.tables e below (T67.setTop (mkF m 168 #[.val (.int p0), .val (.ref b1), .val (.int (8 : Int32)), .unset] [(.int (8 : Int32))])) _
      refine XS.bipush X67.here hx rfl (hb hby at_168) ?_
      show Steps p.tables e below (T67.setTop (mkF m 170 #[.val (.int p0), .val (.ref b1), .val (.int (8 : Int32)), .unset] [(.int (13 : Int32)), (.int (8 : Int32))])) _
      refine XS.icmpYes X67.here hx rfl (pc0 := 170) (pc' := 177) rfl (hb hby at_170) rfl (feq (by decide : ¬ ((8 : Int32) = (13 : Int32)))).2 (by decide) (by decide) ?_
      show Steps p.tables e below (T67.setTop (mkF m 177 #[.val (.int p0), .val (.ref b1), .val (.int (8 : Int32)), .unset] [])) _
      refine XS.iconst X67.here hx rfl (hb hby at_177) ?_
      show Steps p.tables e below (T67.setTop (mkF m 178 #[.val (.int p0), .val (.ref b1), .val (.int (8 : Int32)), .unset] [(.int (0 : Int32))])) _
      refine XS.istoreN X67.here hx rfl (hb hby at_178) rfl (l' := #[.val (.int p0), .val (.ref b1), .val (.int (8 : Int32)), .val (.int (0 : Int32))]) rfl ?_
      show Steps p.tables e below (T67.setTop (mkF m 179 #[.val (.int p0), .val (.ref b1), .val (.int (8 : Int32)), .val (.int (0 : Int32))] [])) _
      refine XS.aloadN X67.here hx rfl (hb hby at_179) rfl rfl ?_
      show Steps p.tables e below (T67.setTop (mkF m 180 #[.val (.int p0), .val (.ref b1), .val (.int (8 : Int32)), .val (.int (0 : Int32))] [(.ref b1)])) _
      refine XS.iloadN X67.here hx rfl (hb hby at_180) rfl ?_
      show Steps p.tables e below (T67.setTop (mkF m 181 #[.val (.int p0), .val (.ref b1), .val (.int (8 : Int32)), .val (.int (0 : Int32))] [(.int (8 : Int32)), (.ref b1)])) _
      refine X67.aaload hx (j := (8 : Int32)) (v := (.ref w_FLOAT)) (by rw [e67]; exact Ar149.1) (State.isArrayOf_alike hZ.alike Ar149.2.1) rfl Ar149.2.2 hin149 hat149 (g := (mkF m 181 #[.val (.int p0), .val (.ref b1), .val (.int (8 : Int32)), .val (.int (0 : Int32))] [(.int (8 : Int32)), (.ref b1)])) rfl rfl (hb hby at_181) _ ?_
      show Steps p.tables e below (T67.setTop (mkF m 182 #[.val (.int p0), .val (.ref b1), .val (.int (8 : Int32)), .val (.int (0 : Int32))] [(.ref w_FLOAT)])) _
      refine st151.trans ?_
      show Steps p.tables e below (T151.setTop (mkF m 185 #[.val (.int p0), .val (.ref b1), .val (.int (8 : Int32)), .val (.int (0 : Int32))] [(.int (0 : Int32))])) _
      refine XS.iloadN X151.here hx rfl (hb hby at_185) rfl ?_
      show Steps p.tables e below (T151.setTop (mkF m 186 #[.val (.int p0), .val (.ref b1), .val (.int (8 : Int32)), .val (.int (0 : Int32))] [(.int (0 : Int32)), (.int (0 : Int32))])) _
      refine XS.icmpNo X151.here hx rfl (hb hby at_186) rfl (teq (by decide : (0 : Int32) = (0 : Int32))).2 ?_
      show Steps p.tables e below (T151.setTop (mkF m 189 #[.val (.int p0), .val (.ref b1), .val (.int (8 : Int32)), .val (.int (0 : Int32))] [])) _
      refine XS.iconst X151.here hx rfl (hb hby at_189) ?_
      show Steps p.tables e below (T151.setTop (mkF m 190 #[.val (.int p0), .val (.ref b1), .val (.int (8 : Int32)), .val (.int (0 : Int32))] [(.int (1 : Int32))])) _
      refine XS.goto X151.here hx rfl (pc0 := 190) (pc' := 194) rfl (hb hby at_190) (by decide) (by decide) ?_
      exact kt
    obtain ⟨fs, hr, hrun, hended, hW, hsame⟩ := X151.leave (v := some (.int (1 : Int32))) (fun h => by rw [Bd.returns] at h; cases h)
    refine ⟨_, _, pre156 _ ?_, hrun, hended, _, _, rfl, ?_, ⟨_, rfl⟩, hW, hsame.mono (by decide) (by decide)⟩
    · show Steps p.tables e below (T151.setTop (mkF m 194 #[.val (.int p0), .val (.ref b1), .val (.int (8 : Int32)), .val (.int (0 : Int32))] [(.int (1 : Int32))])) _
      exact retN X151 hx (t := .boolean) Bd.returns (by simp) (hb hby at_194) hr
    · show Q_rm0 Z p0 w_BLOB w_BOOLEAN w_DOCUMENT w_STRING w_BYTE w_SHORT w_INTEGER w_LONG w_FLOAT w_DOUBLE w_BIG_INTEGER w_BIG_DECIMAL w_TIMESTAMP w_ENUM w_INT_ENUM w_LIST w_MAP w_STRUCTURE w_UNION w_SERVICE w_OPERATION w_RESOURCE h0 n0 _ T151.heap _
      rw [e151]
      exact ⟨rfl, N151⟩
  · rw [hk] at pre68
    have vt159 := V_b1
    obtain ⟨cl159, Ar159, q159, S159, Ng159, Ha159, G159⟩ := vt159
    have hin159 : ¬ ((9 : Int32) < 0 ∨ cl159.slots.size ≤ ((9 : Int32)).toNatClampNeg) := inb_of S159 ⟨by decide, by decide⟩
    have hat159 : cl159.slots[((9 : Int32)).toNatClampNeg]? = some (.ref w_DOUBLE) := Ha159.at hin159 rfl
    obtain ⟨lc160, X160, N160⟩ := own_pack X67 N67
    obtain ⟨cq161, kq161, q161a, q161b, q161c⟩ := isOf hZ e67 (E_DOUBLE.ext O67.2)
    obtain ⟨_, _, ⟨T161, L161, k161, n161⟩, -, X161, ⟨Lc161, hQ161, l161, y161, z161⟩, st161⟩ := X160.virtualBack hx (y := (⟨"com/example/shapewright/shapewright/model/ShapeType", "isString", "()Z"⟩ : MethodName)) (z := (⟨"com/example/shapewright/shapewright/model/ShapeType", "isString", "()Z"⟩ : MethodName)) hown (mvT hZ (hw _ (List.mem_of_getElem? (i := 49) rfl))) (mvT hZ (hw _ (List.mem_of_getElem? (i := 50) rfl))) (notFace_of_selects (args := #[]) (mvT hZ (hw _ (List.mem_of_getElem? (i := 52) rfl)))) (mvT hZ (hw _ (List.mem_of_getElem? (i := 52) rfl))) (mvT hZ (hw _ (List.mem_of_getElem? (i := 51) rfl))) (by decide) (backOf (W := 0) (rm_isString_10 l Z a0 hw [] w_STRING w_DOUBLE w_ENUM h67 n0 O67  S_STRING F_ordinal_DOUBLE F_ordinal_STRING S_ENUM F_ordinal_ENUM) hZ (hw _ (List.mem_of_getElem? (i := 53) rfl)) (hw _ (List.mem_of_getElem? (i := 3) rfl)) (by decide) (by decide)) q161a q161c (g := (mkF m 182 #[.val (.int p0), .val (.ref b1), .val (.int (9 : Int32)), .val (.int (0 : Int32))] [(.ref w_DOUBLE)])) rfl (by rw [hml]; rfl) (Steps.refl _) (argsL := []) (rest := []) (lenOf pd___Z rfl) rfl (by show 2 * 0 + _ ≤ _; exact Nat.le_of_eq rfl) (hb hby at_182) (fun _ _ => ⟨rfl, e67, (by decide : 1 + 0 ≤ _), (by decide : 22 + 0 ≤ _)⟩)
    dsimp only [Pt.U, Pt.locs, Pt.cells, Pt.slots] at X161 l161 y161 z161 st161 hQ161
    subst l161 y161 z161
    obtain ⟨rfl, N161q, e161⟩ := hQ161
    have N161 := Fr.app N160 N161q
    have pre166 : ∀ t, Steps p.tables e below (T161.setTop (mkF m 194 #[.val (.int p0), .val (.ref b1), .val (.int (9 : Int32)), .val (.int (0 : Int32))] [(.int (1 : Int32))])) t → Steps p.tables e below (s₁.setTop (entryFrame m #[(.int p0)] maxLocals)) t := by
      intro t kt
      refine pre68 t ?_
      show Steps p.tables e below (T67.setTop (mkF m 162 #[.val (.int p0), .val (.ref b1), .val (.int (9 : Int32)), .unset] [])) _
      refine XS.iloadN X67.here hx rfl (hb hby at_162) rfl ?_
      show Steps p.tables e below (T67.setTop (mkF m 163 #[.val (.int p0), .val (.ref b1), .val (.int (9 : Int32)), .unset] [(.int (9 : Int32))])) _
      refine XS.iconst X67.here hx rfl (hb hby at_163) ?_
      show Steps p.tables e below (T67.setTop (mkF m 164 #[.val (.int p0), .val (.ref b1), .val (.int (9 : Int32)), .unset] [(.int (3 : Int32)), (.int (9 : Int32))])) _
      refine XS.icmpNo X67.here hx rfl (hb hby at_164) rfl (feq (by decide : ¬ ((9 : Int32) = (3 : Int32)))).1 ?_
      show Steps p.tables e below (T67.setTop (mkF m 167 #[.val (.int p0), .val (.ref b1), .val (.int (9 : Int32)), .unset] [])) _
      refine XS.iloadN X67.here hx rfl (hb hby at_167) rfl ?_
      show Steps p.tables e below (T67.setTop (mkF m 168 #[.val (.int p0), .val (.ref b1), .val (.int (9 : Int32)), .unset] [(.int (9 : Int32))])) _
      refine XS.bipush X67.here hx rfl (hb hby at_168) ?_
      show Steps p.tables e below (T67.setTop (mkF m 170 #[.val (.int p0), .val (.ref b1), .val (.int (9 : Int32)), .unset] [(.int (13 : Int32)), (.int (9 : Int32))])) _
      refine XS.icmpYes X67.here hx rfl (pc0 := 170) (pc' := 177) rfl (hb hby at_170) rfl (feq (by decide : ¬ ((9 : Int32) = (13 : Int32)))).2 (by decide) (by decide) ?_
      show Steps p.tables e below (T67.setTop (mkF m 177 #[.val (.int p0), .val (.ref b1), .val (.int (9 : Int32)), .unset] [])) _
      refine XS.iconst X67.here hx rfl (hb hby at_177) ?_
      show Steps p.tables e below (T67.setTop (mkF m 178 #[.val (.int p0), .val (.ref b1), .val (.int (9 : Int32)), .unset] [(.int (0 : Int32))])) _
      refine XS.istoreN X67.here hx rfl (hb hby at_178) rfl (l' := #[.val (.int p0), .val (.ref b1), .val (.int (9 : Int32)), .val (.int (0 : Int32))]) rfl ?_
      show Steps p.tables e below (T67.setTop (mkF m 179 #[.val (.int p0), .val (.ref b1), .val (.int (9 : Int32)), .val (.int (0 : Int32))] [])) _
      refine XS.aloadN X67.here hx rfl (hb hby at_179) rfl rfl ?_
      show Steps p.tables e below (T67.setTop (mkF m 180 #[.val (.int p0), .val (.ref b1), .val (.int (9 : Int32)), .val (.int (0 : Int32))] [(.ref b1)])) _
      refine XS.iloadN X67.here hx rfl (hb hby at_180) rfl ?_
      show Steps p.tables e below (T67.setTop (mkF m 181 #[.val (.int p0), .val (.ref b1), .val (.int (9 : Int32)), .val (.int (0 : Int32))] [(.int (9 : Int32)), (.ref b1)])) _
      refine X67.aaload hx (j := (9 : Int32)) (v := (.ref w_DOUBLE)) (by rw [e67]; exact Ar159.1) (State.isArrayOf_alike hZ.alike Ar159.2.1) rfl Ar159.2.2 hin159 hat159 (g := (mkF m 181 #[.val (.int p0), .val (.ref b1), .val (.int (9 : Int32)), .val (.int (0 : Int32))] [(.int (9 : Int32)), (.ref b1)])) rfl rfl (hb hby at_181) _ ?_
      show Steps p.tables e below (T67.setTop (mkF m 182 #[.val (.int p0), .val (.ref b1), .val (.int (9 : Int32)), .val (.int (0 : Int32))] [(.ref w_DOUBLE)])) _
      refine st161.trans ?_
      show Steps p.tables e below (T161.setTop (mkF m 185 #[.val (.int p0), .val (.ref b1), .val (.int (9 : Int32)), .val (.int (0 : Int32))] [(.int (0 : Int32))])) _
      refine XS.iloadN X161.here hx rfl (hb hby at_185) rfl ?_
      show Steps p.tables e below (T161.setTop (mkF m 186 #[.val (.int p0), .val (.ref b1), .val (.int (9 : Int32)), .val (.int (0 : Int32))] [(.int (0 : Int32)), (.int (0 : Int32))])) _
      refine XS.icmpNo X161.here hx rfl (hb hby at_186) rfl (teq (by decide : (0 : Int32) = (0 : Int32))).2 ?_
      show Steps p.tables e below (T161.setTop (mkF m 189 #[.val (.int p0), .val (.ref b1), .val (.int (9 : Int32)), .val (.int (0 : Int32))] [])) _
      refine XS.iconst X161.here hx rfl (hb hby at_189) ?_
      show Steps p.tables e below (T161.setTop (mkF m 190 #[.val (.int p0), .val (.ref b1), .val (.int (9 : Int32)), .val (.int (0 : Int32))] [(.int (1 : Int32))])) _
      refine XS.goto X161.here hx rfl (pc0 := 190) (pc' := 194) rfl (hb hby at_190) (by decide) (by decide) ?_
      exact kt
    obtain ⟨fs, hr, hrun, hended, hW, hsame⟩ := X161.leave (v := some (.int (1 : Int32))) (fun h => by rw [Bd.returns] at h; cases h)
    refine ⟨_, _, pre166 _ ?_, hrun, hended, _, _, rfl, ?_, ⟨_, rfl⟩, hW, hsame.mono (by decide) (by decide)⟩
    · show Steps p.tables e below (T161.setTop (mkF m 194 #[.val (.int p0), .val (.ref b1), .val (.int (9 : Int32)), .val (.int (0 : Int32))] [(.int (1 : Int32))])) _
      exact retN X161 hx (t := .boolean) Bd.returns (by simp) (hb hby at_194) hr
    · show Q_rm0 Z p0 w_BLOB w_BOOLEAN w_DOCUMENT w_STRING w_BYTE w_SHORT w_INTEGER w_LONG w_FLOAT w_DOUBLE w_BIG_INTEGER w_BIG_DECIMAL w_TIMESTAMP w_ENUM w_INT_ENUM w_LIST w_MAP w_STRUCTURE w_UNION w_SERVICE w_OPERATION w_RESOURCE h0 n0 _ T161.heap _
      rw [e161]
      exact ⟨rfl, N161⟩
  · rw [hk] at pre68
    have vt169 := V_b1
    obtain ⟨cl169, Ar169, q169, S169, Ng169, Ha169, G169⟩ := vt169
    have hin169 : ¬ ((10 : Int32) < 0 ∨ cl169.slots.size ≤ ((10 : Int32)).toNatClampNeg) := inb_of S169 ⟨by decide, by decide⟩
    have hat169 : cl169.slots[((10 : Int32)).toNatClampNeg]? = some (.ref w_BIG_INTEGER) := Ha169.at hin169 rfl
    obtain ⟨lc170, X170, N170⟩ := own_pack X67 N67
    obtain ⟨cq171, kq171, q171a, q171b, q171c⟩ := isOf hZ e67 (E_BIG_INTEGER.ext O67.2)
    obtain ⟨_, _, ⟨T171, L171, k171, n171⟩, -, X171, ⟨Lc171, hQ171, l171, y171, z171⟩, st171⟩ := X170.virtualBack hx (y := (⟨"com/example/shapewright/shapewright/model/ShapeType", "isString", "()Z"⟩ : MethodName)) (z := (⟨"com/example/shapewright/shapewright/model/ShapeType", "isString", "()Z"⟩ : MethodName)) hown (mvT hZ (hw _ (List.mem_of_getElem? (i := 49) rfl))) (mvT hZ (hw _ (List.mem_of_getElem? (i := 50) rfl))) (notFace_of_selects (args := #[]) (mvT hZ (hw _ (List.mem_of_getElem? (i := 52) rfl)))) (mvT hZ (hw _ (List.mem_of_getElem? (i := 52) rfl))) (mvT hZ (hw _ (List.mem_of_getElem? (i := 51) rfl))) (by decide) (backOf (W := 0) (rm_isString_11 l Z a0 hw [] w_STRING w_BIG_INTEGER w_ENUM h67 n0 O67  S_STRING F_ordinal_BIG_INTEGER F_ordinal_STRING S_ENUM F_ordinal_ENUM) hZ (hw _ (List.mem_of_getElem? (i := 53) rfl)) (hw _ (List.mem_of_getElem? (i := 3) rfl)) (by decide) (by decide)) q171a q171c (g := (mkF m 182 #[.val (.int p0), .val (.ref b1), .val (.int (10 : Int32)), .val (.int (0 : Int32))] [(.ref w_BIG_INTEGER)])) rfl (by rw [hml]; rfl) (Steps.refl _) (argsL := []) (rest := []) (lenOf pd___Z rfl) rfl (by show 2 * 0 + _ ≤ _; exact Nat.le_of_eq rfl) (hb hby at_182) (fun _ _ => ⟨rfl, e67, (by decide : 1 + 0 ≤ _), (by decide : 22 + 0 ≤ _)⟩)
    dsimp only [Pt.U, Pt.locs, Pt.cells, Pt.slots] at X171 l171 y171 z171 st171 hQ171
    subst l171 y171 z171
    obtain ⟨rfl, N171q, e171⟩ := hQ171
    have N171 := Fr.app N170 N171q
    have pre176 : ∀ t, Steps p.tables e below (T171.setTop (mkF m 194 #[.val (.int p0), .val (.ref b1), .val (.int (10 : Int32)), .val (.int (0 : Int32))] [(.int (1 : Int32))])) t → Steps p.tables e below (s₁.setTop (entryFrame m #[(.int p0)] maxLocals)) t := by
      intro t kt
      refine pre68 t ?_
      show Steps p.tables e below (T67.setTop (mkF m 162 #[.val (.int p0), .val (.ref b1), .val (.int (10 : Int32)), .unset] [])) _
      refine XS.iloadN X67.here hx rfl (hb hby at_162) rfl ?_
      show Steps p.tables e below (T67.setTop (mkF m 163 #[.val (.int p0), .val (.ref b1), .val (.int (10 : Int32)), .unset] [(.int (10 : Int32))])) _
      refine XS.iconst X67.here hx rfl (hb hby at_163) ?_
      show Steps p.tables e below (T67.setTop (mkF m 164 #[.val (.int p0), .val (.ref b1), .val (.int (10 : Int32)), .unset] [(.int (3 : Int32)), (.int (10 : Int32))])) _
      refine XS.icmpNo X67.here hx rfl (hb hby at_164) rfl (feq (by decide : ¬ ((10 : Int32) = (3 : Int32)))).1 ?_
      show Steps p.tables e below (T67.setTop (mkF m 167 #[.val (.int p0), .val (.ref b1), .val (.int (10 : Int32)), .unset] [])) _
      refine XS.iloadN X67.here hx rfl (hb hby at_167) rfl ?_
      show Steps p.tables e below (T67.setTop (mkF m 168 #[.val (.int p0), .val (.ref b1), .val (.int (10 : Int32)), .unset] [(.int (10 : Int32))])) _
      refine XS.bipush X67.here hx rfl (hb hby at_168) ?_
      show Steps p.tables e below (T67.setTop (mkF m 170 #[.val (.int p0), .val (.ref b1), .val (.int (10 : Int32)), .unset] [(.int (13 : Int32)), (.int (10 : Int32))])) _
      refine XS.icmpYes X67.here hx rfl (pc0 := 170) (pc' := 177) rfl (hb hby at_170) rfl (feq (by decide : ¬ ((10 : Int32) = (13 : Int32)))).2 (by decide) (by decide) ?_
      show Steps p.tables e below (T67.setTop (mkF m 177 #[.val (.int p0), .val (.ref b1), .val (.int (10 : Int32)), .unset] [])) _
      refine XS.iconst X67.here hx rfl (hb hby at_177) ?_
      show Steps p.tables e below (T67.setTop (mkF m 178 #[.val (.int p0), .val (.ref b1), .val (.int (10 : Int32)), .unset] [(.int (0 : Int32))])) _
      refine XS.istoreN X67.here hx rfl (hb hby at_178) rfl (l' := #[.val (.int p0), .val (.ref b1), .val (.int (10 : Int32)), .val (.int (0 : Int32))]) rfl ?_
      show Steps p.tables e below (T67.setTop (mkF m 179 #[.val (.int p0), .val (.ref b1), .val (.int (10 : Int32)), .val (.int (0 : Int32))] [])) _
      refine XS.aloadN X67.here hx rfl (hb hby at_179) rfl rfl ?_
      show Steps p.tables e below (T67.setTop (mkF m 180 #[.val (.int p0), .val (.ref b1), .val (.int (10 : Int32)), .val (.int (0 : Int32))] [(.ref b1)])) _
      refine XS.iloadN X67.here hx rfl (hb hby at_180) rfl ?_
      show Steps p.tables e below (T67.setTop (mkF m 181 #[.val (.int p0), .val (.ref b1), .val (.int (10 : Int32)), .val (.int (0 : Int32))] [(.int (10 : Int32)), (.ref b1)])) _
      refine X67.aaload hx (j := (10 : Int32)) (v := (.ref w_BIG_INTEGER)) (by rw [e67]; exact Ar169.1) (State.isArrayOf_alike hZ.alike Ar169.2.1) rfl Ar169.2.2 hin169 hat169 (g := (mkF m 181 #[.val (.int p0), .val (.ref b1), .val (.int (10 : Int32)), .val (.int (0 : Int32))] [(.int (10 : Int32)), (.ref b1)])) rfl rfl (hb hby at_181) _ ?_
      show Steps p.tables e below (T67.setTop (mkF m 182 #[.val (.int p0), .val (.ref b1), .val (.int (10 : Int32)), .val (.int (0 : Int32))] [(.ref w_BIG_INTEGER)])) _
      refine st171.trans ?_
      show Steps p.tables e below (T171.setTop (mkF m 185 #[.val (.int p0), .val (.ref b1), .val (.int (10 : Int32)), .val (.int (0 : Int32))] [(.int (0 : Int32))])) _
      refine XS.iloadN X171.here hx rfl (hb hby at_185) rfl ?_
      show Steps p.tables e below (T171.setTop (mkF m 186 #[.val (.int p0), .val (.ref b1), .val (.int (10 : Int32)), .val (.int (0 : Int32))] [(.int (0 : Int32)), (.int (0 : Int32))])) _
      refine XS.icmpNo X171.here hx rfl (hb hby at_186) rfl (teq (by decide : (0 : Int32) = (0 : Int32))).2 ?_
      show Steps p.tables e below (T171.setTop (mkF m 189 #[.val (.int p0), .val (.ref b1), .val (.int (10 : Int32)), .val (.int (0 : Int32))] [])) _
      refine XS.iconst X171.here hx rfl (hb hby at_189) ?_
      show Steps p.tables e below (T171.setTop (mkF m 190 #[.val (.int p0), .val (.ref b1), .val (.int (10 : Int32)), .val (.int (0 : Int32))] [(.int (1 : Int32))])) _
      refine XS.goto X171.here hx rfl (pc0 := 190) (pc' := 194) rfl (hb hby at_190) (by decide) (by decide) ?_
      exact kt
    obtain ⟨fs, hr, hrun, hended, hW, hsame⟩ := X171.leave (v := some (.int (1 : Int32))) (fun h => by rw [Bd.returns] at h; cases h)
    refine ⟨_, _, pre176 _ ?_, hrun, hended, _, _, rfl, ?_, ⟨_, rfl⟩, hW, hsame.mono (by decide) (by decide)⟩
    · show Steps p.tables e below (T171.setTop (mkF m 194 #[.val (.int p0), .val (.ref b1), .val (.int (10 : Int32)), .val (.int (0 : Int32))] [(.int (1 : Int32))])) _
      exact retN X171 hx (t := .boolean) Bd.returns (by simp) (hb hby at_194) hr
    · show Q_rm0 Z p0 w_BLOB w_BOOLEAN w_DOCUMENT w_STRING w_BYTE w_SHORT w_INTEGER w_LONG w_FLOAT w_DOUBLE w_BIG_INTEGER w_BIG_DECIMAL w_TIMESTAMP w_ENUM w_INT_ENUM w_LIST w_MAP w_STRUCTURE w_UNION w_SERVICE w_OPERATION w_RESOURCE h0 n0 _ T171.heap _
      rw [e171]
      exact ⟨rfl, N171⟩
  · rw [hk] at pre68
    have vt179 := V_b1
    obtain ⟨cl179, Ar179, q179, S179, Ng179, Ha179, G179⟩ := vt179
    have hin179 : ¬ ((11 : Int32) < 0 ∨ cl179.slots.size ≤ ((11 : Int32)).toNatClampNeg) := inb_of S179 ⟨by decide, by decide⟩
    have hat179 : cl179.slots[((11 : Int32)).toNatClampNeg]? = some (.ref w_BIG_DECIMAL) := Ha179.at hin179 rfl
    obtain ⟨lc180, X180, N180⟩ := own_pack X67 N67
    obtain ⟨cq181, kq181, q181a, q181b, q181c⟩ := isOf hZ e67 (E_BIG_DECIMAL.ext O67.2)
    obtain ⟨_, _, ⟨T181, L181, k181, n181⟩, -, X181, ⟨Lc181, hQ181, l181, y181, z181⟩, st181⟩ := X180.virtualBack hx (y := (⟨"com/example/shapewright/shapewright/model/ShapeType", "isString", "()Z"⟩ : MethodName)) (z := (⟨"com/example/shapewright/shapewright/model/ShapeType", "isString", "()Z"⟩ : MethodName)) hown (mvT hZ (hw _ (List.mem_of_getElem? (i := 49) rfl))) (mvT hZ (hw _ (List.mem_of_getElem? (i := 50) rfl))) (notFace_of_selects (args := #[]) (mvT hZ (hw _ (List.mem_of_getElem? (i := 52) rfl)))) (mvT hZ (hw _ (List.mem_of_getElem? (i := 52) rfl))) (mvT hZ (hw _ (List.mem_of_getElem? (i := 51) rfl))) (by decide) (backOf (W := 0) (rm_isString_12 l Z a0 hw [] w_STRING w_BIG_DECIMAL w_ENUM h67 n0 O67  S_STRING F_ordinal_BIG_DECIMAL F_ordinal_STRING S_ENUM F_ordinal_ENUM) hZ (hw _ (List.mem_of_getElem? (i := 53) rfl)) (hw _ (List.mem_of_getElem? (i := 3) rfl)) (by decide) (by decide)) q181a q181c (g := (mkF m 182 #[.val (.int p0), .val (.ref b1), .val (.int (11 : Int32)), .val (.int (0 : Int32))] [(.ref w_BIG_DECIMAL)])) rfl (by rw [hml]; rfl) (Steps.refl _) (argsL := []) (rest := []) (lenOf pd___Z rfl) rfl (by show 2 * 0 + _ ≤ _; exact Nat.le_of_eq rfl) (hb hby at_182) (fun _ _ => ⟨rfl, e67, (by decide : 1 + 0 ≤ _), (by decide : 22 + 0 ≤ _)⟩)
    dsimp only [Pt.U, Pt.locs, Pt.cells, Pt.slots] at X181 l181 y181 z181 st181 hQ181
    subst l181 y181 z181
    obtain ⟨rfl, N181q, e181⟩ := hQ181
    have N181 := Fr.app N180 N181q
    have pre186 : ∀ t, Steps p.tables e below (T181.setTop (mkF m 194 #[.val (.int p0), .val (.ref b1), .val (.int (11 : Int32)), .val (.int (0 : Int32))] [(.int (1 : Int32))])) t → Steps p.tables e below (s₁.setTop (entryFrame m #[(.int p0)] maxLocals)) t := by
      intro t kt
      refine pre68 t ?_
      show Steps p.tables e below (T67.setTop (mkF m 162 #[.val (.int p0), .val (.ref b1), .val (.int (11 : Int32)), .unset] [])) _
      refine XS.iloadN X67.here hx rfl (hb hby at_162) rfl ?_
      show Steps p.tables e below (T67.setTop (mkF m 163 #[.val (.int p0), .val (.ref b1), .val (.int (11 : Int32)), .unset] [(.int (11 : Int32))])) _
      refine XS.iconst X67.here hx rfl (hb hby at_163) ?_
      show Steps p.tables e below (T67.setTop (mkF m 164 #[.val (.int p0), .val (.ref b1), .val (.int (11 : Int32)), .unset] [(.int (3 : Int32)), (.int (11 : Int32))])) _
      refine XS.icmpNo X67.here hx rfl (hb hby at_164) rfl (feq (by decide : ¬ ((11 : Int32) = (3 : Int32)))).1 ?_
      show Steps p.tables e below (T67.setTop (mkF m 167 #[.val (.int p0), .val (.ref b1), .val (.int (11 : Int32)), .unset] [])) _
      refine XS.iloadN X67.here hx rfl (hb hby at_167) rfl ?_
      show Steps p.tables e below (T67.setTop (mkF m 168 #[.val (.int p0), .val (.ref b1), .val (.int (11 : Int32)), .unset] [(.int (11 : Int32))])) _
      refine XS.bipush X67.here hx rfl (hb hby at_168) ?_
      show Steps p.tables e below (T67.setTop (mkF m 170 #[.val (.int p0), .val (.ref b1), .val (.int (11 : Int32)), .unset] [(.int (13 : Int32)), (.int (11 : Int32))])) _
      refine XS.icmpYes X67.here hx rfl (pc0 := 170) (pc' := 177) rfl (hb hby at_170) rfl (feq (by decide : ¬ ((11 : Int32) = (13 : Int32)))).2 (by decide) (by decide) ?_
      show Steps p.tables e below (T67.setTop (mkF m 177 #[.val (.int p0), .val (.ref b1), .val (.int (11 : Int32)), .unset] [])) _
      refine XS.iconst X67.here hx rfl (hb hby at_177) ?_
      show Steps p.tables e below (T67.setTop (mkF m 178 #[.val (.int p0), .val (.ref b1), .val (.int (11 : Int32)), .unset] [(.int (0 : Int32))])) _
      refine XS.istoreN X67.here hx rfl (hb hby at_178) rfl (l' := #[.val (.int p0), .val (.ref b1), .val (.int (11 : Int32)), .val (.int (0 : Int32))]) rfl ?_
      show Steps p.tables e below (T67.setTop (mkF m 179 #[.val (.int p0), .val (.ref b1), .val (.int (11 : Int32)), .val (.int (0 : Int32))] [])) _
      refine XS.aloadN X67.here hx rfl (hb hby at_179) rfl rfl ?_
      show Steps p.tables e below (T67.setTop (mkF m 180 #[.val (.int p0), .val (.ref b1), .val (.int (11 : Int32)), .val (.int (0 : Int32))] [(.ref b1)])) _
      refine XS.iloadN X67.here hx rfl (hb hby at_180) rfl ?_
      show Steps p.tables e below (T67.setTop (mkF m 181 #[.val (.int p0), .val (.ref b1), .val (.int (11 : Int32)), .val (.int (0 : Int32))] [(.int (11 : Int32)), (.ref b1)])) _
      refine X67.aaload hx (j := (11 : Int32)) (v := (.ref w_BIG_DECIMAL)) (by rw [e67]; exact Ar179.1) (State.isArrayOf_alike hZ.alike Ar179.2.1) rfl Ar179.2.2 hin179 hat179 (g := (mkF m 181 #[.val (.int p0), .val (.ref b1), .val (.int (11 : Int32)), .val (.int (0 : Int32))] [(.int (11 : Int32)), (.ref b1)])) rfl rfl (hb hby at_181) _ ?_
      show Steps p.tables e below (T67.setTop (mkF m 182 #[.val (.int p0), .val (.ref b1), .val (.int (11 : Int32)), .val (.int (0 : Int32))] [(.ref w_BIG_DECIMAL)])) _
      refine st181.trans ?_
      show Steps p.tables e below (T181.setTop (mkF m 185 #[.val (.int p0), .val (.ref b1), .val (.int (11 : Int32)), .val (.int (0 : Int32))] [(.int (0 : Int32))])) _
      refine XS.iloadN X181.here hx rfl (hb hby at_185) rfl ?_
      show Steps p.tables e below (T181.setTop (mkF m 186 #[.val (.int p0), .val (.ref b1), .val (.int (11 : Int32)), .val (.int (0 : Int32))] [(.int (0 : Int32)), (.int (0 : Int32))])) _
      refine XS.icmpNo X181.here hx rfl (hb hby at_186) rfl (teq (by decide : (0 : Int32) = (0 : Int32))).2 ?_
      show Steps p.tables e below (T181.setTop (mkF m 189 #[.val (.int p0), .val (.ref b1), .val (.int (11 : Int32)), .val (.int (0 : Int32))] [])) _
      refine XS.iconst X181.here hx rfl (hb hby at_189) ?_
      show Steps p.tables e below (T181.setTop (mkF m 190 #[.val (.int p0), .val (.ref b1), .val (.int (11 : Int32)), .val (.int (0 : Int32))] [(.int (1 : Int32))])) _
      refine XS.goto X181.here hx rfl (pc0 := 190) (pc' := 194) rfl (hb hby at_190) (by decide) (by decide) ?_
      exact kt
    obtain ⟨fs, hr, hrun, hended, hW, hsame⟩ := X181.leave (v := some (.int (1 : Int32))) (fun h => by rw [Bd.returns] at h; cases h)
    refine ⟨_, _, pre186 _ ?_, hrun, hended, _, _, rfl, ?_, ⟨_, rfl⟩, hW, hsame.mono (by decide) (by decide)⟩
    · show Steps p.tables e below (T181.setTop (mkF m 194 #[.val (.int p0), .val (.ref b1), .val (.int (11 : Int32)), .val (.int (0 : Int32))] [(.int (1 : Int32))])) _
      exact retN X181 hx (t := .boolean) Bd.returns (by simp) (hb hby at_194) hr
    · show Q_rm0 Z p0 w_BLOB w_BOOLEAN w_DOCUMENT w_STRING w_BYTE w_SHORT w_INTEGER w_LONG w_FLOAT w_DOUBLE w_BIG_INTEGER w_BIG_DECIMAL w_TIMESTAMP w_ENUM w_INT_ENUM w_LIST w_MAP w_STRUCTURE w_UNION w_SERVICE w_OPERATION w_RESOURCE h0 n0 _ T181.heap _
      rw [e181]
      exact ⟨rfl, N181⟩
  · rw [hk] at pre68
    have vt189 := V_b1
    obtain ⟨cl189, Ar189, q189, S189, Ng189, Ha189, G189⟩ := vt189
    have hin189 : ¬ ((12 : Int32) < 0 ∨ cl189.slots.size ≤ ((12 : Int32)).toNatClampNeg) := inb_of S189 ⟨by decide, by decide⟩
    have hat189 : cl189.slots[((12 : Int32)).toNatClampNeg]? = some (.ref w_TIMESTAMP) := Ha189.at hin189 rfl
    obtain ⟨lc190, X190, N190⟩ := own_pack X67 N67
    obtain ⟨cq191, kq191, q191a, q191b, q191c⟩ := isOf hZ e67 (E_TIMESTAMP.ext O67.2)
    obtain ⟨_, _, ⟨T191, L191, k191, n191⟩, -, X191, ⟨Lc191, hQ191, l191, y191, z191⟩, st191⟩ := X190.virtualBack hx (y := (⟨"com/example/shapewright/shapewright/model/ShapeType", "isString", "()Z"⟩ : MethodName)) (z := (⟨"com/example/shapewright/shapewright/model/ShapeType", "isString", "()Z"⟩ : MethodName)) hown (mvT hZ (hw _ (List.mem_of_getElem? (i := 49) rfl))) (mvT hZ (hw _ (List.mem_of_getElem? (i := 50) rfl))) (notFace_of_selects (args := #[]) (mvT hZ (hw _ (List.mem_of_getElem? (i := 52) rfl)))) (mvT hZ (hw _ (List.mem_of_getElem? (i := 52) rfl))) (mvT hZ (hw _ (List.mem_of_getElem? (i := 51) rfl))) (by decide) (backOf (W := 0) (rm_isString_13 l Z a0 hw [] w_STRING w_TIMESTAMP w_ENUM h67 n0 O67  S_STRING F_ordinal_TIMESTAMP F_ordinal_STRING S_ENUM F_ordinal_ENUM) hZ (hw _ (List.mem_of_getElem? (i := 53) rfl)) (hw _ (List.mem_of_getElem? (i := 3) rfl)) (by decide) (by decide)) q191a q191c (g := (mkF m 182 #[.val (.int p0), .val (.ref b1), .val (.int (12 : Int32)), .val (.int (0 : Int32))] [(.ref w_TIMESTAMP)])) rfl (by rw [hml]; rfl) (Steps.refl _) (argsL := []) (rest := []) (lenOf pd___Z rfl) rfl (by show 2 * 0 + _ ≤ _; exact Nat.le_of_eq rfl) (hb hby at_182) (fun _ _ => ⟨rfl, e67, (by decide : 1 + 0 ≤ _), (by decide : 22 + 0 ≤ _)⟩)
    dsimp only [Pt.U, Pt.locs, Pt.cells, Pt.slots] at X191 l191 y191 z191 st191 hQ191
    subst l191 y191 z191
    obtain ⟨rfl, N191q, e191⟩ := hQ191
    have N191 := Fr.app N190 N191q
    have pre196 : ∀ t, Steps p.tables e below (T191.setTop (mkF m 194 #[.val (.int p0), .val (.ref b1), .val (.int (12 : Int32)), .val (.int (0 : Int32))] [(.int (1 : Int32))])) t → Steps p.tables e below (s₁.setTop (entryFrame m #[(.int p0)] maxLocals)) t := by
      intro t kt
      refine pre68 t ?_
      show Steps p.tables e below (T67.setTop (mkF m 162 #[.val (.int p0), .val (.ref b1), .val (.int (12 : Int32)), .unset] [])) _
      refine XS.iloadN X67.here hx rfl (hb hby at_162) rfl ?_
      show Steps p.tables e below (T67.setTop (mkF m 163 #[.val (.int p0), .val (.ref b1), .val (.int (12 : Int32)), .unset] [(.int (12 : Int32))])) _
      refine XS.iconst X67.here hx rfl (hb hby at_163) ?_
      show Steps p.tables e below (T67.setTop (mkF m 164 #[.val (.int p0), .val (.ref b1), .val (.int (12 : Int32)), .unset] [(.int (3 : Int32)), (.int (12 : Int32))])) _
      refine XS.icmpNo X67.here hx rfl (hb hby at_164) rfl (feq (by decide : ¬ ((12 : Int32) = (3 : Int32)))).1 ?_
      show Steps p.tables e below (T67.setTop (mkF m 167 #[.val (.int p0), .val (.ref b1), .val (.int (12 : Int32)), .unset] [])) _
      refine XS.iloadN X67.here hx rfl (hb hby at_167) rfl ?_
      show Steps p.tables e below (T67.setTop (mkF m 168 #[.val (.int p0), .val (.ref b1), .val (.int (12 : Int32)), .unset] [(.int (12 : Int32))])) _
      refine XS.bipush X67.here hx rfl (hb hby at_168) ?_
      show Steps p.tables e below (T67.setTop (mkF m 170 #[.val (.int p0), .val (.ref b1), .val (.int (12 : Int32)), .unset] [(.int (13 : Int32)), (.int (12 : Int32))])) _
      refine XS.icmpYes X67.here hx rfl (pc0 := 170) (pc' := 177) rfl (hb hby at_170) rfl (feq (by decide : ¬ ((12 : Int32) = (13 : Int32)))).2 (by decide) (by decide) ?_
      show Steps p.tables e below (T67.setTop (mkF m 177 #[.val (.int p0), .val (.ref b1), .val (.int (12 : Int32)), .unset] [])) _
      refine XS.iconst X67.here hx rfl (hb hby at_177) ?_
      show Steps p.tables e below (T67.setTop (mkF m 178 #[.val (.int p0), .val (.ref b1), .val (.int (12 : Int32)), .unset] [(.int (0 : Int32))])) _
      refine XS.istoreN X67.here hx rfl (hb hby at_178) rfl (l' := #[.val (.int p0), .val (.ref b1), .val (.int (12 : Int32)), .val (.int (0 : Int32))]) rfl ?_
      show Steps p.tables e below (T67.setTop (mkF m 179 #[.val (.int p0), .val (.ref b1), .val (.int (12 : Int32)), .val (.int (0 : Int32))] [])) _
      refine XS.aloadN X67.here hx rfl (hb hby at_179) rfl rfl ?_
      show Steps p.tables e below (T67.setTop (mkF m 180 #[.val (.int p0), .val (.ref b1), .val (.int (12 : Int32)), .val (.int (0 : Int32))] [(.ref b1)])) _
      refine XS.iloadN X67.here hx rfl (hb hby at_180) rfl ?_
      show Steps p.tables e below (T67.setTop (mkF m 181 #[.val (.int p0), .val (.ref b1), .val (.int (12 : Int32)), .val (.int (0 : Int32))] [(.int (12 : Int32)), (.ref b1)])) _
      refine X67.aaload hx (j := (12 : Int32)) (v := (.ref w_TIMESTAMP)) (by rw [e67]; exact Ar189.1) (State.isArrayOf_alike hZ.alike Ar189.2.1) rfl Ar189.2.2 hin189 hat189 (g := (mkF m 181 #[.val (.int p0), .val (.ref b1), .val (.int (12 : Int32)), .val (.int (0 : Int32))] [(.int (12 : Int32)), (.ref b1)])) rfl rfl (hb hby at_181) _ ?_
      show Steps p.tables e below (T67.setTop (mkF m 182 #[.val (.int p0), .val (.ref b1), .val (.int (12 : Int32)), .val (.int (0 : Int32))] [(.ref w_TIMESTAMP)])) _
      refine st191.trans ?_
      show Steps p.tables e below (T191.setTop (mkF m 185 #[.val (.int p0), .val (.ref b1), .val (.int (12 : Int32)), .val (.int (0 : Int32))] [(.int (0 : Int32))])) _
      refine XS.iloadN X191.here hx rfl (hb hby at_185) rfl ?_
      show Steps p.tables e below (T191.setTop (mkF m 186 #[.val (.int p0), .val (.ref b1), .val (.int (12 : Int32)), .val (.int (0 : Int32))] [(.int (0 : Int32)), (.int (0 : Int32))])) _
      refine XS.icmpNo X191.here hx rfl (hb hby at_186) rfl (teq (by decide : (0 : Int32) = (0 : Int32))).2 ?_
      show Steps p.tables e below (T191.setTop (mkF m 189 #[.val (.int p0), .val (.ref b1), .val (.int (12 : Int32)), .val (.int (0 : Int32))] [])) _
      refine XS.iconst X191.here hx rfl (hb hby at_189) ?_
      show Steps p.tables e below (T191.setTop (mkF m 190 #[.val (.int p0), .val (.ref b1), .val (.int (12 : Int32)), .val (.int (0 : Int32))] [(.int (1 : Int32))])) _
      refine XS.goto X191.here hx rfl (pc0 := 190) (pc' := 194) rfl (hb hby at_190) (by decide) (by decide) ?_
      exact kt
    obtain ⟨fs, hr, hrun, hended, hW, hsame⟩ := X191.leave (v := some (.int (1 : Int32))) (fun h => by rw [Bd.returns] at h; cases h)
    refine ⟨_, _, pre196 _ ?_, hrun, hended, _, _, rfl, ?_, ⟨_, rfl⟩, hW, hsame.mono (by decide) (by decide)⟩
    · show Steps p.tables e below (T191.setTop (mkF m 194 #[.val (.int p0), .val (.ref b1), .val (.int (12 : Int32)), .val (.int (0 : Int32))] [(.int (1 : Int32))])) _
      exact retN X191 hx (t := .boolean) Bd.returns (by simp) (hb hby at_194) hr
    · show Q_rm0 Z p0 w_BLOB w_BOOLEAN w_DOCUMENT w_STRING w_BYTE w_SHORT w_INTEGER w_LONG w_FLOAT w_DOUBLE w_BIG_INTEGER w_BIG_DECIMAL w_TIMESTAMP w_ENUM w_INT_ENUM w_LIST w_MAP w_STRUCTURE w_UNION w_SERVICE w_OPERATION w_RESOURCE h0 n0 _ T191.heap _
      rw [e191]
      exact ⟨rfl, N191⟩
  · rw [hk] at pre68
    have vt199 := V_b1
    obtain ⟨cl199, Ar199, q199, S199, Ng199, Ha199, G199⟩ := vt199
    have hin199 : ¬ ((13 : Int32) < 0 ∨ cl199.slots.size ≤ ((13 : Int32)).toNatClampNeg) := inb_of S199 ⟨by decide, by decide⟩
    have hat199 : cl199.slots[((13 : Int32)).toNatClampNeg]? = some (.ref w_ENUM) := Ha199.at hin199 rfl
    obtain ⟨lc200, X200, N200⟩ := own_pack X67 N67
    obtain ⟨cq201, kq201, q201a, q201b, q201c⟩ := isOf hZ e67 (E_ENUM.ext O67.2)
    obtain ⟨_, _, ⟨T201, L201, k201, n201⟩, -, X201, ⟨Lc201, hQ201, l201, y201, z201⟩, st201⟩ := X200.virtualBack hx (y := (⟨"com/example/shapewright/shapewright/model/ShapeType", "isString", "()Z"⟩ : MethodName)) (z := (⟨"com/example/shapewright/shapewright/model/ShapeType", "isString", "()Z"⟩ : MethodName)) hown (mvT hZ (hw _ (List.mem_of_getElem? (i := 49) rfl))) (mvT hZ (hw _ (List.mem_of_getElem? (i := 50) rfl))) (notFace_of_selects (args := #[]) (mvT hZ (hw _ (List.mem_of_getElem? (i := 52) rfl)))) (mvT hZ (hw _ (List.mem_of_getElem? (i := 52) rfl))) (mvT hZ (hw _ (List.mem_of_getElem? (i := 51) rfl))) (by decide) (backOf (W := 0) (rm_isString_14 l Z a0 hw [] w_STRING w_ENUM h67 n0 O67  S_STRING F_ordinal_ENUM F_ordinal_STRING S_ENUM) hZ (hw _ (List.mem_of_getElem? (i := 53) rfl)) (hw _ (List.mem_of_getElem? (i := 3) rfl)) (by decide) (by decide)) q201a q201c (g := (mkF m 182 #[.val (.int p0), .val (.ref b1), .val (.int (13 : Int32)), .val (.int (1 : Int32))] [(.ref w_ENUM)])) rfl (by rw [hml]; rfl) (Steps.refl _) (argsL := []) (rest := []) (lenOf pd___Z rfl) rfl (by show 2 * 0 + _ ≤ _; exact Nat.le_of_eq rfl) (hb hby at_182) (fun _ _ => ⟨rfl, e67, (by decide : 1 + 0 ≤ _), (by decide : 22 + 0 ≤ _)⟩)
    dsimp only [Pt.U, Pt.locs, Pt.cells, Pt.slots] at X201 l201 y201 z201 st201 hQ201
    subst l201 y201 z201
    obtain ⟨rfl, N201q, e201⟩ := hQ201
    have N201 := Fr.app N200 N201q
    have pre206 : ∀ t, Steps p.tables e below (T201.setTop (mkF m 194 #[.val (.int p0), .val (.ref b1), .val (.int (13 : Int32)), .val (.int (1 : Int32))] [(.int (1 : Int32))])) t → Steps p.tables e below (s₁.setTop (entryFrame m #[(.int p0)] maxLocals)) t := by
      intro t kt
      refine pre68 t ?_
      show Steps p.tables e below (T67.setTop (mkF m 162 #[.val (.int p0), .val (.ref b1), .val (.int (13 : Int32)), .unset] [])) _
      refine XS.iloadN X67.here hx rfl (hb hby at_162) rfl ?_
      show Steps p.tables e below (T67.setTop (mkF m 163 #[.val (.int p0), .val (.ref b1), .val (.int (13 : Int32)), .unset] [(.int (13 : Int32))])) _
      refine XS.iconst X67.here hx rfl (hb hby at_163) ?_
      show Steps p.tables e below (T67.setTop (mkF m 164 #[.val (.int p0), .val (.ref b1), .val (.int (13 : Int32)), .unset] [(.int (3 : Int32)), (.int (13 : Int32))])) _
      refine XS.icmpNo X67.here hx rfl (hb hby at_164) rfl (feq (by decide : ¬ ((13 : Int32) = (3 : Int32)))).1 ?_
      show Steps p.tables e below (T67.setTop (mkF m 167 #[.val (.int p0), .val (.ref b1), .val (.int (13 : Int32)), .unset] [])) _
      refine XS.iloadN X67.here hx rfl (hb hby at_167) rfl ?_
      show Steps p.tables e below (T67.setTop (mkF m 168 #[.val (.int p0), .val (.ref b1), .val (.int (13 : Int32)), .unset] [(.int (13 : Int32))])) _
      refine XS.bipush X67.here hx rfl (hb hby at_168) ?_
      show Steps p.tables e below (T67.setTop (mkF m 170 #[.val (.int p0), .val (.ref b1), .val (.int (13 : Int32)), .unset] [(.int (13 : Int32)), (.int (13 : Int32))])) _
      refine XS.icmpNo X67.here hx rfl (hb hby at_170) rfl (teq (by decide : (13 : Int32) = (13 : Int32))).2 ?_
      show Steps p.tables e below (T67.setTop (mkF m 173 #[.val (.int p0), .val (.ref b1), .val (.int (13 : Int32)), .unset] [])) _
      refine XS.iconst X67.here hx rfl (hb hby at_173) ?_
      show Steps p.tables e below (T67.setTop (mkF m 174 #[.val (.int p0), .val (.ref b1), .val (.int (13 : Int32)), .unset] [(.int (1 : Int32))])) _
      refine XS.goto X67.here hx rfl (pc0 := 174) (pc' := 178) rfl (hb hby at_174) (by decide) (by decide) ?_
      show Steps p.tables e below (T67.setTop (mkF m 178 #[.val (.int p0), .val (.ref b1), .val (.int (13 : Int32)), .unset] [(.int (1 : Int32))])) _
      refine XS.istoreN X67.here hx rfl (hb hby at_178) rfl (l' := #[.val (.int p0), .val (.ref b1), .val (.int (13 : Int32)), .val (.int (1 : Int32))]) rfl ?_
      show Steps p.tables e below (T67.setTop (mkF m 179 #[.val (.int p0), .val (.ref b1), .val (.int (13 : Int32)), .val (.int (1 : Int32))] [])) _
      refine XS.aloadN X67.here hx rfl (hb hby at_179) rfl rfl ?_
      show Steps p.tables e below (T67.setTop (mkF m 180 #[.val (.int p0), .val (.ref b1), .val (.int (13 : Int32)), .val (.int (1 : Int32))] [(.ref b1)])) _
      refine XS.iloadN X67.here hx rfl (hb hby at_180) rfl ?_
      show Steps p.tables e below (T67.setTop (mkF m 181 #[.val (.int p0), .val (.ref b1), .val (.int (13 : Int32)), .val (.int (1 : Int32))] [(.int (13 : Int32)), (.ref b1)])) _
      refine X67.aaload hx (j := (13 : Int32)) (v := (.ref w_ENUM)) (by rw [e67]; exact Ar199.1) (State.isArrayOf_alike hZ.alike Ar199.2.1) rfl Ar199.2.2 hin199 hat199 (g := (mkF m 181 #[.val (.int p0), .val (.ref b1), .val (.int (13 : Int32)), .val (.int (1 : Int32))] [(.int (13 : Int32)), (.ref b1)])) rfl rfl (hb hby at_181) _ ?_
      show Steps p.tables e below (T67.setTop (mkF m 182 #[.val (.int p0), .val (.ref b1), .val (.int (13 : Int32)), .val (.int (1 : Int32))] [(.ref w_ENUM)])) _
      refine st201.trans ?_
      show Steps p.tables e below (T201.setTop (mkF m 185 #[.val (.int p0), .val (.ref b1), .val (.int (13 : Int32)), .val (.int (1 : Int32))] [(.int (1 : Int32))])) _
      refine XS.iloadN X201.here hx rfl (hb hby at_185) rfl ?_
      show Steps p.tables e below (T201.setTop (mkF m 186 #[.val (.int p0), .val (.ref b1), .val (.int (13 : Int32)), .val (.int (1 : Int32))] [(.int (1 : Int32)), (.int (1 : Int32))])) _
      refine XS.icmpNo X201.here hx rfl (hb hby at_186) rfl (teq (by decide : (1 : Int32) = (1 : Int32))).2 ?_
      show Steps p.tables e below (T201.setTop (mkF m 189 #[.val (.int p0), .val (.ref b1), .val (.int (13 : Int32)), .val (.int (1 : Int32))] [])) _
      refine XS.iconst X201.here hx rfl (hb hby at_189) ?_
      show Steps p.tables e below (T201.setTop (mkF m 190 #[.val (.int p0), .val (.ref b1), .val (.int (13 : Int32)), .val (.int (1 : Int32))] [(.int (1 : Int32))])) _
      refine XS.goto X201.here hx rfl (pc0 := 190) (pc' := 194) rfl (hb hby at_190) (by decide) (by decide) ?_
      exact kt
    obtain ⟨fs, hr, hrun, hended, hW, hsame⟩ := X201.leave (v := some (.int (1 : Int32))) (fun h => by rw [Bd.returns] at h; cases h)
    refine ⟨_, _, pre206 _ ?_, hrun, hended, _, _, rfl, ?_, ⟨_, rfl⟩, hW, hsame.mono (by decide) (by decide)⟩
    · show Steps p.tables e below (T201.setTop (mkF m 194 #[.val (.int p0), .val (.ref b1), .val (.int (13 : Int32)), .val (.int (1 : Int32))] [(.int (1 : Int32))])) _
      exact retN X201 hx (t := .boolean) Bd.returns (by simp) (hb hby at_194) hr
    · show Q_rm0 Z p0 w_BLOB w_BOOLEAN w_DOCUMENT w_STRING w_BYTE w_SHORT w_INTEGER w_LONG w_FLOAT w_DOUBLE w_BIG_INTEGER w_BIG_DECIMAL w_TIMESTAMP w_ENUM w_INT_ENUM w_LIST w_MAP w_STRUCTURE w_UNION w_SERVICE w_OPERATION w_RESOURCE h0 n0 _ T201.heap _
      rw [e201]
      exact ⟨rfl, N201⟩
  · rw [hk] at pre68
    have vt209 := V_b1
    obtain ⟨cl209, Ar209, q209, S209, Ng209, Ha209, G209⟩ := vt209
    have hin209 : ¬ ((14 : Int32) < 0 ∨ cl209.slots.size ≤ ((14 : Int32)).toNatClampNeg) := inb_of S209 ⟨by decide, by decide⟩
    have hat209 : cl209.slots[((14 : Int32)).toNatClampNeg]? = some (.ref w_INT_ENUM) := Ha209.at hin209 rfl
    obtain ⟨lc210, X210, N210⟩ := own_pack X67 N67
    obtain ⟨cq211, kq211, q211a, q211b, q211c⟩ := isOf hZ e67 (E_INT_ENUM.ext O67.2)
    obtain ⟨_, _, ⟨T211, L211, k211, n211⟩, -, X211, ⟨Lc211, hQ211, l211, y211, z211⟩, st211⟩ := X210.virtualBack hx (y := (⟨"com/example/shapewright/shapewright/model/ShapeType", "isString", "()Z"⟩ : MethodName)) (z := (⟨"com/example/shapewright/shapewright/model/ShapeType", "isString", "()Z"⟩ : MethodName)) hown (mvT hZ (hw _ (List.mem_of_getElem? (i := 49) rfl))) (mvT hZ (hw _ (List.mem_of_getElem? (i := 50) rfl))) (notFace_of_selects (args := #[]) (mvT hZ (hw _ (List.mem_of_getElem? (i := 52) rfl)))) (mvT hZ (hw _ (List.mem_of_getElem? (i := 52) rfl))) (mvT hZ (hw _ (List.mem_of_getElem? (i := 51) rfl))) (by decide) (backOf (W := 0) (rm_isString_15 l Z a0 hw [] w_STRING w_INT_ENUM w_ENUM h67 n0 O67  S_STRING F_ordinal_INT_ENUM F_ordinal_STRING S_ENUM F_ordinal_ENUM) hZ (hw _ (List.mem_of_getElem? (i := 53) rfl)) (hw _ (List.mem_of_getElem? (i := 3) rfl)) (by decide) (by decide)) q211a q211c (g := (mkF m 182 #[.val (.int p0), .val (.ref b1), .val (.int (14 : Int32)), .val (.int (0 : Int32))] [(.ref w_INT_ENUM)])) rfl (by rw [hml]; rfl) (Steps.refl _) (argsL := []) (rest := []) (lenOf pd___Z rfl) rfl (by show 2 * 0 + _ ≤ _; exact Nat.le_of_eq rfl) (hb hby at_182) (fun _ _ => ⟨rfl, e67, (by decide : 1 + 0 ≤ _), (by decide : 22 + 0 ≤ _)⟩)
    dsimp only [Pt.U, Pt.locs, Pt.cells, Pt.slots] at X211 l211 y211 z211 st211 hQ211
    subst l211 y211 z211
    obtain ⟨rfl, N211q, e211⟩ := hQ211
    have N211 := Fr.app N210 N211q
    have pre216 : ∀ t, Steps p.tables e below (T211.setTop (mkF m 194 #[.val (.int p0), .val (.ref b1), .val (.int (14 : Int32)), .val (.int (0 : Int32))] [(.int (1 : Int32))])) t → Steps p.tables e below (s₁.setTop (entryFrame m #[(.int p0)] maxLocals)) t := by
      intro t kt
      refine pre68 t ?_
      show Steps p.tables e below (T67.setTop (mkF m 162 #[.val (.int p0), .val (.ref b1), .val (.int (14 : Int32)), .unset] [])) _
      refine XS.iloadN X67.here hx rfl (hb hby at_162) rfl ?_
      show Steps p.tables e below (T67.setTop (mkF m 163 #[.val (.int p0), .val (.ref b1), .val (.int (14 : Int32)), .unset] [(.int (14 : Int32))])) _
      refine XS.iconst X67.here hx rfl (hb hby at_163) ?_
      show Steps p.tables e below (T67.setTop (mkF m 164 #[.val (.int p0), .val (.ref b1), .val (.int (14 : Int32)), .unset] [(.int (3 : Int32)), (.int (14 : Int32))])) _
      refine XS.icmpNo X67.here hx rfl (hb hby at_164) rfl (feq (by decide : ¬ ((14 : Int32) = (3 : Int32)))).1 ?_
      show Steps p.tables e below (T67.setTop (mkF m 167 #[.val (.int p0), .val (.ref b1), .val (.int (14 : Int32)), .unset] [])) _
      refine XS.iloadN X67.here hx rfl (hb hby at_167) rfl ?_
      show Steps p.tables e below (T67.setTop (mkF m 168 #[.val (.int p0), .val (.ref b1), .val (.int (14 : Int32)), .unset] [(.int (14 : Int32))])) _
      refine XS.bipush X67.here hx rfl (hb hby at_168) ?_
      show Steps p.tables e below (T67.setTop (mkF m 170 #[.val (.int p0), .val (.ref b1), .val (.int (14 : Int32)), .unset] [(.int (13 : Int32)), (.int (14 : Int32))])) _
      refine XS.icmpYes X67.here hx rfl (pc0 := 170) (pc' := 177) rfl (hb hby at_170) rfl (feq (by decide : ¬ ((14 : Int32) = (13 : Int32)))).2 (by decide) (by decide) ?_
      show Steps p.tables e below (T67.setTop (mkF m 177 #[.val (.int p0), .val (.ref b1), .val (.int (14 : Int32)), .unset] [])) _
      refine XS.iconst X67.here hx rfl (hb hby at_177) ?_
      show Steps p.tables e below (T67.setTop (mkF m 178 #[.val (.int p0), .val (.ref b1), .val (.int (14 : Int32)), .unset] [(.int (0 : Int32))])) _
      refine XS.istoreN X67.here hx rfl (hb hby at_178) rfl (l' := #[.val (.int p0), .val (.ref b1), .val (.int (14 : Int32)), .val (.int (0 : Int32))]) rfl ?_
      show Steps p.tables e below (T67.setTop (mkF m 179 #[.val (.int p0), .val (.ref b1), .val (.int (14 : Int32)), .val (.int (0 : Int32))] [])) _
      refine XS.aloadN X67.here hx rfl (hb hby at_179) rfl rfl ?_
      show Steps p.tables e below (T67.setTop (mkF m 180 #[.val (.int p0), .val (.ref b1), .val (.int (14 : Int32)), .val (.int (0 : Int32))] [(.ref b1)])) _
      refine XS.iloadN X67.here hx rfl (hb hby at_180) rfl ?_
      show Steps p.tables e below (T67.setTop (mkF m 181 #[.val (.int p0), .val (.ref b1), .val (.int (14 : Int32)), .val (.int (0 : Int32))] [(.int (14 : Int32)), (.ref b1)])) _
      refine X67.aaload hx (j := (14 : Int32)) (v := (.ref w_INT_ENUM)) (by rw [e67]; exact Ar209.1) (State.isArrayOf_alike hZ.alike Ar209.2.1) rfl Ar209.2.2 hin209 hat209 (g := (mkF m 181 #[.val (.int p0), .val (.ref b1), .val (.int (14 : Int32)), .val (.int (0 : Int32))] [(.int (14 : Int32)), (.ref b1)])) rfl rfl (hb hby at_181) _ ?_
      show Steps p.tables e below (T67.setTop (mkF m 182 #[.val (.int p0), .val (.ref b1), .val (.int (14 : Int32)), .val (.int (0 : Int32))] [(.ref w_INT_ENUM)])) _
      refine st211.trans ?_
      show Steps p.tables e below (T211.setTop (mkF m 185 #[.val (.int p0), .val (.ref b1), .val (.int (14 : Int32)), .val (.int (0 : Int32))] [(.int (0 : Int32))])) _
      refine XS.iloadN X211.here hx rfl (hb hby at_185) rfl ?_
      show Steps p.tables e below (T211.setTop (mkF m 186 #[.val (.int p0), .val (.ref b1), .val (.int (14 : Int32)), .val (.int (0 : Int32))] [(.int (0 : Int32)), (.int (0 : Int32))])) _
      refine XS.icmpNo X211.here hx rfl (hb hby at_186) rfl (teq (by decide : (0 : Int32) = (0 : Int32))).2 ?_
      show Steps p.tables e below (T211.setTop (mkF m 189 #[.val (.int p0), .val (.ref b1), .val (.int (14 : Int32)), .val (.int (0 : Int32))] [])) _
      refine XS.iconst X211.here hx rfl (hb hby at_189) ?_
      show Steps p.tables e below (T211.setTop (mkF m 190 #[.val (.int p0), .val (.ref b1), .val (.int (14 : Int32)), .val (.int (0 : Int32))] [(.int (1 : Int32))])) _
      refine XS.goto X211.here hx rfl (pc0 := 190) (pc' := 194) rfl (hb hby at_190) (by decide) (by decide) ?_
      exact kt
    obtain ⟨fs, hr, hrun, hended, hW, hsame⟩ := X211.leave (v := some (.int (1 : Int32))) (fun h => by rw [Bd.returns] at h; cases h)
    refine ⟨_, _, pre216 _ ?_, hrun, hended, _, _, rfl, ?_, ⟨_, rfl⟩, hW, hsame.mono (by decide) (by decide)⟩
    · show Steps p.tables e below (T211.setTop (mkF m 194 #[.val (.int p0), .val (.ref b1), .val (.int (14 : Int32)), .val (.int (0 : Int32))] [(.int (1 : Int32))])) _
      exact retN X211 hx (t := .boolean) Bd.returns (by simp) (hb hby at_194) hr
    · show Q_rm0 Z p0 w_BLOB w_BOOLEAN w_DOCUMENT w_STRING w_BYTE w_SHORT w_INTEGER w_LONG w_FLOAT w_DOUBLE w_BIG_INTEGER w_BIG_DECIMAL w_TIMESTAMP w_ENUM w_INT_ENUM w_LIST w_MAP w_STRUCTURE w_UNION w_SERVICE w_OPERATION w_RESOURCE h0 n0 _ T211.heap _
      rw [e211]
      exact ⟨rfl, N211⟩
  · rw [hk] at pre68
    have vt219 := V_b1
    obtain ⟨cl219, Ar219, q219, S219, Ng219, Ha219, G219⟩ := vt219
    have hin219 : ¬ ((15 : Int32) < 0 ∨ cl219.slots.size ≤ ((15 : Int32)).toNatClampNeg) := inb_of S219 ⟨by decide, by decide⟩
    have hat219 : cl219.slots[((15 : Int32)).toNatClampNeg]? = some (.ref w_LIST) := Ha219.at hin219 rfl
    obtain ⟨lc220, X220, N220⟩ := own_pack X67 N67
    obtain ⟨cq221, kq221, q221a, q221b, q221c⟩ := isOf hZ e67 (E_LIST.ext O67.2)
    obtain ⟨_, _, ⟨T221, L221, k221, n221⟩, -, X221, ⟨Lc221, hQ221, l221, y221, z221⟩, st221⟩ := X220.virtualBack hx (y := (⟨"com/example/shapewright/shapewright/model/ShapeType", "isString", "()Z"⟩ : MethodName)) (z := (⟨"com/example/shapewright/shapewright/model/ShapeType", "isString", "()Z"⟩ : MethodName)) hown (mvT hZ (hw _ (List.mem_of_getElem? (i := 49) rfl))) (mvT hZ (hw _ (List.mem_of_getElem? (i := 50) rfl))) (notFace_of_selects (args := #[]) (mvT hZ (hw _ (List.mem_of_getElem? (i := 52) rfl)))) (mvT hZ (hw _ (List.mem_of_getElem? (i := 52) rfl))) (mvT hZ (hw _ (List.mem_of_getElem? (i := 51) rfl))) (by decide) (backOf (W := 0) (rm_isString_16 l Z a0 hw [] w_STRING w_LIST w_ENUM h67 n0 O67  S_STRING F_ordinal_LIST F_ordinal_STRING S_ENUM F_ordinal_ENUM) hZ (hw _ (List.mem_of_getElem? (i := 53) rfl)) (hw _ (List.mem_of_getElem? (i := 3) rfl)) (by decide) (by decide)) q221a q221c (g := (mkF m 182 #[.val (.int p0), .val (.ref b1), .val (.int (15 : Int32)), .val (.int (0 : Int32))] [(.ref w_LIST)])) rfl (by rw [hml]; rfl) (Steps.refl _) (argsL := []) (rest := []) (lenOf pd___Z rfl) rfl (by show 2 * 0 + _ ≤ _; exact Nat.le_of_eq rfl) (hb hby at_182) (fun _ _ => ⟨rfl, e67, (by decide : 1 + 0 ≤ _), (by decide : 22 + 0 ≤ _)⟩)
    dsimp only [Pt.U, Pt.locs, Pt.cells, Pt.slots] at X221 l221 y221 z221 st221 hQ221
    subst l221 y221 z221
    obtain ⟨rfl, N221q, e221⟩ := hQ221
    have N221 := Fr.app N220 N221q
    have pre226 : ∀ t, Steps p.tables e below (T221.setTop (mkF m 194 #[.val (.int p0), .val (.ref b1), .val (.int (15 : Int32)), .val (.int (0 : Int32))] [(.int (1 : Int32))])) t → Steps p.tables e below (s₁.setTop (entryFrame m #[(.int p0)] maxLocals)) t := by
      intro t kt
      refine pre68 t ?_
      show Steps p.tables e below (T67.setTop (mkF m 162 #[.val (.int p0), .val (.ref b1), .val (.int (15 : Int32)), .unset] [])) _
      refine XS.iloadN X67.here hx rfl (hb hby at_162) rfl ?_
      show Steps p.tables e below (T67.setTop (mkF m 163 #[.val (.int p0), .val (.ref b1), .val (.int (15 : Int32)), .unset] [(.int (15 : Int32))])) _
      refine XS.iconst X67.here hx rfl (hb hby at_163) ?_
      show Steps p.tables e below (T67.setTop (mkF m 164 #[.val (.int p0), .val (.ref b1), .val (.int (15 : Int32)), .unset] [(.int (3 : Int32)), (.int (15 : Int32))])) _
      refine XS.icmpNo X67.here hx rfl (hb hby at_164) rfl (feq (by decide : ¬ ((15 : Int32) = (3 : Int32)))).1 ?_
      show Steps p.tables e below (T67.setTop (mkF m 167 #[.val (.int p0), .val (.ref b1), .val (.int (15 : Int32)), .unset] [])) _
      refine XS.iloadN X67.here hx rfl (hb hby at_167) rfl ?_
      show Steps p.tables e below (T67.setTop (mkF m 168 #[.val (.int p0), .val (.ref b1), .val (.int (15 : Int32)), .unset] [(.int (15 : Int32))])) _
      refine XS.bipush X67.here hx rfl (hb hby at_168) ?_
      show Steps p.tables e below (T67.setTop (mkF m 170 #[.val (.int p0), .val (.ref b1), .val (.int (15 : Int32)), .unset] [(.int (13 : Int32)), (.int (15 : Int32))])) _
      refine XS.icmpYes X67.here hx rfl (pc0 := 170) (pc' := 177) rfl (hb hby at_170) rfl (feq (by decide : ¬ ((15 : Int32) = (13 : Int32)))).2 (by decide) (by decide) ?_
      show Steps p.tables e below (T67.setTop (mkF m 177 #[.val (.int p0), .val (.ref b1), .val (.int (15 : Int32)), .unset] [])) _
      refine XS.iconst X67.here hx rfl (hb hby at_177) ?_
      show Steps p.tables e below (T67.setTop (mkF m 178 #[.val (.int p0), .val (.ref b1), .val (.int (15 : Int32)), .unset] [(.int (0 : Int32))])) _
      refine XS.istoreN X67.here hx rfl (hb hby at_178) rfl (l' := #[.val (.int p0), .val (.ref b1), .val (.int (15 : Int32)), .val (.int (0 : Int32))]) rfl ?_
      show Steps p.tables e below (T67.setTop (mkF m 179 #[.val (.int p0), .val (.ref b1), .val (.int (15 : Int32)), .val (.int (0 : Int32))] [])) _
      refine XS.aloadN X67.here hx rfl (hb hby at_179) rfl rfl ?_
      show Steps p.tables e below (T67.setTop (mkF m 180 #[.val (.int p0), .val (.ref b1), .val (.int (15 : Int32)), .val (.int (0 : Int32))] [(.ref b1)])) _
      refine XS.iloadN X67.here hx rfl (hb hby at_180) rfl ?_
      show Steps p.tables e below (T67.setTop (mkF m 181 #[.val (.int p0), .val (.ref b1), .val (.int (15 : Int32)), .val (.int (0 : Int32))] [(.int (15 : Int32)), (.ref b1)])) _
      refine X67.aaload hx (j := (15 : Int32)) (v := (.ref w_LIST)) (by rw [e67]; exact Ar219.1) (State.isArrayOf_alike hZ.alike Ar219.2.1) rfl Ar219.2.2 hin219 hat219 (g := (mkF m 181 #[.val (.int p0), .val (.ref b1), .val (.int (15 : Int32)), .val (.int (0 : Int32))] [(.int (15 : Int32)), (.ref b1)])) rfl rfl (hb hby at_181) _ ?_
      show Steps p.tables e below (T67.setTop (mkF m 182 #[.val (.int p0), .val (.ref b1), .val (.int (15 : Int32)), .val (.int (0 : Int32))] [(.ref w_LIST)])) _
      refine st221.trans ?_
      show Steps p.tables e below (T221.setTop (mkF m 185 #[.val (.int p0), .val (.ref b1), .val (.int (15 : Int32)), .val (.int (0 : Int32))] [(.int (0 : Int32))])) _
      refine XS.iloadN X221.here hx rfl (hb hby at_185) rfl ?_
      show Steps p.tables e below (T221.setTop (mkF m 186 #[.val (.int p0), .val (.ref b1), .val (.int (15 : Int32)), .val (.int (0 : Int32))] [(.int (0 : Int32)), (.int (0 : Int32))])) _
      refine XS.icmpNo X221.here hx rfl (hb hby at_186) rfl (teq (by decide : (0 : Int32) = (0 : Int32))).2 ?_
      show Steps p.tables e below (T221.setTop (mkF m 189 #[.val (.int p0), .val (.ref b1), .val (.int (15 : Int32)), .val (.int (0 : Int32))] [])) _
      refine XS.iconst X221.here hx rfl (hb hby at_189) ?_
      show Steps p.tables e below (T221.setTop (mkF m 190 #[.val (.int p0), .val (.ref b1), .val (.int (15 : Int32)), .val (.int (0 : Int32))] [(.int (1 : Int32))])) _
      refine XS.goto X221.here hx rfl (pc0 := 190) (pc' := 194) rfl (hb hby at_190) (by decide) (by decide) ?_
      exact kt
    obtain ⟨fs, hr, hrun, hended, hW, hsame⟩ := X221.leave (v := some (.int (1 : Int32))) (fun h => by rw [Bd.returns] at h; cases h)
    refine ⟨_, _, pre226 _ ?_, hrun, hended, _, _, rfl, ?_, ⟨_, rfl⟩, hW, hsame.mono (by decide) (by decide)⟩
    · show Steps p.tables e below (T221.setTop (mkF m 194 #[.val (.int p0), .val (.ref b1), .val (.int (15 : Int32)), .val (.int (0 : Int32))] [(.int (1 : Int32))])) _
      exact retN X221 hx (t := .boolean) Bd.returns (by simp) (hb hby at_194) hr
    · show Q_rm0 Z p0 w_BLOB w_BOOLEAN w_DOCUMENT w_STRING w_BYTE w_SHORT w_INTEGER w_LONG w_FLOAT w_DOUBLE w_BIG_INTEGER w_BIG_DECIMAL w_TIMESTAMP w_ENUM w_INT_ENUM w_LIST w_MAP w_STRUCTURE w_UNION w_SERVICE w_OPERATION w_RESOURCE h0 n0 _ T221.heap _
      rw [e221]
      exact ⟨rfl, N221⟩
  · rw [hk] at pre68
    have vt229 := V_b1
    obtain ⟨cl229, Ar229, q229, S229, Ng229, Ha229, G229⟩ := vt229
    have hin229 : ¬ ((16 : Int32) < 0 ∨ cl229.slots.size ≤ ((16 : Int32)).toNatClampNeg) := inb_of S229 ⟨by decide, by decide⟩
    have hat229 : cl229.slots[((16 : Int32)).toNatClampNeg]? = some (.ref w_MAP) := Ha229.at hin229 rfl
    obtain ⟨lc230, X230, N230⟩ := own_pack X67 N67
    obtain ⟨cq231, kq231, q231a, q231b, q231c⟩ := isOf hZ e67 (E_MAP.ext O67.2)
    obtain ⟨_, _, ⟨T231, L231, k231, n231⟩, -, X231, ⟨Lc231, hQ231, l231, y231, z231⟩, st231⟩ := X230.virtualBack hx (y := (⟨"com/example/shapewright/shapewright/model/ShapeType", "isString", "()Z"⟩ : MethodName)) (z := (⟨"com/example/shapewright/shapewright/model/ShapeType", "isString", "()Z"⟩ : MethodName)) hown (mvT hZ (hw _ (List.mem_of_getElem? (i := 49) rfl))) (mvT hZ (hw _ (List.mem_of_getElem? (i := 50) rfl))) (notFace_of_selects (args := #[]) (mvT hZ (hw _ (List.mem_of_getElem? (i := 52) rfl)))) (mvT hZ (hw _ (List.mem_of_getElem? (i := 52) rfl))) (mvT hZ (hw _ (List.mem_of_getElem? (i := 51) rfl))) (by decide) (backOf (W := 0) (rm_isString_17 l Z a0 hw [] w_STRING w_MAP w_ENUM h67 n0 O67  S_STRING F_ordinal_MAP F_ordinal_STRING S_ENUM F_ordinal_ENUM) hZ (hw _ (List.mem_of_getElem? (i := 53) rfl)) (hw _ (List.mem_of_getElem? (i := 3) rfl)) (by decide) (by decide)) q231a q231c (g := (mkF m 182 #[.val (.int p0), .val (.ref b1), .val (.int (16 : Int32)), .val (.int (0 : Int32))] [(.ref w_MAP)])) rfl (by rw [hml]; rfl) (Steps.refl _) (argsL := []) (rest := []) (lenOf pd___Z rfl) rfl (by show 2 * 0 + _ ≤ _; exact Nat.le_of_eq rfl) (hb hby at_182) (fun _ _ => ⟨rfl, e67, (by decide : 1 + 0 ≤ _), (by decide : 22 + 0 ≤ _)⟩)
    dsimp only [Pt.U, Pt.locs, Pt.cells, Pt.slots] at X231 l231 y231 z231 st231 hQ231
    subst l231 y231 z231
    obtain ⟨rfl, N231q, e231⟩ := hQ231
    have N231 := Fr.app N230 N231q
    have pre236 : ∀ t, Steps p.tables e below (T231.setTop (mkF m 194 #[.val (.int p0), .val (.ref b1), .val (.int (16 : Int32)), .val (.int (0 : Int32))] [(.int (1 : Int32))])) t → Steps p.tables e below (s₁.setTop (entryFrame m #[(.int p0)] maxLocals)) t := by
      intro t kt
      refine pre68 t ?_
      show Steps p.tables e below (T67.setTop (mkF m 162 #[.val (.int p0), .val (.ref b1), .val (.int (16 : Int32)), .unset] [])) _
      refine XS.iloadN X67.here hx rfl (hb hby at_162) rfl ?_
      show Steps p.tables e below (T67.setTop (mkF m 163 #[.val (.int p0), .val (.ref b1), .val (.int (16 : Int32)), .unset] [(.int (16 : Int32))])) _
      refine XS.iconst X67.here hx rfl (hb hby at_163) ?_
      show Steps p.tables e below (T67.setTop (mkF m 164 #[.val (.int p0), .val (.ref b1), .val (.int (16 : Int32)), .unset] [(.int (3 : Int32)), (.int (16 : Int32))])) _
      refine XS.icmpNo X67.here hx rfl (hb hby at_164) rfl (feq (by decide : ¬ ((16 : Int32) = (3 : Int32)))).1 ?_
      show Steps p.tables e below (T67.setTop (mkF m 167 #[.val (.int p0), .val (.ref b1), .val (.int (16 : Int32)), .unset] [])) _
      refine XS.iloadN X67.here hx rfl (hb hby at_167) rfl ?_
      show Steps p.tables e below (T67.setTop (mkF m 168 #[.val (.int p0), .val (.ref b1), .val (.int (16 : Int32)), .unset] [(.int (16 : Int32))])) _
      refine XS.bipush X67.here hx rfl (hb hby at_168) ?_
      show Steps p.tables e below (T67.setTop (mkF m 170 #[.val (.int p0), .val (.ref b1), .val (.int (16 : Int32)), .unset] [(.int (13 : Int32)), (.int (16 : Int32))])) _
      refine XS.icmpYes X67.here hx rfl (pc0 := 170) (pc' := 177) rfl (hb hby at_170) rfl (feq (by decide : ¬ ((16 : Int32) = (13 : Int32)))).2 (by decide) (by decide) ?_
      show Steps p.tables e below (T67.setTop (mkF m 177 #[.val (.int p0), .val (.ref b1), .val (.int (16 : Int32)), .unset] [])) _
      refine XS.iconst X67.here hx rfl (hb hby at_177) ?_
      show Steps p.tables e below (T67.setTop (mkF m 178 #[.val (.int p0), .val (.ref b1), .val (.int (16 : Int32)), .unset] [(.int (0 : Int32))])) _
      refine XS.istoreN X67.here hx rfl (hb hby at_178) rfl (l' := #[.val (.int p0), .val (.ref b1), .val (.int (16 : Int32)), .val (.int (0 : Int32))]) rfl ?_
      show Steps p.tables e below (T67.setTop (mkF m 179 #[.val (.int p0), .val (.ref b1), .val (.int (16 : Int32)), .val (.int (0 : Int32))] [])) _
      refine XS.aloadN X67.here hx rfl (hb hby at_179) rfl rfl ?_
      show Steps p.tables e below (T67.setTop (mkF m 180 #[.val (.int p0), .val (.ref b1), .val (.int (16 : Int32)), .val (.int (0 : Int32))] [(.ref b1)])) _
      refine XS.iloadN X67.here hx rfl (hb hby at_180) rfl ?_
      show Steps p.tables e below (T67.setTop (mkF m 181 #[.val (.int p0), .val (.ref b1), .val (.int (16 : Int32)), .val (.int (0 : Int32))] [(.int (16 : Int32)), (.ref b1)])) _
      refine X67.aaload hx (j := (16 : Int32)) (v := (.ref w_MAP)) (by rw [e67]; exact Ar229.1) (State.isArrayOf_alike hZ.alike Ar229.2.1) rfl Ar229.2.2 hin229 hat229 (g := (mkF m 181 #[.val (.int p0), .val (.ref b1), .val (.int (16 : Int32)), .val (.int (0 : Int32))] [(.int (16 : Int32)), (.ref b1)])) rfl rfl (hb hby at_181) _ ?_
      show Steps p.tables e below (T67.setTop (mkF m 182 #[.val (.int p0), .val (.ref b1), .val (.int (16 : Int32)), .val (.int (0 : Int32))] [(.ref w_MAP)])) _
      refine st231.trans ?_
      show Steps p.tables e below (T231.setTop (mkF m 185 #[.val (.int p0), .val (.ref b1), .val (.int (16 : Int32)), .val (.int (0 : Int32))] [(.int (0 : Int32))])) _
      refine XS.iloadN X231.here hx rfl (hb hby at_185) rfl ?_
      show Steps p.tables e below (T231.setTop (mkF m 186 #[.val (.int p0), .val (.ref b1), .val (.int (16 : Int32)), .val (.int (0 : Int32))] [(.int (0 : Int32)), (.int (0 : Int32))])) _
      refine XS.icmpNo X231.here hx rfl (hb hby at_186) rfl (teq (by decide : (0 : Int32) = (0 : Int32))).2 ?_
      show Steps p.tables e below (T231.setTop (mkF m 189 #[.val (.int p0), .val (.ref b1), .val (.int (16 : Int32)), .val (.int (0 : Int32))] [])) _
      refine XS.iconst X231.here hx rfl (hb hby at_189) ?_
      show Steps p.tables e below (T231.setTop (mkF m 190 #[.val (.int p0), .val (.ref b1), .val (.int (16 : Int32)), .val (.int (0 : Int32))] [(.int (1 : Int32))])) _
      refine XS.goto X231.here hx rfl (pc0 := 190) (pc' := 194) rfl (hb hby at_190) (by decide) (by decide) ?_
      exact kt
    obtain ⟨fs, hr, hrun, hended, hW, hsame⟩ := X231.leave (v := some (.int (1 : Int32))) (fun h => by rw [Bd.returns] at h; cases h)
    refine ⟨_, _, pre236 _ ?_, hrun, hended, _, _, rfl, ?_, ⟨_, rfl⟩, hW, hsame.mono (by decide) (by decide)⟩
    · show Steps p.tables e below (T231.setTop (mkF m 194 #[.val (.int p0), .val (.ref b1), .val (.int (16 : Int32)), .val (.int (0 : Int32))] [(.int (1 : Int32))])) _
      exact retN X231 hx (t := .boolean) Bd.returns (by simp) (hb hby at_194) hr
    · show Q_rm0 Z p0 w_BLOB w_BOOLEAN w_DOCUMENT w_STRING w_BYTE w_SHORT w_INTEGER w_LONG w_FLOAT w_DOUBLE w_BIG_INTEGER w_BIG_DECIMAL w_TIMESTAMP w_ENUM w_INT_ENUM w_LIST w_MAP w_STRUCTURE w_UNION w_SERVICE w_OPERATION w_RESOURCE h0 n0 _ T231.heap _
      rw [e231]
      exact ⟨rfl, N231⟩
  · rw [hk] at pre68
    have vt239 := V_b1
    obtain ⟨cl239, Ar239, q239, S239, Ng239, Ha239, G239⟩ := vt239
    have hin239 : ¬ ((17 : Int32) < 0 ∨ cl239.slots.size ≤ ((17 : Int32)).toNatClampNeg) := inb_of S239 ⟨by decide, by decide⟩
    have hat239 : cl239.slots[((17 : Int32)).toNatClampNeg]? = some (.ref w_STRUCTURE) := Ha239.at hin239 rfl
    obtain ⟨lc240, X240, N240⟩ := own_pack X67 N67
    obtain ⟨cq241, kq241, q241a, q241b, q241c⟩ := isOf hZ e67 (E_STRUCTURE.ext O67.2)
    obtain ⟨_, _, ⟨T241, L241, k241, n241⟩, -, X241, ⟨Lc241, hQ241, l241, y241, z241⟩, st241⟩ := X240.virtualBack hx (y := (⟨"com/example/shapewright/shapewright/model/ShapeType", "isString", "()Z"⟩ : MethodName)) (z := (⟨"com/example/shapewright/shapewright/model/ShapeType", "isString", "()Z"⟩ : MethodName)) hown (mvT hZ (hw _ (List.mem_of_getElem? (i := 49) rfl))) (mvT hZ (hw _ (List.mem_of_getElem? (i := 50) rfl))) (notFace_of_selects (args := #[]) (mvT hZ (hw _ (List.mem_of_getElem? (i := 52) rfl)))) (mvT hZ (hw _ (List.mem_of_getElem? (i := 52) rfl))) (mvT hZ (hw _ (List.mem_of_getElem? (i := 51) rfl))) (by decide) (backOf (W := 0) (rm_isString_18 l Z a0 hw [] w_STRING w_STRUCTURE w_ENUM h67 n0 O67  S_STRING F_ordinal_STRUCTURE F_ordinal_STRING S_ENUM F_ordinal_ENUM) hZ (hw _ (List.mem_of_getElem? (i := 53) rfl)) (hw _ (List.mem_of_getElem? (i := 3) rfl)) (by decide) (by decide)) q241a q241c (g := (mkF m 182 #[.val (.int p0), .val (.ref b1), .val (.int (17 : Int32)), .val (.int (0 : Int32))] [(.ref w_STRUCTURE)])) rfl (by rw [hml]; rfl) (Steps.refl _) (argsL := []) (rest := []) (lenOf pd___Z rfl) rfl (by show 2 * 0 + _ ≤ _; exact Nat.le_of_eq rfl) (hb hby at_182) (fun _ _ => ⟨rfl, e67, (by decide : 1 + 0 ≤ _), (by decide : 22 + 0 ≤ _)⟩)
    dsimp only [Pt.U, Pt.locs, Pt.cells, Pt.slots] at X241 l241 y241 z241 st241 hQ241
    subst l241 y241 z241
    obtain ⟨rfl, N241q, e241⟩ := hQ241
    have N241 := Fr.app N240 N241q
    have pre246 : ∀ t, Steps p.tables e below (T241.setTop (mkF m 194 #[.val (.int p0), .val (.ref b1), .val (.int (17 : Int32)), .val (.int (0 : Int32))] [(.int (1 : Int32))])) t → Steps p.tables e below (s₁.setTop (entryFrame m #[(.int p0)] maxLocals)) t := by
      intro t kt
      refine pre68 t ?_
      show Steps p.tables e below (T67.setTop (mkF m 162 #[.val (.int p0), .val (.ref b1), .val (.int (17 : Int32)), .unset] [])) _
      refine XS.iloadN X67.here hx rfl (hb hby at_162) rfl ?_
      show Steps p.tables e below (T67.setTop (mkF m 163 #[.val (.int p0), .val (.ref b1), .val (.int (17 : Int32)), .unset] [(.int (17 : Int32))])) _
      refine XS.iconst X67.here hx rfl (hb hby at_163) ?_
      show Steps p.tables e below (T67.setTop (mkF m 164 #[.val (.int p0), .val (.ref b1), .val (.int (17 : Int32)), .unset] [(.int (3 : Int32)), (.int (17 : Int32))])) _
      refine XS.icmpNo X67.here hx rfl (hb hby at_164) rfl (feq (by decide : ¬ ((17 : Int32) = (3 : Int32)))).1 ?_
      show Steps p.tables e below (T67.setTop (mkF m 167 #[.val (.int p0), .val (.ref b1), .val (.int (17 : Int32)), .unset] [])) _
      refine XS.iloadN X67.here hx rfl (hb hby at_167) rfl ?_
      show Steps p.tables e below (T67.setTop (mkF m 168 #[.val (.int p0), .val (.ref b1), .val (.int (17 : Int32)), .unset] [(.int (17 : Int32))])) _
      refine XS.bipush X67.here hx rfl (hb hby at_168) ?_
      show Steps p.tables e below (T67.setTop (mkF m 170 #[.val (.int p0), .val (.ref b1), .val (.int (17 : Int32)), .unset] [(.int (13 : Int32)), (.int (17 : Int32))])) _
      refine XS.icmpYes X67.here hx rfl (pc0 := 170) (pc' := 177) rfl (hb hby at_170) rfl (feq (by decide : ¬ ((17 : Int32) = (13 : Int32)))).2 (by decide) (by decide) ?_
      show Steps p.tables e below (T67.setTop (mkF m 177 #[.val (.int p0), .val (.ref b1), .val (.int (17 : Int32)), .unset] [])) _
      refine XS.iconst X67.here hx rfl (hb hby at_177) ?_
      show Steps p.tables e below (T67.setTop (mkF m 178 #[.val (.int p0), .val (.ref b1), .val (.int (17 : Int32)), .unset] [(.int (0 : Int32))])) _
      refine XS.istoreN X67.here hx rfl (hb hby at_178) rfl (l' := #[.val (.int p0), .val (.ref b1), .val (.int (17 : Int32)), .val (.int (0 : Int32))]) rfl ?_
      show Steps p.tables e below (T67.setTop (mkF m 179 #[.val (.int p0), .val (.ref b1), .val (.int (17 : Int32)), .val (.int (0 : Int32))] [])) _
      refine XS.aloadN X67.here hx rfl (hb hby at_179) rfl rfl ?_
      show Steps p.tables e below (T67.setTop (mkF m 180 #[.val (.int p0), .val (.ref b1), .val (.int (17 : Int32)), .val (.int (0 : Int32))] [(.ref b1)])) _
      refine XS.iloadN X67.here hx rfl (hb hby at_180) rfl ?_
      show Steps p.tables e below (T67.setTop (mkF m 181 #[.val (.int p0), .val (.ref b1), .val (.int (17 : Int32)), .val (.int (0 : Int32))] [(.int (17 : Int32)), (.ref b1)])) _
      refine X67.aaload hx (j := (17 : Int32)) (v := (.ref w_STRUCTURE)) (by rw [e67]; exact Ar239.1) (State.isArrayOf_alike hZ.alike Ar239.2.1) rfl Ar239.2.2 hin239 hat239 (g := (mkF m 181 #[.val (.int p0), .val (.ref b1), .val (.int (17 : Int32)), .val (.int (0 : Int32))] [(.int (17 : Int32)), (.ref b1)])) rfl rfl (hb hby at_181) _ ?_
      show Steps p.tables e below (T67.setTop (mkF m 182 #[.val (.int p0), .val (.ref b1), .val (.int (17 : Int32)), .val (.int (0 : Int32))] [(.ref w_STRUCTURE)])) _
      refine st241.trans ?_
      show Steps p.tables e below (T241.setTop (mkF m 185 #[.val (.int p0), .val (.ref b1), .val (.int (17 : Int32)), .val (.int (0 : Int32))] [(.int (0 : Int32))])) _
      refine XS.iloadN X241.here hx rfl (hb hby at_185) rfl ?_
      show Steps p.tables e below (T241.setTop (mkF m 186 #[.val (.int p0), .val (.ref b1), .val (.int (17 : Int32)), .val (.int (0 : Int32))] [(.int (0 : Int32)), (.int (0 : Int32))])) _
      refine XS.icmpNo X241.here hx rfl (hb hby at_186) rfl (teq (by decide : (0 : Int32) = (0 : Int32))).2 ?_
      show Steps p.tables e below (T241.setTop (mkF m 189 #[.val (.int p0), .val (.ref b1), .val (.int (17 : Int32)), .val (.int (0 : Int32))] [])) _
      refine XS.iconst X241.here hx rfl (hb hby at_189) ?_
      show Steps p.tables e below (T241.setTop (mkF m 190 #[.val (.int p0), .val (.ref b1), .val (.int (17 : Int32)), .val (.int (0 : Int32))] [(.int (1 : Int32))])) _
      refine XS.goto X241.here hx rfl (pc0 := 190) (pc' := 194) rfl (hb hby at_190) (by decide) (by decide) ?_
      exact kt
    obtain ⟨fs, hr, hrun, hended, hW, hsame⟩ := X241.leave (v := some (.int (1 : Int32))) (fun h => by rw [Bd.returns] at h; cases h)
    refine ⟨_, _, pre246 _ ?_, hrun, hended, _, _, rfl, ?_, ⟨_, rfl⟩, hW, hsame.mono (by decide) (by decide)⟩
    · show Steps p.tables e below (T241.setTop (mkF m 194 #[.val (.int p0), .val (.ref b1), .val (.int (17 : Int32)), .val (.int (0 : Int32))] [(.int (1 : Int32))])) _
      exact retN X241 hx (t := .boolean) Bd.returns (by simp) (hb hby at_194) hr
    · show Q_rm0 Z p0 w_BLOB w_BOOLEAN w_DOCUMENT w_STRING w_BYTE w_SHORT w_INTEGER w_LONG w_FLOAT w_DOUBLE w_BIG_INTEGER w_BIG_DECIMAL w_TIMESTAMP w_ENUM w_INT_ENUM w_LIST w_MAP w_STRUCTURE w_UNION w_SERVICE w_OPERATION w_RESOURCE h0 n0 _ T241.heap _
      rw [e241]
      exact ⟨rfl, N241⟩
  · rw [hk] at pre68
    have vt249 := V_b1
    obtain ⟨cl249, Ar249, q249, S249, Ng249, Ha249, G249⟩ := vt249
    have hin249 : ¬ ((18 : Int32) < 0 ∨ cl249.slots.size ≤ ((18 : Int32)).toNatClampNeg) := inb_of S249 ⟨by decide, by decide⟩
    have hat249 : cl249.slots[((18 : Int32)).toNatClampNeg]? = some (.ref w_UNION) := Ha249.at hin249 rfl
    obtain ⟨lc250, X250, N250⟩ := own_pack X67 N67
    obtain ⟨cq251, kq251, q251a, q251b, q251c⟩ := isOf hZ e67 (E_UNION.ext O67.2)
    obtain ⟨_, _, ⟨T251, L251, k251, n251⟩, -, X251, ⟨Lc251, hQ251, l251, y251, z251⟩, st251⟩ := X250.virtualBack hx (y := (⟨"com/example/shapewright/shapewright/model/ShapeType", "isString", "()Z"⟩ : MethodName)) (z := (⟨"com/example/shapewright/shapewright/model/ShapeType", "isString", "()Z"⟩ : MethodName)) hown (mvT hZ (hw _ (List.mem_of_getElem? (i := 49) rfl))) (mvT hZ (hw _ (List.mem_of_getElem? (i := 50) rfl))) (notFace_of_selects (args := #[]) (mvT hZ (hw _ (List.mem_of_getElem? (i := 52) rfl)))) (mvT hZ (hw _ (List.mem_of_getElem? (i := 52) rfl))) (mvT hZ (hw _ (List.mem_of_getElem? (i := 51) rfl))) (by decide) (backOf (W := 0) (rm_isString_19 l Z a0 hw [] w_STRING w_UNION w_ENUM h67 n0 O67  S_STRING F_ordinal_UNION F_ordinal_STRING S_ENUM F_ordinal_ENUM) hZ (hw _ (List.mem_of_getElem? (i := 53) rfl)) (hw _ (List.mem_of_getElem? (i := 3) rfl)) (by decide) (by decide)) q251a q251c (g := (mkF m 182 #[.val (.int p0), .val (.ref b1), .val (.int (18 : Int32)), .val (.int (0 : Int32))] [(.ref w_UNION)])) rfl (by rw [hml]; rfl) (Steps.refl _) (argsL := []) (rest := []) (lenOf pd___Z rfl) rfl (by show 2 * 0 + _ ≤ _; exact Nat.le_of_eq rfl) (hb hby at_182) (fun _ _ => ⟨rfl, e67, (by decide : 1 + 0 ≤ _), (by decide : 22 + 0 ≤ _)⟩)
    dsimp only [Pt.U, Pt.locs, Pt.cells, Pt.slots] at X251 l251 y251 z251 st251 hQ251
    subst l251 y251 z251
    obtain ⟨rfl, N251q, e251⟩ := hQ251
    have N251 := Fr.app N250 N251q
    have pre256 : ∀ t, Steps p.tables e below (T251.setTop (mkF m 194 #[.val (.int p0), .val (.ref b1), .val (.int (18 : Int32)), .val (.int (0 : Int32))] [(.int (1 : Int32))])) t → Steps p.tables e below (s₁.setTop (entryFrame m #[(.int p0)] maxLocals)) t := by
      intro t kt
      refine pre68 t ?_
      show Steps p.tables e below (T67.setTop (mkF m 162 #[.val (.int p0), .val (.ref b1), .val (.int (18 : Int32)), .unset] [])) _
      refine XS.iloadN X67.here hx rfl (hb hby at_162) rfl ?_
      show Steps p.tables e below (T67.setTop (mkF m 163 #[.val (.int p0), .val (.ref b1), .val (.int (18 : Int32)), .unset] [(.int (18 : Int32))])) _
      refine XS.iconst X67.here hx rfl (hb hby at_163) ?_
      show Steps p.tables e below (T67.setTop (mkF m 164 #[.val (.int p0), .val (.ref b1), .val (.int (18 : Int32)), .unset] [(.int (3 : Int32)), (.int (18 : Int32))])) _
      refine XS.icmpNo X67.here hx rfl (hb hby at_164) rfl (feq (by decide : ¬ ((18 : Int32) = (3 : Int32)))).1 ?_
      show Steps p.tables e below (T67.setTop (mkF m 167 #[.val (.int p0), .val (.ref b1), .val (.int (18 : Int32)), .unset] [])) _
      refine XS.iloadN X67.here hx rfl (hb hby at_167) rfl ?_
      show Steps p.tables e below (T67.setTop (mkF m 168 #[.val (.int p0), .val (.ref b1), .val (.int (18 : Int32)), .unset] [(.int (18 : Int32))])) _
      refine XS.bipush X67.here hx rfl (hb hby at_168) ?_
      show Steps p.tables e below (T67.setTop (mkF m 170 #[.val (.int p0), .val (.ref b1), .val (.int (18 : Int32)), .unset] [(.int (13 : Int32)), (.int (18 : Int32))])) _
      refine XS.icmpYes X67.here hx rfl (pc0 := 170) (pc' := 177) rfl (hb hby at_170) rfl (feq (by decide : ¬ ((18 : Int32) = (13 : Int32)))).2 (by decide) (by decide) ?_
      show Steps p.tables e below (T67.setTop (mkF m 177 #[.val (.int p0), .val (.ref b1), .val (.int (18 : Int32)), .unset] [])) _
      refine XS.iconst X67.here hx rfl (hb hby at_177) ?_
      show Steps p.tables e below (T67.setTop (mkF m 178 #[.val (.int p0), .val (.ref b1), .val (.int (18 : Int32)), .unset] [(.int (0 : Int32))])) _
      refine XS.istoreN X67.here hx rfl (hb hby at_178) rfl (l' := #[.val (.int p0), .val (.ref b1), .val (.int (18 : Int32)), .val (.int (0 : Int32))]) rfl ?_
      show Steps p.tables e below (T67.setTop (mkF m 179 #[.val (.int p0), .val (.ref b1), .val (.int (18 : Int32)), .val (.int (0 : Int32))] [])) _
      refine XS.aloadN X67.here hx rfl (hb hby at_179) rfl rfl ?_
      show Steps p.tables e below (T67.setTop (mkF m 180 #[.val (.int p0), .val (.ref b1), .val (.int (18 : Int32)), .val (.int (0 : Int32))] [(.ref b1)])) _
      refine XS.iloadN X67.here hx rfl (hb hby at_180) rfl ?_
      show Steps p.tables e below (T67.setTop (mkF m 181 #[.val (.int p0), .val (.ref b1), .val (.int (18 : Int32)), .val (.int (0 : Int32))] [(.int (18 : Int32)), (.ref b1)])) _
      refine X67.aaload hx (j := (18 : Int32)) (v := (.ref w_UNION)) (by rw [e67]; exact Ar249.1) (State.isArrayOf_alike hZ.alike Ar249.2.1) rfl Ar249.2.2 hin249 hat249 (g := (mkF m 181 #[.val (.int p0), .val (.ref b1), .val (.int (18 : Int32)), .val (.int (0 : Int32))] [(.int (18 : Int32)), (.ref b1)])) rfl rfl (hb hby at_181) _ ?_
      show Steps p.tables e below (T67.setTop (mkF m 182 #[.val (.int p0), .val (.ref b1), .val (.int (18 : Int32)), .val (.int (0 : Int32))] [(.ref w_UNION)])) _
      refine st251.trans ?_
      show Steps p.tables e below (T251.setTop (mkF m 185 #[.val (.int p0), .val (.ref b1), .val (.int (18 : Int32)), .val (.int (0 : Int32))] [(.int (0 : Int32))])) _
      refine XS.iloadN X251.here hx rfl (hb hby at_185) rfl ?_
      show Steps p.tables e below (T251.setTop (mkF m 186 #[.val (.int p0), .val (.ref b1), .val (.int (18 : Int32)), .val (.int (0 : Int32))] [(.int (0 : Int32)), (.int (0 : Int32))])) _
      refine XS.icmpNo X251.here hx rfl (hb hby at_186) rfl (teq (by decide : (0 : Int32) = (0 : Int32))).2 ?_
      show Steps p.tables e below (T251.setTop (mkF m 189 #[.val (.int p0), .val (.ref b1), .val (.int (18 : Int32)), .val (.int (0 : Int32))] [])) _
      refine XS.iconst X251.here hx rfl (hb hby at_189) ?_
      show Steps p.tables e below (T251.setTop (mkF m 190 #[.val (.int p0), .val (.ref b1), .val (.int (18 : Int32)), .val (.int (0 : Int32))] [(.int (1 : Int32))])) _
      refine XS.goto X251.here hx rfl (pc0 := 190) (pc' := 194) rfl (hb hby at_190) (by decide) (by decide) ?_
      exact kt
    obtain ⟨fs, hr, hrun, hended, hW, hsame⟩ := X251.leave (v := some (.int (1 : Int32))) (fun h => by rw [Bd.returns] at h; cases h)
    refine ⟨_, _, pre256 _ ?_, hrun, hended, _, _, rfl, ?_, ⟨_, rfl⟩, hW, hsame.mono (by decide) (by decide)⟩
    · show Steps p.tables e below (T251.setTop (mkF m 194 #[.val (.int p0), .val (.ref b1), .val (.int (18 : Int32)), .val (.int (0 : Int32))] [(.int (1 : Int32))])) _
      exact retN X251 hx (t := .boolean) Bd.returns (by simp) (hb hby at_194) hr
    · show Q_rm0 Z p0 w_BLOB w_BOOLEAN w_DOCUMENT w_STRING w_BYTE w_SHORT w_INTEGER w_LONG w_FLOAT w_DOUBLE w_BIG_INTEGER w_BIG_DECIMAL w_TIMESTAMP w_ENUM w_INT_ENUM w_LIST w_MAP w_STRUCTURE w_UNION w_SERVICE w_OPERATION w_RESOURCE h0 n0 _ T251.heap _
      rw [e251]
      exact ⟨rfl, N251⟩
  · rw [hk] at pre68
    have vt259 := V_b1
    obtain ⟨cl259, Ar259, q259, S259, Ng259, Ha259, G259⟩ := vt259
    have hin259 : ¬ ((19 : Int32) < 0 ∨ cl259.slots.size ≤ ((19 : Int32)).toNatClampNeg) := inb_of S259 ⟨by decide, by decide⟩
    have hat259 : cl259.slots[((19 : Int32)).toNatClampNeg]? = some (.ref w_SERVICE) := Ha259.at hin259 rfl
    obtain ⟨lc260, X260, N260⟩ := own_pack X67 N67
    obtain ⟨cq261, kq261, q261a, q261b, q261c⟩ := isOf hZ e67 (E_SERVICE.ext O67.2)
    obtain ⟨_, _, ⟨T261, L261, k261, n261⟩, -, X261, ⟨Lc261, hQ261, l261, y261, z261⟩, st261⟩ := X260.virtualBack hx (y := (⟨"com/example/shapewright/shapewright/model/ShapeType", "isString", "()Z"⟩ : MethodName)) (z := (⟨"com/example/shapewright/shapewright/model/ShapeType", "isString", "()Z"⟩ : MethodName)) hown (mvT hZ (hw _ (List.mem_of_getElem? (i := 49) rfl))) (mvT hZ (hw _ (List.mem_of_getElem? (i := 50) rfl))) (notFace_of_selects (args := #[]) (mvT hZ (hw _ (List.mem_of_getElem? (i := 52) rfl)))) (mvT hZ (hw _ (List.mem_of_getElem? (i := 52) rfl))) (mvT hZ (hw _ (List.mem_of_getElem? (i := 51) rfl))) (by decide) (backOf (W := 0) (rm_isString_20 l Z a0 hw [] w_STRING w_SERVICE w_ENUM h67 n0 O67  S_STRING F_ordinal_SERVICE F_ordinal_STRING S_ENUM F_ordinal_ENUM) hZ (hw _ (List.mem_of_getElem? (i := 53) rfl)) (hw _ (List.mem_of_getElem? (i := 3) rfl)) (by decide) (by decide)) q261a q261c (g := (mkF m 182 #[.val (.int p0), .val (.ref b1), .val (.int (19 : Int32)), .val (.int (0 : Int32))] [(.ref w_SERVICE)])) rfl (by rw [hml]; rfl) (Steps.refl _) (argsL := []) (rest := []) (lenOf pd___Z rfl) rfl (by show 2 * 0 + _ ≤ _; exact Nat.le_of_eq rfl) (hb hby at_182) (fun _ _ => ⟨rfl, e67, (by decide : 1 + 0 ≤ _), (by decide : 22 + 0 ≤ _)⟩)
    dsimp only [Pt.U, Pt.locs, Pt.cells, Pt.slots] at X261 l261 y261 z261 st261 hQ261
    subst l261 y261 z261
    obtain ⟨rfl, N261q, e261⟩ := hQ261
    have N261 := Fr.app N260 N261q
    have pre266 : ∀ t, Steps p.tables e below (T261.setTop (mkF m 194 #[.val (.int p0), .val (.ref b1), .val (.int (19 : Int32)), .val (.int (0 : Int32))] [(.int (1 : Int32))])) t → Steps p.tables e below (s₁.setTop (entryFrame m #[(.int p0)] maxLocals)) t := by
      intro t kt
      refine pre68 t ?_
      show Steps p.tables e below (T67.setTop (mkF m 162 #[.val (.int p0), .val (.ref b1), .val (.int (19 : Int32)), .unset] [])) _
      refine XS.iloadN X67.here hx rfl (hb hby at_162) rfl ?_
      show Steps p.tables e below (T67.setTop (mkF m 163 #[.val (.int p0), .val (.ref b1), .val (.int (19 : Int32)), .unset] [(.int (19 : Int32))])) _
      refine XS.iconst X67.here hx rfl (hb hby at_163) ?_
      show Steps p.tables e below (T67.setTop (mkF m 164 #[.val (.int p0), .val (.ref b1), .val (.int (19 : Int32)), .unset] [(.int (3 : Int32)), (.int (19 : Int32))])) _
      refine XS.icmpNo X67.here hx rfl (hb hby at_164) rfl (feq (by decide : ¬ ((19 : Int32) = (3 : Int32)))).1 ?_
      show Steps p.tables e below (T67.setTop (mkF m 167 #[.val (.int p0), .val (.ref b1), .val (.int (19 : Int32)), .unset] [])) _
      refine XS.iloadN X67.here hx rfl (hb hby at_167) rfl ?_
      show Steps p.tables e below (T67.setTop (mkF m 168 #[.val (.int p0), .val (.ref b1), .val (.int (19 : Int32)), .unset] [(.int (19 : Int32))])) _
      refine XS.bipush X67.here hx rfl (hb hby at_168) ?_
      show Steps p.tables e below (T67.setTop (mkF m 170 #[.val (.int p0), .val (.ref b1), .val (.int (19 : Int32)), .unset] [(.int (13 : Int32)), (.int (19 : Int32))])) _
      refine XS.icmpYes X67.here hx rfl (pc0 := 170) (pc' := 177) rfl (hb hby at_170) rfl (feq (by decide : ¬ ((19 : Int32) = (13 : Int32)))).2 (by decide) (by decide) ?_
      show Steps p.tables e below (T67.setTop (mkF m 177 #[.val (.int p0), .val (.ref b1), .val (.int (19 : Int32)), .unset] [])) _
      refine XS.iconst X67.here hx rfl (hb hby at_177) ?_
      show Steps p.tables e below (T67.setTop (mkF m 178 #[.val (.int p0), .val (.ref b1), .val (.int (19 : Int32)), .unset] [(.int (0 : Int32))])) _
      refine XS.istoreN X67.here hx rfl (hb hby at_178) rfl (l' := #[.val (.int p0), .val (.ref b1), .val (.int (19 : Int32)), .val (.int (0 : Int32))]) rfl ?_
      show Steps p.tables e below (T67.setTop (mkF m 179 #[.val (.int p0), .val (.ref b1), .val (.int (19 : Int32)), .val (.int (0 : Int32))] [])) _
      refine XS.aloadN X67.here hx rfl (hb hby at_179) rfl rfl ?_
      show Steps p.tables e below (T67.setTop (mkF m 180 #[.val (.int p0), .val (.ref b1), .val (.int (19 : Int32)), .val (.int (0 : Int32))] [(.ref b1)])) _
      refine XS.iloadN X67.here hx rfl (hb hby at_180) rfl ?_
      show Steps p.tables e below (T67.setTop (mkF m 181 #[.val (.int p0), .val (.ref b1), .val (.int (19 : Int32)), .val (.int (0 : Int32))] [(.int (19 : Int32)), (.ref b1)])) _
      refine X67.aaload hx (j := (19 : Int32)) (v := (.ref w_SERVICE)) (by rw [e67]; exact Ar259.1) (State.isArrayOf_alike hZ.alike Ar259.2.1) rfl Ar259.2.2 hin259 hat259 (g := (mkF m 181 #[.val (.int p0), .val (.ref b1), .val (.int (19 : Int32)), .val (.int (0 : Int32))] [(.int (19 : Int32)), (.ref b1)])) rfl rfl (hb hby at_181) _ ?_
      show Steps p.tables e below (T67.setTop (mkF m 182 #[.val (.int p0), .val (.ref b1), .val (.int (19 : Int32)), .val (.int (0 : Int32))] [(.ref w_SERVICE)])) _
      refine st261.trans ?_
      show Steps p.tables e below (T261.setTop (mkF m 185 #[.val (.int p0), .val (.ref b1), .val (.int (19 : Int32)), .val (.int (0 : Int32))] [(.int (0 : Int32))])) _
      refine XS.iloadN X261.here hx rfl (hb hby at_185) rfl ?_
      show Steps p.tables e below (T261.setTop (mkF m 186 #[.val (.int p0), .val (.ref b1), .val (.int (19 : Int32)), .val (.int (0 : Int32))] [(.int (0 : Int32)), (.int (0 : Int32))])) _
      refine XS.icmpNo X261.here hx rfl (hb hby at_186) rfl (teq (by decide : (0 : Int32) = (0 : Int32))).2 ?_
      show Steps p.tables e below (T261.setTop (mkF m 189 #[.val (.int p0), .val (.ref b1), .val (.int (19 : Int32)), .val (.int (0 : Int32))] [])) _
      refine XS.iconst X261.here hx rfl (hb hby at_189) ?_
      show Steps p.tables e below (T261.setTop (mkF m 190 #[.val (.int p0), .val (.ref b1), .val (.int (19 : Int32)), .val (.int (0 : Int32))] [(.int (1 : Int32))])) _
      refine XS.goto X261.here hx rfl (pc0 := 190) (pc' := 194) rfl (hb hby at_190) (by decide) (by decide) ?_
      exact kt
    obtain ⟨fs, hr, hrun, hended, hW, hsame⟩ := X261.leave (v := some (.int (1 : Int32))) (fun h => by rw [Bd.returns] at h; cases h)
    refine ⟨_, _, pre266 _ ?_, hrun, hended, _, _, rfl, ?_, ⟨_, rfl⟩, hW, hsame.mono (by decide) (by decide)⟩
    · show Steps p.tables e below (T261.setTop (mkF m 194 #[.val (.int p0), .val (.ref b1), .val (.int (19 : Int32)), .val (.int (0 : Int32))] [(.int (1 : Int32))])) _
      exact retN X261 hx (t := .boolean) Bd.returns (by simp) (hb hby at_194) hr
    · show Q_rm0 Z p0 w_BLOB w_BOOLEAN w_DOCUMENT w_STRING w_BYTE w_SHORT w_INTEGER w_LONG w_FLOAT w_DOUBLE w_BIG_INTEGER w_BIG_DECIMAL w_TIMESTAMP w_ENUM w_INT_ENUM w_LIST w_MAP w_STRUCTURE w_UNION w_SERVICE w_OPERATION w_RESOURCE h0 n0 _ T261.heap _
      rw [e261]
      exact ⟨rfl, N261⟩
  · rw [hk] at pre68
    have vt269 := V_b1
    obtain ⟨cl269, Ar269, q269, S269, Ng269, Ha269, G269⟩ := vt269
    have hin269 : ¬ ((20 : Int32) < 0 ∨ cl269.slots.size ≤ ((20 : Int32)).toNatClampNeg) := inb_of S269 ⟨by decide, by decide⟩
    have hat269 : cl269.slots[((20 : Int32)).toNatClampNeg]? = some (.ref w_OPERATION) := Ha269.at hin269 rfl
    obtain ⟨lc270, X270, N270⟩ := own_pack X67 N67
    obtain ⟨cq271, kq271, q271a, q271b, q271c⟩ := isOf hZ e67 (E_OPERATION.ext O67.2)
    obtain ⟨_, _, ⟨T271, L271, k271, n271⟩, -, X271, ⟨Lc271, hQ271, l271, y271, z271⟩, st271⟩ := X270.virtualBack hx (y := (⟨"com/example/shapewright/shapewright/model/ShapeType", "isString", "()Z"⟩ : MethodName)) (z := (⟨"com/example/shapewright/shapewright/model/ShapeType", "isString", "()Z"⟩ : MethodName)) hown (mvT hZ (hw _ (List.mem_of_getElem? (i := 49) rfl))) (mvT hZ (hw _ (List.mem_of_getElem? (i := 50) rfl))) (notFace_of_selects (args := #[]) (mvT hZ (hw _ (List.mem_of_getElem? (i := 52) rfl)))) (mvT hZ (hw _ (List.mem_of_getElem? (i := 52) rfl))) (mvT hZ (hw _ (List.mem_of_getElem? (i := 51) rfl))) (by decide) (backOf (W := 0) (rm_isString_21 l Z a0 hw [] w_STRING w_OPERATION w_ENUM h67 n0 O67  S_STRING F_ordinal_OPERATION F_ordinal_STRING S_ENUM F_ordinal_ENUM) hZ (hw _ (List.mem_of_getElem? (i := 53) rfl)) (hw _ (List.mem_of_getElem? (i := 3) rfl)) (by decide) (by decide)) q271a q271c (g := (mkF m 182 #[.val (.int p0), .val (.ref b1), .val (.int (20 : Int32)), .val (.int (0 : Int32))] [(.ref w_OPERATION)])) rfl (by rw [hml]; rfl) (Steps.refl _) (argsL := []) (rest := []) (lenOf pd___Z rfl) rfl (by show 2 * 0 + _ ≤ _; exact Nat.le_of_eq rfl) (hb hby at_182) (fun _ _ => ⟨rfl, e67, (by decide : 1 + 0 ≤ _), (by decide : 22 + 0 ≤ _)⟩)
    dsimp only [Pt.U, Pt.locs, Pt.cells, Pt.slots] at X271 l271 y271 z271 st271 hQ271
    subst l271 y271 z271
    obtain ⟨rfl, N271q, e271⟩ := hQ271
    have N271 := Fr.app N270 N271q
    have pre276 : ∀ t, Steps p.tables e below (T271.setTop (mkF m 194 #[.val (.int p0), .val (.ref b1), .val (.int (20 : Int32)), .val (.int (0 : Int32))] [(.int (1 : Int32))])) t → Steps p.tables e below (s₁.setTop (entryFrame m #[(.int p0)] maxLocals)) t := by
      intro t kt
      refine pre68 t ?_
      show Steps p.tables e below (T67.setTop (mkF m 162 #[.val (.int p0), .val (.ref b1), .val (.int (20 : Int32)), .unset] [])) _
      refine XS.iloadN X67.here hx rfl (hb hby at_162) rfl ?_
      show Steps p.tables e below (T67.setTop (mkF m 163 #[.val (.int p0), .val (.ref b1), .val (.int (20 : Int32)), .unset] [(.int (20 : Int32))])) _
      refine XS.iconst X67.here hx rfl (hb hby at_163) ?_
      show Steps p.tables e below (T67.setTop (mkF m 164 #[.val (.int p0), .val (.ref b1), .val (.int (20 : Int32)), .unset] [(.int (3 : Int32)), (.int (20 : Int32))])) _
      refine XS.icmpNo X67.here hx rfl (hb hby at_164) rfl (feq (by decide : ¬ ((20 : Int32) = (3 : Int32)))).1 ?_
      show Steps p.tables e below (T67.setTop (mkF m 167 #[.val (.int p0), .val (.ref b1), .val (.int (20 : Int32)), .unset] [])) _
      refine XS.iloadN X67.here hx rfl (hb hby at_167) rfl ?_
      show Steps p.tables e below (T67.setTop (mkF m 168 #[.val (.int p0), .val (.ref b1), .val (.int (20 : Int32)), .unset] [(.int (20 : Int32))])) _
      refine XS.bipush X67.here hx rfl (hb hby at_168) ?_
      show Steps p.tables e below (T67.setTop (mkF m 170 #[.val (.int p0), .val (.ref b1), .val (.int (20 : Int32)), .unset] [(.int (13 : Int32)), (.int (20 : Int32))])) _
      refine XS.icmpYes X67.here hx rfl (pc0 := 170) (pc' := 177) rfl (hb hby at_170) rfl (feq (by decide : ¬ ((20 : Int32) = (13 : Int32)))).2 (by decide) (by decide) ?_
      show Steps p.tables e below (T67.setTop (mkF m 177 #[.val (.int p0), .val (.ref b1), .val (.int (20 : Int32)), .unset] [])) _
      refine XS.iconst X67.here hx rfl (hb hby at_177) ?_
      show Steps p.tables e below (T67.setTop (mkF m 178 #[.val (.int p0), .val (.ref b1), .val (.int (20 : Int32)), .unset] [(.int (0 : Int32))])) _
      refine XS.istoreN X67.here hx rfl (hb hby at_178) rfl (l' := #[.val (.int p0), .val (.ref b1), .val (.int (20 : Int32)), .val (.int (0 : Int32))]) rfl ?_
      show Steps p.tables e below (T67.setTop (mkF m 179 #[.val (.int p0), .val (.ref b1), .val (.int (20 : Int32)), .val (.int (0 : Int32))] [])) _
      refine XS.aloadN X67.here hx rfl (hb hby at_179) rfl rfl ?_
      show Steps p.tables e below (T67.setTop (mkF m 180 #[.val (.int p0), .val (.ref b1), .val (.int (20 : Int32)), .val (.int (0 : Int32))] [(.ref b1)])) _
      refine XS.iloadN X67.here hx rfl (hb hby at_180) rfl ?_
      show Steps p.tables e below (T67.setTop (mkF m 181 #[.val (.int p0), .val (.ref b1), .val (.int (20 : Int32)), .val (.int (0 : Int32))] [(.int (20 : Int32)), (.ref b1)])) _
      refine X67.aaload hx (j := (20 : Int32)) (v := (.ref w_OPERATION)) (by rw [e67]; exact Ar269.1) (State.isArrayOf_alike hZ.alike Ar269.2.1) rfl Ar269.2.2 hin269 hat269 (g := (mkF m 181 #[.val (.int p0), .val (.ref b1), .val (.int (20 : Int32)), .val (.int (0 : Int32))] [(.int (20 : Int32)), (.ref b1)])) rfl rfl (hb hby at_181) _ ?_
      show Steps p.tables e below (T67.setTop (mkF m 182 #[.val (.int p0), .val (.ref b1), .val (.int (20 : Int32)), .val (.int (0 : Int32))] [(.ref w_OPERATION)])) _
      refine st271.trans ?_
      show Steps p.tables e below (T271.setTop (mkF m 185 #[.val (.int p0), .val (.ref b1), .val (.int (20 : Int32)), .val (.int (0 : Int32))] [(.int (0 : Int32))])) _
      refine XS.iloadN X271.here hx rfl (hb hby at_185) rfl ?_
      show Steps p.tables e below (T271.setTop (mkF m 186 #[.val (.int p0), .val (.ref b1), .val (.int (20 : Int32)), .val (.int (0 : Int32))] [(.int (0 : Int32)), (.int (0 : Int32))])) _
      refine XS.icmpNo X271.here hx rfl (hb hby at_186) rfl (teq (by decide : (0 : Int32) = (0 : Int32))).2 ?_
      show Steps p.tables e below (T271.setTop (mkF m 189 #[.val (.int p0), .val (.ref b1), .val (.int (20 : Int32)), .val (.int (0 : Int32))] [])) _
      refine XS.iconst X271.here hx rfl (hb hby at_189) ?_
      show Steps p.tables e below (T271.setTop (mkF m 190 #[.val (.int p0), .val (.ref b1), .val (.int (20 : Int32)), .val (.int (0 : Int32))] [(.int (1 : Int32))])) _
      refine XS.goto X271.here hx rfl (pc0 := 190) (pc' := 194) rfl (hb hby at_190) (by decide) (by decide) ?_
      exact kt
    obtain ⟨fs, hr, hrun, hended, hW, hsame⟩ := X271.leave (v := some (.int (1 : Int32))) (fun h => by rw [Bd.returns] at h; cases h)
    refine ⟨_, _, pre276 _ ?_, hrun, hended, _, _, rfl, ?_, ⟨_, rfl⟩, hW, hsame.mono (by decide) (by decide)⟩
    · show Steps p.tables e below (T271.setTop (mkF m 194 #[.val (.int p0), .val (.ref b1), .val (.int (20 : Int32)), .val (.int (0 : Int32))] [(.int (1 : Int32))])) _
      exact retN X271 hx (t := .boolean) Bd.returns (by simp) (hb hby at_194) hr
    · show Q_rm0 Z p0 w_BLOB w_BOOLEAN w_DOCUMENT w_STRING w_BYTE w_SHORT w_INTEGER w_LONG w_FLOAT w_DOUBLE w_BIG_INTEGER w_BIG_DECIMAL w_TIMESTAMP w_ENUM w_INT_ENUM w_LIST w_MAP w_STRUCTURE w_UNION w_SERVICE w_OPERATION w_RESOURCE h0 n0 _ T271.heap _
      rw [e271]
      exact ⟨rfl, N271⟩
  · rw [hk] at pre68
    have vt279 := V_b1
    obtain ⟨cl279, Ar279, q279, S279, Ng279, Ha279, G279⟩ := vt279
    have hin279 : ¬ ((21 : Int32) < 0 ∨ cl279.slots.size ≤ ((21 : Int32)).toNatClampNeg) := inb_of S279 ⟨by decide, by decide⟩
    have hat279 : cl279.slots[((21 : Int32)).toNatClampNeg]? = some (.ref w_RESOURCE) := Ha279.at hin279 rfl
    obtain ⟨lc280, X280, N280⟩ := own_pack X67 N67
    obtain ⟨cq281, kq281, q281a, q281b, q281c⟩ := isOf hZ e67 (E_RESOURCE.ext O67.2)
    obtain ⟨_, _, ⟨T281, L281, k281, n281⟩, -, X281, ⟨Lc281, hQ281, l281, y281, z281⟩, st281⟩ := X280.virtualBack hx (y := (⟨"com/example/shapewright/shapewright/model/ShapeType", "isString", "()Z"⟩ : MethodName)) (z := (⟨"com/example/shapewright/shapewright/model/ShapeType", "isString", "()Z"⟩ : MethodName)) hown (mvT hZ (hw _ (List.mem_of_getElem? (i := 49) rfl))) (mvT hZ (hw _ (List.mem_of_getElem? (i := 50) rfl))) (notFace_of_selects (args := #[]) (mvT hZ (hw _ (List.mem_of_getElem? (i := 52) rfl)))) (mvT hZ (hw _ (List.mem_of_getElem? (i := 52) rfl))) (mvT hZ (hw _ (List.mem_of_getElem? (i := 51) rfl))) (by decide) (backOf (W := 0) (rm_isString_22 l Z a0 hw [] w_STRING w_RESOURCE w_ENUM h67 n0 O67  S_STRING F_ordinal_RESOURCE F_ordinal_STRING S_ENUM F_ordinal_ENUM) hZ (hw _ (List.mem_of_getElem? (i := 53) rfl)) (hw _ (List.mem_of_getElem? (i := 3) rfl)) (by decide) (by decide)) q281a q281c (g := (mkF m 182 #[.val (.int p0), .val (.ref b1), .val (.int (21 : Int32)), .val (.int (0 : Int32))] [(.ref w_RESOURCE)])) rfl (by rw [hml]; rfl) (Steps.refl _) (argsL := []) (rest := []) (lenOf pd___Z rfl) rfl (by show 2 * 0 + _ ≤ _; exact Nat.le_of_eq rfl) (hb hby at_182) (fun _ _ => ⟨rfl, e67, (by decide : 1 + 0 ≤ _), (by decide : 22 + 0 ≤ _)⟩)
    dsimp only [Pt.U, Pt.locs, Pt.cells, Pt.slots] at X281 l281 y281 z281 st281 hQ281
    subst l281 y281 z281
    obtain ⟨rfl, N281q, e281⟩ := hQ281
    have N281 := Fr.app N280 N281q
    have pre286 : ∀ t, Steps p.tables e below (T281.setTop (mkF m 194 #[.val (.int p0), .val (.ref b1), .val (.int (21 : Int32)), .val (.int (0 : Int32))] [(.int (1 : Int32))])) t → Steps p.tables e below (s₁.setTop (entryFrame m #[(.int p0)] maxLocals)) t := by
      intro t kt
      refine pre68 t ?_
      show Steps p.tables e below (T67.setTop (mkF m 162 #[.val (.int p0), .val (.ref b1), .val (.int (21 : Int32)), .unset] [])) _
      refine XS.iloadN X67.here hx rfl (hb hby at_162) rfl ?_
      show Steps p.tables e below (T67.setTop (mkF m 163 #[.val (.int p0), .val (.ref b1), .val (.int (21 : Int32)), .unset] [(.int (21 : Int32))])) _
      refine XS.iconst X67.here hx rfl (hb hby at_163) ?_
      show Steps p.tables e below (T67.setTop (mkF m 164 #[.val (.int p0), .val (.ref b1), .val (.int (21 : Int32)), .unset] [(.int (3 : Int32)), (.int (21 : Int32))])) _
      refine XS.icmpNo X67.here hx rfl (hb hby at_164) rfl (feq (by decide : ¬ ((21 : Int32) = (3 : Int32)))).1 ?_
      show Steps p.tables e below (T67.setTop (mkF m 167 #[.val (.int p0), .val (.ref b1), .val (.int (21 : Int32)), .unset] [])) _
      refine XS.iloadN X67.here hx rfl (hb hby at_167) rfl ?_
      show Steps p.tables e below (T67.setTop (mkF m 168 #[.val (.int p0), .val (.ref b1), .val (.int (21 : Int32)), .unset] [(.int (21 : Int32))])) _
      refine XS.bipush X67.here hx rfl (hb hby at_168) ?_
      show Steps p.tables e below (T67.setTop (mkF m 170 #[.val (.int p0), .val (.ref b1), .val (.int (21 : Int32)), .unset] [(.int (13 : Int32)), (.int (21 : Int32))])) _
      refine XS.icmpYes X67.here hx rfl (pc0 := 170) (pc' := 177) rfl (hb hby at_170) rfl (feq (by decide : ¬ ((21 : Int32) = (13 : Int32)))).2 (by decide) (by decide) ?_
      show Steps p.tables e below (T67.setTop (mkF m 177 #[.val (.int p0), .val (.ref b1), .val (.int (21 : Int32)), .unset] [])) _
      refine XS.iconst X67.here hx rfl (hb hby at_177) ?_
      show Steps p.tables e below (T67.setTop (mkF m 178 #[.val (.int p0), .val (.ref b1), .val (.int (21 : Int32)), .unset] [(.int (0 : Int32))])) _
      refine XS.istoreN X67.here hx rfl (hb hby at_178) rfl (l' := #[.val (.int p0), .val (.ref b1), .val (.int (21 : Int32)), .val (.int (0 : Int32))]) rfl ?_
      show Steps p.tables e below (T67.setTop (mkF m 179 #[.val (.int p0), .val (.ref b1), .val (.int (21 : Int32)), .val (.int (0 : Int32))] [])) _
      refine XS.aloadN X67.here hx rfl (hb hby at_179) rfl rfl ?_
      show Steps p.tables e below (T67.setTop (mkF m 180 #[.val (.int p0), .val (.ref b1), .val (.int (21 : Int32)), .val (.int (0 : Int32))] [(.ref b1)])) _
      refine XS.iloadN X67.here hx rfl (hb hby at_180) rfl ?_
      show Steps p.tables e below (T67.setTop (mkF m 181 #[.val (.int p0), .val (.ref b1), .val (.int (21 : Int32)), .val (.int (0 : Int32))] [(.int (21 : Int32)), (.ref b1)])) _
      refine X67.aaload hx (j := (21 : Int32)) (v := (.ref w_RESOURCE)) (by rw [e67]; exact Ar279.1) (State.isArrayOf_alike hZ.alike Ar279.2.1) rfl Ar279.2.2 hin279 hat279 (g := (mkF m 181 #[.val (.int p0), .val (.ref b1), .val (.int (21 : Int32)), .val (.int (0 : Int32))] [(.int (21 : Int32)), (.ref b1)])) rfl rfl (hb hby at_181) _ ?_
      show Steps p.tables e below (T67.setTop (mkF m 182 #[.val (.int p0), .val (.ref b1), .val (.int (21 : Int32)), .val (.int (0 : Int32))] [(.ref w_RESOURCE)])) _
      refine st281.trans ?_
      show Steps p.tables e below (T281.setTop (mkF m 185 #[.val (.int p0), .val (.ref b1), .val (.int (21 : Int32)), .val (.int (0 : Int32))] [(.int (0 : Int32))])) _
      refine XS.iloadN X281.here hx rfl (hb hby at_185) rfl ?_
      show Steps p.tables e below (T281.setTop (mkF m 186 #[.val (.int p0), .val (.ref b1), .val (.int (21 : Int32)), .val (.int (0 : Int32))] [(.int (0 : Int32)), (.int (0 : Int32))])) _
      refine XS.icmpNo X281.here hx rfl (hb hby at_186) rfl (teq (by decide : (0 : Int32) = (0 : Int32))).2 ?_
      show Steps p.tables e below (T281.setTop (mkF m 189 #[.val (.int p0), .val (.ref b1), .val (.int (21 : Int32)), .val (.int (0 : Int32))] [])) _
      refine XS.iconst X281.here hx rfl (hb hby at_189) ?_
      show Steps p.tables e below (T281.setTop (mkF m 190 #[.val (.int p0), .val (.ref b1), .val (.int (21 : Int32)), .val (.int (0 : Int32))] [(.int (1 : Int32))])) _
      refine XS.goto X281.here hx rfl (pc0 := 190) (pc' := 194) rfl (hb hby at_190) (by decide) (by decide) ?_
      exact kt
    obtain ⟨fs, hr, hrun, hended, hW, hsame⟩ := X281.leave (v := some (.int (1 : Int32))) (fun h => by rw [Bd.returns] at h; cases h)
    refine ⟨_, _, pre286 _ ?_, hrun, hended, _, _, rfl, ?_, ⟨_, rfl⟩, hW, hsame.mono (by decide) (by decide)⟩
    · show Steps p.tables e below (T281.setTop (mkF m 194 #[.val (.int p0), .val (.ref b1), .val (.int (21 : Int32)), .val (.int (0 : Int32))] [(.int (1 : Int32))])) _
      exact retN X281 hx (t := .boolean) Bd.returns (by simp) (hb hby at_194) hr
    · show Q_rm0 Z p0 w_BLOB w_BOOLEAN w_DOCUMENT w_STRING w_BYTE w_SHORT w_INTEGER w_LONG w_FLOAT w_DOUBLE w_BIG_INTEGER w_BIG_DECIMAL w_TIMESTAMP w_ENUM w_INT_ENUM w_LIST w_MAP w_STRUCTURE w_UNION w_SERVICE w_OPERATION w_RESOURCE h0 n0 _ T281.heap _
      rw [e281]
      exact ⟨rfl, N281⟩
set_option maxRecDepth 65536 in
set_option maxHeartbeats 40000000 in
theorem comes_1 {Post : Tables → Env → Array Value → State → Outcome → State → Prop} (hpost : ∀ tb e args s v u, (limb_1_1.after args s (.returned v) u = true ∧ limb_1_2.after args s (.returned v) u = true ∧ True) → FrameEnd s (.returned v) u (Jvm.fieldLocs frame_1_writes args s ++ Jvm.arrayLocs frame_1_arrays args s ++ Jvm.staticLocs frame_1_statics s) 16 128 → Post tb e args s (.returned v) u) :
    ArmFor flags0 classFile x code maxLocals ret World_1 tables_1 room_1 Calls_1 rest_1 Pre_1 Post := by
  intro l hfl _ _ p e ha hc hk s m args below hf hA hF happ hP
  obtain ⟨hcalls, hrest, hpre⟩ := hP
  obtain ⟨-, -, -, hnamed, -, -, -, hat⟩ := (Spec.applies_iff hf).mp happ
  obtain ⟨hg, hn⟩ := and_e (Cond.before_iff.mp (show (Jvm.Cond.and given_1 narrow_1).before args s = true from hpre))
  have hw := fun d (hd : d ∈ tables_1) => atoms_spec (ws := Jvm.Cond.code x code maxLocals ret :: tables_1) hat d (List.mem_cons_of_mem _ hd)
  obtain ⟨g1, g2⟩ := and_e hg
  obtain ⟨g3, g4⟩ := and_e hn
  obtain ⟨g5, g6⟩ := and_e g4
  obtain ⟨g7, g8⟩ := and_e g6
  obtain ⟨g9, g10⟩ := and_e g8
  obtain ⟨g11, g12⟩ := and_e g10
  obtain ⟨g13, g14⟩ := and_e g12
  obtain ⟨g15, g16⟩ := and_e g14
  obtain ⟨g17, g18⟩ := and_e g16
  obtain ⟨g19, g20⟩ := and_e g18
  obtain ⟨g21, g22⟩ := and_e g20
  obtain ⟨g23, g24⟩ := and_e g22
  obtain ⟨g25, g26⟩ := and_e g24
  obtain ⟨g27, g28⟩ := and_e g26
  obtain ⟨g29, g30⟩ := and_e g28
  obtain ⟨g31, g32⟩ := and_e g30
  obtain ⟨g33, g34⟩ := and_e g32
  obtain ⟨g35, g36⟩ := and_e g34
  obtain ⟨g37, g38⟩ := and_e g36
  obtain ⟨g39, g40⟩ := and_e g38
  obtain ⟨g41, g42⟩ := and_e g40
  obtain ⟨g43, g44⟩ := and_e g42
  obtain ⟨g45, g46⟩ := and_e g44
  obtain ⟨g47, g48⟩ := and_e g46
  obtain ⟨g49, g50⟩ := and_e g48
  obtain ⟨g51, g52⟩ := and_e g50
  obtain ⟨g53, g54⟩ := and_e g52
  obtain ⟨g55, g56⟩ := and_e g54
  obtain ⟨g57, g58⟩ := and_e g56
  obtain ⟨g59, g60⟩ := and_e g58
  obtain ⟨g61, g62⟩ := and_e g60
  obtain ⟨g63, g64⟩ := and_e g62
  obtain ⟨g65, g66⟩ := and_e g64
  obtain ⟨g67, g68⟩ := and_e g66
  obtain ⟨g69, g70⟩ := and_e g68
  obtain ⟨g71, g72⟩ := and_e g70
  obtain ⟨g73, g74⟩ := and_e g72
  obtain ⟨g75, g76⟩ := and_e g74
  obtain ⟨g77, g78⟩ := and_e g76
  obtain ⟨g79, g80⟩ := and_e g78
  obtain ⟨g81, g82⟩ := and_e g80
  obtain ⟨g83, g84⟩ := and_e g82
  obtain ⟨g85, g86⟩ := and_e g84
  obtain ⟨g87, g88⟩ := and_e g86
  obtain ⟨w_BLOB, ev_BLOB⟩ := exa_v g3
  have S_BLOB : Sta s s.heap "com/example/shapewright/shapewright/model/ShapeType" "BLOB" "Lcom/example/shapewright/shapewright/model/ShapeType;" (.ref w_BLOB) := Sta.start ev_BLOB (Or.inr ⟨(hw _ (List.mem_of_getElem? (i := 3) rfl)), (hw _ (List.mem_of_getElem? (i := 4) rfl))⟩)
  have E_BLOB := Exa.start ev_BLOB g3
  obtain ⟨w_BOOLEAN, ev_BOOLEAN⟩ := exa_v g5
  have S_BOOLEAN : Sta s s.heap "com/example/shapewright/shapewright/model/ShapeType" "BOOLEAN" "Lcom/example/shapewright/shapewright/model/ShapeType;" (.ref w_BOOLEAN) := Sta.start ev_BOOLEAN (Or.inr ⟨(hw _ (List.mem_of_getElem? (i := 3) rfl)), (hw _ (List.mem_of_getElem? (i := 7) rfl))⟩)
  have E_BOOLEAN := Exa.start ev_BOOLEAN g5
  obtain ⟨w_DOCUMENT, ev_DOCUMENT⟩ := exa_v g7
  have S_DOCUMENT : Sta s s.heap "com/example/shapewright/shapewright/model/ShapeType" "DOCUMENT" "Lcom/example/shapewright/shapewright/model/ShapeType;" (.ref w_DOCUMENT) := Sta.start ev_DOCUMENT (Or.inr ⟨(hw _ (List.mem_of_getElem? (i := 3) rfl)), (hw _ (List.mem_of_getElem? (i := 9) rfl))⟩)
  have E_DOCUMENT := Exa.start ev_DOCUMENT g7
  obtain ⟨w_STRING, ev_STRING⟩ := exa_v g9
  have S_STRING : Sta s s.heap "com/example/shapewright/shapewright/model/ShapeType" "STRING" "Lcom/example/shapewright/shapewright/model/ShapeType;" (.ref w_STRING) := Sta.start ev_STRING (Or.inr ⟨(hw _ (List.mem_of_getElem? (i := 3) rfl)), (hw _ (List.mem_of_getElem? (i := 11) rfl))⟩)
  have E_STRING := Exa.start ev_STRING g9
  obtain ⟨w_BYTE, ev_BYTE⟩ := exa_v g11
  have S_BYTE : Sta s s.heap "com/example/shapewright/shapewright/model/ShapeType" "BYTE" "Lcom/example/shapewright/shapewright/model/ShapeType;" (.ref w_BYTE) := Sta.start ev_BYTE (Or.inr ⟨(hw _ (List.mem_of_getElem? (i := 3) rfl)), (hw _ (List.mem_of_getElem? (i := 13) rfl))⟩)
  have E_BYTE := Exa.start ev_BYTE g11
  obtain ⟨w_SHORT, ev_SHORT⟩ := exa_v g13
  have S_SHORT : Sta s s.heap "com/example/shapewright/shapewright/model/ShapeType" "SHORT" "Lcom/example/shapewright/shapewright/model/ShapeType;" (.ref w_SHORT) := Sta.start ev_SHORT (Or.inr ⟨(hw _ (List.mem_of_getElem? (i := 3) rfl)), (hw _ (List.mem_of_getElem? (i := 15) rfl))⟩)
  have E_SHORT := Exa.start ev_SHORT g13
  obtain ⟨w_INTEGER, ev_INTEGER⟩ := exa_v g15
  have S_INTEGER : Sta s s.heap "com/example/shapewright/shapewright/model/ShapeType" "INTEGER" "Lcom/example/shapewright/shapewright/model/ShapeType;" (.ref w_INTEGER) := Sta.start ev_INTEGER (Or.inr ⟨(hw _ (List.mem_of_getElem? (i := 3) rfl)), (hw _ (List.mem_of_getElem? (i := 17) rfl))⟩)
  have E_INTEGER := Exa.start ev_INTEGER g15
  obtain ⟨w_LONG, ev_LONG⟩ := exa_v g17
  have S_LONG : Sta s s.heap "com/example/shapewright/shapewright/model/ShapeType" "LONG" "Lcom/example/shapewright/shapewright/model/ShapeType;" (.ref w_LONG) := Sta.start ev_LONG (Or.inr ⟨(hw _ (List.mem_of_getElem? (i := 3) rfl)), (hw _ (List.mem_of_getElem? (i := 19) rfl))⟩)
  have E_LONG := Exa.start ev_LONG g17
  obtain ⟨w_FLOAT, ev_FLOAT⟩ := exa_v g19
  have S_FLOAT : Sta s s.heap "com/example/shapewright/shapewright/model/ShapeType" "FLOAT" "Lcom/example/shapewright/shapewright/model/ShapeType;" (.ref w_FLOAT) := Sta.start ev_FLOAT (Or.inr ⟨(hw _ (List.mem_of_getElem? (i := 3) rfl)), (hw _ (List.mem_of_getElem? (i := 21) rfl))⟩)
  have E_FLOAT := Exa.start ev_FLOAT g19
  obtain ⟨w_DOUBLE, ev_DOUBLE⟩ := exa_v g21
  have S_DOUBLE : Sta s s.heap "com/example/shapewright/shapewright/model/ShapeType" "DOUBLE" "Lcom/example/shapewright/shapewright/model/ShapeType;" (.ref w_DOUBLE) := Sta.start ev_DOUBLE (Or.inr ⟨(hw _ (List.mem_of_getElem? (i := 3) rfl)), (hw _ (List.mem_of_getElem? (i := 23) rfl))⟩)
  have E_DOUBLE := Exa.start ev_DOUBLE g21
  obtain ⟨w_BIG_INTEGER, ev_BIG_INTEGER⟩ := exa_v g23
  have S_BIG_INTEGER : Sta s s.heap "com/example/shapewright/shapewright/model/ShapeType" "BIG_INTEGER" "Lcom/example/shapewright/shapewright/model/ShapeType;" (.ref w_BIG_INTEGER) := Sta.start ev_BIG_INTEGER (Or.inr ⟨(hw _ (List.mem_of_getElem? (i := 3) rfl)), (hw _ (List.mem_of_getElem? (i := 25) rfl))⟩)
  have E_BIG_INTEGER := Exa.start ev_BIG_INTEGER g23
  obtain ⟨w_BIG_DECIMAL, ev_BIG_DECIMAL⟩ := exa_v g25
  have S_BIG_DECIMAL : Sta s s.heap "com/example/shapewright/shapewright/model/ShapeType" "BIG_DECIMAL" "Lcom/example/shapewright/shapewright/model/ShapeType;" (.ref w_BIG_DECIMAL) := Sta.start ev_BIG_DECIMAL (Or.inr ⟨(hw _ (List.mem_of_getElem? (i := 3) rfl)), (hw _ (List.mem_of_getElem? (i := 27) rfl))⟩)
  have E_BIG_DECIMAL := Exa.start ev_BIG_DECIMAL g25
  obtain ⟨w_TIMESTAMP, ev_TIMESTAMP⟩ := exa_v g27
  have S_TIMESTAMP : Sta s s.heap "com/example/shapewright/shapewright/model/ShapeType" "TIMESTAMP" "Lcom/example/shapewright/shapewright/model/ShapeType;" (.ref w_TIMESTAMP) := Sta.start ev_TIMESTAMP (Or.inr ⟨(hw _ (List.mem_of_getElem? (i := 3) rfl)), (hw _ (List.mem_of_getElem? (i := 29) rfl))⟩)
  have E_TIMESTAMP := Exa.start ev_TIMESTAMP g27
  obtain ⟨w_ENUM, ev_ENUM⟩ := exa_v g29
  have S_ENUM : Sta s s.heap "com/example/shapewright/shapewright/model/ShapeType" "ENUM" "Lcom/example/shapewright/shapewright/model/ShapeType;" (.ref w_ENUM) := Sta.start ev_ENUM (Or.inr ⟨(hw _ (List.mem_of_getElem? (i := 3) rfl)), (hw _ (List.mem_of_getElem? (i := 31) rfl))⟩)
  have E_ENUM := Exa.start ev_ENUM g29
  obtain ⟨w_INT_ENUM, ev_INT_ENUM⟩ := exa_v g31
  have S_INT_ENUM : Sta s s.heap "com/example/shapewright/shapewright/model/ShapeType" "INT_ENUM" "Lcom/example/shapewright/shapewright/model/ShapeType;" (.ref w_INT_ENUM) := Sta.start ev_INT_ENUM (Or.inr ⟨(hw _ (List.mem_of_getElem? (i := 3) rfl)), (hw _ (List.mem_of_getElem? (i := 33) rfl))⟩)
  have E_INT_ENUM := Exa.start ev_INT_ENUM g31
  obtain ⟨w_LIST, ev_LIST⟩ := exa_v g33
  have S_LIST : Sta s s.heap "com/example/shapewright/shapewright/model/ShapeType" "LIST" "Lcom/example/shapewright/shapewright/model/ShapeType;" (.ref w_LIST) := Sta.start ev_LIST (Or.inr ⟨(hw _ (List.mem_of_getElem? (i := 3) rfl)), (hw _ (List.mem_of_getElem? (i := 35) rfl))⟩)
  have E_LIST := Exa.start ev_LIST g33
  obtain ⟨w_MAP, ev_MAP⟩ := exa_v g35
  have S_MAP : Sta s s.heap "com/example/shapewright/shapewright/model/ShapeType" "MAP" "Lcom/example/shapewright/shapewright/model/ShapeType;" (.ref w_MAP) := Sta.start ev_MAP (Or.inr ⟨(hw _ (List.mem_of_getElem? (i := 3) rfl)), (hw _ (List.mem_of_getElem? (i := 37) rfl))⟩)
  have E_MAP := Exa.start ev_MAP g35
  obtain ⟨w_STRUCTURE, ev_STRUCTURE⟩ := exa_v g37
  have S_STRUCTURE : Sta s s.heap "com/example/shapewright/shapewright/model/ShapeType" "STRUCTURE" "Lcom/example/shapewright/shapewright/model/ShapeType;" (.ref w_STRUCTURE) := Sta.start ev_STRUCTURE (Or.inr ⟨(hw _ (List.mem_of_getElem? (i := 3) rfl)), (hw _ (List.mem_of_getElem? (i := 39) rfl))⟩)
  have E_STRUCTURE := Exa.start ev_STRUCTURE g37
  obtain ⟨w_UNION, ev_UNION⟩ := exa_v g39
  have S_UNION : Sta s s.heap "com/example/shapewright/shapewright/model/ShapeType" "UNION" "Lcom/example/shapewright/shapewright/model/ShapeType;" (.ref w_UNION) := Sta.start ev_UNION (Or.inr ⟨(hw _ (List.mem_of_getElem? (i := 3) rfl)), (hw _ (List.mem_of_getElem? (i := 41) rfl))⟩)
  have E_UNION := Exa.start ev_UNION g39
  obtain ⟨w_SERVICE, ev_SERVICE⟩ := exa_v g41
  have S_SERVICE : Sta s s.heap "com/example/shapewright/shapewright/model/ShapeType" "SERVICE" "Lcom/example/shapewright/shapewright/model/ShapeType;" (.ref w_SERVICE) := Sta.start ev_SERVICE (Or.inr ⟨(hw _ (List.mem_of_getElem? (i := 3) rfl)), (hw _ (List.mem_of_getElem? (i := 43) rfl))⟩)
  have E_SERVICE := Exa.start ev_SERVICE g41
  obtain ⟨w_OPERATION, ev_OPERATION⟩ := exa_v g43
  have S_OPERATION : Sta s s.heap "com/example/shapewright/shapewright/model/ShapeType" "OPERATION" "Lcom/example/shapewright/shapewright/model/ShapeType;" (.ref w_OPERATION) := Sta.start ev_OPERATION (Or.inr ⟨(hw _ (List.mem_of_getElem? (i := 3) rfl)), (hw _ (List.mem_of_getElem? (i := 45) rfl))⟩)
  have E_OPERATION := Exa.start ev_OPERATION g43
  obtain ⟨w_RESOURCE, ev_RESOURCE⟩ := exa_v g45
  have S_RESOURCE : Sta s s.heap "com/example/shapewright/shapewright/model/ShapeType" "RESOURCE" "Lcom/example/shapewright/shapewright/model/ShapeType;" (.ref w_RESOURCE) := Sta.start ev_RESOURCE (Or.inr ⟨(hw _ (List.mem_of_getElem? (i := 3) rfl)), (hw _ (List.mem_of_getElem? (i := 47) rfl))⟩)
  have E_RESOURCE := Exa.start ev_RESOURCE g45
  have F_ordinal_BLOB := own_fld ev_BLOB (v := .int (0 : Int32)) rfl g47
  have F_ordinal_STRING := own_fld ev_STRING (v := .int (3 : Int32)) rfl g49
  have F_ordinal_ENUM := own_fld ev_ENUM (v := .int (13 : Int32)) rfl g51
  have F_ordinal_LONG := own_fld ev_LONG (v := .int (7 : Int32)) rfl g53
  have F_ordinal_FLOAT := own_fld ev_FLOAT (v := .int (8 : Int32)) rfl g55
  have F_ordinal_DOCUMENT := own_fld ev_DOCUMENT (v := .int (2 : Int32)) rfl g57
  have F_ordinal_BIG_DECIMAL := own_fld ev_BIG_DECIMAL (v := .int (11 : Int32)) rfl g59
  have F_ordinal_BIG_INTEGER := own_fld ev_BIG_INTEGER (v := .int (10 : Int32)) rfl g61
  have F_ordinal_BOOLEAN := own_fld ev_BOOLEAN (v := .int (1 : Int32)) rfl g63
  have F_ordinal_DOUBLE := own_fld ev_DOUBLE (v := .int (9 : Int32)) rfl g65
  have F_ordinal_SHORT := own_fld ev_SHORT (v := .int (5 : Int32)) rfl g67
  have F_ordinal_MAP := own_fld ev_MAP (v := .int (16 : Int32)) rfl g69
  have F_ordinal_INTEGER := own_fld ev_INTEGER (v := .int (6 : Int32)) rfl g71
  have F_ordinal_SERVICE := own_fld ev_SERVICE (v := .int (19 : Int32)) rfl g73
  have F_ordinal_UNION := own_fld ev_UNION (v := .int (18 : Int32)) rfl g75
  have F_ordinal_LIST := own_fld ev_LIST (v := .int (15 : Int32)) rfl g77
  have F_ordinal_BYTE := own_fld ev_BYTE (v := .int (4 : Int32)) rfl g79
  have F_ordinal_RESOURCE := own_fld ev_RESOURCE (v := .int (21 : Int32)) rfl g81
  have F_ordinal_INT_ENUM := own_fld ev_INT_ENUM (v := .int (14 : Int32)) rfl g83
  have F_ordinal_TIMESTAMP := own_fld ev_TIMESTAMP (v := .int (12 : Int32)) rfl g85
  have F_ordinal_STRUCTURE := own_fld ev_STRUCTURE (v := .int (17 : Int32)) rfl g87
  have F_ordinal_OPERATION := own_fld ev_OPERATION (v := .int (20 : Int32)) rfl g88
  obtain ⟨v0, rfl⟩ : ∃ v0 : Value, args = #[v0] := by
    have hs : args.size = 1 := by simpa [Cond.value, given_1] using g1
    obtain ⟨L⟩ := args
    match L, hs with
    | [v0], _ => exact ⟨v0, rfl⟩
  have hfit : Fit s := fun {y c} hc i hi => by
    obtain ⟨ha, rfl⟩ := Array.getElem?_eq_some_iff.mp hc
    have q := List.all_eq_true.mp ((Array.all_eq_true_iff_forall_mem.mp hF) _ (Array.getElem_mem ha)) i (List.mem_range.mpr hi)
    simpa [Array.getElem?_eq_getElem hi] using q
  obtain ⟨i0, ei0⟩ := is_v g2
  obtain rfl : v0 = (.int i0) := Option.some.inj ei0
  obtain ⟨n, o, h1, h2, h3, _, L, rfl, ⟨rfl, N⟩, hq⟩ := rm0 l s _ hw tables_1 i0 w_BLOB w_BOOLEAN w_DOCUMENT w_STRING w_BYTE w_SHORT w_INTEGER w_LONG w_FLOAT w_DOUBLE w_BIG_INTEGER w_BIG_DECIMAL w_TIMESTAMP w_ENUM w_INT_ENUM w_LIST w_MAP w_STRUCTURE w_UNION w_SERVICE w_OPERATION w_RESOURCE s.heap s.heap.size (Old.start s) S_BLOB E_BLOB S_BOOLEAN E_BOOLEAN S_DOCUMENT E_DOCUMENT S_STRING E_STRING S_BYTE E_BYTE S_SHORT E_SHORT S_INTEGER E_INTEGER S_LONG E_LONG S_FLOAT E_FLOAT S_DOUBLE E_DOUBLE S_BIG_INTEGER E_BIG_INTEGER S_BIG_DECIMAL E_BIG_DECIMAL S_TIMESTAMP E_TIMESTAMP S_ENUM E_ENUM S_INT_ENUM E_INT_ENUM S_LIST E_LIST S_MAP E_MAP S_STRUCTURE E_STRUCTURE S_UNION E_UNION S_SERVICE E_SERVICE S_OPERATION E_OPERATION S_RESOURCE E_RESOURCE F_ordinal_BLOB F_ordinal_STRING F_ordinal_ENUM F_ordinal_BOOLEAN F_ordinal_DOCUMENT F_ordinal_BYTE F_ordinal_SHORT F_ordinal_INTEGER F_ordinal_LONG F_ordinal_FLOAT F_ordinal_DOUBLE F_ordinal_BIG_INTEGER F_ordinal_BIG_DECIMAL F_ordinal_TIMESTAMP F_ordinal_INT_ENUM F_ordinal_LIST F_ordinal_MAP F_ordinal_STRUCTURE F_ordinal_UNION F_ordinal_SERVICE F_ordinal_OPERATION F_ordinal_RESOURCE p e ha hc hk s m _ below hf ((Spec.applies_iff_loose hf).mp happ).1 ⟨rfl, State.Warmed39.refl s, rfl⟩ trivial
  refine ⟨n, _, h1, h2, h3, hpost _ _ _ _ _ _ ⟨Cond.after_iff.mpr rfl, Cond.after_iff.mpr (eq_i res_at (Term.int_eval (1)) rfl), trivial⟩ ⟨hq.1, hq.2.1, (hq.2.2.sift fun y hy => Or.inr (N y hy)).mono (by decide) (by decide)⟩⟩
theorem main_1_1 : Claimed_1_1 := comes_1 fun _ _ _ _ _ _ h hF => ⟨h.1, hF⟩
theorem main_1_2 : Claimed_1_2 := comes_1 fun _ _ _ _ _ _ h hF => ⟨h.2.1, hF⟩
end Jvm.Pilot.@@N@@
namespace Jvm.Pilot.@@N@@
open Jvm Jvm.ClassFile Sem Op Lib Jvm.Free Jvm.Stand Jvm.Pilot.@@N@@.Jvm.D
/-! MADE BY PROGRAM (witnessworld.py) out of the Statement's table words and the real class files: 13 classes; the members and pool entries that the words name. The judged class is class 1, her method 1. -/
namespace start1
open Jvm.ClassFile
def u (s : String) : CpInfo := .utf8 (stringToUtf16 s)
/-- a pool by its gaps: so many unusable entries, then the entry; so many at the end -/
def gap : Nat → List CpInfo → List CpInfo
  | 0, r => r
  | n + 1, r => .unusable :: gap n r
def poolList (es : List (Nat × CpInfo)) (last : Nat) : List CpInfo := es.foldr (fun e r => gap e.1 (e.2 :: r)) (gap last [])
def pool (es : List (Nat × CpInfo)) (last : Nat) : Array CpInfo := ⟨poolList es last⟩
def fileOf (pool : Array CpInfo) (this : Nat) (attrs : Array Attribute := #[]) (ms : Array MethodInfo := #[]) (fl : Nat := 33) (sup : Nat := 0) (ifs : Array Nat := #[]) (fds : Array FieldInfo := #[]) : ClassFile where
  minorVersion := 0
  majorVersion := 65
  constantPool := pool
  accessFlags := fl
  thisClass := this
  superClass := sup
  interfaces := ifs
  fields := fds
  methods := ms
  attributes := attrs
def plain (name : String) (sup : Option ClassId) : Class where
  name := name
  kind := .ordinary
  loader := none
  accessFlags := 33
  super := sup
  interfaces := #[]
  cf := none
  fields := #[]
  methods := #[]
  instanceTypes := #[]
  staticTypes := #[]
  resolved := #[]
  callSites := []
  init := .initialized
  statics := none
  mirror := none

def pool0 : Array CpInfo := pool [(5, u "<init>"), (0, u "()V"), (1, .class_ 10), (1, u "java/lang/Object")] 113

def k0m0 : Method := { name := "<init>", desc := "()V", sig := { parameters := [], returnType := none }, accessFlags := 1, code := none }
/-- java/lang/Object -/
def k0 : Class := { plain "java/lang/Object" none with
  accessFlags := 33
  interfaces := #[]
  cf := some (fileOf pool0 8 #[] #[{ accessFlags := 1, nameIndex := 5, descriptorIndex := 6, attributes := #[] }] 33 0 #[] #[])
  fields := #[]
  methods := #[k0m0]
  instanceTypes := #[]
  staticTypes := #[]
  resolved := Array.replicate 124 none
  statics := none }

def pool1 : Array CpInfo := pool [(2, .class_ 4), (1, u "java/lang/Object"), (0, u "<init>"), (0, u "()V"), (0, .class_ 8), (0, u "com/example/shapewright/shapewright/model/ShapeType"), (0, .fieldref 7 10), (0, .nameAndType 11 12), (0, u "BLOB"), (0, u "Lcom/example/shapewright/shapewright/model/ShapeType;"), (0, .fieldref 7 14), (0, .nameAndType 15 12), (0, u "BOOLEAN"), (0, .fieldref 7 17), (0, .nameAndType 18 12), (0, u "DOCUMENT"), (0, .fieldref 7 20), (0, .nameAndType 21 12), (0, u "STRING"), (0, .fieldref 7 23), (0, .nameAndType 24 12), (0, u "BYTE"), (0, .fieldref 7 26), (0, .nameAndType 27 12), (0, u "SHORT"), (0, .fieldref 7 29), (0, .nameAndType 30 12), (0, u "INTEGER"), (0, .fieldref 7 32), (0, .nameAndType 33 12), (0, u "LONG"), (0, .fieldref 7 35), (0, .nameAndType 36 12), (0, u "FLOAT"), (0, .fieldref 7 38), (0, .nameAndType 39 12), (0, u "DOUBLE"), (0, .fieldref 7 41), (0, .nameAndType 42 12), (0, u "BIG_INTEGER"), (0, .fieldref 7 44), (0, .nameAndType 45 12), (0, u "BIG_DECIMAL"), (0, .fieldref 7 47), (0, .nameAndType 48 12), (0, u "TIMESTAMP"), (0, .fieldref 7 50), (0, .nameAndType 51 12), (0, u "ENUM"), (0, .fieldref 7 53), (0, .nameAndType 54 12), (0, u "INT_ENUM"), (0, .fieldref 7 56), (0, .nameAndType 57 12), (0, u "LIST"), (0, .fieldref 7 59), (0, .nameAndType 60 12), (0, u "MAP"), (0, .fieldref 7 62), (0, .nameAndType 63 12), (0, u "STRUCTURE"), (0, .fieldref 7 65), (0, .nameAndType 66 12), (0, u "UNION"), (0, .fieldref 7 68), (0, .nameAndType 69 12), (0, u "SERVICE"), (0, .fieldref 7 71), (0, .nameAndType 72 12), (0, u "OPERATION"), (0, .fieldref 7 74), (0, .nameAndType 75 12), (0, u "RESOURCE"), (0, .integer 2147483647), (0, .methodref 7 78), (0, .nameAndType 79 80), (0, u "isString"), (0, u "()Z"), (0, .class_ 82), (0, u "com/example/shapewright/shapewright/model/ShapeTypeIsStringPinLaw"), (2, u "law"), (0, u "(I)Z")] 5

def k1m0 : Method := { name := "<init>", desc := "()V", sig := { parameters := [], returnType := none }, accessFlags := 1, code := none }
def k1c1 : Code := { maxStack := 4, maxLocals := 4, code := code, exceptionTable := #[], attributes := #[] }
def k1m1 : Method := { name := "law", desc := "(I)Z", sig := { parameters := [.int], returnType := some .boolean }, accessFlags := 9, code := some k1c1 }
/-- com/example/shapewright/shapewright/model/ShapeTypeIsStringPinLaw -/
def k1 : Class := { plain "com/example/shapewright/shapewright/model/ShapeTypeIsStringPinLaw" (some 0) with
  accessFlags := 49
  interfaces := #[]
  cf := some (fileOf pool1 81 #[] #[{ accessFlags := 1, nameIndex := 5, descriptorIndex := 6, attributes := #[] }, { accessFlags := 9, nameIndex := 85, descriptorIndex := 86, attributes := #[] }] 49 2 #[] #[])
  fields := #[]
  methods := #[k1m0, k1m1]
  instanceTypes := #[]
  staticTypes := #[]
  resolved := Array.replicate 92 none
  statics := none }

def pool2 : Array CpInfo := pool [(1, .class_ 2), (0, u "java/lang/constant/Constable"), (0, .class_ 4), (0, u "java/lang/Object")] 6

/-- java/lang/constant/Constable -/
def k2 : Class := { plain "java/lang/constant/Constable" (some 0) with
  accessFlags := 1537
  interfaces := #[]
  cf := some (fileOf pool2 1 #[] #[] 1537 3 #[] #[])
  fields := #[]
  methods := #[]
  instanceTypes := #[]
  staticTypes := #[]
  resolved := Array.replicate 11 none
  statics := none }

def pool3 : Array CpInfo := pool [(1, .class_ 2), (0, u "java/lang/Comparable"), (0, .class_ 4), (0, u "java/lang/Object")] 7

/-- java/lang/Comparable -/
def k3 : Class := { plain "java/lang/Comparable" (some 0) with
  accessFlags := 1537
  interfaces := #[]
  cf := some (fileOf pool3 1 #[] #[] 1537 3 #[] #[])
  fields := #[]
  methods := #[]
  instanceTypes := #[]
  staticTypes := #[]
  resolved := Array.replicate 12 none
  statics := none }

def pool4 : Array CpInfo := pool [(1, .class_ 2), (0, u "java/io/Serializable"), (0, .class_ 4), (0, u "java/lang/Object")] 2

/-- java/io/Serializable -/
def k4 : Class := { plain "java/io/Serializable" (some 0) with
  accessFlags := 1537
  interfaces := #[]
  cf := some (fileOf pool4 1 #[] #[] 1537 3 #[] #[])
  fields := #[]
  methods := #[]
  instanceTypes := #[]
  staticTypes := #[]
  resolved := Array.replicate 7 none
  statics := none }

def pool5 : Array CpInfo := pool [(2, .class_ 4), (1, u "java/lang/Enum"), (0, u "name"), (0, u "Ljava/lang/String;"), (2, u "ordinal"), (0, u "I"), (1, .class_ 14), (1, u "java/lang/Object"), (4, u "hash"), (86, .class_ 108), (1, u "java/lang/Enum$EnumDesc"), (2, .class_ 112), (0, u "java/lang/constant/Constable"), (0, .class_ 114), (0, u "java/lang/Comparable"), (0, .class_ 116), (0, u "java/io/Serializable")] 87

/-- java/lang/Enum -/
def k5 : Class := { plain "java/lang/Enum" (some 0) with
  accessFlags := 1057
  interfaces := #[2, 3, 4]
  cf := some (fileOf pool5 2 #[.nestMembers #[106]] #[] 1057 12 #[111, 113, 115] #[{ accessFlags := 18, nameIndex := 5, descriptorIndex := 6, attributes := #[] }, { accessFlags := 18, nameIndex := 9, descriptorIndex := 10, attributes := #[] }, { accessFlags := 2, nameIndex := 19, descriptorIndex := 10, attributes := #[] }])
  fields := #[{ name := "name", type := (.object "java/lang/String"), accessFlags := 18, slot := 0, constantValue := 0 }, { name := "ordinal", type := .int, accessFlags := 18, slot := 1, constantValue := 0 }, { name := "hash", type := .int, accessFlags := 2, slot := 2, constantValue := 0 }]
  methods := #[]
  instanceTypes := #[(.object "java/lang/String"), .int, .int]
  staticTypes := #[]
  resolved := Array.replicate 204 none
  statics := none }

def pool6 : Array CpInfo := pool [(1, .class_ 2), (0, u "com/example/shapewright/shapewright/model/ShapeType"), (2, u "BLOB"), (0, u "Lcom/example/shapewright/shapewright/model/ShapeType;"), (2, u "BOOLEAN"), (2, u "DOCUMENT"), (0, .fieldref 1 14), (0, .nameAndType 15 6), (0, u "STRING"), (2, u "BYTE"), (2, u "SHORT"), (2, u "INTEGER"), (2, u "LONG"), (2, u "FLOAT"), (2, u "DOUBLE"), (2, u "BIG_INTEGER"), (2, u "BIG_DECIMAL"), (2, u "TIMESTAMP"), (0, .fieldref 1 44), (0, .nameAndType 45 6), (0, u "ENUM"), (2, u "INT_ENUM"), (2, u "LIST"), (2, u "MAP"), (2, u "STRUCTURE"), (2, u "UNION"), (2, u "SERVICE"), (2, u "OPERATION"), (2, u "RESOURCE"), (2, u "$VALUES"), (0, u "[Lcom/example/shapewright/shapewright/model/ShapeType;"), (6, .class_ 82), (1, u "java/lang/Enum"), (8, u "name"), (0, u "Ljava/lang/String;"), (2, u "fixedMembers"), (0, u "Ljava/util/List;"), (2, u "properties"), (2, u "BY_NAME"), (0, u "Ljava/util/Map;"), (11, u "()Z"), (172, u "isString")] 11

def k6c0 : Code := { maxStack := 2, maxLocals := 1, code := prog_45_method_6_code, exceptionTable := #[], attributes := #[] }
def k6m0 : Method := { name := "isString", desc := "()Z", sig := { parameters := [], returnType := some .boolean }, accessFlags := 1, code := some k6c0 }
/-- com/example/shapewright/shapewright/model/ShapeType -/
def k6 : Class := { plain "com/example/shapewright/shapewright/model/ShapeType" (some 5) with
  accessFlags := 16433
  interfaces := #[]
  cf := some (fileOf pool6 1 #[] #[{ accessFlags := 1, nameIndex := 288, descriptorIndex := 115, attributes := #[] }] 16433 80 #[] #[{ accessFlags := 16409, nameIndex := 5, descriptorIndex := 6, attributes := #[] }, { accessFlags := 16409, nameIndex := 9, descriptorIndex := 6, attributes := #[] }, { accessFlags := 16409, nameIndex := 12, descriptorIndex := 6, attributes := #[] }, { accessFlags := 16409, nameIndex := 15, descriptorIndex := 6, attributes := #[] }, { accessFlags := 16409, nameIndex := 18, descriptorIndex := 6, attributes := #[] }, { accessFlags := 16409, nameIndex := 21, descriptorIndex := 6, attributes := #[] }, { accessFlags := 16409, nameIndex := 24, descriptorIndex := 6, attributes := #[] }, { accessFlags := 16409, nameIndex := 27, descriptorIndex := 6, attributes := #[] }, { accessFlags := 16409, nameIndex := 30, descriptorIndex := 6, attributes := #[] }, { accessFlags := 16409, nameIndex := 33, descriptorIndex := 6, attributes := #[] }, { accessFlags := 16409, nameIndex := 36, descriptorIndex := 6, attributes := #[] }, { accessFlags := 16409, nameIndex := 39, descriptorIndex := 6, attributes := #[] }, { accessFlags := 16409, nameIndex := 42, descriptorIndex := 6, attributes := #[] }, { accessFlags := 16409, nameIndex := 45, descriptorIndex := 6, attributes := #[] }, { accessFlags := 16409, nameIndex := 48, descriptorIndex := 6, attributes := #[] }, { accessFlags := 16409, nameIndex := 51, descriptorIndex := 6, attributes := #[] }, { accessFlags := 16409, nameIndex := 54, descriptorIndex := 6, attributes := #[] }, { accessFlags := 16409, nameIndex := 57, descriptorIndex := 6, attributes := #[] }, { accessFlags := 16409, nameIndex := 60, descriptorIndex := 6, attributes := #[] }, { accessFlags := 16409, nameIndex := 63, descriptorIndex := 6, attributes := #[] }, { accessFlags := 16409, nameIndex := 66, descriptorIndex := 6, attributes := #[] }, { accessFlags := 16409, nameIndex := 69, descriptorIndex := 6, attributes := #[] }, { accessFlags := 26, nameIndex := 102, descriptorIndex := 103, attributes := #[] }, { accessFlags := 18, nameIndex := 91, descriptorIndex := 92, attributes := #[] }, { accessFlags := 18, nameIndex := 95, descriptorIndex := 96, attributes := #[] }, { accessFlags := 18, nameIndex := 99, descriptorIndex := 96, attributes := #[] }, { accessFlags := 4122, nameIndex := 72, descriptorIndex := 73, attributes := #[] }])
  fields := #[{ name := "BLOB", type := (.object "com/example/shapewright/shapewright/model/ShapeType"), accessFlags := 16409, slot := 0, constantValue := 0 }, { name := "BOOLEAN", type := (.object "com/example/shapewright/shapewright/model/ShapeType"), accessFlags := 16409, slot := 1, constantValue := 0 }, { name := "DOCUMENT", type := (.object "com/example/shapewright/shapewright/model/ShapeType"), accessFlags := 16409, slot := 2, constantValue := 0 }, { name := "STRING", type := (.object "com/example/shapewright/shapewright/model/ShapeType"), accessFlags := 16409, slot := 3, constantValue := 0 }, { name := "BYTE", type := (.object "com/example/shapewright/shapewright/model/ShapeType"), accessFlags := 16409, slot := 4, constantValue := 0 }, { name := "SHORT", type := (.object "com/example/shapewright/shapewright/model/ShapeType"), accessFlags := 16409, slot := 5, constantValue := 0 }, { name := "INTEGER", type := (.object "com/example/shapewright/shapewright/model/ShapeType"), accessFlags := 16409, slot := 6, constantValue := 0 }, { name := "LONG", type := (.object "com/example/shapewright/shapewright/model/ShapeType"), accessFlags := 16409, slot := 7, constantValue := 0 }, { name := "FLOAT", type := (.object "com/example/shapewright/shapewright/model/ShapeType"), accessFlags := 16409, slot := 8, constantValue := 0 }, { name := "DOUBLE", type := (.object "com/example/shapewright/shapewright/model/ShapeType"), accessFlags := 16409, slot := 9, constantValue := 0 }, { name := "BIG_INTEGER", type := (.object "com/example/shapewright/shapewright/model/ShapeType"), accessFlags := 16409, slot := 10, constantValue := 0 }, { name := "BIG_DECIMAL", type := (.object "com/example/shapewright/shapewright/model/ShapeType"), accessFlags := 16409, slot := 11, constantValue := 0 }, { name := "TIMESTAMP", type := (.object "com/example/shapewright/shapewright/model/ShapeType"), accessFlags := 16409, slot := 12, constantValue := 0 }, { name := "ENUM", type := (.object "com/example/shapewright/shapewright/model/ShapeType"), accessFlags := 16409, slot := 13, constantValue := 0 }, { name := "INT_ENUM", type := (.object "com/example/shapewright/shapewright/model/ShapeType"), accessFlags := 16409, slot := 14, constantValue := 0 }, { name := "LIST", type := (.object "com/example/shapewright/shapewright/model/ShapeType"), accessFlags := 16409, slot := 15, constantValue := 0 }, { name := "MAP", type := (.object "com/example/shapewright/shapewright/model/ShapeType"), accessFlags := 16409, slot := 16, constantValue := 0 }, { name := "STRUCTURE", type := (.object "com/example/shapewright/shapewright/model/ShapeType"), accessFlags := 16409, slot := 17, constantValue := 0 }, { name := "UNION", type := (.object "com/example/shapewright/shapewright/model/ShapeType"), accessFlags := 16409, slot := 18, constantValue := 0 }, { name := "SERVICE", type := (.object "com/example/shapewright/shapewright/model/ShapeType"), accessFlags := 16409, slot := 19, constantValue := 0 }, { name := "OPERATION", type := (.object "com/example/shapewright/shapewright/model/ShapeType"), accessFlags := 16409, slot := 20, constantValue := 0 }, { name := "RESOURCE", type := (.object "com/example/shapewright/shapewright/model/ShapeType"), accessFlags := 16409, slot := 21, constantValue := 0 }, { name := "BY_NAME", type := (.object "java/util/Map"), accessFlags := 26, slot := 22, constantValue := 0 }, { name := "name", type := (.object "java/lang/String"), accessFlags := 18, slot := 3, constantValue := 0 }, { name := "fixedMembers", type := (.object "java/util/List"), accessFlags := 18, slot := 4, constantValue := 0 }, { name := "properties", type := (.object "java/util/List"), accessFlags := 18, slot := 5, constantValue := 0 }, { name := "$VALUES", type := (.array (.object "com/example/shapewright/shapewright/model/ShapeType")), accessFlags := 4122, slot := 23, constantValue := 0 }]
  methods := #[k6m0]
  instanceTypes := #[(.object "java/lang/String"), .int, .int, (.object "java/lang/String"), (.object "java/util/List"), (.object "java/util/List")]
  staticTypes := #[(.object "com/example/shapewright/shapewright/model/ShapeType"), (.object "com/example/shapewright/shapewright/model/ShapeType"), (.object "com/example/shapewright/shapewright/model/ShapeType"), (.object "com/example/shapewright/shapewright/model/ShapeType"), (.object "com/example/shapewright/shapewright/model/ShapeType"), (.object "com/example/shapewright/shapewright/model/ShapeType"), (.object "com/example/shapewright/shapewright/model/ShapeType"), (.object "com/example/shapewright/shapewright/model/ShapeType"), (.object "com/example/shapewright/shapewright/model/ShapeType"), (.object "com/example/shapewright/shapewright/model/ShapeType"), (.object "com/example/shapewright/shapewright/model/ShapeType"), (.object "com/example/shapewright/shapewright/model/ShapeType"), (.object "com/example/shapewright/shapewright/model/ShapeType"), (.object "com/example/shapewright/shapewright/model/ShapeType"), (.object "com/example/shapewright/shapewright/model/ShapeType"), (.object "com/example/shapewright/shapewright/model/ShapeType"), (.object "com/example/shapewright/shapewright/model/ShapeType"), (.object "com/example/shapewright/shapewright/model/ShapeType"), (.object "com/example/shapewright/shapewright/model/ShapeType"), (.object "com/example/shapewright/shapewright/model/ShapeType"), (.object "com/example/shapewright/shapewright/model/ShapeType"), (.object "com/example/shapewright/shapewright/model/ShapeType"), (.object "java/util/Map"), (.array (.object "com/example/shapewright/shapewright/model/ShapeType"))]
  resolved := Array.replicate 300 none
  statics := some 0 }

def pool7 : Array CpInfo := pool [(1, u "java/lang/Cloneable"), (0, .class_ 1), (0, u "java/lang/Object"), (0, .class_ 3)] 3

/-- java/lang/Cloneable -/
def k7 : Class := { plain "java/lang/Cloneable" (some 0) with
  accessFlags := 1537
  interfaces := #[]
  cf := some (fileOf pool7 2 #[] #[] 1537 4 #[] #[])
  fields := #[]
  methods := #[]
  instanceTypes := #[]
  staticTypes := #[]
  resolved := Array.replicate 8 none
  statics := none }

/-- the primitive byte -/
def k8 : Class := { plain "byte" none with kind := .primitive 'B', accessFlags := 0x411 }
/-- [B -/
def k9 : Class := { plain "[B" (some 0) with kind := .array 8 .byte, interfaces := #[7, 4], accessFlags := 1041 }

/-- the primitive int -/
def k10 : Class := { plain "int" none with kind := .primitive 'I', accessFlags := 0x411 }
/-- [I -/
def k11 : Class := { plain "[I" (some 0) with kind := .array 10 .int, interfaces := #[7, 4], accessFlags := 1041 }

/-- [Lcom/example/shapewright/shapewright/model/ShapeType; -/
def k12 : Class := { plain "[Lcom/example/shapewright/shapewright/model/ShapeType;" (some 0) with kind := .array 6 (.object "com/example/shapewright/shapewright/model/ShapeType"), interfaces := #[7, 4], accessFlags := 1041 }

def heap : Heap := #[{ cls := 6, slots := #[.ref 1, .ref 2, .ref 3, .ref 4, .ref 5, .ref 6, .ref 7, .ref 8, .ref 9, .ref 10, .ref 11, .ref 12, .ref 13, .ref 14, .ref 15, .ref 16, .ref 17, .ref 18, .ref 19, .ref 20, .ref 21, .ref 22, .null, .null], vm := .statics 6 },
  { cls := 6, slots := #[.null, .int 0, .int 0, .null, .null, .null], vm := .none },
  { cls := 6, slots := #[.null, .int 1, .int 0, .null, .null, .null], vm := .none },
  { cls := 6, slots := #[.null, .int 2, .int 0, .null, .null, .null], vm := .none },
  { cls := 6, slots := #[.null, .int 3, .int 0, .null, .null, .null], vm := .none },
  { cls := 6, slots := #[.null, .int 4, .int 0, .null, .null, .null], vm := .none },
  { cls := 6, slots := #[.null, .int 5, .int 0, .null, .null, .null], vm := .none },
  { cls := 6, slots := #[.null, .int 6, .int 0, .null, .null, .null], vm := .none },
  { cls := 6, slots := #[.null, .int 7, .int 0, .null, .null, .null], vm := .none },
  { cls := 6, slots := #[.null, .int 8, .int 0, .null, .null, .null], vm := .none },
  { cls := 6, slots := #[.null, .int 9, .int 0, .null, .null, .null], vm := .none },
  { cls := 6, slots := #[.null, .int 10, .int 0, .null, .null, .null], vm := .none },
  { cls := 6, slots := #[.null, .int 11, .int 0, .null, .null, .null], vm := .none },
  { cls := 6, slots := #[.null, .int 12, .int 0, .null, .null, .null], vm := .none },
  { cls := 6, slots := #[.null, .int 13, .int 0, .null, .null, .null], vm := .none },
  { cls := 6, slots := #[.null, .int 14, .int 0, .null, .null, .null], vm := .none },
  { cls := 6, slots := #[.null, .int 15, .int 0, .null, .null, .null], vm := .none },
  { cls := 6, slots := #[.null, .int 16, .int 0, .null, .null, .null], vm := .none },
  { cls := 6, slots := #[.null, .int 17, .int 0, .null, .null, .null], vm := .none },
  { cls := 6, slots := #[.null, .int 18, .int 0, .null, .null, .null], vm := .none },
  { cls := 6, slots := #[.null, .int 19, .int 0, .null, .null, .null], vm := .none },
  { cls := 6, slots := #[.null, .int 20, .int 0, .null, .null, .null], vm := .none },
  { cls := 6, slots := #[.null, .int 21, .int 0, .null, .null, .null], vm := .none }]
def classes : Array Class := #[k0, k1, k2, k3, k4, k5, k6, k7, k8, k9, k10, k11, k12]
def interned : List (Array UInt16 × Addr) := []
def slotsUsed : Nat := 156
def theMethod : MethodId := ⟨1, 1⟩
def args0 : Array Value := #[.int 5]
def aboutOver (below : List Frame) : State where
  vm := { classes := classes, interned := interned.toArray }
  heap := heap
  slotsUsed := slotsUsed
  threads := #[{ frames := .invoking theMethod args0 :: below }]
def below0 : List Frame := [.native { method := ⟨0, 0⟩, args := #[] }]
def about1 : State := aboutOver below0
def p0 : Program := .bare "" "" ""
def e0 : Env := launch0.env 0 0 0
theorem w_frames : about1.frames = Frame.invoking theMethod args0 :: below0 := rfl
set_option maxRecDepth 65536 in
theorem w_args : argsFit about1.vm theMethod args0 = true := by decide +kernel
set_option maxRecDepth 65536 in
theorem w_heap : heapFits about1 = true := by decide +kernel
set_option maxRecDepth 65536 in
theorem w_runnable : about1.curStatus? = some .runnable := by decide +kernel
set_option maxRecDepth 65536 in
theorem w_alone : about1.alone = true := by decide +kernel
set_option maxRecDepth 65536 in
theorem w_named : about1.methodNamed? x = some theMethod := by decide +kernel
set_option maxRecDepth 65536 in
theorem w_hears : about1.hears theMethod below0 = true := by decide +kernel
set_option maxRecDepth 65536 in
theorem w_ripe : about1.ripe theMethod args0 below0 = true := by decide +kernel
theorem w_running : about1.status = .running := rfl
set_option maxRecDepth 65536 in
theorem w_room : about1.hasRoom e0.platform room_1 = true :=
  launch0.hasRoom_least _ room_1 (by decide +kernel) (by decide +kernel) (by decide +kernel) (by decide +kernel) (by decide +kernel) (by decide +kernel)
theorem allAtoms_all (ts : List Jvm.Cond) (a : Array Jvm.Value) (st : Jvm.State) : (allAtoms ts).before a st = ts.all (fun c => c.before a st) := by
  induction ts with
  | nil => rfl
  | cons c t ih =>
    show (Jvm.Cond.and c (allAtoms t)).before a st = _
    rw [Jvm.Cond.before_and, ih, List.all_cons]
def words1 : List Jvm.Cond := Jvm.Cond.code x code maxLocals ret :: tables_1
/-- a 'code' word, met by the world's own term for the bytes: nothing is compared byte by byte -/
theorem code_word {y : MethodName} {bytes : ByteArray} {mx : Nat} {rt : Option FieldType} {a : Array Value} {s : State} {m : MethodId} {meth : Method} {c : Code} (h1 : s.methodNamed? y = some m) (h2 : s.vm.method? m = some meth) (h3 : meth.code = some c) (h4 : c.code = bytes)
    (h5 : (c.maxLocals == mx && c.exceptionTable.isEmpty && decide (c.maxStack ≤ mostOperands) && decide (meth.sig.returnType = rt) && !meth.locks && decide (parseMethodDescriptor y.desc = some meth.sig)) = true) : (Jvm.Cond.code y bytes mx rt).before a s = true := by
  simp only [Bool.and_eq_true, beq_iff_eq, Bool.not_eq_true', decide_eq_true_eq] at h5
  obtain ⟨⟨⟨⟨⟨g1, g2⟩, g3⟩, g4⟩, g5⟩, g6⟩ := h5
  simp [Cond.before, Cond.holds, Cond.value, h1, h2, h3, h4, g1, g2, g3, g4, g5, g6]
def isCode : Jvm.Cond → Bool
  | .code _ _ _ _ => true
  | _ => false
theorem all_split {L : List Jvm.Cond} {P : Jvm.Cond → Bool} (h1 : L.all (fun c => isCode c || P c) = true) (h2 : ∀ c ∈ L.filter isCode, P c = true) : L.all P = true := by
  refine List.all_eq_true.mpr fun c hc => ?_
  have h := List.all_eq_true.mp h1 c hc
  rcases Bool.eq_false_or_eq_true (isCode c) with hi | hi
  · exact h2 c (List.mem_filter.mpr ⟨hc, hi⟩)
  · simpa [hi] using h
set_option maxRecDepth 65536 in
theorem w_c0 : (Jvm.Cond.code x code maxLocals ret).before args0 about1 = true := code_word (m := ⟨1, 1⟩) (meth := k1m1) (c := k1c1) (by decide +kernel) rfl rfl rfl (by decide +kernel)
set_option maxRecDepth 65536 in
theorem w_c1 : (Jvm.Cond.code ({ cls := "com/example/shapewright/shapewright/model/ShapeType", name := "isString", desc := "()Z" } : Jvm.MethodName) prog_45_method_6_code (1 : Nat) (Option.some Jvm.ClassFile.FieldType.boolean)).before args0 about1 = true := code_word (m := ⟨6, 0⟩) (meth := k6m0) (c := k6c0) (by decide +kernel) rfl rfl rfl (by decide +kernel)
def codes1 : List Jvm.Cond := [Jvm.Cond.code x code maxLocals ret, Jvm.Cond.code ({ cls := "com/example/shapewright/shapewright/model/ShapeType", name := "isString", desc := "()Z" } : Jvm.MethodName) prog_45_method_6_code (1 : Nat) (Option.some Jvm.ClassFile.FieldType.boolean)]
set_option maxRecDepth 65536 in
theorem codes_eq : words1.filter isCode = codes1 := rfl
theorem w_codes : ∀ c ∈ words1.filter isCode, c.before args0 about1 = true := by
  rw [codes_eq]
  intro c hc
  simp only [codes1, List.mem_cons, List.not_mem_nil, or_false] at hc
  rcases hc with rfl | rfl
  · exact w_c0
  · exact w_c1
set_option maxRecDepth 65536 in
theorem w_t1 : (words1.take 24).all (fun c => isCode c || c.before args0 about1) = true := by decide +kernel
set_option maxRecDepth 65536 in
theorem w_t2 : ((words1.drop 24).take 24).all (fun c => isCode c || c.before args0 about1) = true := by decide +kernel
set_option maxRecDepth 65536 in
theorem w_t3 : ((words1.drop 24).drop 24).all (fun c => isCode c || c.before args0 about1) = true := by decide +kernel
theorem w_tables : (allAtoms (Jvm.Cond.code x code maxLocals ret :: tables_1)).before args0 about1 = true := by
  rw [allAtoms_all]
  show words1.all (fun c => c.before args0 about1) = true
  refine all_split ?_ w_codes
  rw [← List.take_append_drop 24 words1, List.all_append, w_t1, ← List.take_append_drop 24 (words1.drop 24), List.all_append, w_t2, w_t3]
  rfl
set_option maxRecDepth 65536 in
theorem w_case : (Jvm.Cond.and given_1 narrow_1).before args0 about1 = true := by decide +kernel
theorem w_applies : (headSpec (Jvm.Cond.code x code maxLocals ret :: tables_1) room_1).applies x e0.platform about1 = true :=
  (Spec.applies_iff w_frames).mpr ⟨w_running, w_runnable, w_alone, w_named, w_hears, w_ripe, w_room, w_tables⟩
theorem atStart : AtStart classFile x code maxLocals ret World_1 tables_1 room_1 Calls_1 rest_1 Pre_1 launch0 p0 e0 about1 theMethod args0 below0 :=
  ⟨lists_1, trivial, launch0.admits_env _ _ _, launch0.least_env, fairChoices_fair.cas, fairChoices_fair.clock, w_frames, w_args, w_heap, w_applies, trivial, trivial, w_case⟩
end start1
theorem witness_1 : WitnessClaimed_1 := ⟨start1.p0, start1.e0, start1.about1, start1.theMethod, start1.args0, start1.below0, start1.atStart⟩
end Jvm.Pilot.@@N@@
