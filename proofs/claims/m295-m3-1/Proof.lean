import JvmDerived
import JvmDerived.Pilot.@@N@@Statement
import JvmDerived.Pilot.@@N@@Code
set_option linter.unusedVariables false
set_option linter.unusedSimpArgs false
namespace Jvm.RoadKit
open Sem ClassFile Op Lib Jvm.Stand Jvm.Free Jvm.LawKit
section New
variable {p : Program} {l : Launch} {e : Env} {R : Room} {s : State} {m : MethodId} {args : Array Value} {below : List Frame} {meth : Method} {c : Code} {T : State} {locs : List Loc} {cells slots : Nat}
theorem retI (X : Stand p l e R s m args below meth c T locs cells slots) (hx : p.tables.exec = Jvm.exec) {pc : Nat} {Ls : Array Slot} {z : Int32} {rest : List Value} (hret : meth.sig.returnType = some .int) (hd : decode c.code pc = .ok (.ireturn, 1)) {fs : List Frame}
    (hl : ∀ (f : JFrame) (acts : List Action), f.method = m → f.locked = none → f.entered = [] → (doReturn e (T.setTop f) acts (some (.int z))).1 = T.setFrames fs) : Steps p.tables e below (T.setTop (mkF m pc Ls (.int z :: rest))) (T.setFrames fs) := by
  have hm' : T.vm.method? m = some meth := X.method'
  have hn : narrow .int (.int z) = .int z := rfl
  show Steps p.tables e below (T.setTop { method := m, pc := pc, locals := Ls, stack := _ :: rest, locked := none }) _
  jvm_step X.here [X.here.top, hx, hd, hm', hret, hn]
  first | (intro acts; rw [hl _ acts rfl rfl rfl]) | rw [hl _ _ rfl rfl rfl]
  exact Steps.refl _
end New
end Jvm.RoadKit
namespace Jvm.Pilot.@@N@@
open Jvm Jvm.ClassFile Sem Op Lib Jvm.Free Jvm.Stand Jvm.LawKit Jvm.RoadKit Bundle Jvm.Pilot.@@N@@.Jvm.D
theorem own_eq {args : Array Value} {first s : State} {o : Option Outcome} {idx : List Nat} {a b : Term} (h : (Jvm.Cond.eq a b).value args first o s idx = some true) : a.eval args first o idx s = b.eval args first o idx s := by
  obtain ⟨x, y, h1, h2, k1, k2⟩ := cmp_v (Or.inl h)
  rw [h1, h2]
  simp only [Jvm.Cond.value, h1, h2] at h
  cases x <;> cases y <;> simp_all
theorem own_fld {args : Array Value} {s : State} {t u : Term} {a : Addr} {C n d : String} {v : Value} (ev : t.eval args s none [] s = some (.ref a)) (eu : u.eval args s none [] s = some v) (h : (Jvm.Cond.eq (.field t C n d) u).value args s none s [] = some true) : Fld s s.heap a C n d v :=
  Fld.start ((fld_at ev).symm.trans ((own_eq h).trans eu))
theorem own_z {Z : State} {n0 : Nat} {h : Heap} (O : Old Z n0 h) : n0 ≤ h.size := O.1 ▸ O.2.1
theorem own_priv {Z s : State} {a0 args : Array Value} {y : MethodName} {k : Nat} (hZ : Z.Warmed39 s.vm) (w1 : (Jvm.Cond.instanceMethod y).before a0 Z = true) (w2 : (Jvm.Cond.privateMethod y).before a0 Z = true) (w3 : (Jvm.Cond.instantiable y.cls k).before a0 Z = true)
    (hy : y.cls ≠ "java/lang/invoke/MethodHandle" ∧ y.cls ≠ "java/lang/invoke/VarHandle") : (Jvm.Cond.selects y.cls y y).before args s = true := by
  obtain ⟨c, kk, h1, h2, -, h4, -⟩ := Cond.instantiable_spec (mv (args := args) hZ w3)
  exact selects_self_of_private h1 h2 (by simp at h4; exact h4.1) (Cond.privateMethod_at (mvP (args := args) hZ w2)) (mv hZ w1) hy
theorem own_mask15 (x : Int32) : 0 ≤ (x &&& (15 : Int32)).toInt ∧ (x &&& (15 : Int32)).toInt < 16 := by
  have h1 := c_mask x (15 : Int32) 4 (by decide) (by decide)
  omega
theorem own_cases16 {z : Int32} (h0 : 0 ≤ z.toInt) (h1 : z.toInt < 16) : z = (0 : Int32) ∨ z = (1 : Int32) ∨ z = (2 : Int32) ∨ z = (3 : Int32) ∨ z = (4 : Int32) ∨ z = (5 : Int32) ∨ z = (6 : Int32) ∨ z = (7 : Int32) ∨ z = (8 : Int32) ∨ z = (9 : Int32) ∨ z = (10 : Int32) ∨ z = (11 : Int32) ∨ z = (12 : Int32) ∨ z = (13 : Int32) ∨ z = (14 : Int32) ∨ z = (15 : Int32) := by
  have h : z.toInt = 0 ∨ z.toInt = 1 ∨ z.toInt = 2 ∨ z.toInt = 3 ∨ z.toInt = 4 ∨ z.toInt = 5 ∨ z.toInt = 6 ∨ z.toInt = 7 ∨ z.toInt = 8 ∨ z.toInt = 9 ∨ z.toInt = 10 ∨ z.toInt = 11 ∨ z.toInt = 12 ∨ z.toInt = 13 ∨ z.toInt = 14 ∨ z.toInt = 15 := by omega
  rcases h with h | h | h | h | h | h | h | h | h | h | h | h | h | h | h | h
  · exact Or.inl (Int32.toInt_inj.mp (h.trans (by decide)))
  · exact Or.inr (Or.inl (Int32.toInt_inj.mp (h.trans (by decide))))
  · exact Or.inr (Or.inr (Or.inl (Int32.toInt_inj.mp (h.trans (by decide)))))
  · exact Or.inr (Or.inr (Or.inr (Or.inl (Int32.toInt_inj.mp (h.trans (by decide))))))
  · exact Or.inr (Or.inr (Or.inr (Or.inr (Or.inl (Int32.toInt_inj.mp (h.trans (by decide)))))))
  · exact Or.inr (Or.inr (Or.inr (Or.inr (Or.inr (Or.inl (Int32.toInt_inj.mp (h.trans (by decide))))))))
  · exact Or.inr (Or.inr (Or.inr (Or.inr (Or.inr (Or.inr (Or.inl (Int32.toInt_inj.mp (h.trans (by decide)))))))))
  · exact Or.inr (Or.inr (Or.inr (Or.inr (Or.inr (Or.inr (Or.inr (Or.inl (Int32.toInt_inj.mp (h.trans (by decide))))))))))
  · exact Or.inr (Or.inr (Or.inr (Or.inr (Or.inr (Or.inr (Or.inr (Or.inr (Or.inl (Int32.toInt_inj.mp (h.trans (by decide)))))))))))
  · exact Or.inr (Or.inr (Or.inr (Or.inr (Or.inr (Or.inr (Or.inr (Or.inr (Or.inr (Or.inl (Int32.toInt_inj.mp (h.trans (by decide))))))))))))
  · exact Or.inr (Or.inr (Or.inr (Or.inr (Or.inr (Or.inr (Or.inr (Or.inr (Or.inr (Or.inr (Or.inl (Int32.toInt_inj.mp (h.trans (by decide)))))))))))))
  · exact Or.inr (Or.inr (Or.inr (Or.inr (Or.inr (Or.inr (Or.inr (Or.inr (Or.inr (Or.inr (Or.inr (Or.inl (Int32.toInt_inj.mp (h.trans (by decide))))))))))))))
  · exact Or.inr (Or.inr (Or.inr (Or.inr (Or.inr (Or.inr (Or.inr (Or.inr (Or.inr (Or.inr (Or.inr (Or.inr (Or.inl (Int32.toInt_inj.mp (h.trans (by decide)))))))))))))))
  · exact Or.inr (Or.inr (Or.inr (Or.inr (Or.inr (Or.inr (Or.inr (Or.inr (Or.inr (Or.inr (Or.inr (Or.inr (Or.inr (Or.inl (Int32.toInt_inj.mp (h.trans (by decide))))))))))))))))
  · exact Or.inr (Or.inr (Or.inr (Or.inr (Or.inr (Or.inr (Or.inr (Or.inr (Or.inr (Or.inr (Or.inr (Or.inr (Or.inr (Or.inr (Or.inl (Int32.toInt_inj.mp (h.trans (by decide)))))))))))))))))
  · exact Or.inr (Or.inr (Or.inr (Or.inr (Or.inr (Or.inr (Or.inr (Or.inr (Or.inr (Or.inr (Or.inr (Or.inr (Or.inr (Or.inr (Or.inr ((Int32.toInt_inj.mp (h.trans (by decide))))))))))))))))))
theorem own_c15 {z : Int32} (h : 0 ≤ z.toInt ∧ z.toInt < 16) : ¬ (z < (0 : Int32)) ∧ z.toNatClampNeg ≤ 15 := by
  rcases own_cases16 h.1 h.2 with rfl | rfl | rfl | rfl | rfl | rfl | rfl | rfl | rfl | rfl | rfl | rfl | rfl | rfl | rfl | rfl <;> decide
theorem own_s1 {n : Int32} (h : 0 ≤ n.toInt ∧ n.toInt < 16) : (n + (1 : Int32)).toInt = n.toInt + 1 := by
  have h1 := c_iadd n 1
  have h2 := rng32 (n + 1)
  have h4 : (1 : Int32).toInt = 1 := by decide
  omega
theorem own_nz1 {n : Int32} (h : 0 ≤ n.toInt ∧ n.toInt < 16) : (n + (1 : Int32)) ≠ 0 := by
  intro q
  have h1 := own_s1 h
  rw [q] at h1
  have h2 : (0 : Int32).toInt = 0 := by decide
  omega
theorem own_r {x m : Int32} (hx : 0 ≤ x.toInt) (hm : 0 < m.toInt) : 0 ≤ (x % m).toInt ∧ (x % m).toInt < m.toInt := by
  have h := (c_iremV x m).1 hx hm
  exact ⟨h.1, h.2.1⟩
theorem own_k1 {n x : Int32} (h : 0 ≤ n.toInt ∧ n.toInt < 16) : 0 ≤ ((x &&& (15 : Int32)) % (n + (1 : Int32))).toInt ∧ ((x &&& (15 : Int32)) % (n + (1 : Int32))).toInt ≤ n.toInt := by
  have h1 := own_s1 h
  have h2 := own_r (own_mask15 x).1 (m := n + (1 : Int32)) (by omega)
  omega
theorem own_d {n k : Int32} (h : 0 ≤ n.toInt ∧ n.toInt < 16) (g : 0 ≤ k.toInt ∧ k.toInt ≤ n.toInt) : (n - k).toInt = n.toInt - k.toInt := by
  have h1 := c_isub n k
  have h2 := rng32 (n - k)
  omega
theorem own_nz2 {n k : Int32} (h : 0 ≤ n.toInt ∧ n.toInt < 16) (g : 0 ≤ k.toInt ∧ k.toInt ≤ n.toInt) : ((n - k) + (1 : Int32)) ≠ 0 := own_nz1 (by have := own_d h g; omega)
theorem own_k2 {n k x : Int32} (h : 0 ≤ n.toInt ∧ n.toInt < 16) (g : 0 ≤ k.toInt ∧ k.toInt ≤ n.toInt) : 0 ≤ ((x &&& (15 : Int32)) % ((n - k) + (1 : Int32))).toInt ∧ k.toInt + ((x &&& (15 : Int32)) % ((n - k) + (1 : Int32))).toInt ≤ n.toInt := by
  have h1 := own_d h g
  have h2 := own_k1 (n := n - k) (x := x) (by omega)
  omega
theorem own_t1 {n k : Int32} (g : 0 ≤ k.toInt ∧ k.toInt ≤ n.toInt) : ¬ ((n - (0 : Int32)) < k) := by
  rw [Int32.lt_iff_toInt_lt, Int32.sub_zero]
  omega
theorem own_t2 {n k j : Int32} (h : 0 ≤ n.toInt ∧ n.toInt < 16) (g : 0 ≤ k.toInt ∧ k.toInt ≤ n.toInt) (f : 0 ≤ j.toInt ∧ k.toInt + j.toInt ≤ n.toInt) : ¬ ((n - ((0 : Int32) + k)) < j) := by
  rw [Int32.zero_add, Int32.lt_iff_toInt_lt, own_d h g]
  omega
theorem own_str {Z : State} {a0 : Array Value} (hw : ∀ d ∈ tables_1, d.before a0 Z = true) : ∀ a ∈ Bundle.stringAtoms, a.before a0 Z = true := by
  intro a ha
  simp only [Bundle.stringAtoms, List.mem_cons, List.not_mem_nil, or_false] at ha
  rcases ha with rfl | rfl | rfl | rfl | rfl | rfl | rfl
  · exact hw _ (List.mem_of_getElem? (i := 13) rfl)
  · exact hw _ (List.mem_of_getElem? (i := 14) rfl)
  · exact hw _ (List.mem_of_getElem? (i := 0) rfl)
  · exact hw _ (List.mem_of_getElem? (i := 15) rfl)
  · exact hw _ (List.mem_of_getElem? (i := 16) rfl)
  · exact hw _ (List.mem_of_getElem? (i := 17) rfl)
  · exact hw _ (List.mem_of_getElem? (i := 18) rfl)
theorem d_prog_1_method_3_code_0 : decode prog_1_method_3_code 0 = .ok (.aload_n 0, 1) := by decide +kernel
theorem d_prog_1_method_3_code_1 : decode prog_1_method_3_code 1 = .ok (.invokespecial 18, 3) := by decide +kernel
theorem d_prog_1_method_3_code_4 : decode prog_1_method_3_code 4 = .ok (.aload_n 0, 1) := by decide +kernel
theorem d_prog_1_method_3_code_5 : decode prog_1_method_3_code 5 = .ok (.aload_n 1, 1) := by decide +kernel
theorem d_prog_1_method_3_code_6 : decode prog_1_method_3_code 6 = .ok (.putfield 23, 3) := by decide +kernel
theorem d_prog_1_method_3_code_9 : decode prog_1_method_3_code 9 = .ok (.aload_n 0, 1) := by decide +kernel
theorem d_prog_1_method_3_code_10 : decode prog_1_method_3_code 10 = .ok (.aload_n 2, 1) := by decide +kernel
theorem d_prog_1_method_3_code_11 : decode prog_1_method_3_code 11 = .ok (.getstatic 27, 3) := by decide +kernel
theorem d_prog_1_method_3_code_14 : decode prog_1_method_3_code 14 = .ok (.if_acmp .ne 7, 3) := by decide +kernel
theorem d_prog_1_method_3_code_17 : decode prog_1_method_3_code 17 = .ok (.iconst 1, 1) := by decide +kernel
theorem d_prog_1_method_3_code_18 : decode prog_1_method_3_code 18 = .ok (.goto 4, 3) := by decide +kernel
theorem d_prog_1_method_3_code_21 : decode prog_1_method_3_code 21 = .ok (.iconst 0, 1) := by decide +kernel
theorem d_prog_1_method_3_code_22 : decode prog_1_method_3_code 22 = .ok (.putfield 30, 3) := by decide +kernel
theorem d_prog_1_method_3_code_25 : decode prog_1_method_3_code 25 = .ok (.aload_n 0, 1) := by decide +kernel
theorem d_prog_1_method_3_code_26 : decode prog_1_method_3_code 26 = .ok (.aload_n 3, 1) := by decide +kernel
theorem d_prog_1_method_3_code_27 : decode prog_1_method_3_code 27 = .ok (.putfield 34, 3) := by decide +kernel
theorem d_prog_1_method_3_code_30 : decode prog_1_method_3_code 30 = .ok (.return_, 1) := by decide +kernel
theorem pn_com_example_bindery_bindery_ByteReader : plainName "com/example/bindery/bindery/ByteReader" = true := by first | (simp [plainName, overriddenIn]; done) | decide +kernel
theorem ef_rm_init_3 (m : MethodId) (x0 : Addr) (x1 : Addr) (w_BIG_ENDIAN : Addr) (x2 : Addr) : entryFrame m #[(.ref x0), (.ref x1), (.ref w_BIG_ENDIAN), (.ref x2)] 4 = mkF m 0 #[.val (.ref x0), .val (.ref x1), .val (.ref w_BIG_ENDIAN), .val (.ref x2)] [] := by first | (simp [entryFrame, mkF, argsToLocals, Value.category]; done) | rfl
def Q_rm_init_3 (Z : State) (x0 : Addr) (x1 : Addr) (y0 : Int32) (x2 : Addr) (kc0 : ClassId) (w_LITTLE_ENDIAN : Addr) (w_BIG_ENDIAN : Addr) (h0 : Heap) (n0 : Nat) (v : Option Value) (h : Heap) (L : List Loc) : Prop := ∃ (bz14 : Int32), v = none ∧ Fr n0 L ∧ Keep h0 h [x0] ∧ Exa Z h x0 "com/example/bindery/bindery/ByteReader" ∧ Fld Z h x0 "com/example/bindery/bindery/ByteReader" "payload" "[B" (.ref x1) ∧ Fld Z h x0 "com/example/bindery/bindery/ByteReader" "littleEndian" "Z" (.int bz14) ∧ Fld Z h x0 "com/example/bindery/bindery/ByteReader" "input" "Ljava/lang/String;" (.ref x2) ∧ Fld Z h x0 "com/example/bindery/bindery/ByteReader" "position" "I" (.int (0 : Int32))
set_option maxRecDepth 65536 in
set_option maxHeartbeats 40000000 in
theorem rm_init_3 (l : Launch) (Z : State) (a0 : Array Value) (hw : ∀ d ∈ tables_1, d.before a0 Z = true) (ws : List Jvm.Cond) (x0 : Addr) (x1 : Addr) (y0 : Int32) (x2 : Addr) (kc0 : ClassId) (w_LITTLE_ENDIAN : Addr) (w_BIG_ENDIAN : Addr) (h0 : Heap) (n0 : Nat) (O0 : Old Z n0 h0) (E_x0 : Exa Z h0 x0 "com/example/bindery/bindery/ByteReader") (F_x0_payload : Fld Z h0 x0 "com/example/bindery/bindery/ByteReader" "payload" "[B" .null) (F_x0_littleEndian : Fld Z h0 x0 "com/example/bindery/bindery/ByteReader" "littleEndian" "Z" (.int (0 : Int32))) (F_x0_input : Fld Z h0 x0 "com/example/bindery/bindery/ByteReader" "input" "Ljava/lang/String;" .null) (F_x0_position : Fld Z h0 x0 "com/example/bindery/bindery/ByteReader" "position" "I" (.int (0 : Int32))) (ge_x0 : n0 ≤ x0) (V_x1 : Arv Z h0 x1 kc0 .byte y0 [] (.int (0 : Int32))) (ge_x1 : n0 ≤ x1) (ne_x0_x1 : x0 ≠ x1) (S_LITTLE_ENDIAN : Sta Z Z.heap "java/nio/ByteOrder" "LITTLE_ENDIAN" "Ljava/nio/ByteOrder;" (.ref w_LITTLE_ENDIAN)) :
    MetFree l (⟨"com/example/bindery/bindery/ByteReader", "<init>", "([BLjava/nio/ByteOrder;Ljava/lang/String;)V"⟩ : MethodName) (head1 (Jvm.Cond.code (⟨"com/example/bindery/bindery/ByteReader", "<init>", "([BLjava/nio/ByteOrder;Ljava/lang/String;)V"⟩ : MethodName) prog_1_method_3_code 4 none :: ws) ({ frames := 1, cells := 0, slots := 0, locals := 12 } : Room)) (fun a U => a = #[(.ref x0), (.ref x1), (.ref w_BIG_ENDIAN), (.ref x2)] ∧ Z.Warmed39 U.vm ∧ U.heap = h0) (fun _ _ _ _ _ => True) (fun _ U o U' => ∃ v L, o = .returned v ∧ Q_rm_init_3 Z x0 x1 y0 x2 kc0 w_LITTLE_ENDIAN w_BIG_ENDIAN h0 n0 v U'.heap L ∧ FrameEnd U o U' L ({ frames := 1, cells := 0, slots := 0, locals := 12 } : Room).cells ({ frames := 1, cells := 0, slots := 0, locals := 12 } : Room).slots) := by
  refine MetFree.of_bodySF (plainFor_of_name pn_com_example_bindery_bindery_ByteReader) hisR ?_
  intro p e s m args below meth c s₁ Bd hml0 hP hK
  obtain ⟨rfl, hZ, hh⟩ := hP
  have hx := Bd.exec
  have hby := Bd.bytes
  have hml : c.maxLocals = 4 := hml0
  have hown : s.vm.findClass "com/example/bindery/bindery/ByteReader" = some m.cls := findClass_of_methodNamed Bd.named
  have hnm := (name_of_methodNamed Bd.named Bd.method).1
  have X0 : Stand p l e ({ frames := 1, cells := 0, slots := 0, locals := 12 } : Room) s m #[(.ref x0), (.ref x1), (.ref w_BIG_ENDIAN), (.ref x2)] below meth c s₁ [] 0 0 := Stand.of_body Bd
  have e0 : s₁.heap = h0 := by rw [← hh, Bd.state]; rfl
  have N0 := Fr.nil n0
  have pre0 : ∀ t, Steps p.tables e below (s₁.setTop (mkF m 0 #[.val (.ref x0), .val (.ref x1), .val (.ref w_BIG_ENDIAN), .val (.ref x2)] [])) t → Steps p.tables e below (s₁.setTop (entryFrame m #[(.ref x0), (.ref x1), (.ref w_BIG_ENDIAN), (.ref x2)] 4)) t := fun t k => castTop (ef_rm_init_3 m x0 x1 w_BIG_ENDIAN x2) k
  have K0 := Keep.refl h0 [x0]
  obtain ⟨T10, X10, e10, st10⟩ := initO X0 hx hZ hown (hw _ (List.mem_of_getElem? (i := 22) rfl)) (hw _ (List.mem_of_getElem? (i := 23) rfl)) (hw _ (List.mem_of_getElem? (i := 24) rfl)) e0 (g := (mkF m 1 #[.val (.ref x0), .val (.ref x1), .val (.ref w_BIG_ENDIAN), .val (.ref x2)] [(.ref x0)])) rfl (by rw [hml]; rfl) rfl (hb hby d_prog_1_method_3_code_1) (by decide) (W := 0) (by show 2 * 0 + _ ≤ _; exact Nat.le_of_eq rfl) (by decide)
  obtain ⟨T11, h11, X11, e11, W11, st11⟩ := putF X10 hx hZ hown (host := "") (Or.inl (hw _ (List.mem_of_getElem? (i := 25) rfl))) Via.refl e10 F_x0_payload E_x0 (Or.inr ⟨(hw _ (List.mem_of_getElem? (i := 26) rfl)), rfl, hnm⟩) (hw _ (List.mem_of_getElem? (i := 2) rfl)) (ty := (.array .byte)) (by decide) rfl rfl (g := (mkF m 6 #[.val (.ref x0), .val (.ref x1), .val (.ref w_BIG_ENDIAN), .val (.ref x2)] [(.ref x1), (.ref x0)])) rfl rfl (hb hby d_prog_1_method_3_code_6)
  have F_x0_payload := F_x0_payload.same W11
  have E_x0 := E_x0.wr W11
  have F_x0_littleEndian := F_x0_littleEndian.other W11 (Or.inr (slot_ne (Or.inr (hw _ (List.mem_of_getElem? (i := 29) rfl))) (Or.inr (hw _ (List.mem_of_getElem? (i := 26) rfl))) (by decide) (t := .boolean) (t' := (.array .byte)) (by decide) (by decide)))
  have F_x0_input := F_x0_input.other W11 (Or.inr (slot_ne (Or.inr (hw _ (List.mem_of_getElem? (i := 31) rfl))) (Or.inr (hw _ (List.mem_of_getElem? (i := 26) rfl))) (by decide) (t := (.object "java/lang/String")) (t' := (.array .byte)) (by decide) (by decide)))
  have F_x0_position := F_x0_position.other W11 (Or.inr (slot_ne (Or.inl (hw _ (List.mem_of_getElem? (i := 38) rfl))) (Or.inr (hw _ (List.mem_of_getElem? (i := 26) rfl))) (by decide) (t := .int) (t' := (.array .byte)) (by decide) (by decide)))
  have V_x1 := V_x1.other W11 (Ne.symm ne_x0_x1)
  have O11 := O0.wr W11 ge_x0
  have K11 := K0.wr W11 (Or.inl (List.mem_of_getElem? (i := 0) rfl))
  have N11 := Fr.snoc X11 N0 ge_x0
  obtain ⟨T12, X12, e12, st12⟩ := getS2 X11 hx hZ hown (host := "") (Or.inl (hw _ (List.mem_of_getElem? (i := 27) rfl))) Via.refl e11 (S_LITTLE_ENDIAN.ext O11.2) (g := (mkF m 11 #[.val (.ref x0), .val (.ref x1), .val (.ref w_BIG_ENDIAN), .val (.ref x2)] [(.ref w_BIG_ENDIAN), (.ref x0)])) rfl (hb hby d_prog_1_method_3_code_11)
  have pre13 : ∀ t, Steps p.tables e below (T12.setTop (mkF m 14 #[.val (.ref x0), .val (.ref x1), .val (.ref w_BIG_ENDIAN), .val (.ref x2)] [(.ref w_LITTLE_ENDIAN), (.ref w_BIG_ENDIAN), (.ref x0)])) t → Steps p.tables e below (s₁.setTop (entryFrame m #[(.ref x0), (.ref x1), (.ref w_BIG_ENDIAN), (.ref x2)] 4)) t := by
    intro t kt
    refine pre0 t ?_
    show Steps p.tables e below (s₁.setTop (mkF m 0 #[.val (.ref x0), .val (.ref x1), .val (.ref w_BIG_ENDIAN), .val (.ref x2)] [])) _
    refine XS.aloadN X0.here hx rfl (hb hby d_prog_1_method_3_code_0) rfl rfl ?_
    show Steps p.tables e below (s₁.setTop (mkF m 1 #[.val (.ref x0), .val (.ref x1), .val (.ref w_BIG_ENDIAN), .val (.ref x2)] [(.ref x0)])) _
    refine st10 _ ?_
    show Steps p.tables e below (T10.setTop (mkF m 4 #[.val (.ref x0), .val (.ref x1), .val (.ref w_BIG_ENDIAN), .val (.ref x2)] [])) _
    refine XS.aloadN X10.here hx rfl (hb hby d_prog_1_method_3_code_4) rfl rfl ?_
    show Steps p.tables e below (T10.setTop (mkF m 5 #[.val (.ref x0), .val (.ref x1), .val (.ref w_BIG_ENDIAN), .val (.ref x2)] [(.ref x0)])) _
    refine XS.aloadN X10.here hx rfl (hb hby d_prog_1_method_3_code_5) rfl rfl ?_
    show Steps p.tables e below (T10.setTop (mkF m 6 #[.val (.ref x0), .val (.ref x1), .val (.ref w_BIG_ENDIAN), .val (.ref x2)] [(.ref x1), (.ref x0)])) _
    refine st11 _ ?_
    show Steps p.tables e below (T11.setTop (mkF m 9 #[.val (.ref x0), .val (.ref x1), .val (.ref w_BIG_ENDIAN), .val (.ref x2)] [])) _
    refine XS.aloadN X11.here hx rfl (hb hby d_prog_1_method_3_code_9) rfl rfl ?_
    show Steps p.tables e below (T11.setTop (mkF m 10 #[.val (.ref x0), .val (.ref x1), .val (.ref w_BIG_ENDIAN), .val (.ref x2)] [(.ref x0)])) _
    refine XS.aloadN X11.here hx rfl (hb hby d_prog_1_method_3_code_10) rfl rfl ?_
    show Steps p.tables e below (T11.setTop (mkF m 11 #[.val (.ref x0), .val (.ref x1), .val (.ref w_BIG_ENDIAN), .val (.ref x2)] [(.ref w_BIG_ENDIAN), (.ref x0)])) _
    refine st12 _ ?_
    exact kt
  obtain ⟨bz14, hbz14, pre14⟩ : ∃ z : Int32, (z = 0 ∨ z = 1) ∧ ∀ t, Steps p.tables e below (T12.setTop (mkF m 22 #[.val (.ref x0), .val (.ref x1), .val (.ref w_BIG_ENDIAN), .val (.ref x2)] [(.int z), (.ref x0)])) t → Steps p.tables e below (s₁.setTop (entryFrame m #[(.ref x0), (.ref x1), (.ref w_BIG_ENDIAN), (.ref x2)] 4)) t := by
    by_cases hq : w_BIG_ENDIAN = w_LITTLE_ENDIAN
    · refine ⟨1, Or.inr rfl, fun t kt => pre13 t ?_⟩
      show Steps p.tables e below (T12.setTop (mkF m 14 #[.val (.ref x0), .val (.ref x1), .val (.ref w_BIG_ENDIAN), .val (.ref x2)] [(.ref w_LITTLE_ENDIAN), (.ref w_BIG_ENDIAN), (.ref x0)])) _
      refine Jvm.RoadKit.acmp (g := (mkF m 14 #[.val (.ref x0), .val (.ref x1), .val (.ref w_BIG_ENDIAN), .val (.ref x2)] [(.ref w_LITTLE_ENDIAN), (.ref w_BIG_ENDIAN), (.ref x0)])) X12 hx rfl rfl rfl (pc0 := 14) (pc' := 17) (same := true) rfl (hb hby d_prog_1_method_3_code_14) rfl (decide_eq_true (congrArg Value.ref hq)) (by decide) (by decide) ?_
      show Steps p.tables e below (T12.setTop (mkF m 17 #[.val (.ref x0), .val (.ref x1), .val (.ref w_BIG_ENDIAN), .val (.ref x2)] [(.ref x0)])) _
      refine XS.iconst X12.here hx rfl (hb hby d_prog_1_method_3_code_17) ?_
      show Steps p.tables e below (T12.setTop (mkF m 18 #[.val (.ref x0), .val (.ref x1), .val (.ref w_BIG_ENDIAN), .val (.ref x2)] [(.int (1 : Int32)), (.ref x0)])) _
      refine XS.goto X12.here hx rfl (pc0 := 18) (pc' := 22) rfl (hb hby d_prog_1_method_3_code_18) (by decide) (by decide) ?_
      exact kt
    · refine ⟨0, Or.inl rfl, fun t kt => pre13 t ?_⟩
      show Steps p.tables e below (T12.setTop (mkF m 14 #[.val (.ref x0), .val (.ref x1), .val (.ref w_BIG_ENDIAN), .val (.ref x2)] [(.ref w_LITTLE_ENDIAN), (.ref w_BIG_ENDIAN), (.ref x0)])) _
      refine Jvm.RoadKit.acmp (g := (mkF m 14 #[.val (.ref x0), .val (.ref x1), .val (.ref w_BIG_ENDIAN), .val (.ref x2)] [(.ref w_LITTLE_ENDIAN), (.ref w_BIG_ENDIAN), (.ref x0)])) X12 hx rfl rfl rfl (pc0 := 14) (pc' := 21) (same := false) rfl (hb hby d_prog_1_method_3_code_14) rfl (decide_eq_false fun q => hq (Value.ref.inj q)) (by decide) (by decide) ?_
      show Steps p.tables e below (T12.setTop (mkF m 21 #[.val (.ref x0), .val (.ref x1), .val (.ref w_BIG_ENDIAN), .val (.ref x2)] [(.ref x0)])) _
      refine XS.iconst X12.here hx rfl (hb hby d_prog_1_method_3_code_21) ?_
      exact kt
  obtain ⟨T15, h15, X15, e15, W15, st15⟩ := putF X12 hx hZ hown (host := "") (Or.inl (hw _ (List.mem_of_getElem? (i := 28) rfl))) Via.refl e12 F_x0_littleEndian E_x0 (Or.inr ⟨(hw _ (List.mem_of_getElem? (i := 29) rfl)), rfl, hnm⟩) (hw _ (List.mem_of_getElem? (i := 2) rfl)) (ty := .boolean) (by decide) (by rcases hbz14 with rfl | rfl <;> rfl) (by rcases hbz14 with rfl | rfl <;> rfl) (g := (mkF m 22 #[.val (.ref x0), .val (.ref x1), .val (.ref w_BIG_ENDIAN), .val (.ref x2)] [(.int bz14), (.ref x0)])) rfl rfl (hb hby d_prog_1_method_3_code_22)
  have F_x0_littleEndian := F_x0_littleEndian.same W15
  have E_x0 := E_x0.wr W15
  have F_x0_payload := F_x0_payload.other W15 (Or.inr (slot_ne (Or.inr (hw _ (List.mem_of_getElem? (i := 26) rfl))) (Or.inr (hw _ (List.mem_of_getElem? (i := 29) rfl))) (by decide) (t := (.array .byte)) (t' := .boolean) (by decide) (by decide)))
  have F_x0_input := F_x0_input.other W15 (Or.inr (slot_ne (Or.inr (hw _ (List.mem_of_getElem? (i := 31) rfl))) (Or.inr (hw _ (List.mem_of_getElem? (i := 29) rfl))) (by decide) (t := (.object "java/lang/String")) (t' := .boolean) (by decide) (by decide)))
  have F_x0_position := F_x0_position.other W15 (Or.inr (slot_ne (Or.inl (hw _ (List.mem_of_getElem? (i := 38) rfl))) (Or.inr (hw _ (List.mem_of_getElem? (i := 29) rfl))) (by decide) (t := .int) (t' := .boolean) (by decide) (by decide)))
  have V_x1 := V_x1.other W15 (Ne.symm ne_x0_x1)
  have O15 := O11.wr W15 ge_x0
  have K15 := K11.wr W15 (Or.inl (List.mem_of_getElem? (i := 0) rfl))
  have N15 := Fr.snoc X15 N11 ge_x0
  obtain ⟨T16, h16, X16, e16, W16, st16⟩ := putF X15 hx hZ hown (host := "") (Or.inl (hw _ (List.mem_of_getElem? (i := 30) rfl))) Via.refl e15 F_x0_input E_x0 (Or.inr ⟨(hw _ (List.mem_of_getElem? (i := 31) rfl)), rfl, hnm⟩) (hw _ (List.mem_of_getElem? (i := 2) rfl)) (ty := (.object "java/lang/String")) (by decide) rfl rfl (g := (mkF m 27 #[.val (.ref x0), .val (.ref x1), .val (.ref w_BIG_ENDIAN), .val (.ref x2)] [(.ref x2), (.ref x0)])) rfl rfl (hb hby d_prog_1_method_3_code_27)
  have F_x0_input := F_x0_input.same W16
  have E_x0 := E_x0.wr W16
  have F_x0_payload := F_x0_payload.other W16 (Or.inr (slot_ne (Or.inr (hw _ (List.mem_of_getElem? (i := 26) rfl))) (Or.inr (hw _ (List.mem_of_getElem? (i := 31) rfl))) (by decide) (t := (.array .byte)) (t' := (.object "java/lang/String")) (by decide) (by decide)))
  have F_x0_littleEndian := F_x0_littleEndian.other W16 (Or.inr (slot_ne (Or.inr (hw _ (List.mem_of_getElem? (i := 29) rfl))) (Or.inr (hw _ (List.mem_of_getElem? (i := 31) rfl))) (by decide) (t := .boolean) (t' := (.object "java/lang/String")) (by decide) (by decide)))
  have F_x0_position := F_x0_position.other W16 (Or.inr (slot_ne (Or.inl (hw _ (List.mem_of_getElem? (i := 38) rfl))) (Or.inr (hw _ (List.mem_of_getElem? (i := 31) rfl))) (by decide) (t := .int) (t' := (.object "java/lang/String")) (by decide) (by decide)))
  have V_x1 := V_x1.other W16 (Ne.symm ne_x0_x1)
  have O16 := O15.wr W16 ge_x0
  have K16 := K15.wr W16 (Or.inl (List.mem_of_getElem? (i := 0) rfl))
  have N16 := Fr.snoc X16 N15 ge_x0
  have pre17 : ∀ t, Steps p.tables e below (T16.setTop (mkF m 30 #[.val (.ref x0), .val (.ref x1), .val (.ref w_BIG_ENDIAN), .val (.ref x2)] [])) t → Steps p.tables e below (s₁.setTop (entryFrame m #[(.ref x0), (.ref x1), (.ref w_BIG_ENDIAN), (.ref x2)] 4)) t := by
    intro t kt
    refine pre14 t ?_
    show Steps p.tables e below (T12.setTop (mkF m 22 #[.val (.ref x0), .val (.ref x1), .val (.ref w_BIG_ENDIAN), .val (.ref x2)] [(.int bz14), (.ref x0)])) _
    refine st15 _ ?_
    show Steps p.tables e below (T15.setTop (mkF m 25 #[.val (.ref x0), .val (.ref x1), .val (.ref w_BIG_ENDIAN), .val (.ref x2)] [])) _
    refine XS.aloadN X15.here hx rfl (hb hby d_prog_1_method_3_code_25) rfl rfl ?_
    show Steps p.tables e below (T15.setTop (mkF m 26 #[.val (.ref x0), .val (.ref x1), .val (.ref w_BIG_ENDIAN), .val (.ref x2)] [(.ref x0)])) _
    refine XS.aloadN X15.here hx rfl (hb hby d_prog_1_method_3_code_26) rfl rfl ?_
    show Steps p.tables e below (T15.setTop (mkF m 27 #[.val (.ref x0), .val (.ref x1), .val (.ref w_BIG_ENDIAN), .val (.ref x2)] [(.ref x2), (.ref x0)])) _
    refine st16 _ ?_
    exact kt
  obtain ⟨fs, hr, hrun, hended, hW, hsame⟩ := X16.leave (v := none) (fun _ => rfl)
  refine ⟨_, _, pre17 _ ?_, hrun, hended, _, _, rfl, ?_, ⟨_, rfl⟩, hW, hsame.mono (by decide) (by decide)⟩
  · show Steps p.tables e below (T16.setTop (mkF m 30 #[.val (.ref x0), .val (.ref x1), .val (.ref w_BIG_ENDIAN), .val (.ref x2)] [])) _
    exact X16.returnOut hx Bd.returns (hb hby d_prog_1_method_3_code_30) hr
  · show Q_rm_init_3 Z x0 x1 y0 x2 kc0 w_LITTLE_ENDIAN w_BIG_ENDIAN h0 n0 _ T16.heap _
    rw [e16]
    exact ⟨bz14, rfl, N16, K16, E_x0, F_x0_payload, F_x0_littleEndian, F_x0_input, F_x0_position⟩
theorem d_prog_1_method_2_code_0 : decode prog_1_method_2_code 0 = .ok (.aload_n 0, 1) := by decide +kernel
theorem d_prog_1_method_2_code_1 : decode prog_1_method_2_code 1 = .ok (.aload_n 1, 1) := by decide +kernel
theorem d_prog_1_method_2_code_2 : decode prog_1_method_2_code 2 = .ok (.aload_n 2, 1) := by decide +kernel
theorem d_prog_1_method_2_code_3 : decode prog_1_method_2_code 3 = .ok (.ldc 13, 2) := by decide +kernel
theorem d_prog_1_method_2_code_5 : decode prog_1_method_2_code 5 = .ok (.invokespecial 15, 3) := by decide +kernel
theorem pd___BLjava_nio_ByteOrder_Ljava_lang_String__V : parseMethodDescriptor "([BLjava/nio/ByteOrder;Ljava/lang/String;)V" = some ⟨[(.array .byte), (.object "java/nio/ByteOrder"), (.object "java/lang/String")], none⟩ := by decide +kernel
theorem d_prog_1_method_2_code_8 : decode prog_1_method_2_code 8 = .ok (.return_, 1) := by decide +kernel
theorem ef_rm_init_2 (m : MethodId) (x0 : Addr) (x1 : Addr) (w_BIG_ENDIAN : Addr) : entryFrame m #[(.ref x0), (.ref x1), (.ref w_BIG_ENDIAN)] 3 = mkF m 0 #[.val (.ref x0), .val (.ref x1), .val (.ref w_BIG_ENDIAN)] [] := by first | (simp [entryFrame, mkF, argsToLocals, Value.category]; done) | rfl
def Q_rm_init_2 (Z : State) (x0 : Addr) (x1 : Addr) (y0 : Int32) (kc0 : ClassId) (w_LITTLE_ENDIAN : Addr) (w_BIG_ENDIAN : Addr) (h0 : Heap) (n0 : Nat) (v : Option Value) (h : Heap) (L : List Loc) : Prop := ∃ (kx9_bz14 : Int32) (a8 : Addr), v = none ∧ Fr n0 L ∧ Keep h0 h [x0] ∧ Exa Z h x0 "com/example/bindery/bindery/ByteReader" ∧ Fld Z h x0 "com/example/bindery/bindery/ByteReader" "payload" "[B" (.ref x1) ∧ Fld Z h x0 "com/example/bindery/bindery/ByteReader" "littleEndian" "Z" (.int kx9_bz14) ∧ Fld Z h x0 "com/example/bindery/bindery/ByteReader" "input" "Ljava/lang/String;" (.ref a8) ∧ Fld Z h x0 "com/example/bindery/bindery/ByteReader" "position" "I" (.int (0 : Int32))
set_option maxRecDepth 65536 in
set_option maxHeartbeats 40000000 in
theorem rm_init_2 (l : Launch) (Z : State) (a0 : Array Value) (hw : ∀ d ∈ tables_1, d.before a0 Z = true) (ws : List Jvm.Cond) (x0 : Addr) (x1 : Addr) (y0 : Int32) (kc0 : ClassId) (w_LITTLE_ENDIAN : Addr) (w_BIG_ENDIAN : Addr) (h0 : Heap) (n0 : Nat) (O0 : Old Z n0 h0) (E_x0 : Exa Z h0 x0 "com/example/bindery/bindery/ByteReader") (F_x0_payload : Fld Z h0 x0 "com/example/bindery/bindery/ByteReader" "payload" "[B" .null) (F_x0_littleEndian : Fld Z h0 x0 "com/example/bindery/bindery/ByteReader" "littleEndian" "Z" (.int (0 : Int32))) (F_x0_input : Fld Z h0 x0 "com/example/bindery/bindery/ByteReader" "input" "Ljava/lang/String;" .null) (F_x0_position : Fld Z h0 x0 "com/example/bindery/bindery/ByteReader" "position" "I" (.int (0 : Int32))) (ge_x0 : n0 ≤ x0) (V_x1 : Arv Z h0 x1 kc0 .byte y0 [] (.int (0 : Int32))) (ge_x1 : n0 ≤ x1) (ne_x0_x1 : x0 ≠ x1) (S_LITTLE_ENDIAN : Sta Z Z.heap "java/nio/ByteOrder" "LITTLE_ENDIAN" "Ljava/nio/ByteOrder;" (.ref w_LITTLE_ENDIAN)) :
    MetFree l (⟨"com/example/bindery/bindery/ByteReader", "<init>", "([BLjava/nio/ByteOrder;)V"⟩ : MethodName) (head1 (Jvm.Cond.code (⟨"com/example/bindery/bindery/ByteReader", "<init>", "([BLjava/nio/ByteOrder;)V"⟩ : MethodName) prog_1_method_2_code 3 none :: ws) ({ frames := 2, cells := 2, slots := 48, locals := 27 } : Room)) (fun a U => a = #[(.ref x0), (.ref x1), (.ref w_BIG_ENDIAN)] ∧ Z.Warmed39 U.vm ∧ U.heap = h0) (fun _ _ _ _ _ => True) (fun _ U o U' => ∃ v L, o = .returned v ∧ Q_rm_init_2 Z x0 x1 y0 kc0 w_LITTLE_ENDIAN w_BIG_ENDIAN h0 n0 v U'.heap L ∧ ReturnedEndW U o U' L ({ frames := 2, cells := 2, slots := 48, locals := 27 } : Room).cells ({ frames := 2, cells := 2, slots := 48, locals := 27 } : Room).slots) := by
  refine MetFree.of_bodySF (plainFor_of_name pn_com_example_bindery_bindery_ByteReader) hisR ?_
  intro p e s m args below meth c s₁ Bd hml0 hP hK
  obtain ⟨rfl, hZ, hh⟩ := hP
  have hx := Bd.exec
  have hby := Bd.bytes
  have hml : c.maxLocals = 3 := hml0
  have hown : s.vm.findClass "com/example/bindery/bindery/ByteReader" = some m.cls := findClass_of_methodNamed Bd.named
  have hnm := (name_of_methodNamed Bd.named Bd.method).1
  have X0 : Stand p l e ({ frames := 2, cells := 2, slots := 48, locals := 27 } : Room) (s.setVm s.vm) m #[(.ref x0), (.ref x1), (.ref w_BIG_ENDIAN)] below meth c s₁ [] 0 0 := Stand.of_body Bd
  have e0 : s₁.heap = h0 := by rw [← hh, Bd.state]; rfl
  have N0 := Fr.nil n0
  have pre0 : ∀ t, Steps p.tables e below (s₁.setTop (mkF m 0 #[.val (.ref x0), .val (.ref x1), .val (.ref w_BIG_ENDIAN)] [])) t → Steps p.tables e below (s₁.setTop (entryFrame m #[(.ref x0), (.ref x1), (.ref w_BIG_ENDIAN)] 3)) t := fun t k => castTop (ef_rm_init_2 m x0 x1 w_BIG_ENDIAN) k
  have hZ : Z.Warmed39 (s.setVm s.vm).vm := hZ
  have hown : (s.setVm s.vm).vm.findClass "com/example/bindery/bindery/ByteReader" = some m.cls := hown
  have hS0 : s.Since s.vm 0 := (State.WarmedH.refl s).since 0
  have hk0 : 0 ≤ h0.size := Nat.zero_le _
  have K0 := Keep.refl h0 [x0]
  have pre7 : ∀ t, Steps p.tables e below (s₁.setTop (mkF m 3 #[.val (.ref x0), .val (.ref x1), .val (.ref w_BIG_ENDIAN)] [(.ref w_BIG_ENDIAN), (.ref x1), (.ref x0)])) t → Steps p.tables e below (s₁.setTop (entryFrame m #[(.ref x0), (.ref x1), (.ref w_BIG_ENDIAN)] 3)) t := by
    intro t kt
    refine pre0 t ?_
    show Steps p.tables e below (s₁.setTop (mkF m 0 #[.val (.ref x0), .val (.ref x1), .val (.ref w_BIG_ENDIAN)] [])) _
    refine XS.aloadN X0.here hx rfl (hb hby d_prog_1_method_2_code_0) rfl rfl ?_
    show Steps p.tables e below (s₁.setTop (mkF m 1 #[.val (.ref x0), .val (.ref x1), .val (.ref w_BIG_ENDIAN)] [(.ref x0)])) _
    refine XS.aloadN X0.here hx rfl (hb hby d_prog_1_method_2_code_1) rfl rfl ?_
    show Steps p.tables e below (s₁.setTop (mkF m 2 #[.val (.ref x0), .val (.ref x1), .val (.ref w_BIG_ENDIAN)] [(.ref x1), (.ref x0)])) _
    refine XS.aloadN X0.here hx rfl (hb hby d_prog_1_method_2_code_2) rfl rfl ?_
    exact kt
  obtain ⟨a8, T8, h8, k8, X8, e8, E8, hS8, hk8c, hZ, hown, st8⟩ := ldcS X0 hx hZ hown (hw _ (List.mem_of_getElem? (i := 12) rfl)) (own_str hw) e0 hS0 hk0 (g := (mkF m 3 #[.val (.ref x0), .val (.ref x1), .val (.ref w_BIG_ENDIAN)] [(.ref w_BIG_ENDIAN), (.ref x1), (.ref x0)])) rfl (hb hby d_prog_1_method_2_code_3) (n := 44) (by decide) (by decide) (by decide) (by decide)
  have E_x0 := E_x0.ext E8
  have F_x0_payload := F_x0_payload.ext E8
  have F_x0_littleEndian := F_x0_littleEndian.ext E8
  have F_x0_input := F_x0_input.ext E8
  have F_x0_position := F_x0_position.ext E8
  have V_x1 := V_x1.ext E8
  have O8 := O0.ext E8
  have K8 := K0.ext E8
  obtain ⟨_, _, ⟨T9, L9, k9, n9⟩, -, X9, ⟨Lc9, hQ9, l9, y9, z9⟩, st9⟩ := X8.specialBack hx (y := (⟨"com/example/bindery/bindery/ByteReader", "<init>", "([BLjava/nio/ByteOrder;Ljava/lang/String;)V"⟩ : MethodName)) rfl hown (mvT hZ (hw _ (List.mem_of_getElem? (i := 19) rfl))) (mvT hZ (hw _ (List.mem_of_getElem? (i := 20) rfl))) (mvT hZ (hw _ (List.mem_of_getElem? (i := 21) rfl))) (by decide) (backOf (W := 0) (rm_init_3 l Z a0 hw [] x0 x1 y0 a8 kc0 w_LITTLE_ENDIAN w_BIG_ENDIAN h8 n0 O8 E_x0 F_x0_payload F_x0_littleEndian F_x0_input F_x0_position ge_x0 V_x1 ge_x1 ne_x0_x1 S_LITTLE_ENDIAN) hZ (hw _ (List.mem_of_getElem? (i := 21) rfl)) (hw _ (List.mem_of_getElem? (i := 3) rfl)) (by decide) (by decide)) (g := (mkF m 5 #[.val (.ref x0), .val (.ref x1), .val (.ref w_BIG_ENDIAN)] [(.ref a8), (.ref w_BIG_ENDIAN), (.ref x1), (.ref x0)])) rfl (by rw [hml]; rfl) (Steps.refl _) (a := x0) (argsL := [(.ref x1), (.ref w_BIG_ENDIAN), (.ref a8)]) (rest := []) (lenOf pd___BLjava_nio_ByteOrder_Ljava_lang_String__V rfl) rfl (by show 2 * 0 + _ ≤ _; exact Nat.le_of_eq rfl) (hb hby d_prog_1_method_2_code_5) (fun _ _ => ⟨rfl, e8, (by decide : 2 + 0 ≤ _), (by decide : 48 + 0 ≤ _)⟩)
  dsimp only [Pt.U, Pt.locs, Pt.cells, Pt.slots] at X9 l9 y9 z9 st9 hQ9
  subst l9 y9 z9
  obtain ⟨kx9_bz14, rfl, N9q, Kc9, u9_0, u9_1, u9_2, u9_3, u9_4⟩ := hQ9
  have N9 := Fr.app N0 N9q
  have V_x1 := V_x1.keep Kc9 (ninS (Ne.symm ne_x0_x1) nin0)
  have O9 := O8.keep Kc9 (allS ge_x0 all0)
  have K9 := K8.trans Kc9 (allS (Or.inl (List.mem_of_getElem? (i := 0) rfl)) all0)
  have hk9 := Nat.le_trans hk8c Kc9.1
  have pre18 : ∀ t, Steps p.tables e below (T9.setTop (mkF m 8 #[.val (.ref x0), .val (.ref x1), .val (.ref w_BIG_ENDIAN)] [])) t → Steps p.tables e below (s₁.setTop (entryFrame m #[(.ref x0), (.ref x1), (.ref w_BIG_ENDIAN)] 3)) t := by
    intro t kt
    refine pre7 t ?_
    show Steps p.tables e below (s₁.setTop (mkF m 3 #[.val (.ref x0), .val (.ref x1), .val (.ref w_BIG_ENDIAN)] [(.ref w_BIG_ENDIAN), (.ref x1), (.ref x0)])) _
    refine st8 _ ?_
    show Steps p.tables e below (T8.setTop (mkF m 5 #[.val (.ref x0), .val (.ref x1), .val (.ref w_BIG_ENDIAN)] [(.ref a8), (.ref w_BIG_ENDIAN), (.ref x1), (.ref x0)])) _
    refine st9.trans ?_
    exact kt
  obtain ⟨fs, hr, hrun, hended, q1, q2, q3, q4⟩ := X9.leaveW hS8 hk9 (v := none) (fun _ => rfl)
  refine ⟨_, _, pre18 _ ?_, hrun, hended, _, _, rfl, ?_, ⟨_, rfl⟩, q2, q3, q4.mono (by decide) (by decide)⟩
  · show Steps p.tables e below (T9.setTop (mkF m 8 #[.val (.ref x0), .val (.ref x1), .val (.ref w_BIG_ENDIAN)] [])) _
    exact X9.returnOut hx Bd.returns (hb hby d_prog_1_method_2_code_8) hr
  · show Q_rm_init_2 Z x0 x1 y0 kc0 w_LITTLE_ENDIAN w_BIG_ENDIAN h0 n0 _ T9.heap _
    exact ⟨kx9_bz14, a8, rfl, N9, K9, u9_0, u9_1, u9_2, u9_3, u9_4⟩
theorem d_prog_1_method_1_code_0 : decode prog_1_method_1_code 0 = .ok (.aload_n 0, 1) := by decide +kernel
theorem d_prog_1_method_1_code_1 : decode prog_1_method_1_code 1 = .ok (.aload_n 1, 1) := by decide +kernel
theorem d_prog_1_method_1_code_2 : decode prog_1_method_1_code 2 = .ok (.getstatic 1, 3) := by decide +kernel
theorem d_prog_1_method_1_code_5 : decode prog_1_method_1_code 5 = .ok (.invokespecial 7, 3) := by decide +kernel
theorem pd___BLjava_nio_ByteOrder__V : parseMethodDescriptor "([BLjava/nio/ByteOrder;)V" = some ⟨[(.array .byte), (.object "java/nio/ByteOrder")], none⟩ := by decide +kernel
theorem d_prog_1_method_1_code_8 : decode prog_1_method_1_code 8 = .ok (.return_, 1) := by decide +kernel
theorem ef_rm_init_1 (m : MethodId) (x0 : Addr) (x1 : Addr) : entryFrame m #[(.ref x0), (.ref x1)] 2 = mkF m 0 #[.val (.ref x0), .val (.ref x1)] [] := by first | (simp [entryFrame, mkF, argsToLocals, Value.category]; done) | rfl
def Q_rm_init_1 (Z : State) (x0 : Addr) (x1 : Addr) (y0 : Int32) (kc0 : ClassId) (w_BIG_ENDIAN : Addr) (w_LITTLE_ENDIAN : Addr) (h0 : Heap) (n0 : Nat) (v : Option Value) (h : Heap) (L : List Loc) : Prop := ∃ (kx6_kx9_bz14 : Int32) (b6_a8 : Addr), v = none ∧ Fr n0 L ∧ Keep h0 h [x0] ∧ Exa Z h x0 "com/example/bindery/bindery/ByteReader" ∧ Fld Z h x0 "com/example/bindery/bindery/ByteReader" "payload" "[B" (.ref x1) ∧ Fld Z h x0 "com/example/bindery/bindery/ByteReader" "littleEndian" "Z" (.int kx6_kx9_bz14) ∧ Fld Z h x0 "com/example/bindery/bindery/ByteReader" "input" "Ljava/lang/String;" (.ref b6_a8) ∧ Fld Z h x0 "com/example/bindery/bindery/ByteReader" "position" "I" (.int (0 : Int32))
set_option maxRecDepth 65536 in
set_option maxHeartbeats 40000000 in
theorem rm_init_1 (l : Launch) (Z : State) (a0 : Array Value) (hw : ∀ d ∈ tables_1, d.before a0 Z = true) (ws : List Jvm.Cond) (x0 : Addr) (x1 : Addr) (y0 : Int32) (kc0 : ClassId) (w_BIG_ENDIAN : Addr) (w_LITTLE_ENDIAN : Addr) (h0 : Heap) (n0 : Nat) (O0 : Old Z n0 h0) (E_x0 : Exa Z h0 x0 "com/example/bindery/bindery/ByteReader") (F_x0_payload : Fld Z h0 x0 "com/example/bindery/bindery/ByteReader" "payload" "[B" .null) (F_x0_littleEndian : Fld Z h0 x0 "com/example/bindery/bindery/ByteReader" "littleEndian" "Z" (.int (0 : Int32))) (F_x0_input : Fld Z h0 x0 "com/example/bindery/bindery/ByteReader" "input" "Ljava/lang/String;" .null) (F_x0_position : Fld Z h0 x0 "com/example/bindery/bindery/ByteReader" "position" "I" (.int (0 : Int32))) (ge_x0 : n0 ≤ x0) (V_x1 : Arv Z h0 x1 kc0 .byte y0 [] (.int (0 : Int32))) (ge_x1 : n0 ≤ x1) (ne_x0_x1 : x0 ≠ x1) (S_BIG_ENDIAN : Sta Z Z.heap "java/nio/ByteOrder" "BIG_ENDIAN" "Ljava/nio/ByteOrder;" (.ref w_BIG_ENDIAN)) (S_LITTLE_ENDIAN : Sta Z Z.heap "java/nio/ByteOrder" "LITTLE_ENDIAN" "Ljava/nio/ByteOrder;" (.ref w_LITTLE_ENDIAN)) :
    MetFree l (⟨"com/example/bindery/bindery/ByteReader", "<init>", "([B)V"⟩ : MethodName) (head1 (Jvm.Cond.code (⟨"com/example/bindery/bindery/ByteReader", "<init>", "([B)V"⟩ : MethodName) prog_1_method_1_code 2 none :: ws) ({ frames := 3, cells := 2, slots := 48, locals := 41 } : Room)) (fun a U => a = #[(.ref x0), (.ref x1)] ∧ Z.Warmed39 U.vm ∧ U.heap = h0) (fun _ _ _ _ _ => True) (fun _ U o U' => ∃ v L, o = .returned v ∧ Q_rm_init_1 Z x0 x1 y0 kc0 w_BIG_ENDIAN w_LITTLE_ENDIAN h0 n0 v U'.heap L ∧ ReturnedEndW U o U' L ({ frames := 3, cells := 2, slots := 48, locals := 41 } : Room).cells ({ frames := 3, cells := 2, slots := 48, locals := 41 } : Room).slots) := by
  refine MetFree.of_bodySF (plainFor_of_name pn_com_example_bindery_bindery_ByteReader) hisR ?_
  intro p e s m args below meth c s₁ Bd hml0 hP hK
  obtain ⟨rfl, hZ, hh⟩ := hP
  have hx := Bd.exec
  have hby := Bd.bytes
  have hml : c.maxLocals = 2 := hml0
  have hown : s.vm.findClass "com/example/bindery/bindery/ByteReader" = some m.cls := findClass_of_methodNamed Bd.named
  have hnm := (name_of_methodNamed Bd.named Bd.method).1
  have X0 : Stand p l e ({ frames := 3, cells := 2, slots := 48, locals := 41 } : Room) (s.setVm s.vm) m #[(.ref x0), (.ref x1)] below meth c s₁ [] 0 0 := Stand.of_body Bd
  have e0 : s₁.heap = h0 := by rw [← hh, Bd.state]; rfl
  have N0 := Fr.nil n0
  have pre0 : ∀ t, Steps p.tables e below (s₁.setTop (mkF m 0 #[.val (.ref x0), .val (.ref x1)] [])) t → Steps p.tables e below (s₁.setTop (entryFrame m #[(.ref x0), (.ref x1)] 2)) t := fun t k => castTop (ef_rm_init_1 m x0 x1) k
  have hZ : Z.Warmed39 (s.setVm s.vm).vm := hZ
  have hown : (s.setVm s.vm).vm.findClass "com/example/bindery/bindery/ByteReader" = some m.cls := hown
  have hS0 : s.Since s.vm 0 := (State.WarmedH.refl s).since 0
  have hk0 : 0 ≤ h0.size := Nat.zero_le _
  have K0 := Keep.refl h0 [x0]
  obtain ⟨T5, X5, e5, st5⟩ := getS2 X0 hx hZ hown (host := "") (Or.inl (hw _ (List.mem_of_getElem? (i := 7) rfl))) Via.refl e0 (S_BIG_ENDIAN.ext O0.2) (g := (mkF m 2 #[.val (.ref x0), .val (.ref x1)] [(.ref x1), (.ref x0)])) rfl (hb hby d_prog_1_method_1_code_2)
  have pre19 : ∀ t, Steps p.tables e below (T5.setTop (mkF m 5 #[.val (.ref x0), .val (.ref x1)] [(.ref w_BIG_ENDIAN), (.ref x1), (.ref x0)])) t → Steps p.tables e below (s₁.setTop (entryFrame m #[(.ref x0), (.ref x1)] 2)) t := by
    intro t kt
    refine pre0 t ?_
    show Steps p.tables e below (s₁.setTop (mkF m 0 #[.val (.ref x0), .val (.ref x1)] [])) _
    refine XS.aloadN X0.here hx rfl (hb hby d_prog_1_method_1_code_0) rfl rfl ?_
    show Steps p.tables e below (s₁.setTop (mkF m 1 #[.val (.ref x0), .val (.ref x1)] [(.ref x0)])) _
    refine XS.aloadN X0.here hx rfl (hb hby d_prog_1_method_1_code_1) rfl rfl ?_
    show Steps p.tables e below (s₁.setTop (mkF m 2 #[.val (.ref x0), .val (.ref x1)] [(.ref x1), (.ref x0)])) _
    refine st5 _ ?_
    exact kt
  obtain ⟨_, _, ⟨T6, L6, k6, n6⟩, -, X6, hSc6, hge6, ⟨Lc6, hQ6, l6, y6, z6⟩, st6⟩ := X5.specialBackS hx (y := (⟨"com/example/bindery/bindery/ByteReader", "<init>", "([BLjava/nio/ByteOrder;)V"⟩ : MethodName)) rfl hown (mvT hZ (hw _ (List.mem_of_getElem? (i := 9) rfl))) (mvT hZ (hw _ (List.mem_of_getElem? (i := 10) rfl))) (mvT hZ (hw _ (List.mem_of_getElem? (i := 11) rfl))) (by decide) (backOfS (W := 0) (rm_init_2 l Z a0 hw [] x0 x1 y0 kc0 w_LITTLE_ENDIAN w_BIG_ENDIAN h0 n0 O0 E_x0 F_x0_payload F_x0_littleEndian F_x0_input F_x0_position ge_x0 V_x1 ge_x1 ne_x0_x1 S_LITTLE_ENDIAN) hZ (hw _ (List.mem_of_getElem? (i := 11) rfl)) (hw _ (List.mem_of_getElem? (i := 3) rfl)) (by decide) (by decide)) (g := (mkF m 5 #[.val (.ref x0), .val (.ref x1)] [(.ref w_BIG_ENDIAN), (.ref x1), (.ref x0)])) rfl (by rw [hml]; rfl) (Steps.refl _) (a := x0) (argsL := [(.ref x1), (.ref w_BIG_ENDIAN)]) (rest := []) (lenOf pd___BLjava_nio_ByteOrder__V rfl) rfl (by show 2 * 0 + _ ≤ _; exact Nat.le_of_eq rfl) (hb hby d_prog_1_method_1_code_5) (fun _ _ => ⟨rfl, e5, (by decide : 0 + 2 ≤ _), (by decide : 0 + 48 ≤ _)⟩)
  dsimp only [Pt.U, Pt.locs, Pt.cells, Pt.slots] at X6 l6 y6 z6 st6 hQ6 hSc6 hge6
  subst l6 y6 z6
  obtain ⟨X6, hS6, hZ, hown⟩ := rebS hS0 (by rw [e5]; exact hk0) X6 hSc6 hge6 hZ hown
  obtain ⟨kx6_kx9_bz14, b6_a8, rfl, N6q, Kc6, u6_0, u6_1, u6_2, u6_3, u6_4⟩ := hQ6
  have N6 := Fr.app N0 N6q
  have V_x1 := V_x1.keep Kc6 (ninS (Ne.symm ne_x0_x1) nin0)
  have O6 := O0.keep Kc6 (allS ge_x0 all0)
  have K6 := K0.trans Kc6 (allS (Or.inl (List.mem_of_getElem? (i := 0) rfl)) all0)
  have hk6 : T6.heap.size ≤ T6.heap.size := Nat.le_refl _
  have pre20 : ∀ t, Steps p.tables e below (T6.setTop (mkF m 8 #[.val (.ref x0), .val (.ref x1)] [])) t → Steps p.tables e below (s₁.setTop (entryFrame m #[(.ref x0), (.ref x1)] 2)) t := by
    intro t kt
    refine pre19 t ?_
    show Steps p.tables e below (T5.setTop (mkF m 5 #[.val (.ref x0), .val (.ref x1)] [(.ref w_BIG_ENDIAN), (.ref x1), (.ref x0)])) _
    refine st6.trans ?_
    exact kt
  obtain ⟨fs, hr, hrun, hended, q1, q2, q3, q4⟩ := X6.leaveW hS6 hk6 (v := none) (fun _ => rfl)
  refine ⟨_, _, pre20 _ ?_, hrun, hended, _, _, rfl, ?_, ⟨_, rfl⟩, q2, q3, q4.mono (by decide) (by decide)⟩
  · show Steps p.tables e below (T6.setTop (mkF m 8 #[.val (.ref x0), .val (.ref x1)] [])) _
    exact X6.returnOut hx Bd.returns (hb hby d_prog_1_method_1_code_8) hr
  · show Q_rm_init_1 Z x0 x1 y0 kc0 w_BIG_ENDIAN w_LITTLE_ENDIAN h0 n0 _ T6.heap _
    exact ⟨kx6_kx9_bz14, b6_a8, rfl, N6, K6, u6_0, u6_1, u6_2, u6_3, u6_4⟩
theorem d_prog_1_method_5_code_0 : decode prog_1_method_5_code 0 = .ok (.aload_n 0, 1) := by decide +kernel
theorem d_prog_1_method_5_code_1 : decode prog_1_method_5_code 1 = .ok (.getfield 38, 3) := by decide +kernel
theorem d_prog_1_method_5_code_4 : decode prog_1_method_5_code 4 = .ok (.aload_n 0, 1) := by decide +kernel
theorem d_prog_1_method_5_code_5 : decode prog_1_method_5_code 5 = .ok (.getfield 23, 3) := by decide +kernel
theorem d_prog_1_method_5_code_8 : decode prog_1_method_5_code 8 = .ok (.arraylength, 1) := by decide +kernel
theorem d_prog_1_method_5_code_9 : decode prog_1_method_5_code 9 = .ok (.if_icmp .ne 7, 3) := by decide +kernel
theorem d_prog_1_method_5_code_12 : decode prog_1_method_5_code 12 = .ok (.iconst 1, 1) := by decide +kernel
theorem d_prog_1_method_5_code_13 : decode prog_1_method_5_code 13 = .ok (.goto 4, 3) := by decide +kernel
theorem d_prog_1_method_5_code_17 : decode prog_1_method_5_code 17 = .ok (.ireturn, 1) := by decide +kernel
theorem ef_rm_atEnd_4 (m : MethodId) (x0 : Addr) : entryFrame m #[(.ref x0)] 1 = mkF m 0 #[.val (.ref x0)] [] := by first | (simp [entryFrame, mkF, argsToLocals, Value.category]; done) | rfl
def Q_rm_atEnd_4 (Z : State) (x0 : Addr) (x1 : Addr) (y0 : Int32) (kc0 : ClassId) (h0 : Heap) (n0 : Nat) (v : Option Value) (h : Heap) (L : List Loc) : Prop := v = some (.int (1 : Int32)) ∧ Fr n0 L ∧ h = h0
set_option maxRecDepth 65536 in
set_option maxHeartbeats 40000000 in
theorem rm_atEnd_4 (l : Launch) (Z : State) (a0 : Array Value) (hw : ∀ d ∈ tables_1, d.before a0 Z = true) (ws : List Jvm.Cond) (x0 : Addr) (x1 : Addr) (y0 : Int32) (kc0 : ClassId) (h0 : Heap) (n0 : Nat) (O0 : Old Z n0 h0) (F_x0_payload : Fld Z h0 x0 "com/example/bindery/bindery/ByteReader" "payload" "[B" (.ref x1)) (F_x0_position : Fld Z h0 x0 "com/example/bindery/bindery/ByteReader" "position" "I" (.int (0 : Int32))) (V_x1 : Arv Z h0 x1 kc0 .byte y0 [] (.int (0 : Int32))) (hp0 : (0 : Int32) = y0)  :
    MetFree l (⟨"com/example/bindery/bindery/ByteReader", "atEnd", "()Z"⟩ : MethodName) (head1 (Jvm.Cond.code (⟨"com/example/bindery/bindery/ByteReader", "atEnd", "()Z"⟩ : MethodName) prog_1_method_5_code 1 (some .boolean) :: ws) ({ frames := 0, cells := 0, slots := 0, locals := 0 } : Room)) (fun a U => a = #[(.ref x0)] ∧ Z.Warmed39 U.vm ∧ U.heap = h0) (fun _ _ _ _ _ => True) (fun _ U o U' => ∃ v L, o = .returned v ∧ Q_rm_atEnd_4 Z x0 x1 y0 kc0 h0 n0 v U'.heap L ∧ FrameEnd U o U' L ({ frames := 0, cells := 0, slots := 0, locals := 0 } : Room).cells ({ frames := 0, cells := 0, slots := 0, locals := 0 } : Room).slots) := by
  refine MetFree.of_bodySF (plainFor_of_name pn_com_example_bindery_bindery_ByteReader) hisR ?_
  intro p e s m args below meth c s₁ Bd hml0 hP hK
  obtain ⟨rfl, hZ, hh⟩ := hP
  have hx := Bd.exec
  have hby := Bd.bytes
  have hml : c.maxLocals = 1 := hml0
  have hown : s.vm.findClass "com/example/bindery/bindery/ByteReader" = some m.cls := findClass_of_methodNamed Bd.named
  have hnm := (name_of_methodNamed Bd.named Bd.method).1
  have X0 : Stand p l e ({ frames := 0, cells := 0, slots := 0, locals := 0 } : Room) s m #[(.ref x0)] below meth c s₁ [] 0 0 := Stand.of_body Bd
  have e0 : s₁.heap = h0 := by rw [← hh, Bd.state]; rfl
  have N0 := Fr.nil n0
  have pre0 : ∀ t, Steps p.tables e below (s₁.setTop (mkF m 0 #[.val (.ref x0)] [])) t → Steps p.tables e below (s₁.setTop (entryFrame m #[(.ref x0)] 1)) t := fun t k => castTop (ef_rm_atEnd_4 m x0) k
  have K0 := Keep.refl h0 []
  obtain ⟨T24, X24, e24, st24⟩ := getF X0 hx hZ hown (host := "") (Or.inl (hw _ (List.mem_of_getElem? (i := 37) rfl))) Via.refl e0 F_x0_position (g := (mkF m 1 #[.val (.ref x0)] [(.ref x0)])) rfl rfl (hb hby d_prog_1_method_5_code_1)
  obtain ⟨T25, X25, e25, st25⟩ := getF X24 hx hZ hown (host := "") (Or.inl (hw _ (List.mem_of_getElem? (i := 25) rfl))) Via.refl e24 F_x0_payload (g := (mkF m 5 #[.val (.ref x0)] [(.ref x0), (.int (0 : Int32))])) rfl rfl (hb hby d_prog_1_method_5_code_5)
  have vt26 := V_x1
  obtain ⟨cl26, Ar26, q26, S26, Ng26, Ha26, G26⟩ := vt26
  have pre27 : ∀ t, Steps p.tables e below (T25.setTop (mkF m 17 #[.val (.ref x0)] [(.int (1 : Int32))])) t → Steps p.tables e below (s₁.setTop (entryFrame m #[(.ref x0)] 1)) t := by
    intro t kt
    refine pre0 t ?_
    show Steps p.tables e below (s₁.setTop (mkF m 0 #[.val (.ref x0)] [])) _
    refine XS.aloadN X0.here hx rfl (hb hby d_prog_1_method_5_code_0) rfl rfl ?_
    show Steps p.tables e below (s₁.setTop (mkF m 1 #[.val (.ref x0)] [(.ref x0)])) _
    refine st24 _ ?_
    show Steps p.tables e below (T24.setTop (mkF m 4 #[.val (.ref x0)] [(.int (0 : Int32))])) _
    refine XS.aloadN X24.here hx rfl (hb hby d_prog_1_method_5_code_4) rfl rfl ?_
    show Steps p.tables e below (T24.setTop (mkF m 5 #[.val (.ref x0)] [(.ref x0), (.int (0 : Int32))])) _
    refine st25 _ ?_
    show Steps p.tables e below (T25.setTop (mkF m 8 #[.val (.ref x0)] [(.ref x1), (.int (0 : Int32))])) _
    refine X25.arraylength hx (by rw [e25]; exact Ar26.1) (State.isArrayOf_alike hZ.alike Ar26.2.1) (g := (mkF m 8 #[.val (.ref x0)] [(.ref x1), (.int (0 : Int32))])) rfl rfl (hb hby d_prog_1_method_5_code_8) _ ?_
    rw [len_of S26 Ng26]
    show Steps p.tables e below (T25.setTop (mkF m 9 #[.val (.ref x0)] [(.int y0), (.int (0 : Int32))])) _
    refine XS.icmpNo X25.here hx rfl (hb hby d_prog_1_method_5_code_9) rfl (teq hp0).2 ?_
    show Steps p.tables e below (T25.setTop (mkF m 12 #[.val (.ref x0)] [])) _
    refine XS.iconst X25.here hx rfl (hb hby d_prog_1_method_5_code_12) ?_
    show Steps p.tables e below (T25.setTop (mkF m 13 #[.val (.ref x0)] [(.int (1 : Int32))])) _
    refine XS.goto X25.here hx rfl (pc0 := 13) (pc' := 17) rfl (hb hby d_prog_1_method_5_code_13) (by decide) (by decide) ?_
    exact kt
  obtain ⟨fs, hr, hrun, hended, hW, hsame⟩ := X25.leave (v := some (.int (1 : Int32))) (fun h => by rw [Bd.returns] at h; cases h)
  refine ⟨_, _, pre27 _ ?_, hrun, hended, _, _, rfl, ?_, ⟨_, rfl⟩, hW, hsame.mono (by decide) (by decide)⟩
  · show Steps p.tables e below (T25.setTop (mkF m 17 #[.val (.ref x0)] [(.int (1 : Int32))])) _
    exact retN X25 hx (t := .boolean) Bd.returns (by simp) (hb hby d_prog_1_method_5_code_17) hr
  · show Q_rm_atEnd_4 Z x0 x1 y0 kc0 h0 n0 _ T25.heap _
    rw [e25]
    exact ⟨rfl, N0, rfl⟩
theorem d_prog_1_method_35_code_0 : decode prog_1_method_35_code 0 = .ok (.aload_n 0, 1) := by decide +kernel
theorem d_prog_1_method_35_code_1 : decode prog_1_method_35_code 1 = .ok (.getfield 23, 3) := by decide +kernel
theorem d_prog_1_method_35_code_4 : decode prog_1_method_35_code 4 = .ok (.arraylength, 1) := by decide +kernel
theorem d_prog_1_method_35_code_5 : decode prog_1_method_35_code 5 = .ok (.aload_n 0, 1) := by decide +kernel
theorem d_prog_1_method_35_code_6 : decode prog_1_method_35_code 6 = .ok (.getfield 38, 3) := by decide +kernel
theorem d_prog_1_method_35_code_9 : decode prog_1_method_35_code 9 = .ok (.isub, 1) := by decide +kernel
theorem d_prog_1_method_35_code_10 : decode prog_1_method_35_code 10 = .ok (.ireturn, 1) := by decide +kernel
theorem ef_rm_remaining_6 (m : MethodId) (x0 : Addr) : entryFrame m #[(.ref x0)] 1 = mkF m 0 #[.val (.ref x0)] [] := by first | (simp [entryFrame, mkF, argsToLocals, Value.category]; done) | rfl
def Q_rm_remaining_6 (Z : State) (x0 : Addr) (x1 : Addr) (y0 : Int32) (kc0 : ClassId) (h0 : Heap) (n0 : Nat) (v : Option Value) (h : Heap) (L : List Loc) : Prop := v = some (.int (y0 - (0 : Int32))) ∧ Fr n0 L ∧ h = h0
set_option maxRecDepth 65536 in
set_option maxHeartbeats 40000000 in
theorem rm_remaining_6 (l : Launch) (Z : State) (a0 : Array Value) (hw : ∀ d ∈ tables_1, d.before a0 Z = true) (ws : List Jvm.Cond) (x0 : Addr) (x1 : Addr) (y0 : Int32) (kc0 : ClassId) (h0 : Heap) (n0 : Nat) (O0 : Old Z n0 h0) (F_x0_payload : Fld Z h0 x0 "com/example/bindery/bindery/ByteReader" "payload" "[B" (.ref x1)) (F_x0_position : Fld Z h0 x0 "com/example/bindery/bindery/ByteReader" "position" "I" (.int (0 : Int32))) (V_x1 : Arv Z h0 x1 kc0 .byte y0 [] (.int (0 : Int32)))  :
    MetFree l (⟨"com/example/bindery/bindery/ByteReader", "remaining", "()I"⟩ : MethodName) (head1 (Jvm.Cond.code (⟨"com/example/bindery/bindery/ByteReader", "remaining", "()I"⟩ : MethodName) prog_1_method_35_code 1 (some .int) :: ws) ({ frames := 0, cells := 0, slots := 0, locals := 0 } : Room)) (fun a U => a = #[(.ref x0)] ∧ Z.Warmed39 U.vm ∧ U.heap = h0) (fun _ _ _ _ _ => True) (fun _ U o U' => ∃ v L, o = .returned v ∧ Q_rm_remaining_6 Z x0 x1 y0 kc0 h0 n0 v U'.heap L ∧ FrameEnd U o U' L ({ frames := 0, cells := 0, slots := 0, locals := 0 } : Room).cells ({ frames := 0, cells := 0, slots := 0, locals := 0 } : Room).slots) := by
  refine MetFree.of_bodySF (plainFor_of_name pn_com_example_bindery_bindery_ByteReader) hisR ?_
  intro p e s m args below meth c s₁ Bd hml0 hP hK
  obtain ⟨rfl, hZ, hh⟩ := hP
  have hx := Bd.exec
  have hby := Bd.bytes
  have hml : c.maxLocals = 1 := hml0
  have hown : s.vm.findClass "com/example/bindery/bindery/ByteReader" = some m.cls := findClass_of_methodNamed Bd.named
  have hnm := (name_of_methodNamed Bd.named Bd.method).1
  have X0 : Stand p l e ({ frames := 0, cells := 0, slots := 0, locals := 0 } : Room) s m #[(.ref x0)] below meth c s₁ [] 0 0 := Stand.of_body Bd
  have e0 : s₁.heap = h0 := by rw [← hh, Bd.state]; rfl
  have N0 := Fr.nil n0
  have pre0 : ∀ t, Steps p.tables e below (s₁.setTop (mkF m 0 #[.val (.ref x0)] [])) t → Steps p.tables e below (s₁.setTop (entryFrame m #[(.ref x0)] 1)) t := fun t k => castTop (ef_rm_remaining_6 m x0) k
  have K0 := Keep.refl h0 []
  obtain ⟨T33, X33, e33, st33⟩ := getF X0 hx hZ hown (host := "") (Or.inl (hw _ (List.mem_of_getElem? (i := 25) rfl))) Via.refl e0 F_x0_payload (g := (mkF m 1 #[.val (.ref x0)] [(.ref x0)])) rfl rfl (hb hby d_prog_1_method_35_code_1)
  have vt34 := V_x1
  obtain ⟨cl34, Ar34, q34, S34, Ng34, Ha34, G34⟩ := vt34
  obtain ⟨T35, X35, e35, st35⟩ := getF X33 hx hZ hown (host := "") (Or.inl (hw _ (List.mem_of_getElem? (i := 37) rfl))) Via.refl e33 F_x0_position (g := (mkF m 6 #[.val (.ref x0)] [(.ref x0), (.int y0)])) rfl rfl (hb hby d_prog_1_method_35_code_6)
  have pre36 : ∀ t, Steps p.tables e below (T35.setTop (mkF m 10 #[.val (.ref x0)] [(.int (y0 - (0 : Int32)))])) t → Steps p.tables e below (s₁.setTop (entryFrame m #[(.ref x0)] 1)) t := by
    intro t kt
    refine pre0 t ?_
    show Steps p.tables e below (s₁.setTop (mkF m 0 #[.val (.ref x0)] [])) _
    refine XS.aloadN X0.here hx rfl (hb hby d_prog_1_method_35_code_0) rfl rfl ?_
    show Steps p.tables e below (s₁.setTop (mkF m 1 #[.val (.ref x0)] [(.ref x0)])) _
    refine st33 _ ?_
    show Steps p.tables e below (T33.setTop (mkF m 4 #[.val (.ref x0)] [(.ref x1)])) _
    refine X33.arraylength hx (by rw [e33]; exact Ar34.1) (State.isArrayOf_alike hZ.alike Ar34.2.1) (g := (mkF m 4 #[.val (.ref x0)] [(.ref x1)])) rfl rfl (hb hby d_prog_1_method_35_code_4) _ ?_
    rw [len_of S34 Ng34]
    show Steps p.tables e below (T33.setTop (mkF m 5 #[.val (.ref x0)] [(.int y0)])) _
    refine XS.aloadN X33.here hx rfl (hb hby d_prog_1_method_35_code_5) rfl rfl ?_
    show Steps p.tables e below (T33.setTop (mkF m 6 #[.val (.ref x0)] [(.ref x0), (.int y0)])) _
    refine st35 _ ?_
    show Steps p.tables e below (T35.setTop (mkF m 9 #[.val (.ref x0)] [(.int (0 : Int32)), (.int y0)])) _
    refine XS.isub X35.here hx rfl (hb hby d_prog_1_method_35_code_9) rfl ?_
    exact kt
  obtain ⟨fs, hr, hrun, hended, hW, hsame⟩ := X35.leave (v := some (.int (y0 - (0 : Int32)))) (fun h => by rw [Bd.returns] at h; cases h)
  refine ⟨_, _, pre36 _ ?_, hrun, hended, _, _, rfl, ?_, ⟨_, rfl⟩, hW, hsame.mono (by decide) (by decide)⟩
  · show Steps p.tables e below (T35.setTop (mkF m 10 #[.val (.ref x0)] [(.int (y0 - (0 : Int32)))])) _
    exact retI X35 hx Bd.returns (hb hby d_prog_1_method_35_code_10) hr
  · show Q_rm_remaining_6 Z x0 x1 y0 kc0 h0 n0 _ T35.heap _
    rw [e35]
    exact ⟨rfl, N0, rfl⟩
theorem d_prog_1_method_26_code_0 : decode prog_1_method_26_code 0 = .ok (.iload_n 1, 1) := by decide +kernel
theorem d_prog_1_method_26_code_1 : decode prog_1_method_26_code 1 = .ok (.aload_n 0, 1) := by decide +kernel
theorem d_prog_1_method_26_code_2 : decode prog_1_method_26_code 2 = .ok (.invokevirtual 230, 3) := by decide +kernel
theorem pd___I : parseMethodDescriptor "()I" = some ⟨[], some .int⟩ := by decide +kernel
theorem d_prog_1_method_26_code_5 : decode prog_1_method_26_code 5 = .ok (.if_icmp .le 49, 3) := by decide +kernel
theorem d_prog_1_method_26_code_54 : decode prog_1_method_26_code 54 = .ok (.aload_n 0, 1) := by decide +kernel
theorem d_prog_1_method_26_code_55 : decode prog_1_method_26_code 55 = .ok (.getfield 38, 3) := by decide +kernel
theorem d_prog_1_method_26_code_58 : decode prog_1_method_26_code 58 = .ok (.istore_n 3, 1) := by decide +kernel
theorem d_prog_1_method_26_code_59 : decode prog_1_method_26_code 59 = .ok (.aload_n 0, 1) := by decide +kernel
theorem d_prog_1_method_26_code_60 : decode prog_1_method_26_code 60 = .ok (.dup, 1) := by decide +kernel
theorem d_prog_1_method_26_code_61 : decode prog_1_method_26_code 61 = .ok (.getfield 38, 3) := by decide +kernel
theorem d_prog_1_method_26_code_64 : decode prog_1_method_26_code 64 = .ok (.iload_n 1, 1) := by decide +kernel
theorem d_prog_1_method_26_code_65 : decode prog_1_method_26_code 65 = .ok (.iadd, 1) := by decide +kernel
theorem d_prog_1_method_26_code_66 : decode prog_1_method_26_code 66 = .ok (.putfield 38, 3) := by decide +kernel
theorem d_prog_1_method_26_code_69 : decode prog_1_method_26_code 69 = .ok (.iload_n 3, 1) := by decide +kernel
theorem d_prog_1_method_26_code_70 : decode prog_1_method_26_code 70 = .ok (.ireturn, 1) := by decide +kernel
theorem ef_rm_take_5 (m : MethodId) (x0 : Addr) (y2 : Int32) (x3 : Addr) : entryFrame m #[(.ref x0), (.int y2), (.ref x3)] 4 = mkF m 0 #[.val (.ref x0), .val (.int y2), .val (.ref x3), .unset] [] := by first | (simp [entryFrame, mkF, argsToLocals, Value.category]; done) | rfl
def Q_rm_take_5 (Z : State) (x0 : Addr) (x1 : Addr) (y0 : Int32) (y1 : Int32) (x2 : Addr) (y2 : Int32) (x3 : Addr) (kc0 : ClassId) (h0 : Heap) (n0 : Nat) (v : Option Value) (h : Heap) (L : List Loc) : Prop := v = some (.int (0 : Int32)) ∧ Fr n0 L ∧ Keep h0 h [x0] ∧ Exa Z h x0 "com/example/bindery/bindery/ByteReader" ∧ Fld Z h x0 "com/example/bindery/bindery/ByteReader" "payload" "[B" (.ref x1) ∧ Fld Z h x0 "com/example/bindery/bindery/ByteReader" "littleEndian" "Z" (.int y1) ∧ Fld Z h x0 "com/example/bindery/bindery/ByteReader" "input" "Ljava/lang/String;" (.ref x2) ∧ Fld Z h x0 "com/example/bindery/bindery/ByteReader" "position" "I" (.int ((0 : Int32) + y2))
set_option maxRecDepth 65536 in
set_option maxHeartbeats 40000000 in
theorem rm_take_5 (l : Launch) (Z : State) (a0 : Array Value) (hw : ∀ d ∈ tables_1, d.before a0 Z = true) (ws : List Jvm.Cond) (x0 : Addr) (x1 : Addr) (y0 : Int32) (y1 : Int32) (x2 : Addr) (y2 : Int32) (x3 : Addr) (kc0 : ClassId) (h0 : Heap) (n0 : Nat) (O0 : Old Z n0 h0) (E_x0 : Exa Z h0 x0 "com/example/bindery/bindery/ByteReader") (F_x0_payload : Fld Z h0 x0 "com/example/bindery/bindery/ByteReader" "payload" "[B" (.ref x1)) (F_x0_littleEndian : Fld Z h0 x0 "com/example/bindery/bindery/ByteReader" "littleEndian" "Z" (.int y1)) (F_x0_input : Fld Z h0 x0 "com/example/bindery/bindery/ByteReader" "input" "Ljava/lang/String;" (.ref x2)) (F_x0_position : Fld Z h0 x0 "com/example/bindery/bindery/ByteReader" "position" "I" (.int (0 : Int32))) (ge_x0 : n0 ≤ x0) (V_x1 : Arv Z h0 x1 kc0 .byte y0 [] (.int (0 : Int32))) (ge_x1 : n0 ≤ x1) (ne_x0_x1 : x0 ≠ x1) (hp0 : (0 : Int32) = y0) (hp1 : y0 = (0 : Int32)) (hp2 : ¬ ((y0 - (0 : Int32)) < y2))  :
    MetFree l (⟨"com/example/bindery/bindery/ByteReader", "take", "(ILjava/lang/String;)I"⟩ : MethodName) (head1 (Jvm.Cond.code (⟨"com/example/bindery/bindery/ByteReader", "take", "(ILjava/lang/String;)I"⟩ : MethodName) prog_1_method_26_code 4 (some .int) :: ws) ({ frames := 1, cells := 0, slots := 0, locals := 13 } : Room)) (fun a U => a = #[(.ref x0), (.int y2), (.ref x3)] ∧ Z.Warmed39 U.vm ∧ U.heap = h0) (fun _ _ _ _ _ => True) (fun _ U o U' => ∃ v L, o = .returned v ∧ Q_rm_take_5 Z x0 x1 y0 y1 x2 y2 x3 kc0 h0 n0 v U'.heap L ∧ FrameEnd U o U' L ({ frames := 1, cells := 0, slots := 0, locals := 13 } : Room).cells ({ frames := 1, cells := 0, slots := 0, locals := 13 } : Room).slots) := by
  refine MetFree.of_bodySF (plainFor_of_name pn_com_example_bindery_bindery_ByteReader) hisR ?_
  intro p e s m args below meth c s₁ Bd hml0 hP hK
  obtain ⟨rfl, hZ, hh⟩ := hP
  have hx := Bd.exec
  have hby := Bd.bytes
  have hml : c.maxLocals = 4 := hml0
  have hown : s.vm.findClass "com/example/bindery/bindery/ByteReader" = some m.cls := findClass_of_methodNamed Bd.named
  have hnm := (name_of_methodNamed Bd.named Bd.method).1
  have X0 : Stand p l e ({ frames := 1, cells := 0, slots := 0, locals := 13 } : Room) s m #[(.ref x0), (.int y2), (.ref x3)] below meth c s₁ [] 0 0 := Stand.of_body Bd
  have e0 : s₁.heap = h0 := by rw [← hh, Bd.state]; rfl
  have N0 := Fr.nil n0
  have pre0 : ∀ t, Steps p.tables e below (s₁.setTop (mkF m 0 #[.val (.ref x0), .val (.int y2), .val (.ref x3), .unset] [])) t → Steps p.tables e below (s₁.setTop (entryFrame m #[(.ref x0), (.int y2), (.ref x3)] 4)) t := fun t k => castTop (ef_rm_take_5 m x0 y2 x3) k
  have K0 := Keep.refl h0 [x0]
  obtain ⟨cq32, q32, q32'⟩ := E_x0.cell
  obtain ⟨_, _, ⟨T32, L32, k32, n32⟩, -, X32, ⟨Lc32, hQ32, l32, y32, z32⟩, st32⟩ := X0.privateBack hx (y := (⟨"com/example/bindery/bindery/ByteReader", "remaining", "()I"⟩ : MethodName)) hown (mvT hZ (hw _ (List.mem_of_getElem? (i := 45) rfl))) (mvT hZ (hw _ (List.mem_of_getElem? (i := 46) rfl))) (own_priv hZ (hw _ (List.mem_of_getElem? (i := 46) rfl)) (hw _ (List.mem_of_getElem? (i := 47) rfl)) (hw _ (List.mem_of_getElem? (i := 2) rfl)) (by decide)) (Cond.privateMethod_at (mvP hZ (hw _ (List.mem_of_getElem? (i := 47) rfl)) (args := #[]))) (mvT hZ (hw _ (List.mem_of_getElem? (i := 48) rfl))) (by decide) (backOf (W := 1) (rm_remaining_6 l Z a0 hw [] x0 x1 y0 kc0 h0 n0 O0 F_x0_payload F_x0_position V_x1 ) hZ (hw _ (List.mem_of_getElem? (i := 48) rfl)) (hw _ (List.mem_of_getElem? (i := 3) rfl)) (by decide) (by decide)) (g := (mkF m 2 #[.val (.ref x0), .val (.int y2), .val (.ref x3), .unset] [(.ref x0), (.int y2)])) rfl (by rw [hml]; rfl) (Steps.refl _) (a := x0) (by rw [e0]; exact q32) q32' (argsL := []) (rest := [(.int y2)]) (lenOf pd___I rfl) rfl (by show 2 * 0 + _ ≤ _; exact Nat.le_of_eq rfl) (hb hby d_prog_1_method_26_code_2) (fun _ _ => ⟨rfl, e0, (by decide : 0 + 0 ≤ _), (by decide : 0 + 0 ≤ _)⟩)
  dsimp only [Pt.U, Pt.locs, Pt.cells, Pt.slots] at X32 l32 y32 z32 st32 hQ32
  subst l32 y32 z32
  obtain ⟨rfl, N32q, e32⟩ := hQ32
  have N32 := Fr.app N0 N32q
  obtain ⟨T37, X37, e37, st37⟩ := getF X32 hx hZ hown (host := "") (Or.inl (hw _ (List.mem_of_getElem? (i := 37) rfl))) Via.refl e32 F_x0_position (g := (mkF m 55 #[.val (.ref x0), .val (.int y2), .val (.ref x3), .unset] [(.ref x0)])) rfl rfl (hb hby d_prog_1_method_26_code_55)
  obtain ⟨T38, X38, e38, st38⟩ := getF X37 hx hZ hown (host := "") (Or.inl (hw _ (List.mem_of_getElem? (i := 37) rfl))) Via.refl e37 F_x0_position (g := (mkF m 61 #[.val (.ref x0), .val (.int y2), .val (.ref x3), .val (.int (0 : Int32))] [(.ref x0), (.ref x0)])) rfl rfl (hb hby d_prog_1_method_26_code_61)
  obtain ⟨T39, h39, X39, e39, W39, st39⟩ := putF X38 hx hZ hown (host := "") (Or.inl (hw _ (List.mem_of_getElem? (i := 37) rfl))) Via.refl e38 F_x0_position E_x0 (Or.inl (hw _ (List.mem_of_getElem? (i := 38) rfl))) (hw _ (List.mem_of_getElem? (i := 2) rfl)) (ty := .int) (by decide) rfl rfl (g := (mkF m 66 #[.val (.ref x0), .val (.int y2), .val (.ref x3), .val (.int (0 : Int32))] [(.int ((0 : Int32) + y2)), (.ref x0)])) rfl rfl (hb hby d_prog_1_method_26_code_66)
  have F_x0_position := F_x0_position.same W39
  have E_x0 := E_x0.wr W39
  have F_x0_payload := F_x0_payload.other W39 (Or.inr (slot_ne (Or.inr (hw _ (List.mem_of_getElem? (i := 26) rfl))) (Or.inl (hw _ (List.mem_of_getElem? (i := 38) rfl))) (by decide) (t := (.array .byte)) (t' := .int) (by decide) (by decide)))
  have F_x0_littleEndian := F_x0_littleEndian.other W39 (Or.inr (slot_ne (Or.inr (hw _ (List.mem_of_getElem? (i := 29) rfl))) (Or.inl (hw _ (List.mem_of_getElem? (i := 38) rfl))) (by decide) (t := .boolean) (t' := .int) (by decide) (by decide)))
  have F_x0_input := F_x0_input.other W39 (Or.inr (slot_ne (Or.inr (hw _ (List.mem_of_getElem? (i := 31) rfl))) (Or.inl (hw _ (List.mem_of_getElem? (i := 38) rfl))) (by decide) (t := (.object "java/lang/String")) (t' := .int) (by decide) (by decide)))
  have V_x1 := V_x1.other W39 (Ne.symm ne_x0_x1)
  have O39 := O0.wr W39 ge_x0
  have K39 := K0.wr W39 (Or.inl (List.mem_of_getElem? (i := 0) rfl))
  have N39 := Fr.snoc X39 N32 ge_x0
  have pre40 : ∀ t, Steps p.tables e below (T39.setTop (mkF m 70 #[.val (.ref x0), .val (.int y2), .val (.ref x3), .val (.int (0 : Int32))] [(.int (0 : Int32))])) t → Steps p.tables e below (s₁.setTop (entryFrame m #[(.ref x0), (.int y2), (.ref x3)] 4)) t := by
    intro t kt
    refine pre0 t ?_
    show Steps p.tables e below (s₁.setTop (mkF m 0 #[.val (.ref x0), .val (.int y2), .val (.ref x3), .unset] [])) _
    refine XS.iloadN X0.here hx rfl (hb hby d_prog_1_method_26_code_0) rfl ?_
    show Steps p.tables e below (s₁.setTop (mkF m 1 #[.val (.ref x0), .val (.int y2), .val (.ref x3), .unset] [(.int y2)])) _
    refine XS.aloadN X0.here hx rfl (hb hby d_prog_1_method_26_code_1) rfl rfl ?_
    show Steps p.tables e below (s₁.setTop (mkF m 2 #[.val (.ref x0), .val (.int y2), .val (.ref x3), .unset] [(.ref x0), (.int y2)])) _
    refine st32.trans ?_
    show Steps p.tables e below (T32.setTop (mkF m 5 #[.val (.ref x0), .val (.int y2), .val (.ref x3), .unset] [(.int (y0 - (0 : Int32))), (.int y2)])) _
    refine XS.icmpYes X32.here hx rfl (pc0 := 5) (pc' := 54) rfl (hb hby d_prog_1_method_26_code_5) rfl (flt hp2).2.2.2 (by decide) (by decide) ?_
    show Steps p.tables e below (T32.setTop (mkF m 54 #[.val (.ref x0), .val (.int y2), .val (.ref x3), .unset] [])) _
    refine XS.aloadN X32.here hx rfl (hb hby d_prog_1_method_26_code_54) rfl rfl ?_
    show Steps p.tables e below (T32.setTop (mkF m 55 #[.val (.ref x0), .val (.int y2), .val (.ref x3), .unset] [(.ref x0)])) _
    refine st37 _ ?_
    show Steps p.tables e below (T37.setTop (mkF m 58 #[.val (.ref x0), .val (.int y2), .val (.ref x3), .unset] [(.int (0 : Int32))])) _
    refine XS.istoreN X37.here hx rfl (hb hby d_prog_1_method_26_code_58) rfl (l' := #[.val (.ref x0), .val (.int y2), .val (.ref x3), .val (.int (0 : Int32))]) rfl ?_
    show Steps p.tables e below (T37.setTop (mkF m 59 #[.val (.ref x0), .val (.int y2), .val (.ref x3), .val (.int (0 : Int32))] [])) _
    refine XS.aloadN X37.here hx rfl (hb hby d_prog_1_method_26_code_59) rfl rfl ?_
    show Steps p.tables e below (T37.setTop (mkF m 60 #[.val (.ref x0), .val (.int y2), .val (.ref x3), .val (.int (0 : Int32))] [(.ref x0)])) _
    refine XS.dup X37.here hx rfl (hb hby d_prog_1_method_26_code_60) rfl rfl ?_
    show Steps p.tables e below (T37.setTop (mkF m 61 #[.val (.ref x0), .val (.int y2), .val (.ref x3), .val (.int (0 : Int32))] [(.ref x0), (.ref x0)])) _
    refine st38 _ ?_
    show Steps p.tables e below (T38.setTop (mkF m 64 #[.val (.ref x0), .val (.int y2), .val (.ref x3), .val (.int (0 : Int32))] [(.int (0 : Int32)), (.ref x0)])) _
    refine XS.iloadN X38.here hx rfl (hb hby d_prog_1_method_26_code_64) rfl ?_
    show Steps p.tables e below (T38.setTop (mkF m 65 #[.val (.ref x0), .val (.int y2), .val (.ref x3), .val (.int (0 : Int32))] [(.int y2), (.int (0 : Int32)), (.ref x0)])) _
    refine XS.iadd X38.here hx rfl (hb hby d_prog_1_method_26_code_65) rfl ?_
    show Steps p.tables e below (T38.setTop (mkF m 66 #[.val (.ref x0), .val (.int y2), .val (.ref x3), .val (.int (0 : Int32))] [(.int ((0 : Int32) + y2)), (.ref x0)])) _
    refine st39 _ ?_
    show Steps p.tables e below (T39.setTop (mkF m 69 #[.val (.ref x0), .val (.int y2), .val (.ref x3), .val (.int (0 : Int32))] [])) _
    refine XS.iloadN X39.here hx rfl (hb hby d_prog_1_method_26_code_69) rfl ?_
    exact kt
  obtain ⟨fs, hr, hrun, hended, hW, hsame⟩ := X39.leave (v := some (.int (0 : Int32))) (fun h => by rw [Bd.returns] at h; cases h)
  refine ⟨_, _, pre40 _ ?_, hrun, hended, _, _, rfl, ?_, ⟨_, rfl⟩, hW, hsame.mono (by decide) (by decide)⟩
  · show Steps p.tables e below (T39.setTop (mkF m 70 #[.val (.ref x0), .val (.int y2), .val (.ref x3), .val (.int (0 : Int32))] [(.int (0 : Int32))])) _
    exact retI X39 hx Bd.returns (hb hby d_prog_1_method_26_code_70) hr
  · show Q_rm_take_5 Z x0 x1 y0 y1 x2 y2 x3 kc0 h0 n0 _ T39.heap _
    rw [e39]
    exact ⟨rfl, N39, K39, E_x0, F_x0_payload, F_x0_littleEndian, F_x0_input, F_x0_position⟩
theorem ef_rm_atEnd_7 (m : MethodId) (x0 : Addr) : entryFrame m #[(.ref x0)] 1 = mkF m 0 #[.val (.ref x0)] [] := by first | (simp [entryFrame, mkF, argsToLocals, Value.category]; done) | rfl
def Q_rm_atEnd_7 (Z : State) (x0 : Addr) (x1 : Addr) (y0 : Int32) (y2 : Int32) (kc0 : ClassId) (h0 : Heap) (n0 : Nat) (v : Option Value) (h : Heap) (L : List Loc) : Prop := v = some (.int (1 : Int32)) ∧ Fr n0 L ∧ h = h0
set_option maxRecDepth 65536 in
set_option maxHeartbeats 40000000 in
theorem rm_atEnd_7 (l : Launch) (Z : State) (a0 : Array Value) (hw : ∀ d ∈ tables_1, d.before a0 Z = true) (ws : List Jvm.Cond) (x0 : Addr) (x1 : Addr) (y0 : Int32) (y2 : Int32) (kc0 : ClassId) (h0 : Heap) (n0 : Nat) (O0 : Old Z n0 h0) (F_x0_payload : Fld Z h0 x0 "com/example/bindery/bindery/ByteReader" "payload" "[B" (.ref x1)) (F_x0_position : Fld Z h0 x0 "com/example/bindery/bindery/ByteReader" "position" "I" (.int y2)) (V_x1 : Arv Z h0 x1 kc0 .byte y0 [] (.int (0 : Int32))) (hp2 : y2 = y0)  :
    MetFree l (⟨"com/example/bindery/bindery/ByteReader", "atEnd", "()Z"⟩ : MethodName) (head1 (Jvm.Cond.code (⟨"com/example/bindery/bindery/ByteReader", "atEnd", "()Z"⟩ : MethodName) prog_1_method_5_code 1 (some .boolean) :: ws) ({ frames := 0, cells := 0, slots := 0, locals := 0 } : Room)) (fun a U => a = #[(.ref x0)] ∧ Z.Warmed39 U.vm ∧ U.heap = h0) (fun _ _ _ _ _ => True) (fun _ U o U' => ∃ v L, o = .returned v ∧ Q_rm_atEnd_7 Z x0 x1 y0 y2 kc0 h0 n0 v U'.heap L ∧ FrameEnd U o U' L ({ frames := 0, cells := 0, slots := 0, locals := 0 } : Room).cells ({ frames := 0, cells := 0, slots := 0, locals := 0 } : Room).slots) := by
  refine MetFree.of_bodySF (plainFor_of_name pn_com_example_bindery_bindery_ByteReader) hisR ?_
  intro p e s m args below meth c s₁ Bd hml0 hP hK
  obtain ⟨rfl, hZ, hh⟩ := hP
  have hx := Bd.exec
  have hby := Bd.bytes
  have hml : c.maxLocals = 1 := hml0
  have hown : s.vm.findClass "com/example/bindery/bindery/ByteReader" = some m.cls := findClass_of_methodNamed Bd.named
  have hnm := (name_of_methodNamed Bd.named Bd.method).1
  have X0 : Stand p l e ({ frames := 0, cells := 0, slots := 0, locals := 0 } : Room) s m #[(.ref x0)] below meth c s₁ [] 0 0 := Stand.of_body Bd
  have e0 : s₁.heap = h0 := by rw [← hh, Bd.state]; rfl
  have N0 := Fr.nil n0
  have pre0 : ∀ t, Steps p.tables e below (s₁.setTop (mkF m 0 #[.val (.ref x0)] [])) t → Steps p.tables e below (s₁.setTop (entryFrame m #[(.ref x0)] 1)) t := fun t k => castTop (ef_rm_atEnd_7 m x0) k
  have K0 := Keep.refl h0 []
  obtain ⟨T43, X43, e43, st43⟩ := getF X0 hx hZ hown (host := "") (Or.inl (hw _ (List.mem_of_getElem? (i := 37) rfl))) Via.refl e0 F_x0_position (g := (mkF m 1 #[.val (.ref x0)] [(.ref x0)])) rfl rfl (hb hby d_prog_1_method_5_code_1)
  obtain ⟨T44, X44, e44, st44⟩ := getF X43 hx hZ hown (host := "") (Or.inl (hw _ (List.mem_of_getElem? (i := 25) rfl))) Via.refl e43 F_x0_payload (g := (mkF m 5 #[.val (.ref x0)] [(.ref x0), (.int y2)])) rfl rfl (hb hby d_prog_1_method_5_code_5)
  have vt45 := V_x1
  obtain ⟨cl45, Ar45, q45, S45, Ng45, Ha45, G45⟩ := vt45
  have pre46 : ∀ t, Steps p.tables e below (T44.setTop (mkF m 17 #[.val (.ref x0)] [(.int (1 : Int32))])) t → Steps p.tables e below (s₁.setTop (entryFrame m #[(.ref x0)] 1)) t := by
    intro t kt
    refine pre0 t ?_
    show Steps p.tables e below (s₁.setTop (mkF m 0 #[.val (.ref x0)] [])) _
    refine XS.aloadN X0.here hx rfl (hb hby d_prog_1_method_5_code_0) rfl rfl ?_
    show Steps p.tables e below (s₁.setTop (mkF m 1 #[.val (.ref x0)] [(.ref x0)])) _
    refine st43 _ ?_
    show Steps p.tables e below (T43.setTop (mkF m 4 #[.val (.ref x0)] [(.int y2)])) _
    refine XS.aloadN X43.here hx rfl (hb hby d_prog_1_method_5_code_4) rfl rfl ?_
    show Steps p.tables e below (T43.setTop (mkF m 5 #[.val (.ref x0)] [(.ref x0), (.int y2)])) _
    refine st44 _ ?_
    show Steps p.tables e below (T44.setTop (mkF m 8 #[.val (.ref x0)] [(.ref x1), (.int y2)])) _
    refine X44.arraylength hx (by rw [e44]; exact Ar45.1) (State.isArrayOf_alike hZ.alike Ar45.2.1) (g := (mkF m 8 #[.val (.ref x0)] [(.ref x1), (.int y2)])) rfl rfl (hb hby d_prog_1_method_5_code_8) _ ?_
    rw [len_of S45 Ng45]
    show Steps p.tables e below (T44.setTop (mkF m 9 #[.val (.ref x0)] [(.int y0), (.int y2)])) _
    refine XS.icmpNo X44.here hx rfl (hb hby d_prog_1_method_5_code_9) rfl (teq hp2).2 ?_
    show Steps p.tables e below (T44.setTop (mkF m 12 #[.val (.ref x0)] [])) _
    refine XS.iconst X44.here hx rfl (hb hby d_prog_1_method_5_code_12) ?_
    show Steps p.tables e below (T44.setTop (mkF m 13 #[.val (.ref x0)] [(.int (1 : Int32))])) _
    refine XS.goto X44.here hx rfl (pc0 := 13) (pc' := 17) rfl (hb hby d_prog_1_method_5_code_13) (by decide) (by decide) ?_
    exact kt
  obtain ⟨fs, hr, hrun, hended, hW, hsame⟩ := X44.leave (v := some (.int (1 : Int32))) (fun h => by rw [Bd.returns] at h; cases h)
  refine ⟨_, _, pre46 _ ?_, hrun, hended, _, _, rfl, ?_, ⟨_, rfl⟩, hW, hsame.mono (by decide) (by decide)⟩
  · show Steps p.tables e below (T44.setTop (mkF m 17 #[.val (.ref x0)] [(.int (1 : Int32))])) _
    exact retN X44 hx (t := .boolean) Bd.returns (by simp) (hb hby d_prog_1_method_5_code_17) hr
  · show Q_rm_atEnd_7 Z x0 x1 y0 y2 kc0 h0 n0 _ T44.heap _
    rw [e44]
    exact ⟨rfl, N0, rfl⟩
theorem ef_rm_remaining_9 (m : MethodId) (x0 : Addr) : entryFrame m #[(.ref x0)] 1 = mkF m 0 #[.val (.ref x0)] [] := by first | (simp [entryFrame, mkF, argsToLocals, Value.category]; done) | rfl
def Q_rm_remaining_9 (Z : State) (x0 : Addr) (x1 : Addr) (y0 : Int32) (y2 : Int32) (kc0 : ClassId) (h0 : Heap) (n0 : Nat) (v : Option Value) (h : Heap) (L : List Loc) : Prop := v = some (.int (y0 - y2)) ∧ Fr n0 L ∧ h = h0
set_option maxRecDepth 65536 in
set_option maxHeartbeats 40000000 in
theorem rm_remaining_9 (l : Launch) (Z : State) (a0 : Array Value) (hw : ∀ d ∈ tables_1, d.before a0 Z = true) (ws : List Jvm.Cond) (x0 : Addr) (x1 : Addr) (y0 : Int32) (y2 : Int32) (kc0 : ClassId) (h0 : Heap) (n0 : Nat) (O0 : Old Z n0 h0) (F_x0_payload : Fld Z h0 x0 "com/example/bindery/bindery/ByteReader" "payload" "[B" (.ref x1)) (F_x0_position : Fld Z h0 x0 "com/example/bindery/bindery/ByteReader" "position" "I" (.int y2)) (V_x1 : Arv Z h0 x1 kc0 .byte y0 [] (.int (0 : Int32)))  :
    MetFree l (⟨"com/example/bindery/bindery/ByteReader", "remaining", "()I"⟩ : MethodName) (head1 (Jvm.Cond.code (⟨"com/example/bindery/bindery/ByteReader", "remaining", "()I"⟩ : MethodName) prog_1_method_35_code 1 (some .int) :: ws) ({ frames := 0, cells := 0, slots := 0, locals := 0 } : Room)) (fun a U => a = #[(.ref x0)] ∧ Z.Warmed39 U.vm ∧ U.heap = h0) (fun _ _ _ _ _ => True) (fun _ U o U' => ∃ v L, o = .returned v ∧ Q_rm_remaining_9 Z x0 x1 y0 y2 kc0 h0 n0 v U'.heap L ∧ FrameEnd U o U' L ({ frames := 0, cells := 0, slots := 0, locals := 0 } : Room).cells ({ frames := 0, cells := 0, slots := 0, locals := 0 } : Room).slots) := by
  refine MetFree.of_bodySF (plainFor_of_name pn_com_example_bindery_bindery_ByteReader) hisR ?_
  intro p e s m args below meth c s₁ Bd hml0 hP hK
  obtain ⟨rfl, hZ, hh⟩ := hP
  have hx := Bd.exec
  have hby := Bd.bytes
  have hml : c.maxLocals = 1 := hml0
  have hown : s.vm.findClass "com/example/bindery/bindery/ByteReader" = some m.cls := findClass_of_methodNamed Bd.named
  have hnm := (name_of_methodNamed Bd.named Bd.method).1
  have X0 : Stand p l e ({ frames := 0, cells := 0, slots := 0, locals := 0 } : Room) s m #[(.ref x0)] below meth c s₁ [] 0 0 := Stand.of_body Bd
  have e0 : s₁.heap = h0 := by rw [← hh, Bd.state]; rfl
  have N0 := Fr.nil n0
  have pre0 : ∀ t, Steps p.tables e below (s₁.setTop (mkF m 0 #[.val (.ref x0)] [])) t → Steps p.tables e below (s₁.setTop (entryFrame m #[(.ref x0)] 1)) t := fun t k => castTop (ef_rm_remaining_9 m x0) k
  have K0 := Keep.refl h0 []
  obtain ⟨T52, X52, e52, st52⟩ := getF X0 hx hZ hown (host := "") (Or.inl (hw _ (List.mem_of_getElem? (i := 25) rfl))) Via.refl e0 F_x0_payload (g := (mkF m 1 #[.val (.ref x0)] [(.ref x0)])) rfl rfl (hb hby d_prog_1_method_35_code_1)
  have vt53 := V_x1
  obtain ⟨cl53, Ar53, q53, S53, Ng53, Ha53, G53⟩ := vt53
  obtain ⟨T54, X54, e54, st54⟩ := getF X52 hx hZ hown (host := "") (Or.inl (hw _ (List.mem_of_getElem? (i := 37) rfl))) Via.refl e52 F_x0_position (g := (mkF m 6 #[.val (.ref x0)] [(.ref x0), (.int y0)])) rfl rfl (hb hby d_prog_1_method_35_code_6)
  have pre55 : ∀ t, Steps p.tables e below (T54.setTop (mkF m 10 #[.val (.ref x0)] [(.int (y0 - y2))])) t → Steps p.tables e below (s₁.setTop (entryFrame m #[(.ref x0)] 1)) t := by
    intro t kt
    refine pre0 t ?_
    show Steps p.tables e below (s₁.setTop (mkF m 0 #[.val (.ref x0)] [])) _
    refine XS.aloadN X0.here hx rfl (hb hby d_prog_1_method_35_code_0) rfl rfl ?_
    show Steps p.tables e below (s₁.setTop (mkF m 1 #[.val (.ref x0)] [(.ref x0)])) _
    refine st52 _ ?_
    show Steps p.tables e below (T52.setTop (mkF m 4 #[.val (.ref x0)] [(.ref x1)])) _
    refine X52.arraylength hx (by rw [e52]; exact Ar53.1) (State.isArrayOf_alike hZ.alike Ar53.2.1) (g := (mkF m 4 #[.val (.ref x0)] [(.ref x1)])) rfl rfl (hb hby d_prog_1_method_35_code_4) _ ?_
    rw [len_of S53 Ng53]
    show Steps p.tables e below (T52.setTop (mkF m 5 #[.val (.ref x0)] [(.int y0)])) _
    refine XS.aloadN X52.here hx rfl (hb hby d_prog_1_method_35_code_5) rfl rfl ?_
    show Steps p.tables e below (T52.setTop (mkF m 6 #[.val (.ref x0)] [(.ref x0), (.int y0)])) _
    refine st54 _ ?_
    show Steps p.tables e below (T54.setTop (mkF m 9 #[.val (.ref x0)] [(.int y2), (.int y0)])) _
    refine XS.isub X54.here hx rfl (hb hby d_prog_1_method_35_code_9) rfl ?_
    exact kt
  obtain ⟨fs, hr, hrun, hended, hW, hsame⟩ := X54.leave (v := some (.int (y0 - y2))) (fun h => by rw [Bd.returns] at h; cases h)
  refine ⟨_, _, pre55 _ ?_, hrun, hended, _, _, rfl, ?_, ⟨_, rfl⟩, hW, hsame.mono (by decide) (by decide)⟩
  · show Steps p.tables e below (T54.setTop (mkF m 10 #[.val (.ref x0)] [(.int (y0 - y2))])) _
    exact retI X54 hx Bd.returns (hb hby d_prog_1_method_35_code_10) hr
  · show Q_rm_remaining_9 Z x0 x1 y0 y2 kc0 h0 n0 _ T54.heap _
    rw [e54]
    exact ⟨rfl, N0, rfl⟩
theorem ef_rm_take_8 (m : MethodId) (x0 : Addr) (y3 : Int32) (x3 : Addr) : entryFrame m #[(.ref x0), (.int y3), (.ref x3)] 4 = mkF m 0 #[.val (.ref x0), .val (.int y3), .val (.ref x3), .unset] [] := by first | (simp [entryFrame, mkF, argsToLocals, Value.category]; done) | rfl
def Q_rm_take_8 (Z : State) (x0 : Addr) (x1 : Addr) (y0 : Int32) (y1 : Int32) (x2 : Addr) (y2 : Int32) (y3 : Int32) (x3 : Addr) (kc0 : ClassId) (h0 : Heap) (n0 : Nat) (v : Option Value) (h : Heap) (L : List Loc) : Prop := v = some (.int y2) ∧ Fr n0 L ∧ Keep h0 h [x0] ∧ Exa Z h x0 "com/example/bindery/bindery/ByteReader" ∧ Fld Z h x0 "com/example/bindery/bindery/ByteReader" "payload" "[B" (.ref x1) ∧ Fld Z h x0 "com/example/bindery/bindery/ByteReader" "littleEndian" "Z" (.int y1) ∧ Fld Z h x0 "com/example/bindery/bindery/ByteReader" "input" "Ljava/lang/String;" (.ref x2) ∧ Fld Z h x0 "com/example/bindery/bindery/ByteReader" "position" "I" (.int (y2 + y3))
set_option maxRecDepth 65536 in
set_option maxHeartbeats 40000000 in
theorem rm_take_8 (l : Launch) (Z : State) (a0 : Array Value) (hw : ∀ d ∈ tables_1, d.before a0 Z = true) (ws : List Jvm.Cond) (x0 : Addr) (x1 : Addr) (y0 : Int32) (y1 : Int32) (x2 : Addr) (y2 : Int32) (y3 : Int32) (x3 : Addr) (kc0 : ClassId) (h0 : Heap) (n0 : Nat) (O0 : Old Z n0 h0) (E_x0 : Exa Z h0 x0 "com/example/bindery/bindery/ByteReader") (F_x0_payload : Fld Z h0 x0 "com/example/bindery/bindery/ByteReader" "payload" "[B" (.ref x1)) (F_x0_littleEndian : Fld Z h0 x0 "com/example/bindery/bindery/ByteReader" "littleEndian" "Z" (.int y1)) (F_x0_input : Fld Z h0 x0 "com/example/bindery/bindery/ByteReader" "input" "Ljava/lang/String;" (.ref x2)) (F_x0_position : Fld Z h0 x0 "com/example/bindery/bindery/ByteReader" "position" "I" (.int y2)) (ge_x0 : n0 ≤ x0) (V_x1 : Arv Z h0 x1 kc0 .byte y0 [] (.int (0 : Int32))) (ge_x1 : n0 ≤ x1) (ne_x0_x1 : x0 ≠ x1) (hp0 : (0 : Int32) = y0) (hp1 : y0 = (0 : Int32)) (hp2 : y2 = y0) (hp3 : ¬ ((y0 - y2) < y3))  :
    MetFree l (⟨"com/example/bindery/bindery/ByteReader", "take", "(ILjava/lang/String;)I"⟩ : MethodName) (head1 (Jvm.Cond.code (⟨"com/example/bindery/bindery/ByteReader", "take", "(ILjava/lang/String;)I"⟩ : MethodName) prog_1_method_26_code 4 (some .int) :: ws) ({ frames := 1, cells := 0, slots := 0, locals := 13 } : Room)) (fun a U => a = #[(.ref x0), (.int y3), (.ref x3)] ∧ Z.Warmed39 U.vm ∧ U.heap = h0) (fun _ _ _ _ _ => True) (fun _ U o U' => ∃ v L, o = .returned v ∧ Q_rm_take_8 Z x0 x1 y0 y1 x2 y2 y3 x3 kc0 h0 n0 v U'.heap L ∧ FrameEnd U o U' L ({ frames := 1, cells := 0, slots := 0, locals := 13 } : Room).cells ({ frames := 1, cells := 0, slots := 0, locals := 13 } : Room).slots) := by
  refine MetFree.of_bodySF (plainFor_of_name pn_com_example_bindery_bindery_ByteReader) hisR ?_
  intro p e s m args below meth c s₁ Bd hml0 hP hK
  obtain ⟨rfl, hZ, hh⟩ := hP
  have hx := Bd.exec
  have hby := Bd.bytes
  have hml : c.maxLocals = 4 := hml0
  have hown : s.vm.findClass "com/example/bindery/bindery/ByteReader" = some m.cls := findClass_of_methodNamed Bd.named
  have hnm := (name_of_methodNamed Bd.named Bd.method).1
  have X0 : Stand p l e ({ frames := 1, cells := 0, slots := 0, locals := 13 } : Room) s m #[(.ref x0), (.int y3), (.ref x3)] below meth c s₁ [] 0 0 := Stand.of_body Bd
  have e0 : s₁.heap = h0 := by rw [← hh, Bd.state]; rfl
  have N0 := Fr.nil n0
  have pre0 : ∀ t, Steps p.tables e below (s₁.setTop (mkF m 0 #[.val (.ref x0), .val (.int y3), .val (.ref x3), .unset] [])) t → Steps p.tables e below (s₁.setTop (entryFrame m #[(.ref x0), (.int y3), (.ref x3)] 4)) t := fun t k => castTop (ef_rm_take_8 m x0 y3 x3) k
  have K0 := Keep.refl h0 [x0]
  obtain ⟨cq51, q51, q51'⟩ := E_x0.cell
  obtain ⟨_, _, ⟨T51, L51, k51, n51⟩, -, X51, ⟨Lc51, hQ51, l51, y51, z51⟩, st51⟩ := X0.privateBack hx (y := (⟨"com/example/bindery/bindery/ByteReader", "remaining", "()I"⟩ : MethodName)) hown (mvT hZ (hw _ (List.mem_of_getElem? (i := 45) rfl))) (mvT hZ (hw _ (List.mem_of_getElem? (i := 46) rfl))) (own_priv hZ (hw _ (List.mem_of_getElem? (i := 46) rfl)) (hw _ (List.mem_of_getElem? (i := 47) rfl)) (hw _ (List.mem_of_getElem? (i := 2) rfl)) (by decide)) (Cond.privateMethod_at (mvP hZ (hw _ (List.mem_of_getElem? (i := 47) rfl)) (args := #[]))) (mvT hZ (hw _ (List.mem_of_getElem? (i := 48) rfl))) (by decide) (backOf (W := 1) (rm_remaining_9 l Z a0 hw [] x0 x1 y0 y2 kc0 h0 n0 O0 F_x0_payload F_x0_position V_x1 ) hZ (hw _ (List.mem_of_getElem? (i := 48) rfl)) (hw _ (List.mem_of_getElem? (i := 3) rfl)) (by decide) (by decide)) (g := (mkF m 2 #[.val (.ref x0), .val (.int y3), .val (.ref x3), .unset] [(.ref x0), (.int y3)])) rfl (by rw [hml]; rfl) (Steps.refl _) (a := x0) (by rw [e0]; exact q51) q51' (argsL := []) (rest := [(.int y3)]) (lenOf pd___I rfl) rfl (by show 2 * 0 + _ ≤ _; exact Nat.le_of_eq rfl) (hb hby d_prog_1_method_26_code_2) (fun _ _ => ⟨rfl, e0, (by decide : 0 + 0 ≤ _), (by decide : 0 + 0 ≤ _)⟩)
  dsimp only [Pt.U, Pt.locs, Pt.cells, Pt.slots] at X51 l51 y51 z51 st51 hQ51
  subst l51 y51 z51
  obtain ⟨rfl, N51q, e51⟩ := hQ51
  have N51 := Fr.app N0 N51q
  obtain ⟨T56, X56, e56, st56⟩ := getF X51 hx hZ hown (host := "") (Or.inl (hw _ (List.mem_of_getElem? (i := 37) rfl))) Via.refl e51 F_x0_position (g := (mkF m 55 #[.val (.ref x0), .val (.int y3), .val (.ref x3), .unset] [(.ref x0)])) rfl rfl (hb hby d_prog_1_method_26_code_55)
  obtain ⟨T57, X57, e57, st57⟩ := getF X56 hx hZ hown (host := "") (Or.inl (hw _ (List.mem_of_getElem? (i := 37) rfl))) Via.refl e56 F_x0_position (g := (mkF m 61 #[.val (.ref x0), .val (.int y3), .val (.ref x3), .val (.int y2)] [(.ref x0), (.ref x0)])) rfl rfl (hb hby d_prog_1_method_26_code_61)
  obtain ⟨T58, h58, X58, e58, W58, st58⟩ := putF X57 hx hZ hown (host := "") (Or.inl (hw _ (List.mem_of_getElem? (i := 37) rfl))) Via.refl e57 F_x0_position E_x0 (Or.inl (hw _ (List.mem_of_getElem? (i := 38) rfl))) (hw _ (List.mem_of_getElem? (i := 2) rfl)) (ty := .int) (by decide) rfl rfl (g := (mkF m 66 #[.val (.ref x0), .val (.int y3), .val (.ref x3), .val (.int y2)] [(.int (y2 + y3)), (.ref x0)])) rfl rfl (hb hby d_prog_1_method_26_code_66)
  have F_x0_position := F_x0_position.same W58
  have E_x0 := E_x0.wr W58
  have F_x0_payload := F_x0_payload.other W58 (Or.inr (slot_ne (Or.inr (hw _ (List.mem_of_getElem? (i := 26) rfl))) (Or.inl (hw _ (List.mem_of_getElem? (i := 38) rfl))) (by decide) (t := (.array .byte)) (t' := .int) (by decide) (by decide)))
  have F_x0_littleEndian := F_x0_littleEndian.other W58 (Or.inr (slot_ne (Or.inr (hw _ (List.mem_of_getElem? (i := 29) rfl))) (Or.inl (hw _ (List.mem_of_getElem? (i := 38) rfl))) (by decide) (t := .boolean) (t' := .int) (by decide) (by decide)))
  have F_x0_input := F_x0_input.other W58 (Or.inr (slot_ne (Or.inr (hw _ (List.mem_of_getElem? (i := 31) rfl))) (Or.inl (hw _ (List.mem_of_getElem? (i := 38) rfl))) (by decide) (t := (.object "java/lang/String")) (t' := .int) (by decide) (by decide)))
  have V_x1 := V_x1.other W58 (Ne.symm ne_x0_x1)
  have O58 := O0.wr W58 ge_x0
  have K58 := K0.wr W58 (Or.inl (List.mem_of_getElem? (i := 0) rfl))
  have N58 := Fr.snoc X58 N51 ge_x0
  have pre59 : ∀ t, Steps p.tables e below (T58.setTop (mkF m 70 #[.val (.ref x0), .val (.int y3), .val (.ref x3), .val (.int y2)] [(.int y2)])) t → Steps p.tables e below (s₁.setTop (entryFrame m #[(.ref x0), (.int y3), (.ref x3)] 4)) t := by
    intro t kt
    refine pre0 t ?_
    show Steps p.tables e below (s₁.setTop (mkF m 0 #[.val (.ref x0), .val (.int y3), .val (.ref x3), .unset] [])) _
    refine XS.iloadN X0.here hx rfl (hb hby d_prog_1_method_26_code_0) rfl ?_
    show Steps p.tables e below (s₁.setTop (mkF m 1 #[.val (.ref x0), .val (.int y3), .val (.ref x3), .unset] [(.int y3)])) _
    refine XS.aloadN X0.here hx rfl (hb hby d_prog_1_method_26_code_1) rfl rfl ?_
    show Steps p.tables e below (s₁.setTop (mkF m 2 #[.val (.ref x0), .val (.int y3), .val (.ref x3), .unset] [(.ref x0), (.int y3)])) _
    refine st51.trans ?_
    show Steps p.tables e below (T51.setTop (mkF m 5 #[.val (.ref x0), .val (.int y3), .val (.ref x3), .unset] [(.int (y0 - y2)), (.int y3)])) _
    refine XS.icmpYes X51.here hx rfl (pc0 := 5) (pc' := 54) rfl (hb hby d_prog_1_method_26_code_5) rfl (flt hp3).2.2.2 (by decide) (by decide) ?_
    show Steps p.tables e below (T51.setTop (mkF m 54 #[.val (.ref x0), .val (.int y3), .val (.ref x3), .unset] [])) _
    refine XS.aloadN X51.here hx rfl (hb hby d_prog_1_method_26_code_54) rfl rfl ?_
    show Steps p.tables e below (T51.setTop (mkF m 55 #[.val (.ref x0), .val (.int y3), .val (.ref x3), .unset] [(.ref x0)])) _
    refine st56 _ ?_
    show Steps p.tables e below (T56.setTop (mkF m 58 #[.val (.ref x0), .val (.int y3), .val (.ref x3), .unset] [(.int y2)])) _
    refine XS.istoreN X56.here hx rfl (hb hby d_prog_1_method_26_code_58) rfl (l' := #[.val (.ref x0), .val (.int y3), .val (.ref x3), .val (.int y2)]) rfl ?_
    show Steps p.tables e below (T56.setTop (mkF m 59 #[.val (.ref x0), .val (.int y3), .val (.ref x3), .val (.int y2)] [])) _
    refine XS.aloadN X56.here hx rfl (hb hby d_prog_1_method_26_code_59) rfl rfl ?_
    show Steps p.tables e below (T56.setTop (mkF m 60 #[.val (.ref x0), .val (.int y3), .val (.ref x3), .val (.int y2)] [(.ref x0)])) _
    refine XS.dup X56.here hx rfl (hb hby d_prog_1_method_26_code_60) rfl rfl ?_
    show Steps p.tables e below (T56.setTop (mkF m 61 #[.val (.ref x0), .val (.int y3), .val (.ref x3), .val (.int y2)] [(.ref x0), (.ref x0)])) _
    refine st57 _ ?_
    show Steps p.tables e below (T57.setTop (mkF m 64 #[.val (.ref x0), .val (.int y3), .val (.ref x3), .val (.int y2)] [(.int y2), (.ref x0)])) _
    refine XS.iloadN X57.here hx rfl (hb hby d_prog_1_method_26_code_64) rfl ?_
    show Steps p.tables e below (T57.setTop (mkF m 65 #[.val (.ref x0), .val (.int y3), .val (.ref x3), .val (.int y2)] [(.int y3), (.int y2), (.ref x0)])) _
    refine XS.iadd X57.here hx rfl (hb hby d_prog_1_method_26_code_65) rfl ?_
    show Steps p.tables e below (T57.setTop (mkF m 66 #[.val (.ref x0), .val (.int y3), .val (.ref x3), .val (.int y2)] [(.int (y2 + y3)), (.ref x0)])) _
    refine st58 _ ?_
    show Steps p.tables e below (T58.setTop (mkF m 69 #[.val (.ref x0), .val (.int y3), .val (.ref x3), .val (.int y2)] [])) _
    refine XS.iloadN X58.here hx rfl (hb hby d_prog_1_method_26_code_69) rfl ?_
    exact kt
  obtain ⟨fs, hr, hrun, hended, hW, hsame⟩ := X58.leave (v := some (.int y2)) (fun h => by rw [Bd.returns] at h; cases h)
  refine ⟨_, _, pre59 _ ?_, hrun, hended, _, _, rfl, ?_, ⟨_, rfl⟩, hW, hsame.mono (by decide) (by decide)⟩
  · show Steps p.tables e below (T58.setTop (mkF m 70 #[.val (.ref x0), .val (.int y3), .val (.ref x3), .val (.int y2)] [(.int y2)])) _
    exact retI X58 hx Bd.returns (hb hby d_prog_1_method_26_code_70) hr
  · show Q_rm_take_8 Z x0 x1 y0 y1 x2 y2 y3 x3 kc0 h0 n0 _ T58.heap _
    rw [e58]
    exact ⟨rfl, N58, K58, E_x0, F_x0_payload, F_x0_littleEndian, F_x0_input, F_x0_position⟩
theorem d_prog_1_method_5_code_16 : decode prog_1_method_5_code 16 = .ok (.iconst 0, 1) := by decide +kernel
theorem ef_rm_atEnd_10 (m : MethodId) (x0 : Addr) : entryFrame m #[(.ref x0)] 1 = mkF m 0 #[.val (.ref x0)] [] := by first | (simp [entryFrame, mkF, argsToLocals, Value.category]; done) | rfl
def Q_rm_atEnd_10 (Z : State) (x0 : Addr) (x1 : Addr) (y0 : Int32) (y2 : Int32) (kc0 : ClassId) (h0 : Heap) (n0 : Nat) (v : Option Value) (h : Heap) (L : List Loc) : Prop := v = some (.int (0 : Int32)) ∧ Fr n0 L ∧ h = h0
set_option maxRecDepth 65536 in
set_option maxHeartbeats 40000000 in
theorem rm_atEnd_10 (l : Launch) (Z : State) (a0 : Array Value) (hw : ∀ d ∈ tables_1, d.before a0 Z = true) (ws : List Jvm.Cond) (x0 : Addr) (x1 : Addr) (y0 : Int32) (y2 : Int32) (kc0 : ClassId) (h0 : Heap) (n0 : Nat) (O0 : Old Z n0 h0) (F_x0_payload : Fld Z h0 x0 "com/example/bindery/bindery/ByteReader" "payload" "[B" (.ref x1)) (F_x0_position : Fld Z h0 x0 "com/example/bindery/bindery/ByteReader" "position" "I" (.int y2)) (V_x1 : Arv Z h0 x1 kc0 .byte y0 [] (.int (0 : Int32))) (hp2 : ¬ (y2 = y0))  :
    MetFree l (⟨"com/example/bindery/bindery/ByteReader", "atEnd", "()Z"⟩ : MethodName) (head1 (Jvm.Cond.code (⟨"com/example/bindery/bindery/ByteReader", "atEnd", "()Z"⟩ : MethodName) prog_1_method_5_code 1 (some .boolean) :: ws) ({ frames := 0, cells := 0, slots := 0, locals := 0 } : Room)) (fun a U => a = #[(.ref x0)] ∧ Z.Warmed39 U.vm ∧ U.heap = h0) (fun _ _ _ _ _ => True) (fun _ U o U' => ∃ v L, o = .returned v ∧ Q_rm_atEnd_10 Z x0 x1 y0 y2 kc0 h0 n0 v U'.heap L ∧ FrameEnd U o U' L ({ frames := 0, cells := 0, slots := 0, locals := 0 } : Room).cells ({ frames := 0, cells := 0, slots := 0, locals := 0 } : Room).slots) := by
  refine MetFree.of_bodySF (plainFor_of_name pn_com_example_bindery_bindery_ByteReader) hisR ?_
  intro p e s m args below meth c s₁ Bd hml0 hP hK
  obtain ⟨rfl, hZ, hh⟩ := hP
  have hx := Bd.exec
  have hby := Bd.bytes
  have hml : c.maxLocals = 1 := hml0
  have hown : s.vm.findClass "com/example/bindery/bindery/ByteReader" = some m.cls := findClass_of_methodNamed Bd.named
  have hnm := (name_of_methodNamed Bd.named Bd.method).1
  have X0 : Stand p l e ({ frames := 0, cells := 0, slots := 0, locals := 0 } : Room) s m #[(.ref x0)] below meth c s₁ [] 0 0 := Stand.of_body Bd
  have e0 : s₁.heap = h0 := by rw [← hh, Bd.state]; rfl
  have N0 := Fr.nil n0
  have pre0 : ∀ t, Steps p.tables e below (s₁.setTop (mkF m 0 #[.val (.ref x0)] [])) t → Steps p.tables e below (s₁.setTop (entryFrame m #[(.ref x0)] 1)) t := fun t k => castTop (ef_rm_atEnd_10 m x0) k
  have K0 := Keep.refl h0 []
  obtain ⟨T67, X67, e67, st67⟩ := getF X0 hx hZ hown (host := "") (Or.inl (hw _ (List.mem_of_getElem? (i := 37) rfl))) Via.refl e0 F_x0_position (g := (mkF m 1 #[.val (.ref x0)] [(.ref x0)])) rfl rfl (hb hby d_prog_1_method_5_code_1)
  obtain ⟨T68, X68, e68, st68⟩ := getF X67 hx hZ hown (host := "") (Or.inl (hw _ (List.mem_of_getElem? (i := 25) rfl))) Via.refl e67 F_x0_payload (g := (mkF m 5 #[.val (.ref x0)] [(.ref x0), (.int y2)])) rfl rfl (hb hby d_prog_1_method_5_code_5)
  have vt69 := V_x1
  obtain ⟨cl69, Ar69, q69, S69, Ng69, Ha69, G69⟩ := vt69
  have pre70 : ∀ t, Steps p.tables e below (T68.setTop (mkF m 17 #[.val (.ref x0)] [(.int (0 : Int32))])) t → Steps p.tables e below (s₁.setTop (entryFrame m #[(.ref x0)] 1)) t := by
    intro t kt
    refine pre0 t ?_
    show Steps p.tables e below (s₁.setTop (mkF m 0 #[.val (.ref x0)] [])) _
    refine XS.aloadN X0.here hx rfl (hb hby d_prog_1_method_5_code_0) rfl rfl ?_
    show Steps p.tables e below (s₁.setTop (mkF m 1 #[.val (.ref x0)] [(.ref x0)])) _
    refine st67 _ ?_
    show Steps p.tables e below (T67.setTop (mkF m 4 #[.val (.ref x0)] [(.int y2)])) _
    refine XS.aloadN X67.here hx rfl (hb hby d_prog_1_method_5_code_4) rfl rfl ?_
    show Steps p.tables e below (T67.setTop (mkF m 5 #[.val (.ref x0)] [(.ref x0), (.int y2)])) _
    refine st68 _ ?_
    show Steps p.tables e below (T68.setTop (mkF m 8 #[.val (.ref x0)] [(.ref x1), (.int y2)])) _
    refine X68.arraylength hx (by rw [e68]; exact Ar69.1) (State.isArrayOf_alike hZ.alike Ar69.2.1) (g := (mkF m 8 #[.val (.ref x0)] [(.ref x1), (.int y2)])) rfl rfl (hb hby d_prog_1_method_5_code_8) _ ?_
    rw [len_of S69 Ng69]
    show Steps p.tables e below (T68.setTop (mkF m 9 #[.val (.ref x0)] [(.int y0), (.int y2)])) _
    refine XS.icmpYes X68.here hx rfl (pc0 := 9) (pc' := 16) rfl (hb hby d_prog_1_method_5_code_9) rfl (feq hp2).2 (by decide) (by decide) ?_
    show Steps p.tables e below (T68.setTop (mkF m 16 #[.val (.ref x0)] [])) _
    refine XS.iconst X68.here hx rfl (hb hby d_prog_1_method_5_code_16) ?_
    exact kt
  obtain ⟨fs, hr, hrun, hended, hW, hsame⟩ := X68.leave (v := some (.int (0 : Int32))) (fun h => by rw [Bd.returns] at h; cases h)
  refine ⟨_, _, pre70 _ ?_, hrun, hended, _, _, rfl, ?_, ⟨_, rfl⟩, hW, hsame.mono (by decide) (by decide)⟩
  · show Steps p.tables e below (T68.setTop (mkF m 17 #[.val (.ref x0)] [(.int (0 : Int32))])) _
    exact retN X68 hx (t := .boolean) Bd.returns (by simp) (hb hby d_prog_1_method_5_code_17) hr
  · show Q_rm_atEnd_10 Z x0 x1 y0 y2 kc0 h0 n0 _ T68.heap _
    rw [e68]
    exact ⟨rfl, N0, rfl⟩
theorem ef_rm_take_11 (m : MethodId) (x0 : Addr) (y3 : Int32) (x3 : Addr) : entryFrame m #[(.ref x0), (.int y3), (.ref x3)] 4 = mkF m 0 #[.val (.ref x0), .val (.int y3), .val (.ref x3), .unset] [] := by first | (simp [entryFrame, mkF, argsToLocals, Value.category]; done) | rfl
def Q_rm_take_11 (Z : State) (x0 : Addr) (x1 : Addr) (y0 : Int32) (y1 : Int32) (x2 : Addr) (y2 : Int32) (y3 : Int32) (x3 : Addr) (kc0 : ClassId) (h0 : Heap) (n0 : Nat) (v : Option Value) (h : Heap) (L : List Loc) : Prop := v = some (.int y2) ∧ Fr n0 L ∧ Keep h0 h [x0] ∧ Exa Z h x0 "com/example/bindery/bindery/ByteReader" ∧ Fld Z h x0 "com/example/bindery/bindery/ByteReader" "payload" "[B" (.ref x1) ∧ Fld Z h x0 "com/example/bindery/bindery/ByteReader" "littleEndian" "Z" (.int y1) ∧ Fld Z h x0 "com/example/bindery/bindery/ByteReader" "input" "Ljava/lang/String;" (.ref x2) ∧ Fld Z h x0 "com/example/bindery/bindery/ByteReader" "position" "I" (.int (y2 + y3))
set_option maxRecDepth 65536 in
set_option maxHeartbeats 40000000 in
theorem rm_take_11 (l : Launch) (Z : State) (a0 : Array Value) (hw : ∀ d ∈ tables_1, d.before a0 Z = true) (ws : List Jvm.Cond) (x0 : Addr) (x1 : Addr) (y0 : Int32) (y1 : Int32) (x2 : Addr) (y2 : Int32) (y3 : Int32) (x3 : Addr) (kc0 : ClassId) (h0 : Heap) (n0 : Nat) (O0 : Old Z n0 h0) (E_x0 : Exa Z h0 x0 "com/example/bindery/bindery/ByteReader") (F_x0_payload : Fld Z h0 x0 "com/example/bindery/bindery/ByteReader" "payload" "[B" (.ref x1)) (F_x0_littleEndian : Fld Z h0 x0 "com/example/bindery/bindery/ByteReader" "littleEndian" "Z" (.int y1)) (F_x0_input : Fld Z h0 x0 "com/example/bindery/bindery/ByteReader" "input" "Ljava/lang/String;" (.ref x2)) (F_x0_position : Fld Z h0 x0 "com/example/bindery/bindery/ByteReader" "position" "I" (.int y2)) (ge_x0 : n0 ≤ x0) (V_x1 : Arv Z h0 x1 kc0 .byte y0 [] (.int (0 : Int32))) (ge_x1 : n0 ≤ x1) (ne_x0_x1 : x0 ≠ x1) (hp0 : (0 : Int32) = y0) (hp1 : y0 = (0 : Int32)) (hp2 : ¬ (y2 = y0)) (hp3 : ¬ ((y0 - y2) < y3))  :
    MetFree l (⟨"com/example/bindery/bindery/ByteReader", "take", "(ILjava/lang/String;)I"⟩ : MethodName) (head1 (Jvm.Cond.code (⟨"com/example/bindery/bindery/ByteReader", "take", "(ILjava/lang/String;)I"⟩ : MethodName) prog_1_method_26_code 4 (some .int) :: ws) ({ frames := 1, cells := 0, slots := 0, locals := 13 } : Room)) (fun a U => a = #[(.ref x0), (.int y3), (.ref x3)] ∧ Z.Warmed39 U.vm ∧ U.heap = h0) (fun _ _ _ _ _ => True) (fun _ U o U' => ∃ v L, o = .returned v ∧ Q_rm_take_11 Z x0 x1 y0 y1 x2 y2 y3 x3 kc0 h0 n0 v U'.heap L ∧ FrameEnd U o U' L ({ frames := 1, cells := 0, slots := 0, locals := 13 } : Room).cells ({ frames := 1, cells := 0, slots := 0, locals := 13 } : Room).slots) := by
  refine MetFree.of_bodySF (plainFor_of_name pn_com_example_bindery_bindery_ByteReader) hisR ?_
  intro p e s m args below meth c s₁ Bd hml0 hP hK
  obtain ⟨rfl, hZ, hh⟩ := hP
  have hx := Bd.exec
  have hby := Bd.bytes
  have hml : c.maxLocals = 4 := hml0
  have hown : s.vm.findClass "com/example/bindery/bindery/ByteReader" = some m.cls := findClass_of_methodNamed Bd.named
  have hnm := (name_of_methodNamed Bd.named Bd.method).1
  have X0 : Stand p l e ({ frames := 1, cells := 0, slots := 0, locals := 13 } : Room) s m #[(.ref x0), (.int y3), (.ref x3)] below meth c s₁ [] 0 0 := Stand.of_body Bd
  have e0 : s₁.heap = h0 := by rw [← hh, Bd.state]; rfl
  have N0 := Fr.nil n0
  have pre0 : ∀ t, Steps p.tables e below (s₁.setTop (mkF m 0 #[.val (.ref x0), .val (.int y3), .val (.ref x3), .unset] [])) t → Steps p.tables e below (s₁.setTop (entryFrame m #[(.ref x0), (.int y3), (.ref x3)] 4)) t := fun t k => castTop (ef_rm_take_11 m x0 y3 x3) k
  have K0 := Keep.refl h0 [x0]
  obtain ⟨cq80, q80, q80'⟩ := E_x0.cell
  obtain ⟨_, _, ⟨T80, L80, k80, n80⟩, -, X80, ⟨Lc80, hQ80, l80, y80, z80⟩, st80⟩ := X0.privateBack hx (y := (⟨"com/example/bindery/bindery/ByteReader", "remaining", "()I"⟩ : MethodName)) hown (mvT hZ (hw _ (List.mem_of_getElem? (i := 45) rfl))) (mvT hZ (hw _ (List.mem_of_getElem? (i := 46) rfl))) (own_priv hZ (hw _ (List.mem_of_getElem? (i := 46) rfl)) (hw _ (List.mem_of_getElem? (i := 47) rfl)) (hw _ (List.mem_of_getElem? (i := 2) rfl)) (by decide)) (Cond.privateMethod_at (mvP hZ (hw _ (List.mem_of_getElem? (i := 47) rfl)) (args := #[]))) (mvT hZ (hw _ (List.mem_of_getElem? (i := 48) rfl))) (by decide) (backOf (W := 1) (rm_remaining_9 l Z a0 hw [] x0 x1 y0 y2 kc0 h0 n0 O0 F_x0_payload F_x0_position V_x1 ) hZ (hw _ (List.mem_of_getElem? (i := 48) rfl)) (hw _ (List.mem_of_getElem? (i := 3) rfl)) (by decide) (by decide)) (g := (mkF m 2 #[.val (.ref x0), .val (.int y3), .val (.ref x3), .unset] [(.ref x0), (.int y3)])) rfl (by rw [hml]; rfl) (Steps.refl _) (a := x0) (by rw [e0]; exact q80) q80' (argsL := []) (rest := [(.int y3)]) (lenOf pd___I rfl) rfl (by show 2 * 0 + _ ≤ _; exact Nat.le_of_eq rfl) (hb hby d_prog_1_method_26_code_2) (fun _ _ => ⟨rfl, e0, (by decide : 0 + 0 ≤ _), (by decide : 0 + 0 ≤ _)⟩)
  dsimp only [Pt.U, Pt.locs, Pt.cells, Pt.slots] at X80 l80 y80 z80 st80 hQ80
  subst l80 y80 z80
  obtain ⟨rfl, N80q, e80⟩ := hQ80
  have N80 := Fr.app N0 N80q
  obtain ⟨T81, X81, e81, st81⟩ := getF X80 hx hZ hown (host := "") (Or.inl (hw _ (List.mem_of_getElem? (i := 37) rfl))) Via.refl e80 F_x0_position (g := (mkF m 55 #[.val (.ref x0), .val (.int y3), .val (.ref x3), .unset] [(.ref x0)])) rfl rfl (hb hby d_prog_1_method_26_code_55)
  obtain ⟨T82, X82, e82, st82⟩ := getF X81 hx hZ hown (host := "") (Or.inl (hw _ (List.mem_of_getElem? (i := 37) rfl))) Via.refl e81 F_x0_position (g := (mkF m 61 #[.val (.ref x0), .val (.int y3), .val (.ref x3), .val (.int y2)] [(.ref x0), (.ref x0)])) rfl rfl (hb hby d_prog_1_method_26_code_61)
  obtain ⟨T83, h83, X83, e83, W83, st83⟩ := putF X82 hx hZ hown (host := "") (Or.inl (hw _ (List.mem_of_getElem? (i := 37) rfl))) Via.refl e82 F_x0_position E_x0 (Or.inl (hw _ (List.mem_of_getElem? (i := 38) rfl))) (hw _ (List.mem_of_getElem? (i := 2) rfl)) (ty := .int) (by decide) rfl rfl (g := (mkF m 66 #[.val (.ref x0), .val (.int y3), .val (.ref x3), .val (.int y2)] [(.int (y2 + y3)), (.ref x0)])) rfl rfl (hb hby d_prog_1_method_26_code_66)
  have F_x0_position := F_x0_position.same W83
  have E_x0 := E_x0.wr W83
  have F_x0_payload := F_x0_payload.other W83 (Or.inr (slot_ne (Or.inr (hw _ (List.mem_of_getElem? (i := 26) rfl))) (Or.inl (hw _ (List.mem_of_getElem? (i := 38) rfl))) (by decide) (t := (.array .byte)) (t' := .int) (by decide) (by decide)))
  have F_x0_littleEndian := F_x0_littleEndian.other W83 (Or.inr (slot_ne (Or.inr (hw _ (List.mem_of_getElem? (i := 29) rfl))) (Or.inl (hw _ (List.mem_of_getElem? (i := 38) rfl))) (by decide) (t := .boolean) (t' := .int) (by decide) (by decide)))
  have F_x0_input := F_x0_input.other W83 (Or.inr (slot_ne (Or.inr (hw _ (List.mem_of_getElem? (i := 31) rfl))) (Or.inl (hw _ (List.mem_of_getElem? (i := 38) rfl))) (by decide) (t := (.object "java/lang/String")) (t' := .int) (by decide) (by decide)))
  have V_x1 := V_x1.other W83 (Ne.symm ne_x0_x1)
  have O83 := O0.wr W83 ge_x0
  have K83 := K0.wr W83 (Or.inl (List.mem_of_getElem? (i := 0) rfl))
  have N83 := Fr.snoc X83 N80 ge_x0
  have pre84 : ∀ t, Steps p.tables e below (T83.setTop (mkF m 70 #[.val (.ref x0), .val (.int y3), .val (.ref x3), .val (.int y2)] [(.int y2)])) t → Steps p.tables e below (s₁.setTop (entryFrame m #[(.ref x0), (.int y3), (.ref x3)] 4)) t := by
    intro t kt
    refine pre0 t ?_
    show Steps p.tables e below (s₁.setTop (mkF m 0 #[.val (.ref x0), .val (.int y3), .val (.ref x3), .unset] [])) _
    refine XS.iloadN X0.here hx rfl (hb hby d_prog_1_method_26_code_0) rfl ?_
    show Steps p.tables e below (s₁.setTop (mkF m 1 #[.val (.ref x0), .val (.int y3), .val (.ref x3), .unset] [(.int y3)])) _
    refine XS.aloadN X0.here hx rfl (hb hby d_prog_1_method_26_code_1) rfl rfl ?_
    show Steps p.tables e below (s₁.setTop (mkF m 2 #[.val (.ref x0), .val (.int y3), .val (.ref x3), .unset] [(.ref x0), (.int y3)])) _
    refine st80.trans ?_
    show Steps p.tables e below (T80.setTop (mkF m 5 #[.val (.ref x0), .val (.int y3), .val (.ref x3), .unset] [(.int (y0 - y2)), (.int y3)])) _
    refine XS.icmpYes X80.here hx rfl (pc0 := 5) (pc' := 54) rfl (hb hby d_prog_1_method_26_code_5) rfl (flt hp3).2.2.2 (by decide) (by decide) ?_
    show Steps p.tables e below (T80.setTop (mkF m 54 #[.val (.ref x0), .val (.int y3), .val (.ref x3), .unset] [])) _
    refine XS.aloadN X80.here hx rfl (hb hby d_prog_1_method_26_code_54) rfl rfl ?_
    show Steps p.tables e below (T80.setTop (mkF m 55 #[.val (.ref x0), .val (.int y3), .val (.ref x3), .unset] [(.ref x0)])) _
    refine st81 _ ?_
    show Steps p.tables e below (T81.setTop (mkF m 58 #[.val (.ref x0), .val (.int y3), .val (.ref x3), .unset] [(.int y2)])) _
    refine XS.istoreN X81.here hx rfl (hb hby d_prog_1_method_26_code_58) rfl (l' := #[.val (.ref x0), .val (.int y3), .val (.ref x3), .val (.int y2)]) rfl ?_
    show Steps p.tables e below (T81.setTop (mkF m 59 #[.val (.ref x0), .val (.int y3), .val (.ref x3), .val (.int y2)] [])) _
    refine XS.aloadN X81.here hx rfl (hb hby d_prog_1_method_26_code_59) rfl rfl ?_
    show Steps p.tables e below (T81.setTop (mkF m 60 #[.val (.ref x0), .val (.int y3), .val (.ref x3), .val (.int y2)] [(.ref x0)])) _
    refine XS.dup X81.here hx rfl (hb hby d_prog_1_method_26_code_60) rfl rfl ?_
    show Steps p.tables e below (T81.setTop (mkF m 61 #[.val (.ref x0), .val (.int y3), .val (.ref x3), .val (.int y2)] [(.ref x0), (.ref x0)])) _
    refine st82 _ ?_
    show Steps p.tables e below (T82.setTop (mkF m 64 #[.val (.ref x0), .val (.int y3), .val (.ref x3), .val (.int y2)] [(.int y2), (.ref x0)])) _
    refine XS.iloadN X82.here hx rfl (hb hby d_prog_1_method_26_code_64) rfl ?_
    show Steps p.tables e below (T82.setTop (mkF m 65 #[.val (.ref x0), .val (.int y3), .val (.ref x3), .val (.int y2)] [(.int y3), (.int y2), (.ref x0)])) _
    refine XS.iadd X82.here hx rfl (hb hby d_prog_1_method_26_code_65) rfl ?_
    show Steps p.tables e below (T82.setTop (mkF m 66 #[.val (.ref x0), .val (.int y3), .val (.ref x3), .val (.int y2)] [(.int (y2 + y3)), (.ref x0)])) _
    refine st83 _ ?_
    show Steps p.tables e below (T83.setTop (mkF m 69 #[.val (.ref x0), .val (.int y3), .val (.ref x3), .val (.int y2)] [])) _
    refine XS.iloadN X83.here hx rfl (hb hby d_prog_1_method_26_code_69) rfl ?_
    exact kt
  obtain ⟨fs, hr, hrun, hended, hW, hsame⟩ := X83.leave (v := some (.int y2)) (fun h => by rw [Bd.returns] at h; cases h)
  refine ⟨_, _, pre84 _ ?_, hrun, hended, _, _, rfl, ?_, ⟨_, rfl⟩, hW, hsame.mono (by decide) (by decide)⟩
  · show Steps p.tables e below (T83.setTop (mkF m 70 #[.val (.ref x0), .val (.int y3), .val (.ref x3), .val (.int y2)] [(.int y2)])) _
    exact retI X83 hx Bd.returns (hb hby d_prog_1_method_26_code_70) hr
  · show Q_rm_take_11 Z x0 x1 y0 y1 x2 y2 y3 x3 kc0 h0 n0 _ T83.heap _
    rw [e83]
    exact ⟨rfl, N83, K83, E_x0, F_x0_payload, F_x0_littleEndian, F_x0_input, F_x0_position⟩
theorem ef_rm_atEnd_12 (m : MethodId) (x0 : Addr) : entryFrame m #[(.ref x0)] 1 = mkF m 0 #[.val (.ref x0)] [] := by first | (simp [entryFrame, mkF, argsToLocals, Value.category]; done) | rfl
def Q_rm_atEnd_12 (Z : State) (x0 : Addr) (x1 : Addr) (y0 : Int32) (kc0 : ClassId) (h0 : Heap) (n0 : Nat) (v : Option Value) (h : Heap) (L : List Loc) : Prop := v = some (.int (0 : Int32)) ∧ Fr n0 L ∧ h = h0
set_option maxRecDepth 65536 in
set_option maxHeartbeats 40000000 in
theorem rm_atEnd_12 (l : Launch) (Z : State) (a0 : Array Value) (hw : ∀ d ∈ tables_1, d.before a0 Z = true) (ws : List Jvm.Cond) (x0 : Addr) (x1 : Addr) (y0 : Int32) (kc0 : ClassId) (h0 : Heap) (n0 : Nat) (O0 : Old Z n0 h0) (F_x0_payload : Fld Z h0 x0 "com/example/bindery/bindery/ByteReader" "payload" "[B" (.ref x1)) (F_x0_position : Fld Z h0 x0 "com/example/bindery/bindery/ByteReader" "position" "I" (.int (0 : Int32))) (V_x1 : Arv Z h0 x1 kc0 .byte y0 [] (.int (0 : Int32))) (hp0 : ¬ ((0 : Int32) = y0))  :
    MetFree l (⟨"com/example/bindery/bindery/ByteReader", "atEnd", "()Z"⟩ : MethodName) (head1 (Jvm.Cond.code (⟨"com/example/bindery/bindery/ByteReader", "atEnd", "()Z"⟩ : MethodName) prog_1_method_5_code 1 (some .boolean) :: ws) ({ frames := 0, cells := 0, slots := 0, locals := 0 } : Room)) (fun a U => a = #[(.ref x0)] ∧ Z.Warmed39 U.vm ∧ U.heap = h0) (fun _ _ _ _ _ => True) (fun _ U o U' => ∃ v L, o = .returned v ∧ Q_rm_atEnd_12 Z x0 x1 y0 kc0 h0 n0 v U'.heap L ∧ FrameEnd U o U' L ({ frames := 0, cells := 0, slots := 0, locals := 0 } : Room).cells ({ frames := 0, cells := 0, slots := 0, locals := 0 } : Room).slots) := by
  refine MetFree.of_bodySF (plainFor_of_name pn_com_example_bindery_bindery_ByteReader) hisR ?_
  intro p e s m args below meth c s₁ Bd hml0 hP hK
  obtain ⟨rfl, hZ, hh⟩ := hP
  have hx := Bd.exec
  have hby := Bd.bytes
  have hml : c.maxLocals = 1 := hml0
  have hown : s.vm.findClass "com/example/bindery/bindery/ByteReader" = some m.cls := findClass_of_methodNamed Bd.named
  have hnm := (name_of_methodNamed Bd.named Bd.method).1
  have X0 : Stand p l e ({ frames := 0, cells := 0, slots := 0, locals := 0 } : Room) s m #[(.ref x0)] below meth c s₁ [] 0 0 := Stand.of_body Bd
  have e0 : s₁.heap = h0 := by rw [← hh, Bd.state]; rfl
  have N0 := Fr.nil n0
  have pre0 : ∀ t, Steps p.tables e below (s₁.setTop (mkF m 0 #[.val (.ref x0)] [])) t → Steps p.tables e below (s₁.setTop (entryFrame m #[(.ref x0)] 1)) t := fun t k => castTop (ef_rm_atEnd_12 m x0) k
  have K0 := Keep.refl h0 []
  obtain ⟨T97, X97, e97, st97⟩ := getF X0 hx hZ hown (host := "") (Or.inl (hw _ (List.mem_of_getElem? (i := 37) rfl))) Via.refl e0 F_x0_position (g := (mkF m 1 #[.val (.ref x0)] [(.ref x0)])) rfl rfl (hb hby d_prog_1_method_5_code_1)
  obtain ⟨T98, X98, e98, st98⟩ := getF X97 hx hZ hown (host := "") (Or.inl (hw _ (List.mem_of_getElem? (i := 25) rfl))) Via.refl e97 F_x0_payload (g := (mkF m 5 #[.val (.ref x0)] [(.ref x0), (.int (0 : Int32))])) rfl rfl (hb hby d_prog_1_method_5_code_5)
  have vt99 := V_x1
  obtain ⟨cl99, Ar99, q99, S99, Ng99, Ha99, G99⟩ := vt99
  have pre100 : ∀ t, Steps p.tables e below (T98.setTop (mkF m 17 #[.val (.ref x0)] [(.int (0 : Int32))])) t → Steps p.tables e below (s₁.setTop (entryFrame m #[(.ref x0)] 1)) t := by
    intro t kt
    refine pre0 t ?_
    show Steps p.tables e below (s₁.setTop (mkF m 0 #[.val (.ref x0)] [])) _
    refine XS.aloadN X0.here hx rfl (hb hby d_prog_1_method_5_code_0) rfl rfl ?_
    show Steps p.tables e below (s₁.setTop (mkF m 1 #[.val (.ref x0)] [(.ref x0)])) _
    refine st97 _ ?_
    show Steps p.tables e below (T97.setTop (mkF m 4 #[.val (.ref x0)] [(.int (0 : Int32))])) _
    refine XS.aloadN X97.here hx rfl (hb hby d_prog_1_method_5_code_4) rfl rfl ?_
    show Steps p.tables e below (T97.setTop (mkF m 5 #[.val (.ref x0)] [(.ref x0), (.int (0 : Int32))])) _
    refine st98 _ ?_
    show Steps p.tables e below (T98.setTop (mkF m 8 #[.val (.ref x0)] [(.ref x1), (.int (0 : Int32))])) _
    refine X98.arraylength hx (by rw [e98]; exact Ar99.1) (State.isArrayOf_alike hZ.alike Ar99.2.1) (g := (mkF m 8 #[.val (.ref x0)] [(.ref x1), (.int (0 : Int32))])) rfl rfl (hb hby d_prog_1_method_5_code_8) _ ?_
    rw [len_of S99 Ng99]
    show Steps p.tables e below (T98.setTop (mkF m 9 #[.val (.ref x0)] [(.int y0), (.int (0 : Int32))])) _
    refine XS.icmpYes X98.here hx rfl (pc0 := 9) (pc' := 16) rfl (hb hby d_prog_1_method_5_code_9) rfl (feq hp0).2 (by decide) (by decide) ?_
    show Steps p.tables e below (T98.setTop (mkF m 16 #[.val (.ref x0)] [])) _
    refine XS.iconst X98.here hx rfl (hb hby d_prog_1_method_5_code_16) ?_
    exact kt
  obtain ⟨fs, hr, hrun, hended, hW, hsame⟩ := X98.leave (v := some (.int (0 : Int32))) (fun h => by rw [Bd.returns] at h; cases h)
  refine ⟨_, _, pre100 _ ?_, hrun, hended, _, _, rfl, ?_, ⟨_, rfl⟩, hW, hsame.mono (by decide) (by decide)⟩
  · show Steps p.tables e below (T98.setTop (mkF m 17 #[.val (.ref x0)] [(.int (0 : Int32))])) _
    exact retN X98 hx (t := .boolean) Bd.returns (by simp) (hb hby d_prog_1_method_5_code_17) hr
  · show Q_rm_atEnd_12 Z x0 x1 y0 kc0 h0 n0 _ T98.heap _
    rw [e98]
    exact ⟨rfl, N0, rfl⟩
theorem ef_rm_take_13 (m : MethodId) (x0 : Addr) (y2 : Int32) (x3 : Addr) : entryFrame m #[(.ref x0), (.int y2), (.ref x3)] 4 = mkF m 0 #[.val (.ref x0), .val (.int y2), .val (.ref x3), .unset] [] := by first | (simp [entryFrame, mkF, argsToLocals, Value.category]; done) | rfl
def Q_rm_take_13 (Z : State) (x0 : Addr) (x1 : Addr) (y0 : Int32) (y1 : Int32) (x2 : Addr) (y2 : Int32) (x3 : Addr) (kc0 : ClassId) (h0 : Heap) (n0 : Nat) (v : Option Value) (h : Heap) (L : List Loc) : Prop := v = some (.int (0 : Int32)) ∧ Fr n0 L ∧ Keep h0 h [x0] ∧ Exa Z h x0 "com/example/bindery/bindery/ByteReader" ∧ Fld Z h x0 "com/example/bindery/bindery/ByteReader" "payload" "[B" (.ref x1) ∧ Fld Z h x0 "com/example/bindery/bindery/ByteReader" "littleEndian" "Z" (.int y1) ∧ Fld Z h x0 "com/example/bindery/bindery/ByteReader" "input" "Ljava/lang/String;" (.ref x2) ∧ Fld Z h x0 "com/example/bindery/bindery/ByteReader" "position" "I" (.int ((0 : Int32) + y2))
set_option maxRecDepth 65536 in
set_option maxHeartbeats 40000000 in
theorem rm_take_13 (l : Launch) (Z : State) (a0 : Array Value) (hw : ∀ d ∈ tables_1, d.before a0 Z = true) (ws : List Jvm.Cond) (x0 : Addr) (x1 : Addr) (y0 : Int32) (y1 : Int32) (x2 : Addr) (y2 : Int32) (x3 : Addr) (kc0 : ClassId) (h0 : Heap) (n0 : Nat) (O0 : Old Z n0 h0) (E_x0 : Exa Z h0 x0 "com/example/bindery/bindery/ByteReader") (F_x0_payload : Fld Z h0 x0 "com/example/bindery/bindery/ByteReader" "payload" "[B" (.ref x1)) (F_x0_littleEndian : Fld Z h0 x0 "com/example/bindery/bindery/ByteReader" "littleEndian" "Z" (.int y1)) (F_x0_input : Fld Z h0 x0 "com/example/bindery/bindery/ByteReader" "input" "Ljava/lang/String;" (.ref x2)) (F_x0_position : Fld Z h0 x0 "com/example/bindery/bindery/ByteReader" "position" "I" (.int (0 : Int32))) (ge_x0 : n0 ≤ x0) (V_x1 : Arv Z h0 x1 kc0 .byte y0 [] (.int (0 : Int32))) (ge_x1 : n0 ≤ x1) (ne_x0_x1 : x0 ≠ x1) (hp0 : ¬ ((0 : Int32) = y0)) (hp1 : ¬ (y0 = (0 : Int32))) (hp2 : ¬ ((y0 - (0 : Int32)) < y2))  :
    MetFree l (⟨"com/example/bindery/bindery/ByteReader", "take", "(ILjava/lang/String;)I"⟩ : MethodName) (head1 (Jvm.Cond.code (⟨"com/example/bindery/bindery/ByteReader", "take", "(ILjava/lang/String;)I"⟩ : MethodName) prog_1_method_26_code 4 (some .int) :: ws) ({ frames := 1, cells := 0, slots := 0, locals := 13 } : Room)) (fun a U => a = #[(.ref x0), (.int y2), (.ref x3)] ∧ Z.Warmed39 U.vm ∧ U.heap = h0) (fun _ _ _ _ _ => True) (fun _ U o U' => ∃ v L, o = .returned v ∧ Q_rm_take_13 Z x0 x1 y0 y1 x2 y2 x3 kc0 h0 n0 v U'.heap L ∧ FrameEnd U o U' L ({ frames := 1, cells := 0, slots := 0, locals := 13 } : Room).cells ({ frames := 1, cells := 0, slots := 0, locals := 13 } : Room).slots) := by
  refine MetFree.of_bodySF (plainFor_of_name pn_com_example_bindery_bindery_ByteReader) hisR ?_
  intro p e s m args below meth c s₁ Bd hml0 hP hK
  obtain ⟨rfl, hZ, hh⟩ := hP
  have hx := Bd.exec
  have hby := Bd.bytes
  have hml : c.maxLocals = 4 := hml0
  have hown : s.vm.findClass "com/example/bindery/bindery/ByteReader" = some m.cls := findClass_of_methodNamed Bd.named
  have hnm := (name_of_methodNamed Bd.named Bd.method).1
  have X0 : Stand p l e ({ frames := 1, cells := 0, slots := 0, locals := 13 } : Room) s m #[(.ref x0), (.int y2), (.ref x3)] below meth c s₁ [] 0 0 := Stand.of_body Bd
  have e0 : s₁.heap = h0 := by rw [← hh, Bd.state]; rfl
  have N0 := Fr.nil n0
  have pre0 : ∀ t, Steps p.tables e below (s₁.setTop (mkF m 0 #[.val (.ref x0), .val (.int y2), .val (.ref x3), .unset] [])) t → Steps p.tables e below (s₁.setTop (entryFrame m #[(.ref x0), (.int y2), (.ref x3)] 4)) t := fun t k => castTop (ef_rm_take_13 m x0 y2 x3) k
  have K0 := Keep.refl h0 [x0]
  obtain ⟨cq105, q105, q105'⟩ := E_x0.cell
  obtain ⟨_, _, ⟨T105, L105, k105, n105⟩, -, X105, ⟨Lc105, hQ105, l105, y105, z105⟩, st105⟩ := X0.privateBack hx (y := (⟨"com/example/bindery/bindery/ByteReader", "remaining", "()I"⟩ : MethodName)) hown (mvT hZ (hw _ (List.mem_of_getElem? (i := 45) rfl))) (mvT hZ (hw _ (List.mem_of_getElem? (i := 46) rfl))) (own_priv hZ (hw _ (List.mem_of_getElem? (i := 46) rfl)) (hw _ (List.mem_of_getElem? (i := 47) rfl)) (hw _ (List.mem_of_getElem? (i := 2) rfl)) (by decide)) (Cond.privateMethod_at (mvP hZ (hw _ (List.mem_of_getElem? (i := 47) rfl)) (args := #[]))) (mvT hZ (hw _ (List.mem_of_getElem? (i := 48) rfl))) (by decide) (backOf (W := 1) (rm_remaining_6 l Z a0 hw [] x0 x1 y0 kc0 h0 n0 O0 F_x0_payload F_x0_position V_x1 ) hZ (hw _ (List.mem_of_getElem? (i := 48) rfl)) (hw _ (List.mem_of_getElem? (i := 3) rfl)) (by decide) (by decide)) (g := (mkF m 2 #[.val (.ref x0), .val (.int y2), .val (.ref x3), .unset] [(.ref x0), (.int y2)])) rfl (by rw [hml]; rfl) (Steps.refl _) (a := x0) (by rw [e0]; exact q105) q105' (argsL := []) (rest := [(.int y2)]) (lenOf pd___I rfl) rfl (by show 2 * 0 + _ ≤ _; exact Nat.le_of_eq rfl) (hb hby d_prog_1_method_26_code_2) (fun _ _ => ⟨rfl, e0, (by decide : 0 + 0 ≤ _), (by decide : 0 + 0 ≤ _)⟩)
  dsimp only [Pt.U, Pt.locs, Pt.cells, Pt.slots] at X105 l105 y105 z105 st105 hQ105
  subst l105 y105 z105
  obtain ⟨rfl, N105q, e105⟩ := hQ105
  have N105 := Fr.app N0 N105q
  obtain ⟨T106, X106, e106, st106⟩ := getF X105 hx hZ hown (host := "") (Or.inl (hw _ (List.mem_of_getElem? (i := 37) rfl))) Via.refl e105 F_x0_position (g := (mkF m 55 #[.val (.ref x0), .val (.int y2), .val (.ref x3), .unset] [(.ref x0)])) rfl rfl (hb hby d_prog_1_method_26_code_55)
  obtain ⟨T107, X107, e107, st107⟩ := getF X106 hx hZ hown (host := "") (Or.inl (hw _ (List.mem_of_getElem? (i := 37) rfl))) Via.refl e106 F_x0_position (g := (mkF m 61 #[.val (.ref x0), .val (.int y2), .val (.ref x3), .val (.int (0 : Int32))] [(.ref x0), (.ref x0)])) rfl rfl (hb hby d_prog_1_method_26_code_61)
  obtain ⟨T108, h108, X108, e108, W108, st108⟩ := putF X107 hx hZ hown (host := "") (Or.inl (hw _ (List.mem_of_getElem? (i := 37) rfl))) Via.refl e107 F_x0_position E_x0 (Or.inl (hw _ (List.mem_of_getElem? (i := 38) rfl))) (hw _ (List.mem_of_getElem? (i := 2) rfl)) (ty := .int) (by decide) rfl rfl (g := (mkF m 66 #[.val (.ref x0), .val (.int y2), .val (.ref x3), .val (.int (0 : Int32))] [(.int ((0 : Int32) + y2)), (.ref x0)])) rfl rfl (hb hby d_prog_1_method_26_code_66)
  have F_x0_position := F_x0_position.same W108
  have E_x0 := E_x0.wr W108
  have F_x0_payload := F_x0_payload.other W108 (Or.inr (slot_ne (Or.inr (hw _ (List.mem_of_getElem? (i := 26) rfl))) (Or.inl (hw _ (List.mem_of_getElem? (i := 38) rfl))) (by decide) (t := (.array .byte)) (t' := .int) (by decide) (by decide)))
  have F_x0_littleEndian := F_x0_littleEndian.other W108 (Or.inr (slot_ne (Or.inr (hw _ (List.mem_of_getElem? (i := 29) rfl))) (Or.inl (hw _ (List.mem_of_getElem? (i := 38) rfl))) (by decide) (t := .boolean) (t' := .int) (by decide) (by decide)))
  have F_x0_input := F_x0_input.other W108 (Or.inr (slot_ne (Or.inr (hw _ (List.mem_of_getElem? (i := 31) rfl))) (Or.inl (hw _ (List.mem_of_getElem? (i := 38) rfl))) (by decide) (t := (.object "java/lang/String")) (t' := .int) (by decide) (by decide)))
  have V_x1 := V_x1.other W108 (Ne.symm ne_x0_x1)
  have O108 := O0.wr W108 ge_x0
  have K108 := K0.wr W108 (Or.inl (List.mem_of_getElem? (i := 0) rfl))
  have N108 := Fr.snoc X108 N105 ge_x0
  have pre109 : ∀ t, Steps p.tables e below (T108.setTop (mkF m 70 #[.val (.ref x0), .val (.int y2), .val (.ref x3), .val (.int (0 : Int32))] [(.int (0 : Int32))])) t → Steps p.tables e below (s₁.setTop (entryFrame m #[(.ref x0), (.int y2), (.ref x3)] 4)) t := by
    intro t kt
    refine pre0 t ?_
    show Steps p.tables e below (s₁.setTop (mkF m 0 #[.val (.ref x0), .val (.int y2), .val (.ref x3), .unset] [])) _
    refine XS.iloadN X0.here hx rfl (hb hby d_prog_1_method_26_code_0) rfl ?_
    show Steps p.tables e below (s₁.setTop (mkF m 1 #[.val (.ref x0), .val (.int y2), .val (.ref x3), .unset] [(.int y2)])) _
    refine XS.aloadN X0.here hx rfl (hb hby d_prog_1_method_26_code_1) rfl rfl ?_
    show Steps p.tables e below (s₁.setTop (mkF m 2 #[.val (.ref x0), .val (.int y2), .val (.ref x3), .unset] [(.ref x0), (.int y2)])) _
    refine st105.trans ?_
    show Steps p.tables e below (T105.setTop (mkF m 5 #[.val (.ref x0), .val (.int y2), .val (.ref x3), .unset] [(.int (y0 - (0 : Int32))), (.int y2)])) _
    refine XS.icmpYes X105.here hx rfl (pc0 := 5) (pc' := 54) rfl (hb hby d_prog_1_method_26_code_5) rfl (flt hp2).2.2.2 (by decide) (by decide) ?_
    show Steps p.tables e below (T105.setTop (mkF m 54 #[.val (.ref x0), .val (.int y2), .val (.ref x3), .unset] [])) _
    refine XS.aloadN X105.here hx rfl (hb hby d_prog_1_method_26_code_54) rfl rfl ?_
    show Steps p.tables e below (T105.setTop (mkF m 55 #[.val (.ref x0), .val (.int y2), .val (.ref x3), .unset] [(.ref x0)])) _
    refine st106 _ ?_
    show Steps p.tables e below (T106.setTop (mkF m 58 #[.val (.ref x0), .val (.int y2), .val (.ref x3), .unset] [(.int (0 : Int32))])) _
    refine XS.istoreN X106.here hx rfl (hb hby d_prog_1_method_26_code_58) rfl (l' := #[.val (.ref x0), .val (.int y2), .val (.ref x3), .val (.int (0 : Int32))]) rfl ?_
    show Steps p.tables e below (T106.setTop (mkF m 59 #[.val (.ref x0), .val (.int y2), .val (.ref x3), .val (.int (0 : Int32))] [])) _
    refine XS.aloadN X106.here hx rfl (hb hby d_prog_1_method_26_code_59) rfl rfl ?_
    show Steps p.tables e below (T106.setTop (mkF m 60 #[.val (.ref x0), .val (.int y2), .val (.ref x3), .val (.int (0 : Int32))] [(.ref x0)])) _
    refine XS.dup X106.here hx rfl (hb hby d_prog_1_method_26_code_60) rfl rfl ?_
    show Steps p.tables e below (T106.setTop (mkF m 61 #[.val (.ref x0), .val (.int y2), .val (.ref x3), .val (.int (0 : Int32))] [(.ref x0), (.ref x0)])) _
    refine st107 _ ?_
    show Steps p.tables e below (T107.setTop (mkF m 64 #[.val (.ref x0), .val (.int y2), .val (.ref x3), .val (.int (0 : Int32))] [(.int (0 : Int32)), (.ref x0)])) _
    refine XS.iloadN X107.here hx rfl (hb hby d_prog_1_method_26_code_64) rfl ?_
    show Steps p.tables e below (T107.setTop (mkF m 65 #[.val (.ref x0), .val (.int y2), .val (.ref x3), .val (.int (0 : Int32))] [(.int y2), (.int (0 : Int32)), (.ref x0)])) _
    refine XS.iadd X107.here hx rfl (hb hby d_prog_1_method_26_code_65) rfl ?_
    show Steps p.tables e below (T107.setTop (mkF m 66 #[.val (.ref x0), .val (.int y2), .val (.ref x3), .val (.int (0 : Int32))] [(.int ((0 : Int32) + y2)), (.ref x0)])) _
    refine st108 _ ?_
    show Steps p.tables e below (T108.setTop (mkF m 69 #[.val (.ref x0), .val (.int y2), .val (.ref x3), .val (.int (0 : Int32))] [])) _
    refine XS.iloadN X108.here hx rfl (hb hby d_prog_1_method_26_code_69) rfl ?_
    exact kt
  obtain ⟨fs, hr, hrun, hended, hW, hsame⟩ := X108.leave (v := some (.int (0 : Int32))) (fun h => by rw [Bd.returns] at h; cases h)
  refine ⟨_, _, pre109 _ ?_, hrun, hended, _, _, rfl, ?_, ⟨_, rfl⟩, hW, hsame.mono (by decide) (by decide)⟩
  · show Steps p.tables e below (T108.setTop (mkF m 70 #[.val (.ref x0), .val (.int y2), .val (.ref x3), .val (.int (0 : Int32))] [(.int (0 : Int32))])) _
    exact retI X108 hx Bd.returns (hb hby d_prog_1_method_26_code_70) hr
  · show Q_rm_take_13 Z x0 x1 y0 y1 x2 y2 x3 kc0 h0 n0 _ T108.heap _
    rw [e108]
    exact ⟨rfl, N108, K108, E_x0, F_x0_payload, F_x0_littleEndian, F_x0_input, F_x0_position⟩
theorem ef_rm_take_14 (m : MethodId) (x0 : Addr) (y3 : Int32) (x3 : Addr) : entryFrame m #[(.ref x0), (.int y3), (.ref x3)] 4 = mkF m 0 #[.val (.ref x0), .val (.int y3), .val (.ref x3), .unset] [] := by first | (simp [entryFrame, mkF, argsToLocals, Value.category]; done) | rfl
def Q_rm_take_14 (Z : State) (x0 : Addr) (x1 : Addr) (y0 : Int32) (y1 : Int32) (x2 : Addr) (y2 : Int32) (y3 : Int32) (x3 : Addr) (kc0 : ClassId) (h0 : Heap) (n0 : Nat) (v : Option Value) (h : Heap) (L : List Loc) : Prop := v = some (.int y2) ∧ Fr n0 L ∧ Keep h0 h [x0] ∧ Exa Z h x0 "com/example/bindery/bindery/ByteReader" ∧ Fld Z h x0 "com/example/bindery/bindery/ByteReader" "payload" "[B" (.ref x1) ∧ Fld Z h x0 "com/example/bindery/bindery/ByteReader" "littleEndian" "Z" (.int y1) ∧ Fld Z h x0 "com/example/bindery/bindery/ByteReader" "input" "Ljava/lang/String;" (.ref x2) ∧ Fld Z h x0 "com/example/bindery/bindery/ByteReader" "position" "I" (.int (y2 + y3))
set_option maxRecDepth 65536 in
set_option maxHeartbeats 40000000 in
theorem rm_take_14 (l : Launch) (Z : State) (a0 : Array Value) (hw : ∀ d ∈ tables_1, d.before a0 Z = true) (ws : List Jvm.Cond) (x0 : Addr) (x1 : Addr) (y0 : Int32) (y1 : Int32) (x2 : Addr) (y2 : Int32) (y3 : Int32) (x3 : Addr) (kc0 : ClassId) (h0 : Heap) (n0 : Nat) (O0 : Old Z n0 h0) (E_x0 : Exa Z h0 x0 "com/example/bindery/bindery/ByteReader") (F_x0_payload : Fld Z h0 x0 "com/example/bindery/bindery/ByteReader" "payload" "[B" (.ref x1)) (F_x0_littleEndian : Fld Z h0 x0 "com/example/bindery/bindery/ByteReader" "littleEndian" "Z" (.int y1)) (F_x0_input : Fld Z h0 x0 "com/example/bindery/bindery/ByteReader" "input" "Ljava/lang/String;" (.ref x2)) (F_x0_position : Fld Z h0 x0 "com/example/bindery/bindery/ByteReader" "position" "I" (.int y2)) (ge_x0 : n0 ≤ x0) (V_x1 : Arv Z h0 x1 kc0 .byte y0 [] (.int (0 : Int32))) (ge_x1 : n0 ≤ x1) (ne_x0_x1 : x0 ≠ x1) (hp0 : ¬ ((0 : Int32) = y0)) (hp1 : ¬ (y0 = (0 : Int32))) (hp2 : y2 = y0) (hp3 : ¬ ((y0 - y2) < y3))  :
    MetFree l (⟨"com/example/bindery/bindery/ByteReader", "take", "(ILjava/lang/String;)I"⟩ : MethodName) (head1 (Jvm.Cond.code (⟨"com/example/bindery/bindery/ByteReader", "take", "(ILjava/lang/String;)I"⟩ : MethodName) prog_1_method_26_code 4 (some .int) :: ws) ({ frames := 1, cells := 0, slots := 0, locals := 13 } : Room)) (fun a U => a = #[(.ref x0), (.int y3), (.ref x3)] ∧ Z.Warmed39 U.vm ∧ U.heap = h0) (fun _ _ _ _ _ => True) (fun _ U o U' => ∃ v L, o = .returned v ∧ Q_rm_take_14 Z x0 x1 y0 y1 x2 y2 y3 x3 kc0 h0 n0 v U'.heap L ∧ FrameEnd U o U' L ({ frames := 1, cells := 0, slots := 0, locals := 13 } : Room).cells ({ frames := 1, cells := 0, slots := 0, locals := 13 } : Room).slots) := by
  refine MetFree.of_bodySF (plainFor_of_name pn_com_example_bindery_bindery_ByteReader) hisR ?_
  intro p e s m args below meth c s₁ Bd hml0 hP hK
  obtain ⟨rfl, hZ, hh⟩ := hP
  have hx := Bd.exec
  have hby := Bd.bytes
  have hml : c.maxLocals = 4 := hml0
  have hown : s.vm.findClass "com/example/bindery/bindery/ByteReader" = some m.cls := findClass_of_methodNamed Bd.named
  have hnm := (name_of_methodNamed Bd.named Bd.method).1
  have X0 : Stand p l e ({ frames := 1, cells := 0, slots := 0, locals := 13 } : Room) s m #[(.ref x0), (.int y3), (.ref x3)] below meth c s₁ [] 0 0 := Stand.of_body Bd
  have e0 : s₁.heap = h0 := by rw [← hh, Bd.state]; rfl
  have N0 := Fr.nil n0
  have pre0 : ∀ t, Steps p.tables e below (s₁.setTop (mkF m 0 #[.val (.ref x0), .val (.int y3), .val (.ref x3), .unset] [])) t → Steps p.tables e below (s₁.setTop (entryFrame m #[(.ref x0), (.int y3), (.ref x3)] 4)) t := fun t k => castTop (ef_rm_take_14 m x0 y3 x3) k
  have K0 := Keep.refl h0 [x0]
  obtain ⟨cq116, q116, q116'⟩ := E_x0.cell
  obtain ⟨_, _, ⟨T116, L116, k116, n116⟩, -, X116, ⟨Lc116, hQ116, l116, y116, z116⟩, st116⟩ := X0.privateBack hx (y := (⟨"com/example/bindery/bindery/ByteReader", "remaining", "()I"⟩ : MethodName)) hown (mvT hZ (hw _ (List.mem_of_getElem? (i := 45) rfl))) (mvT hZ (hw _ (List.mem_of_getElem? (i := 46) rfl))) (own_priv hZ (hw _ (List.mem_of_getElem? (i := 46) rfl)) (hw _ (List.mem_of_getElem? (i := 47) rfl)) (hw _ (List.mem_of_getElem? (i := 2) rfl)) (by decide)) (Cond.privateMethod_at (mvP hZ (hw _ (List.mem_of_getElem? (i := 47) rfl)) (args := #[]))) (mvT hZ (hw _ (List.mem_of_getElem? (i := 48) rfl))) (by decide) (backOf (W := 1) (rm_remaining_9 l Z a0 hw [] x0 x1 y0 y2 kc0 h0 n0 O0 F_x0_payload F_x0_position V_x1 ) hZ (hw _ (List.mem_of_getElem? (i := 48) rfl)) (hw _ (List.mem_of_getElem? (i := 3) rfl)) (by decide) (by decide)) (g := (mkF m 2 #[.val (.ref x0), .val (.int y3), .val (.ref x3), .unset] [(.ref x0), (.int y3)])) rfl (by rw [hml]; rfl) (Steps.refl _) (a := x0) (by rw [e0]; exact q116) q116' (argsL := []) (rest := [(.int y3)]) (lenOf pd___I rfl) rfl (by show 2 * 0 + _ ≤ _; exact Nat.le_of_eq rfl) (hb hby d_prog_1_method_26_code_2) (fun _ _ => ⟨rfl, e0, (by decide : 0 + 0 ≤ _), (by decide : 0 + 0 ≤ _)⟩)
  dsimp only [Pt.U, Pt.locs, Pt.cells, Pt.slots] at X116 l116 y116 z116 st116 hQ116
  subst l116 y116 z116
  obtain ⟨rfl, N116q, e116⟩ := hQ116
  have N116 := Fr.app N0 N116q
  obtain ⟨T117, X117, e117, st117⟩ := getF X116 hx hZ hown (host := "") (Or.inl (hw _ (List.mem_of_getElem? (i := 37) rfl))) Via.refl e116 F_x0_position (g := (mkF m 55 #[.val (.ref x0), .val (.int y3), .val (.ref x3), .unset] [(.ref x0)])) rfl rfl (hb hby d_prog_1_method_26_code_55)
  obtain ⟨T118, X118, e118, st118⟩ := getF X117 hx hZ hown (host := "") (Or.inl (hw _ (List.mem_of_getElem? (i := 37) rfl))) Via.refl e117 F_x0_position (g := (mkF m 61 #[.val (.ref x0), .val (.int y3), .val (.ref x3), .val (.int y2)] [(.ref x0), (.ref x0)])) rfl rfl (hb hby d_prog_1_method_26_code_61)
  obtain ⟨T119, h119, X119, e119, W119, st119⟩ := putF X118 hx hZ hown (host := "") (Or.inl (hw _ (List.mem_of_getElem? (i := 37) rfl))) Via.refl e118 F_x0_position E_x0 (Or.inl (hw _ (List.mem_of_getElem? (i := 38) rfl))) (hw _ (List.mem_of_getElem? (i := 2) rfl)) (ty := .int) (by decide) rfl rfl (g := (mkF m 66 #[.val (.ref x0), .val (.int y3), .val (.ref x3), .val (.int y2)] [(.int (y2 + y3)), (.ref x0)])) rfl rfl (hb hby d_prog_1_method_26_code_66)
  have F_x0_position := F_x0_position.same W119
  have E_x0 := E_x0.wr W119
  have F_x0_payload := F_x0_payload.other W119 (Or.inr (slot_ne (Or.inr (hw _ (List.mem_of_getElem? (i := 26) rfl))) (Or.inl (hw _ (List.mem_of_getElem? (i := 38) rfl))) (by decide) (t := (.array .byte)) (t' := .int) (by decide) (by decide)))
  have F_x0_littleEndian := F_x0_littleEndian.other W119 (Or.inr (slot_ne (Or.inr (hw _ (List.mem_of_getElem? (i := 29) rfl))) (Or.inl (hw _ (List.mem_of_getElem? (i := 38) rfl))) (by decide) (t := .boolean) (t' := .int) (by decide) (by decide)))
  have F_x0_input := F_x0_input.other W119 (Or.inr (slot_ne (Or.inr (hw _ (List.mem_of_getElem? (i := 31) rfl))) (Or.inl (hw _ (List.mem_of_getElem? (i := 38) rfl))) (by decide) (t := (.object "java/lang/String")) (t' := .int) (by decide) (by decide)))
  have V_x1 := V_x1.other W119 (Ne.symm ne_x0_x1)
  have O119 := O0.wr W119 ge_x0
  have K119 := K0.wr W119 (Or.inl (List.mem_of_getElem? (i := 0) rfl))
  have N119 := Fr.snoc X119 N116 ge_x0
  have pre120 : ∀ t, Steps p.tables e below (T119.setTop (mkF m 70 #[.val (.ref x0), .val (.int y3), .val (.ref x3), .val (.int y2)] [(.int y2)])) t → Steps p.tables e below (s₁.setTop (entryFrame m #[(.ref x0), (.int y3), (.ref x3)] 4)) t := by
    intro t kt
    refine pre0 t ?_
    show Steps p.tables e below (s₁.setTop (mkF m 0 #[.val (.ref x0), .val (.int y3), .val (.ref x3), .unset] [])) _
    refine XS.iloadN X0.here hx rfl (hb hby d_prog_1_method_26_code_0) rfl ?_
    show Steps p.tables e below (s₁.setTop (mkF m 1 #[.val (.ref x0), .val (.int y3), .val (.ref x3), .unset] [(.int y3)])) _
    refine XS.aloadN X0.here hx rfl (hb hby d_prog_1_method_26_code_1) rfl rfl ?_
    show Steps p.tables e below (s₁.setTop (mkF m 2 #[.val (.ref x0), .val (.int y3), .val (.ref x3), .unset] [(.ref x0), (.int y3)])) _
    refine st116.trans ?_
    show Steps p.tables e below (T116.setTop (mkF m 5 #[.val (.ref x0), .val (.int y3), .val (.ref x3), .unset] [(.int (y0 - y2)), (.int y3)])) _
    refine XS.icmpYes X116.here hx rfl (pc0 := 5) (pc' := 54) rfl (hb hby d_prog_1_method_26_code_5) rfl (flt hp3).2.2.2 (by decide) (by decide) ?_
    show Steps p.tables e below (T116.setTop (mkF m 54 #[.val (.ref x0), .val (.int y3), .val (.ref x3), .unset] [])) _
    refine XS.aloadN X116.here hx rfl (hb hby d_prog_1_method_26_code_54) rfl rfl ?_
    show Steps p.tables e below (T116.setTop (mkF m 55 #[.val (.ref x0), .val (.int y3), .val (.ref x3), .unset] [(.ref x0)])) _
    refine st117 _ ?_
    show Steps p.tables e below (T117.setTop (mkF m 58 #[.val (.ref x0), .val (.int y3), .val (.ref x3), .unset] [(.int y2)])) _
    refine XS.istoreN X117.here hx rfl (hb hby d_prog_1_method_26_code_58) rfl (l' := #[.val (.ref x0), .val (.int y3), .val (.ref x3), .val (.int y2)]) rfl ?_
    show Steps p.tables e below (T117.setTop (mkF m 59 #[.val (.ref x0), .val (.int y3), .val (.ref x3), .val (.int y2)] [])) _
    refine XS.aloadN X117.here hx rfl (hb hby d_prog_1_method_26_code_59) rfl rfl ?_
    show Steps p.tables e below (T117.setTop (mkF m 60 #[.val (.ref x0), .val (.int y3), .val (.ref x3), .val (.int y2)] [(.ref x0)])) _
    refine XS.dup X117.here hx rfl (hb hby d_prog_1_method_26_code_60) rfl rfl ?_
    show Steps p.tables e below (T117.setTop (mkF m 61 #[.val (.ref x0), .val (.int y3), .val (.ref x3), .val (.int y2)] [(.ref x0), (.ref x0)])) _
    refine st118 _ ?_
    show Steps p.tables e below (T118.setTop (mkF m 64 #[.val (.ref x0), .val (.int y3), .val (.ref x3), .val (.int y2)] [(.int y2), (.ref x0)])) _
    refine XS.iloadN X118.here hx rfl (hb hby d_prog_1_method_26_code_64) rfl ?_
    show Steps p.tables e below (T118.setTop (mkF m 65 #[.val (.ref x0), .val (.int y3), .val (.ref x3), .val (.int y2)] [(.int y3), (.int y2), (.ref x0)])) _
    refine XS.iadd X118.here hx rfl (hb hby d_prog_1_method_26_code_65) rfl ?_
    show Steps p.tables e below (T118.setTop (mkF m 66 #[.val (.ref x0), .val (.int y3), .val (.ref x3), .val (.int y2)] [(.int (y2 + y3)), (.ref x0)])) _
    refine st119 _ ?_
    show Steps p.tables e below (T119.setTop (mkF m 69 #[.val (.ref x0), .val (.int y3), .val (.ref x3), .val (.int y2)] [])) _
    refine XS.iloadN X119.here hx rfl (hb hby d_prog_1_method_26_code_69) rfl ?_
    exact kt
  obtain ⟨fs, hr, hrun, hended, hW, hsame⟩ := X119.leave (v := some (.int y2)) (fun h => by rw [Bd.returns] at h; cases h)
  refine ⟨_, _, pre120 _ ?_, hrun, hended, _, _, rfl, ?_, ⟨_, rfl⟩, hW, hsame.mono (by decide) (by decide)⟩
  · show Steps p.tables e below (T119.setTop (mkF m 70 #[.val (.ref x0), .val (.int y3), .val (.ref x3), .val (.int y2)] [(.int y2)])) _
    exact retI X119 hx Bd.returns (hb hby d_prog_1_method_26_code_70) hr
  · show Q_rm_take_14 Z x0 x1 y0 y1 x2 y2 y3 x3 kc0 h0 n0 _ T119.heap _
    rw [e119]
    exact ⟨rfl, N119, K119, E_x0, F_x0_payload, F_x0_littleEndian, F_x0_input, F_x0_position⟩
theorem ef_rm_take_15 (m : MethodId) (x0 : Addr) (y3 : Int32) (x3 : Addr) : entryFrame m #[(.ref x0), (.int y3), (.ref x3)] 4 = mkF m 0 #[.val (.ref x0), .val (.int y3), .val (.ref x3), .unset] [] := by first | (simp [entryFrame, mkF, argsToLocals, Value.category]; done) | rfl
def Q_rm_take_15 (Z : State) (x0 : Addr) (x1 : Addr) (y0 : Int32) (y1 : Int32) (x2 : Addr) (y2 : Int32) (y3 : Int32) (x3 : Addr) (kc0 : ClassId) (h0 : Heap) (n0 : Nat) (v : Option Value) (h : Heap) (L : List Loc) : Prop := v = some (.int y2) ∧ Fr n0 L ∧ Keep h0 h [x0] ∧ Exa Z h x0 "com/example/bindery/bindery/ByteReader" ∧ Fld Z h x0 "com/example/bindery/bindery/ByteReader" "payload" "[B" (.ref x1) ∧ Fld Z h x0 "com/example/bindery/bindery/ByteReader" "littleEndian" "Z" (.int y1) ∧ Fld Z h x0 "com/example/bindery/bindery/ByteReader" "input" "Ljava/lang/String;" (.ref x2) ∧ Fld Z h x0 "com/example/bindery/bindery/ByteReader" "position" "I" (.int (y2 + y3))
set_option maxRecDepth 65536 in
set_option maxHeartbeats 40000000 in
theorem rm_take_15 (l : Launch) (Z : State) (a0 : Array Value) (hw : ∀ d ∈ tables_1, d.before a0 Z = true) (ws : List Jvm.Cond) (x0 : Addr) (x1 : Addr) (y0 : Int32) (y1 : Int32) (x2 : Addr) (y2 : Int32) (y3 : Int32) (x3 : Addr) (kc0 : ClassId) (h0 : Heap) (n0 : Nat) (O0 : Old Z n0 h0) (E_x0 : Exa Z h0 x0 "com/example/bindery/bindery/ByteReader") (F_x0_payload : Fld Z h0 x0 "com/example/bindery/bindery/ByteReader" "payload" "[B" (.ref x1)) (F_x0_littleEndian : Fld Z h0 x0 "com/example/bindery/bindery/ByteReader" "littleEndian" "Z" (.int y1)) (F_x0_input : Fld Z h0 x0 "com/example/bindery/bindery/ByteReader" "input" "Ljava/lang/String;" (.ref x2)) (F_x0_position : Fld Z h0 x0 "com/example/bindery/bindery/ByteReader" "position" "I" (.int y2)) (ge_x0 : n0 ≤ x0) (V_x1 : Arv Z h0 x1 kc0 .byte y0 [] (.int (0 : Int32))) (ge_x1 : n0 ≤ x1) (ne_x0_x1 : x0 ≠ x1) (hp0 : ¬ ((0 : Int32) = y0)) (hp1 : ¬ (y0 = (0 : Int32))) (hp2 : ¬ (y2 = y0)) (hp3 : ¬ ((y0 - y2) < y3))  :
    MetFree l (⟨"com/example/bindery/bindery/ByteReader", "take", "(ILjava/lang/String;)I"⟩ : MethodName) (head1 (Jvm.Cond.code (⟨"com/example/bindery/bindery/ByteReader", "take", "(ILjava/lang/String;)I"⟩ : MethodName) prog_1_method_26_code 4 (some .int) :: ws) ({ frames := 1, cells := 0, slots := 0, locals := 13 } : Room)) (fun a U => a = #[(.ref x0), (.int y3), (.ref x3)] ∧ Z.Warmed39 U.vm ∧ U.heap = h0) (fun _ _ _ _ _ => True) (fun _ U o U' => ∃ v L, o = .returned v ∧ Q_rm_take_15 Z x0 x1 y0 y1 x2 y2 y3 x3 kc0 h0 n0 v U'.heap L ∧ FrameEnd U o U' L ({ frames := 1, cells := 0, slots := 0, locals := 13 } : Room).cells ({ frames := 1, cells := 0, slots := 0, locals := 13 } : Room).slots) := by
  refine MetFree.of_bodySF (plainFor_of_name pn_com_example_bindery_bindery_ByteReader) hisR ?_
  intro p e s m args below meth c s₁ Bd hml0 hP hK
  obtain ⟨rfl, hZ, hh⟩ := hP
  have hx := Bd.exec
  have hby := Bd.bytes
  have hml : c.maxLocals = 4 := hml0
  have hown : s.vm.findClass "com/example/bindery/bindery/ByteReader" = some m.cls := findClass_of_methodNamed Bd.named
  have hnm := (name_of_methodNamed Bd.named Bd.method).1
  have X0 : Stand p l e ({ frames := 1, cells := 0, slots := 0, locals := 13 } : Room) s m #[(.ref x0), (.int y3), (.ref x3)] below meth c s₁ [] 0 0 := Stand.of_body Bd
  have e0 : s₁.heap = h0 := by rw [← hh, Bd.state]; rfl
  have N0 := Fr.nil n0
  have pre0 : ∀ t, Steps p.tables e below (s₁.setTop (mkF m 0 #[.val (.ref x0), .val (.int y3), .val (.ref x3), .unset] [])) t → Steps p.tables e below (s₁.setTop (entryFrame m #[(.ref x0), (.int y3), (.ref x3)] 4)) t := fun t k => castTop (ef_rm_take_15 m x0 y3 x3) k
  have K0 := Keep.refl h0 [x0]
  obtain ⟨cq137, q137, q137'⟩ := E_x0.cell
  obtain ⟨_, _, ⟨T137, L137, k137, n137⟩, -, X137, ⟨Lc137, hQ137, l137, y137, z137⟩, st137⟩ := X0.privateBack hx (y := (⟨"com/example/bindery/bindery/ByteReader", "remaining", "()I"⟩ : MethodName)) hown (mvT hZ (hw _ (List.mem_of_getElem? (i := 45) rfl))) (mvT hZ (hw _ (List.mem_of_getElem? (i := 46) rfl))) (own_priv hZ (hw _ (List.mem_of_getElem? (i := 46) rfl)) (hw _ (List.mem_of_getElem? (i := 47) rfl)) (hw _ (List.mem_of_getElem? (i := 2) rfl)) (by decide)) (Cond.privateMethod_at (mvP hZ (hw _ (List.mem_of_getElem? (i := 47) rfl)) (args := #[]))) (mvT hZ (hw _ (List.mem_of_getElem? (i := 48) rfl))) (by decide) (backOf (W := 1) (rm_remaining_9 l Z a0 hw [] x0 x1 y0 y2 kc0 h0 n0 O0 F_x0_payload F_x0_position V_x1 ) hZ (hw _ (List.mem_of_getElem? (i := 48) rfl)) (hw _ (List.mem_of_getElem? (i := 3) rfl)) (by decide) (by decide)) (g := (mkF m 2 #[.val (.ref x0), .val (.int y3), .val (.ref x3), .unset] [(.ref x0), (.int y3)])) rfl (by rw [hml]; rfl) (Steps.refl _) (a := x0) (by rw [e0]; exact q137) q137' (argsL := []) (rest := [(.int y3)]) (lenOf pd___I rfl) rfl (by show 2 * 0 + _ ≤ _; exact Nat.le_of_eq rfl) (hb hby d_prog_1_method_26_code_2) (fun _ _ => ⟨rfl, e0, (by decide : 0 + 0 ≤ _), (by decide : 0 + 0 ≤ _)⟩)
  dsimp only [Pt.U, Pt.locs, Pt.cells, Pt.slots] at X137 l137 y137 z137 st137 hQ137
  subst l137 y137 z137
  obtain ⟨rfl, N137q, e137⟩ := hQ137
  have N137 := Fr.app N0 N137q
  obtain ⟨T138, X138, e138, st138⟩ := getF X137 hx hZ hown (host := "") (Or.inl (hw _ (List.mem_of_getElem? (i := 37) rfl))) Via.refl e137 F_x0_position (g := (mkF m 55 #[.val (.ref x0), .val (.int y3), .val (.ref x3), .unset] [(.ref x0)])) rfl rfl (hb hby d_prog_1_method_26_code_55)
  obtain ⟨T139, X139, e139, st139⟩ := getF X138 hx hZ hown (host := "") (Or.inl (hw _ (List.mem_of_getElem? (i := 37) rfl))) Via.refl e138 F_x0_position (g := (mkF m 61 #[.val (.ref x0), .val (.int y3), .val (.ref x3), .val (.int y2)] [(.ref x0), (.ref x0)])) rfl rfl (hb hby d_prog_1_method_26_code_61)
  obtain ⟨T140, h140, X140, e140, W140, st140⟩ := putF X139 hx hZ hown (host := "") (Or.inl (hw _ (List.mem_of_getElem? (i := 37) rfl))) Via.refl e139 F_x0_position E_x0 (Or.inl (hw _ (List.mem_of_getElem? (i := 38) rfl))) (hw _ (List.mem_of_getElem? (i := 2) rfl)) (ty := .int) (by decide) rfl rfl (g := (mkF m 66 #[.val (.ref x0), .val (.int y3), .val (.ref x3), .val (.int y2)] [(.int (y2 + y3)), (.ref x0)])) rfl rfl (hb hby d_prog_1_method_26_code_66)
  have F_x0_position := F_x0_position.same W140
  have E_x0 := E_x0.wr W140
  have F_x0_payload := F_x0_payload.other W140 (Or.inr (slot_ne (Or.inr (hw _ (List.mem_of_getElem? (i := 26) rfl))) (Or.inl (hw _ (List.mem_of_getElem? (i := 38) rfl))) (by decide) (t := (.array .byte)) (t' := .int) (by decide) (by decide)))
  have F_x0_littleEndian := F_x0_littleEndian.other W140 (Or.inr (slot_ne (Or.inr (hw _ (List.mem_of_getElem? (i := 29) rfl))) (Or.inl (hw _ (List.mem_of_getElem? (i := 38) rfl))) (by decide) (t := .boolean) (t' := .int) (by decide) (by decide)))
  have F_x0_input := F_x0_input.other W140 (Or.inr (slot_ne (Or.inr (hw _ (List.mem_of_getElem? (i := 31) rfl))) (Or.inl (hw _ (List.mem_of_getElem? (i := 38) rfl))) (by decide) (t := (.object "java/lang/String")) (t' := .int) (by decide) (by decide)))
  have V_x1 := V_x1.other W140 (Ne.symm ne_x0_x1)
  have O140 := O0.wr W140 ge_x0
  have K140 := K0.wr W140 (Or.inl (List.mem_of_getElem? (i := 0) rfl))
  have N140 := Fr.snoc X140 N137 ge_x0
  have pre141 : ∀ t, Steps p.tables e below (T140.setTop (mkF m 70 #[.val (.ref x0), .val (.int y3), .val (.ref x3), .val (.int y2)] [(.int y2)])) t → Steps p.tables e below (s₁.setTop (entryFrame m #[(.ref x0), (.int y3), (.ref x3)] 4)) t := by
    intro t kt
    refine pre0 t ?_
    show Steps p.tables e below (s₁.setTop (mkF m 0 #[.val (.ref x0), .val (.int y3), .val (.ref x3), .unset] [])) _
    refine XS.iloadN X0.here hx rfl (hb hby d_prog_1_method_26_code_0) rfl ?_
    show Steps p.tables e below (s₁.setTop (mkF m 1 #[.val (.ref x0), .val (.int y3), .val (.ref x3), .unset] [(.int y3)])) _
    refine XS.aloadN X0.here hx rfl (hb hby d_prog_1_method_26_code_1) rfl rfl ?_
    show Steps p.tables e below (s₁.setTop (mkF m 2 #[.val (.ref x0), .val (.int y3), .val (.ref x3), .unset] [(.ref x0), (.int y3)])) _
    refine st137.trans ?_
    show Steps p.tables e below (T137.setTop (mkF m 5 #[.val (.ref x0), .val (.int y3), .val (.ref x3), .unset] [(.int (y0 - y2)), (.int y3)])) _
    refine XS.icmpYes X137.here hx rfl (pc0 := 5) (pc' := 54) rfl (hb hby d_prog_1_method_26_code_5) rfl (flt hp3).2.2.2 (by decide) (by decide) ?_
    show Steps p.tables e below (T137.setTop (mkF m 54 #[.val (.ref x0), .val (.int y3), .val (.ref x3), .unset] [])) _
    refine XS.aloadN X137.here hx rfl (hb hby d_prog_1_method_26_code_54) rfl rfl ?_
    show Steps p.tables e below (T137.setTop (mkF m 55 #[.val (.ref x0), .val (.int y3), .val (.ref x3), .unset] [(.ref x0)])) _
    refine st138 _ ?_
    show Steps p.tables e below (T138.setTop (mkF m 58 #[.val (.ref x0), .val (.int y3), .val (.ref x3), .unset] [(.int y2)])) _
    refine XS.istoreN X138.here hx rfl (hb hby d_prog_1_method_26_code_58) rfl (l' := #[.val (.ref x0), .val (.int y3), .val (.ref x3), .val (.int y2)]) rfl ?_
    show Steps p.tables e below (T138.setTop (mkF m 59 #[.val (.ref x0), .val (.int y3), .val (.ref x3), .val (.int y2)] [])) _
    refine XS.aloadN X138.here hx rfl (hb hby d_prog_1_method_26_code_59) rfl rfl ?_
    show Steps p.tables e below (T138.setTop (mkF m 60 #[.val (.ref x0), .val (.int y3), .val (.ref x3), .val (.int y2)] [(.ref x0)])) _
    refine XS.dup X138.here hx rfl (hb hby d_prog_1_method_26_code_60) rfl rfl ?_
    show Steps p.tables e below (T138.setTop (mkF m 61 #[.val (.ref x0), .val (.int y3), .val (.ref x3), .val (.int y2)] [(.ref x0), (.ref x0)])) _
    refine st139 _ ?_
    show Steps p.tables e below (T139.setTop (mkF m 64 #[.val (.ref x0), .val (.int y3), .val (.ref x3), .val (.int y2)] [(.int y2), (.ref x0)])) _
    refine XS.iloadN X139.here hx rfl (hb hby d_prog_1_method_26_code_64) rfl ?_
    show Steps p.tables e below (T139.setTop (mkF m 65 #[.val (.ref x0), .val (.int y3), .val (.ref x3), .val (.int y2)] [(.int y3), (.int y2), (.ref x0)])) _
    refine XS.iadd X139.here hx rfl (hb hby d_prog_1_method_26_code_65) rfl ?_
    show Steps p.tables e below (T139.setTop (mkF m 66 #[.val (.ref x0), .val (.int y3), .val (.ref x3), .val (.int y2)] [(.int (y2 + y3)), (.ref x0)])) _
    refine st140 _ ?_
    show Steps p.tables e below (T140.setTop (mkF m 69 #[.val (.ref x0), .val (.int y3), .val (.ref x3), .val (.int y2)] [])) _
    refine XS.iloadN X140.here hx rfl (hb hby d_prog_1_method_26_code_69) rfl ?_
    exact kt
  obtain ⟨fs, hr, hrun, hended, hW, hsame⟩ := X140.leave (v := some (.int y2)) (fun h => by rw [Bd.returns] at h; cases h)
  refine ⟨_, _, pre141 _ ?_, hrun, hended, _, _, rfl, ?_, ⟨_, rfl⟩, hW, hsame.mono (by decide) (by decide)⟩
  · show Steps p.tables e below (T140.setTop (mkF m 70 #[.val (.ref x0), .val (.int y3), .val (.ref x3), .val (.int y2)] [(.int y2)])) _
    exact retI X140 hx Bd.returns (hb hby d_prog_1_method_26_code_70) hr
  · show Q_rm_take_15 Z x0 x1 y0 y1 x2 y2 y3 x3 kc0 h0 n0 _ T140.heap _
    rw [e140]
    exact ⟨rfl, N140, K140, E_x0, F_x0_payload, F_x0_littleEndian, F_x0_input, F_x0_position⟩
theorem pd___B_V : parseMethodDescriptor "([B)V" = some ⟨[(.array .byte)], none⟩ := by decide +kernel
theorem pd___Z : parseMethodDescriptor "()Z" = some ⟨[], some .boolean⟩ := by decide +kernel
theorem pd__ILjava_lang_String__I : parseMethodDescriptor "(ILjava/lang/String;)I" = some ⟨[.int, (.object "java/lang/String")], some .int⟩ := by decide +kernel
theorem pn_com_example_bindery_bindery_ByteReaderAtEndPinLaw : plainName "com/example/bindery/bindery/ByteReaderAtEndPinLaw" = true := by first | (simp [plainName, overriddenIn]; done) | decide +kernel
theorem ef_rm0 (m : MethodId) (p0 : Int32) (p1 : Int32) (p2 : Int32) : entryFrame m #[(.int p0), (.int p1), (.int p2)] maxLocals = mkF m 0 #[.val (.int p0), .val (.int p1), .val (.int p2), .unset, .unset, .unset, .unset, .unset, .unset, .unset, .unset] [] := by first | (simp [entryFrame, mkF, argsToLocals, Value.category, maxLocals]; done) | rfl
def Q_rm0 (Z : State) (p0 : Int32) (p1 : Int32) (p2 : Int32) (w_BIG_ENDIAN : Addr) (w_LITTLE_ENDIAN : Addr) (h0 : Heap) (n0 : Nat) (v : Option Value) (h : Heap) (L : List Loc) : Prop := v = some (.int 1) ∧ Fr n0 L
set_option maxRecDepth 65536 in
set_option maxHeartbeats 40000000 in
theorem rm0 (l : Launch) (Z : State) (a0 : Array Value) (hw : ∀ d ∈ tables_1, d.before a0 Z = true) (ws : List Jvm.Cond) (p0 : Int32) (p1 : Int32) (p2 : Int32) (w_BIG_ENDIAN : Addr) (w_LITTLE_ENDIAN : Addr) (h0 : Heap) (n0 : Nat) (O0 : Old Z n0 h0) (S_BIG_ENDIAN : Sta Z Z.heap "java/nio/ByteOrder" "BIG_ENDIAN" "Ljava/nio/ByteOrder;" (.ref w_BIG_ENDIAN)) (S_LITTLE_ENDIAN : Sta Z Z.heap "java/nio/ByteOrder" "LITTLE_ENDIAN" "Ljava/nio/ByteOrder;" (.ref w_LITTLE_ENDIAN)) :
    MetFree l x (head1 (Jvm.Cond.code x code maxLocals ret :: ws) room_1) (fun a U => a = #[(.int p0), (.int p1), (.int p2)] ∧ Z.Warmed39 U.vm ∧ U.heap = h0) (fun _ _ _ _ _ => True) (fun _ U o U' => ∃ v L, o = .returned v ∧ Q_rm0 Z p0 p1 p2 w_BIG_ENDIAN w_LITTLE_ENDIAN h0 n0 v U'.heap L ∧ ReturnedEndW U o U' L room_1.cells room_1.slots) := by
  refine MetFree.of_bodySF (plainFor_of_name pn_com_example_bindery_bindery_ByteReaderAtEndPinLaw) hisR ?_
  intro p e s m args below meth c s₁ Bd hml0 hP hK
  obtain ⟨rfl, hZ, hh⟩ := hP
  have hx := Bd.exec
  have hby := Bd.bytes
  have hml : c.maxLocals = 11 := hml0
  have hown : s.vm.findClass "com/example/bindery/bindery/ByteReaderAtEndPinLaw" = some m.cls := findClass_of_methodNamed Bd.named
  have hnm := (name_of_methodNamed Bd.named Bd.method).1
  have X0 : Stand p l e room_1 (s.setVm s.vm) m #[(.int p0), (.int p1), (.int p2)] below meth c s₁ [] 0 0 := Stand.of_body Bd
  have e0 : s₁.heap = h0 := by rw [← hh, Bd.state]; rfl
  have N0 := Fr.nil n0
  have pre0 : ∀ t, Steps p.tables e below (s₁.setTop (mkF m 0 #[.val (.int p0), .val (.int p1), .val (.int p2), .unset, .unset, .unset, .unset, .unset, .unset, .unset, .unset] [])) t → Steps p.tables e below (s₁.setTop (entryFrame m #[(.int p0), (.int p1), (.int p2)] maxLocals)) t := fun t k => castTop (ef_rm0 m p0 p1 p2) k
  have hZ : Z.Warmed39 (s.setVm s.vm).vm := hZ
  have hown : (s.setVm s.vm).vm.findClass "com/example/bindery/bindery/ByteReaderAtEndPinLaw" = some m.cls := hown
  have hS0 : s.Since s.vm 0 := (State.WarmedH.refl s).since 0
  have hk0 : 0 ≤ h0.size := Nat.zero_le _
  have pre1 : ∀ t, Steps p.tables e below (s₁.setTop (mkF m 5 #[.val (.int p0), .val (.int p1), .val (.int p2), .val (.int (p0 &&& (15 : Int32))), .unset, .unset, .unset, .unset, .unset, .unset, .unset] [])) t → Steps p.tables e below (s₁.setTop (entryFrame m #[(.int p0), (.int p1), (.int p2)] maxLocals)) t := by
    intro t kt
    refine pre0 t ?_
    show Steps p.tables e below (s₁.setTop (mkF m 0 #[.val (.int p0), .val (.int p1), .val (.int p2), .unset, .unset, .unset, .unset, .unset, .unset, .unset, .unset] [])) _
    refine XS.iloadN X0.here hx rfl (hb hby at_0) rfl ?_
    show Steps p.tables e below (s₁.setTop (mkF m 1 #[.val (.int p0), .val (.int p1), .val (.int p2), .unset, .unset, .unset, .unset, .unset, .unset, .unset, .unset] [(.int p0)])) _
    refine XS.bipush X0.here hx rfl (hb hby at_1) ?_
    show Steps p.tables e below (s₁.setTop (mkF m 3 #[.val (.int p0), .val (.int p1), .val (.int p2), .unset, .unset, .unset, .unset, .unset, .unset, .unset, .unset] [(.int (15 : Int32)), (.int p0)])) _
    refine XS.iand X0.here hx rfl (hb hby at_3) rfl ?_
    show Steps p.tables e below (s₁.setTop (mkF m 4 #[.val (.int p0), .val (.int p1), .val (.int p2), .unset, .unset, .unset, .unset, .unset, .unset, .unset, .unset] [(.int (p0 &&& (15 : Int32)))])) _
    refine XS.istoreN X0.here hx rfl (hb hby at_4) rfl (l' := #[.val (.int p0), .val (.int p1), .val (.int p2), .val (.int (p0 &&& (15 : Int32))), .unset, .unset, .unset, .unset, .unset, .unset, .unset]) rfl ?_
    exact kt
  obtain ⟨nn, hnn⟩ : ∃ z : Int32, z = (p0 &&& (15 : Int32)) := ⟨_, rfl⟩
  rw [← hnn] at pre1
  have hb_nn : 0 ≤ nn.toInt ∧ nn.toInt < 16 := by rw [hnn]; exact own_mask15 p0
  obtain ⟨T2, h2, k2, X2, e2, E2, A2, st2⟩ := newP X0 hx hZ (hw _ (List.mem_of_getElem? (i := 0) rfl)) e0 (g := (mkF m 6 #[.val (.int p0), .val (.int p1), .val (.int p2), .val (.int nn), .unset, .unset, .unset, .unset, .unset, .unset, .unset] [(.int nn)])) rfl (hb hby at_6) rfl (own_c15 hb_nn).1 (cap := 15) (own_c15 hb_nn).2 (by decide) (by decide) (by decide)
  obtain ⟨b2, g2⟩ : ∃ z, z = h0.size := ⟨_, rfl⟩
  have ge_b2 : n0 ≤ b2 := Nat.le_trans (own_z O0) (Nat.le_of_eq g2.symm)
  rw [← g2] at A2 st2
  have O2 := O0.ext E2
  have hk2 := Nat.le_trans hk0 E2.1
  have V_b2 : Arv Z h2 b2 k2 .byte nn [] (.int (0 : Int32)) := Arv.new A2 (own_c15 hb_nn).1
  obtain ⟨T3, h3, X3, e3, E3, A3, D3, -, st3⟩ := newO X2 hx hZ hown (hw _ (List.mem_of_getElem? (i := 1) rfl)) (hw _ (List.mem_of_getElem? (i := 2) rfl)) (hw _ (List.mem_of_getElem? (i := 3) rfl)) e2 (g := (mkF m 10 #[.val (.int p0), .val (.int p1), .val (.int p2), .val (.int nn), .val (.ref b2), .unset, .unset, .unset, .unset, .unset, .unset] [])) rfl (hb hby at_10) (by decide) (by decide)
  obtain ⟨b3, g3⟩ : ∃ z, z = h2.size := ⟨_, rfl⟩
  have ne_b2_b3 : b2 ≠ b3 := Nat.ne_of_lt (Nat.lt_of_lt_of_le V_b2.lt (Nat.le_of_eq g3.symm))
  have ge_b3 : n0 ≤ b3 := Nat.le_trans (own_z O2) (Nat.le_of_eq g3.symm)
  rw [← g3] at A3 D3 st3
  have V_b2 := V_b2.ext E3
  have O3 := O2.ext E3
  have hk3 := Nat.le_trans hk2 E3.1
  have E_b3 := A3
  have F_payload_b3 : Fld Z h3 b3 "com/example/bindery/bindery/ByteReader" "payload" "[B" .null := D3 (Or.inr (hw _ (List.mem_of_getElem? (i := 26) rfl))) (ty := (.array .byte)) (by decide)
  have F_littleEndian_b3 : Fld Z h3 b3 "com/example/bindery/bindery/ByteReader" "littleEndian" "Z" (.int (0 : Int32)) := D3 (Or.inr (hw _ (List.mem_of_getElem? (i := 29) rfl))) (ty := .boolean) (by decide)
  have F_input_b3 : Fld Z h3 b3 "com/example/bindery/bindery/ByteReader" "input" "Ljava/lang/String;" .null := D3 (Or.inr (hw _ (List.mem_of_getElem? (i := 31) rfl))) (ty := (.object "java/lang/String")) (by decide)
  have F_position_b3 : Fld Z h3 b3 "com/example/bindery/bindery/ByteReader" "position" "I" (.int (0 : Int32)) := D3 (Or.inl (hw _ (List.mem_of_getElem? (i := 38) rfl))) (ty := .int) (by decide)
  have pre21 : ∀ t, Steps p.tables e below (T3.setTop (mkF m 16 #[.val (.int p0), .val (.int p1), .val (.int p2), .val (.int nn), .val (.ref b2), .unset, .unset, .unset, .unset, .unset, .unset] [(.ref b2), (.ref b3), (.ref b3)])) t → Steps p.tables e below (s₁.setTop (entryFrame m #[(.int p0), (.int p1), (.int p2)] maxLocals)) t := by
    intro t kt
    refine pre1 t ?_
    show Steps p.tables e below (s₁.setTop (mkF m 5 #[.val (.int p0), .val (.int p1), .val (.int p2), .val (.int nn), .unset, .unset, .unset, .unset, .unset, .unset, .unset] [])) _
    refine XS.iloadN X0.here hx rfl (hb hby at_5) rfl ?_
    show Steps p.tables e below (s₁.setTop (mkF m 6 #[.val (.int p0), .val (.int p1), .val (.int p2), .val (.int nn), .unset, .unset, .unset, .unset, .unset, .unset, .unset] [(.int nn)])) _
    refine st2 _ ?_
    show Steps p.tables e below (T2.setTop (mkF m 8 #[.val (.int p0), .val (.int p1), .val (.int p2), .val (.int nn), .unset, .unset, .unset, .unset, .unset, .unset, .unset] [(.ref b2)])) _
    refine XS.astore X2.here hx rfl (hb hby at_8) rfl rfl (l' := #[.val (.int p0), .val (.int p1), .val (.int p2), .val (.int nn), .val (.ref b2), .unset, .unset, .unset, .unset, .unset, .unset]) rfl ?_
    show Steps p.tables e below (T2.setTop (mkF m 10 #[.val (.int p0), .val (.int p1), .val (.int p2), .val (.int nn), .val (.ref b2), .unset, .unset, .unset, .unset, .unset, .unset] [])) _
    refine st3 _ ?_
    show Steps p.tables e below (T3.setTop (mkF m 13 #[.val (.int p0), .val (.int p1), .val (.int p2), .val (.int nn), .val (.ref b2), .unset, .unset, .unset, .unset, .unset, .unset] [(.ref b3)])) _
    refine XS.dup X3.here hx rfl (hb hby at_13) rfl rfl ?_
    show Steps p.tables e below (T3.setTop (mkF m 14 #[.val (.int p0), .val (.int p1), .val (.int p2), .val (.int nn), .val (.ref b2), .unset, .unset, .unset, .unset, .unset, .unset] [(.ref b3), (.ref b3)])) _
    refine XS.aload X3.here hx rfl (hb hby at_14) rfl rfl ?_
    exact kt
  obtain ⟨_, _, ⟨T4, L4, k4, n4⟩, -, X4, hSc4, hge4, ⟨Lc4, hQ4, l4, y4, z4⟩, st4⟩ := X3.specialBackS hx (y := (⟨"com/example/bindery/bindery/ByteReader", "<init>", "([B)V"⟩ : MethodName)) rfl hown (mvT hZ (hw _ (List.mem_of_getElem? (i := 4) rfl))) (mvT hZ (hw _ (List.mem_of_getElem? (i := 5) rfl))) (mvT hZ (hw _ (List.mem_of_getElem? (i := 6) rfl))) (by decide) (backOfS (W := 1) (rm_init_1 l Z a0 hw [] b3 b2 nn k2 w_BIG_ENDIAN w_LITTLE_ENDIAN h3 n0 O3 E_b3 F_payload_b3 F_littleEndian_b3 F_input_b3 F_position_b3 ge_b3 V_b2 ge_b2 (Ne.symm ne_b2_b3) S_BIG_ENDIAN S_LITTLE_ENDIAN) hZ (hw _ (List.mem_of_getElem? (i := 6) rfl)) (hw _ (List.mem_of_getElem? (i := 3) rfl)) (by decide) (by decide)) (g := (mkF m 16 #[.val (.int p0), .val (.int p1), .val (.int p2), .val (.int nn), .val (.ref b2), .unset, .unset, .unset, .unset, .unset, .unset] [(.ref b2), (.ref b3), (.ref b3)])) rfl (by rw [hml]; rfl) (Steps.refl _) (a := b3) (argsL := [(.ref b2)]) (rest := [(.ref b3)]) (lenOf pd___B_V rfl) rfl (by show 2 * 0 + _ ≤ _; exact Nat.le_of_eq rfl) (hb hby at_16) (fun _ _ => ⟨rfl, e3, (by decide : 2 + 2 ≤ _), (by decide : 20 + 48 ≤ _)⟩)
  dsimp only [Pt.U, Pt.locs, Pt.cells, Pt.slots] at X4 l4 y4 z4 st4 hQ4 hSc4 hge4
  subst l4 y4 z4
  obtain ⟨X4, hS4, hZ, hown⟩ := rebS hS0 (by rw [e3]; exact hk3) X4 hSc4 hge4 hZ hown
  obtain ⟨kx4_kx6_kx9_bz14, b4_b6_a8, rfl, N4q, Kc4, u4_0, u4_1, u4_2, u4_3, u4_4⟩ := hQ4
  have N4 := Fr.app N0 N4q
  have V_b2 := V_b2.keep Kc4 (ninS ne_b2_b3 nin0)
  have O4 := O3.keep Kc4 (allS ge_b3 all0)
  have hk4 : T4.heap.size ≤ T4.heap.size := Nat.le_refl _
  have pre22 : ∀ t, Steps p.tables e below (T4.setTop (mkF m 23 #[.val (.int p0), .val (.int p1), .val (.int p2), .val (.int nn), .val (.ref b2), .val (.ref b3), .unset, .unset, .unset, .unset, .unset] [(.ref b3)])) t → Steps p.tables e below (s₁.setTop (entryFrame m #[(.int p0), (.int p1), (.int p2)] maxLocals)) t := by
    intro t kt
    refine pre21 t ?_
    show Steps p.tables e below (T3.setTop (mkF m 16 #[.val (.int p0), .val (.int p1), .val (.int p2), .val (.int nn), .val (.ref b2), .unset, .unset, .unset, .unset, .unset, .unset] [(.ref b2), (.ref b3), (.ref b3)])) _
    refine st4.trans ?_
    show Steps p.tables e below (T4.setTop (mkF m 19 #[.val (.int p0), .val (.int p1), .val (.int p2), .val (.int nn), .val (.ref b2), .unset, .unset, .unset, .unset, .unset, .unset] [(.ref b3)])) _
    refine XS.astore X4.here hx rfl (hb hby at_19) rfl rfl (l' := #[.val (.int p0), .val (.int p1), .val (.int p2), .val (.int nn), .val (.ref b2), .val (.ref b3), .unset, .unset, .unset, .unset, .unset]) rfl ?_
    show Steps p.tables e below (T4.setTop (mkF m 21 #[.val (.int p0), .val (.int p1), .val (.int p2), .val (.int nn), .val (.ref b2), .val (.ref b3), .unset, .unset, .unset, .unset, .unset] [])) _
    refine XS.aload X4.here hx rfl (hb hby at_21) rfl rfl ?_
    exact kt
  by_cases h1 : nn = (0 : Int32)
  · obtain ⟨cq23, kq23, q23a, q23b, q23c⟩ := isOf hZ rfl u4_0
    obtain ⟨_, _, ⟨T23, L23, k23, n23⟩, -, X23, ⟨Lc23, hQ23, l23, y23, z23⟩, st23⟩ := X4.virtualBack hx (y := (⟨"com/example/bindery/bindery/ByteReader", "atEnd", "()Z"⟩ : MethodName)) (z := (⟨"com/example/bindery/bindery/ByteReader", "atEnd", "()Z"⟩ : MethodName)) hown (mvT hZ (hw _ (List.mem_of_getElem? (i := 32) rfl))) (mvT hZ (hw _ (List.mem_of_getElem? (i := 33) rfl))) (notFace_of_selects (args := #[]) (mvT hZ (hw _ (List.mem_of_getElem? (i := 35) rfl)))) (mvT hZ (hw _ (List.mem_of_getElem? (i := 35) rfl))) (mvT hZ (hw _ (List.mem_of_getElem? (i := 34) rfl))) (by decide) (backOf (W := 0) (rm_atEnd_4 l Z a0 hw [] b3 b2 nn k2 T4.heap n0 O4 u4_1 u4_4 V_b2 h1.symm ) hZ (hw _ (List.mem_of_getElem? (i := 36) rfl)) (hw _ (List.mem_of_getElem? (i := 3) rfl)) (by decide) (by decide)) q23a q23c (g := (mkF m 23 #[.val (.int p0), .val (.int p1), .val (.int p2), .val (.int nn), .val (.ref b2), .val (.ref b3), .unset, .unset, .unset, .unset, .unset] [(.ref b3)])) rfl (by rw [hml]; rfl) (Steps.refl _) (argsL := []) (rest := []) (lenOf pd___Z rfl) rfl (by show 2 * 0 + _ ≤ _; exact Nat.le_of_eq rfl) (hb hby at_23) (fun _ _ => ⟨rfl, rfl, (by decide : 4 + 0 ≤ _), (by decide : 68 + 0 ≤ _)⟩)
    dsimp only [Pt.U, Pt.locs, Pt.cells, Pt.slots] at X23 l23 y23 z23 st23 hQ23
    subst l23 y23 z23
    obtain ⟨rfl, N23q, e23⟩ := hQ23
    have N23 := Fr.app N4 N23q
    have pre28 : ∀ t, Steps p.tables e below (T23.setTop (mkF m 38 #[.val (.int p0), .val (.int p1), .val (.int p2), .val (.int nn), .val (.ref b2), .val (.ref b3), .val (.int (1 : Int32)), .val (.int ((p1 &&& (15 : Int32)) % (nn + (1 : Int32)))), .unset, .unset, .unset] [])) t → Steps p.tables e below (s₁.setTop (entryFrame m #[(.int p0), (.int p1), (.int p2)] maxLocals)) t := by
      intro t kt
      refine pre22 t ?_
      show Steps p.tables e below (T4.setTop (mkF m 23 #[.val (.int p0), .val (.int p1), .val (.int p2), .val (.int nn), .val (.ref b2), .val (.ref b3), .unset, .unset, .unset, .unset, .unset] [(.ref b3)])) _
      refine st23.trans ?_
      show Steps p.tables e below (T23.setTop (mkF m 26 #[.val (.int p0), .val (.int p1), .val (.int p2), .val (.int nn), .val (.ref b2), .val (.ref b3), .unset, .unset, .unset, .unset, .unset] [(.int (1 : Int32))])) _
      refine XS.istore X23.here hx rfl (hb hby at_26) rfl (l' := #[.val (.int p0), .val (.int p1), .val (.int p2), .val (.int nn), .val (.ref b2), .val (.ref b3), .val (.int (1 : Int32)), .unset, .unset, .unset, .unset]) rfl ?_
      show Steps p.tables e below (T23.setTop (mkF m 28 #[.val (.int p0), .val (.int p1), .val (.int p2), .val (.int nn), .val (.ref b2), .val (.ref b3), .val (.int (1 : Int32)), .unset, .unset, .unset, .unset] [])) _
      refine XS.iloadN X23.here hx rfl (hb hby at_28) rfl ?_
      show Steps p.tables e below (T23.setTop (mkF m 29 #[.val (.int p0), .val (.int p1), .val (.int p2), .val (.int nn), .val (.ref b2), .val (.ref b3), .val (.int (1 : Int32)), .unset, .unset, .unset, .unset] [(.int p1)])) _
      refine XS.bipush X23.here hx rfl (hb hby at_29) ?_
      show Steps p.tables e below (T23.setTop (mkF m 31 #[.val (.int p0), .val (.int p1), .val (.int p2), .val (.int nn), .val (.ref b2), .val (.ref b3), .val (.int (1 : Int32)), .unset, .unset, .unset, .unset] [(.int (15 : Int32)), (.int p1)])) _
      refine XS.iand X23.here hx rfl (hb hby at_31) rfl ?_
      show Steps p.tables e below (T23.setTop (mkF m 32 #[.val (.int p0), .val (.int p1), .val (.int p2), .val (.int nn), .val (.ref b2), .val (.ref b3), .val (.int (1 : Int32)), .unset, .unset, .unset, .unset] [(.int (p1 &&& (15 : Int32)))])) _
      refine XS.iloadN X23.here hx rfl (hb hby at_32) rfl ?_
      show Steps p.tables e below (T23.setTop (mkF m 33 #[.val (.int p0), .val (.int p1), .val (.int p2), .val (.int nn), .val (.ref b2), .val (.ref b3), .val (.int (1 : Int32)), .unset, .unset, .unset, .unset] [(.int nn), (.int (p1 &&& (15 : Int32)))])) _
      refine XS.iconst X23.here hx rfl (hb hby at_33) ?_
      show Steps p.tables e below (T23.setTop (mkF m 34 #[.val (.int p0), .val (.int p1), .val (.int p2), .val (.int nn), .val (.ref b2), .val (.ref b3), .val (.int (1 : Int32)), .unset, .unset, .unset, .unset] [(.int (1 : Int32)), (.int nn), (.int (p1 &&& (15 : Int32)))])) _
      refine XS.iadd X23.here hx rfl (hb hby at_34) rfl ?_
      show Steps p.tables e below (T23.setTop (mkF m 35 #[.val (.int p0), .val (.int p1), .val (.int p2), .val (.int nn), .val (.ref b2), .val (.ref b3), .val (.int (1 : Int32)), .unset, .unset, .unset, .unset] [(.int (nn + (1 : Int32))), (.int (p1 &&& (15 : Int32)))])) _
      refine iremM X23 hx rfl (hb hby at_35) rfl (own_nz1 hb_nn) ?_
      show Steps p.tables e below (T23.setTop (mkF m 36 #[.val (.int p0), .val (.int p1), .val (.int p2), .val (.int nn), .val (.ref b2), .val (.ref b3), .val (.int (1 : Int32)), .unset, .unset, .unset, .unset] [(.int ((p1 &&& (15 : Int32)) % (nn + (1 : Int32))))])) _
      refine XS.istore X23.here hx rfl (hb hby at_36) rfl (l' := #[.val (.int p0), .val (.int p1), .val (.int p2), .val (.int nn), .val (.ref b2), .val (.ref b3), .val (.int (1 : Int32)), .val (.int ((p1 &&& (15 : Int32)) % (nn + (1 : Int32)))), .unset, .unset, .unset]) rfl ?_
      exact kt
    obtain ⟨kk1, hkk1⟩ : ∃ z : Int32, z = ((p1 &&& (15 : Int32)) % (nn + (1 : Int32))) := ⟨_, rfl⟩
    rw [← hkk1] at pre28
    have hb_kk1 : 0 ≤ kk1.toInt ∧ kk1.toInt ≤ nn.toInt := by rw [hkk1]; exact own_k1 hb_nn
    have pre29 : ∀ t, Steps p.tables e below (T23.setTop (mkF m 42 #[.val (.int p0), .val (.int p1), .val (.int p2), .val (.int nn), .val (.ref b2), .val (.ref b3), .val (.int (1 : Int32)), .val (.int kk1), .unset, .unset, .unset] [(.int kk1), (.ref b3)])) t → Steps p.tables e below (s₁.setTop (entryFrame m #[(.int p0), (.int p1), (.int p2)] maxLocals)) t := by
      intro t kt
      refine pre28 t ?_
      show Steps p.tables e below (T23.setTop (mkF m 38 #[.val (.int p0), .val (.int p1), .val (.int p2), .val (.int nn), .val (.ref b2), .val (.ref b3), .val (.int (1 : Int32)), .val (.int kk1), .unset, .unset, .unset] [])) _
      refine XS.aload X23.here hx rfl (hb hby at_38) rfl rfl ?_
      show Steps p.tables e below (T23.setTop (mkF m 40 #[.val (.int p0), .val (.int p1), .val (.int p2), .val (.int nn), .val (.ref b2), .val (.ref b3), .val (.int (1 : Int32)), .val (.int kk1), .unset, .unset, .unset] [(.ref b3)])) _
      refine XS.iload X23.here hx rfl (hb hby at_40) rfl ?_
      exact kt
    obtain ⟨a30, T30, h30, k30, X30, e30, E30, hS30, hk30c, hZ, hown, st30⟩ := ldcS X23 hx hZ hown (hw _ (List.mem_of_getElem? (i := 39) rfl)) (own_str hw) e23 hS4 hk4 (g := (mkF m 42 #[.val (.int p0), .val (.int p1), .val (.int p2), .val (.int nn), .val (.ref b2), .val (.ref b3), .val (.int (1 : Int32)), .val (.int kk1), .unset, .unset, .unset] [(.int kk1), (.ref b3)])) rfl (hb hby at_42) (n := 4) (by decide) (by decide) (by decide) (by decide)
    have V_b2 := V_b2.ext E30
    have u4_0 := u4_0.ext E30
    have u4_1 := u4_1.ext E30
    have u4_2 := u4_2.ext E30
    have u4_3 := u4_3.ext E30
    have u4_4 := u4_4.ext E30
    have O30 := O4.ext E30
    obtain ⟨cq31, kq31, q31a, q31b, q31c⟩ := isOf hZ e30 u4_0
    obtain ⟨_, _, ⟨T31, L31, k31, n31⟩, -, X31, ⟨Lc31, hQ31, l31, y31, z31⟩, st31⟩ := X30.virtualBack hx (y := (⟨"com/example/bindery/bindery/ByteReader", "take", "(ILjava/lang/String;)I"⟩ : MethodName)) (z := (⟨"com/example/bindery/bindery/ByteReader", "take", "(ILjava/lang/String;)I"⟩ : MethodName)) hown (mvT hZ (hw _ (List.mem_of_getElem? (i := 40) rfl))) (mvT hZ (hw _ (List.mem_of_getElem? (i := 41) rfl))) (notFace_of_selects (args := #[]) (mvT hZ (hw _ (List.mem_of_getElem? (i := 43) rfl)))) (mvT hZ (hw _ (List.mem_of_getElem? (i := 43) rfl))) (mvT hZ (hw _ (List.mem_of_getElem? (i := 42) rfl))) (by decide) (backOf (W := 0) (rm_take_5 l Z a0 hw [] b3 b2 nn kx4_kx6_kx9_bz14 b4_b6_a8 kk1 a30 k2 h30 n0 O30 u4_0 u4_1 u4_2 u4_3 u4_4 ge_b3 V_b2 ge_b2 (Ne.symm ne_b2_b3) h1.symm h1 (own_t1 hb_kk1) ) hZ (hw _ (List.mem_of_getElem? (i := 44) rfl)) (hw _ (List.mem_of_getElem? (i := 3) rfl)) (by decide) (by decide)) q31a q31c (g := (mkF m 44 #[.val (.int p0), .val (.int p1), .val (.int p2), .val (.int nn), .val (.ref b2), .val (.ref b3), .val (.int (1 : Int32)), .val (.int kk1), .unset, .unset, .unset] [(.ref a30), (.int kk1), (.ref b3)])) rfl (by rw [hml]; rfl) (Steps.refl _) (argsL := [(.int kk1), (.ref a30)]) (rest := []) (lenOf pd__ILjava_lang_String__I rfl) rfl (by show 2 * 0 + _ ≤ _; exact Nat.le_of_eq rfl) (hb hby at_44) (fun _ _ => ⟨rfl, e30, (by decide : 6 + 0 ≤ _), (by decide : 76 + 0 ≤ _)⟩)
    dsimp only [Pt.U, Pt.locs, Pt.cells, Pt.slots] at X31 l31 y31 z31 st31 hQ31
    subst l31 y31 z31
    obtain ⟨rfl, N31q, Kc31, u31_0, u31_1, u31_2, u31_3, u31_4⟩ := hQ31
    have N31 := Fr.app N23 N31q
    have V_b2 := V_b2.keep Kc31 (ninS ne_b2_b3 nin0)
    have O31 := O30.keep Kc31 (allS ge_b3 all0)
    have hk31 := Nat.le_trans hk30c Kc31.1
    have pre41 : ∀ t, Steps p.tables e below (T31.setTop (mkF m 50 #[.val (.int p0), .val (.int p1), .val (.int p2), .val (.int nn), .val (.ref b2), .val (.ref b3), .val (.int (1 : Int32)), .val (.int kk1), .unset, .unset, .unset] [(.ref b3)])) t → Steps p.tables e below (s₁.setTop (entryFrame m #[(.int p0), (.int p1), (.int p2)] maxLocals)) t := by
      intro t kt
      refine pre29 t ?_
      show Steps p.tables e below (T23.setTop (mkF m 42 #[.val (.int p0), .val (.int p1), .val (.int p2), .val (.int nn), .val (.ref b2), .val (.ref b3), .val (.int (1 : Int32)), .val (.int kk1), .unset, .unset, .unset] [(.int kk1), (.ref b3)])) _
      refine st30 _ ?_
      show Steps p.tables e below (T30.setTop (mkF m 44 #[.val (.int p0), .val (.int p1), .val (.int p2), .val (.int nn), .val (.ref b2), .val (.ref b3), .val (.int (1 : Int32)), .val (.int kk1), .unset, .unset, .unset] [(.ref a30), (.int kk1), (.ref b3)])) _
      refine st31.trans ?_
      show Steps p.tables e below (T31.setTop (mkF m 47 #[.val (.int p0), .val (.int p1), .val (.int p2), .val (.int nn), .val (.ref b2), .val (.ref b3), .val (.int (1 : Int32)), .val (.int kk1), .unset, .unset, .unset] [(.int (0 : Int32))])) _
      refine XS.pop X31.here hx rfl (hb hby at_47) rfl rfl ?_
      show Steps p.tables e below (T31.setTop (mkF m 48 #[.val (.int p0), .val (.int p1), .val (.int p2), .val (.int nn), .val (.ref b2), .val (.ref b3), .val (.int (1 : Int32)), .val (.int kk1), .unset, .unset, .unset] [])) _
      refine XS.aload X31.here hx rfl (hb hby at_48) rfl rfl ?_
      exact kt
    by_cases h2 : kk1 = nn
    · obtain ⟨cq42, kq42, q42a, q42b, q42c⟩ := isOf hZ rfl u31_0
      obtain ⟨_, _, ⟨T42, L42, k42, n42⟩, -, X42, ⟨Lc42, hQ42, l42, y42, z42⟩, st42⟩ := X31.virtualBack hx (y := (⟨"com/example/bindery/bindery/ByteReader", "atEnd", "()Z"⟩ : MethodName)) (z := (⟨"com/example/bindery/bindery/ByteReader", "atEnd", "()Z"⟩ : MethodName)) hown (mvT hZ (hw _ (List.mem_of_getElem? (i := 32) rfl))) (mvT hZ (hw _ (List.mem_of_getElem? (i := 33) rfl))) (notFace_of_selects (args := #[]) (mvT hZ (hw _ (List.mem_of_getElem? (i := 35) rfl)))) (mvT hZ (hw _ (List.mem_of_getElem? (i := 35) rfl))) (mvT hZ (hw _ (List.mem_of_getElem? (i := 34) rfl))) (by decide) (backOf (W := 0) (rm_atEnd_7 l Z a0 hw [] b3 b2 nn ((0 : Int32) + kk1) k2 T31.heap n0 O31 u31_1 u31_4 V_b2 ((Int32.zero_add _).trans h2) ) hZ (hw _ (List.mem_of_getElem? (i := 36) rfl)) (hw _ (List.mem_of_getElem? (i := 3) rfl)) (by decide) (by decide)) q42a q42c (g := (mkF m 50 #[.val (.int p0), .val (.int p1), .val (.int p2), .val (.int nn), .val (.ref b2), .val (.ref b3), .val (.int (1 : Int32)), .val (.int kk1), .unset, .unset, .unset] [(.ref b3)])) rfl (by rw [hml]; rfl) (Steps.refl _) (argsL := []) (rest := []) (lenOf pd___Z rfl) rfl (by show 2 * 0 + _ ≤ _; exact Nat.le_of_eq rfl) (hb hby at_50) (fun _ _ => ⟨rfl, rfl, (by decide : 6 + 0 ≤ _), (by decide : 76 + 0 ≤ _)⟩)
      dsimp only [Pt.U, Pt.locs, Pt.cells, Pt.slots] at X42 l42 y42 z42 st42 hQ42
      subst l42 y42 z42
      obtain ⟨rfl, N42q, e42⟩ := hQ42
      have N42 := Fr.app N31 N42q
      have pre47 : ∀ t, Steps p.tables e below (T42.setTop (mkF m 68 #[.val (.int p0), .val (.int p1), .val (.int p2), .val (.int nn), .val (.ref b2), .val (.ref b3), .val (.int (1 : Int32)), .val (.int kk1), .val (.int (1 : Int32)), .val (.int ((p2 &&& (15 : Int32)) % ((nn - kk1) + (1 : Int32)))), .unset] [])) t → Steps p.tables e below (s₁.setTop (entryFrame m #[(.int p0), (.int p1), (.int p2)] maxLocals)) t := by
        intro t kt
        refine pre41 t ?_
        show Steps p.tables e below (T31.setTop (mkF m 50 #[.val (.int p0), .val (.int p1), .val (.int p2), .val (.int nn), .val (.ref b2), .val (.ref b3), .val (.int (1 : Int32)), .val (.int kk1), .unset, .unset, .unset] [(.ref b3)])) _
        refine st42.trans ?_
        show Steps p.tables e below (T42.setTop (mkF m 53 #[.val (.int p0), .val (.int p1), .val (.int p2), .val (.int nn), .val (.ref b2), .val (.ref b3), .val (.int (1 : Int32)), .val (.int kk1), .unset, .unset, .unset] [(.int (1 : Int32))])) _
        refine XS.istore X42.here hx rfl (hb hby at_53) rfl (l' := #[.val (.int p0), .val (.int p1), .val (.int p2), .val (.int nn), .val (.ref b2), .val (.ref b3), .val (.int (1 : Int32)), .val (.int kk1), .val (.int (1 : Int32)), .unset, .unset]) rfl ?_
        show Steps p.tables e below (T42.setTop (mkF m 55 #[.val (.int p0), .val (.int p1), .val (.int p2), .val (.int nn), .val (.ref b2), .val (.ref b3), .val (.int (1 : Int32)), .val (.int kk1), .val (.int (1 : Int32)), .unset, .unset] [])) _
        refine XS.iloadN X42.here hx rfl (hb hby at_55) rfl ?_
        show Steps p.tables e below (T42.setTop (mkF m 56 #[.val (.int p0), .val (.int p1), .val (.int p2), .val (.int nn), .val (.ref b2), .val (.ref b3), .val (.int (1 : Int32)), .val (.int kk1), .val (.int (1 : Int32)), .unset, .unset] [(.int p2)])) _
        refine XS.bipush X42.here hx rfl (hb hby at_56) ?_
        show Steps p.tables e below (T42.setTop (mkF m 58 #[.val (.int p0), .val (.int p1), .val (.int p2), .val (.int nn), .val (.ref b2), .val (.ref b3), .val (.int (1 : Int32)), .val (.int kk1), .val (.int (1 : Int32)), .unset, .unset] [(.int (15 : Int32)), (.int p2)])) _
        refine XS.iand X42.here hx rfl (hb hby at_58) rfl ?_
        show Steps p.tables e below (T42.setTop (mkF m 59 #[.val (.int p0), .val (.int p1), .val (.int p2), .val (.int nn), .val (.ref b2), .val (.ref b3), .val (.int (1 : Int32)), .val (.int kk1), .val (.int (1 : Int32)), .unset, .unset] [(.int (p2 &&& (15 : Int32)))])) _
        refine XS.iloadN X42.here hx rfl (hb hby at_59) rfl ?_
        show Steps p.tables e below (T42.setTop (mkF m 60 #[.val (.int p0), .val (.int p1), .val (.int p2), .val (.int nn), .val (.ref b2), .val (.ref b3), .val (.int (1 : Int32)), .val (.int kk1), .val (.int (1 : Int32)), .unset, .unset] [(.int nn), (.int (p2 &&& (15 : Int32)))])) _
        refine XS.iload X42.here hx rfl (hb hby at_60) rfl ?_
        show Steps p.tables e below (T42.setTop (mkF m 62 #[.val (.int p0), .val (.int p1), .val (.int p2), .val (.int nn), .val (.ref b2), .val (.ref b3), .val (.int (1 : Int32)), .val (.int kk1), .val (.int (1 : Int32)), .unset, .unset] [(.int kk1), (.int nn), (.int (p2 &&& (15 : Int32)))])) _
        refine XS.isub X42.here hx rfl (hb hby at_62) rfl ?_
        show Steps p.tables e below (T42.setTop (mkF m 63 #[.val (.int p0), .val (.int p1), .val (.int p2), .val (.int nn), .val (.ref b2), .val (.ref b3), .val (.int (1 : Int32)), .val (.int kk1), .val (.int (1 : Int32)), .unset, .unset] [(.int (nn - kk1)), (.int (p2 &&& (15 : Int32)))])) _
        refine XS.iconst X42.here hx rfl (hb hby at_63) ?_
        show Steps p.tables e below (T42.setTop (mkF m 64 #[.val (.int p0), .val (.int p1), .val (.int p2), .val (.int nn), .val (.ref b2), .val (.ref b3), .val (.int (1 : Int32)), .val (.int kk1), .val (.int (1 : Int32)), .unset, .unset] [(.int (1 : Int32)), (.int (nn - kk1)), (.int (p2 &&& (15 : Int32)))])) _
        refine XS.iadd X42.here hx rfl (hb hby at_64) rfl ?_
        show Steps p.tables e below (T42.setTop (mkF m 65 #[.val (.int p0), .val (.int p1), .val (.int p2), .val (.int nn), .val (.ref b2), .val (.ref b3), .val (.int (1 : Int32)), .val (.int kk1), .val (.int (1 : Int32)), .unset, .unset] [(.int ((nn - kk1) + (1 : Int32))), (.int (p2 &&& (15 : Int32)))])) _
        refine iremM X42 hx rfl (hb hby at_65) rfl (own_nz2 hb_nn hb_kk1) ?_
        show Steps p.tables e below (T42.setTop (mkF m 66 #[.val (.int p0), .val (.int p1), .val (.int p2), .val (.int nn), .val (.ref b2), .val (.ref b3), .val (.int (1 : Int32)), .val (.int kk1), .val (.int (1 : Int32)), .unset, .unset] [(.int ((p2 &&& (15 : Int32)) % ((nn - kk1) + (1 : Int32))))])) _
        refine XS.istore X42.here hx rfl (hb hby at_66) rfl (l' := #[.val (.int p0), .val (.int p1), .val (.int p2), .val (.int nn), .val (.ref b2), .val (.ref b3), .val (.int (1 : Int32)), .val (.int kk1), .val (.int (1 : Int32)), .val (.int ((p2 &&& (15 : Int32)) % ((nn - kk1) + (1 : Int32)))), .unset]) rfl ?_
        exact kt
      obtain ⟨kk2, hkk2⟩ : ∃ z : Int32, z = ((p2 &&& (15 : Int32)) % ((nn - kk1) + (1 : Int32))) := ⟨_, rfl⟩
      rw [← hkk2] at pre47
      have hb_kk2 : 0 ≤ kk2.toInt ∧ kk1.toInt + kk2.toInt ≤ nn.toInt := by rw [hkk2]; exact own_k2 hb_nn hb_kk1
      have pre48 : ∀ t, Steps p.tables e below (T42.setTop (mkF m 72 #[.val (.int p0), .val (.int p1), .val (.int p2), .val (.int nn), .val (.ref b2), .val (.ref b3), .val (.int (1 : Int32)), .val (.int kk1), .val (.int (1 : Int32)), .val (.int kk2), .unset] [(.int kk2), (.ref b3)])) t → Steps p.tables e below (s₁.setTop (entryFrame m #[(.int p0), (.int p1), (.int p2)] maxLocals)) t := by
        intro t kt
        refine pre47 t ?_
        show Steps p.tables e below (T42.setTop (mkF m 68 #[.val (.int p0), .val (.int p1), .val (.int p2), .val (.int nn), .val (.ref b2), .val (.ref b3), .val (.int (1 : Int32)), .val (.int kk1), .val (.int (1 : Int32)), .val (.int kk2), .unset] [])) _
        refine XS.aload X42.here hx rfl (hb hby at_68) rfl rfl ?_
        show Steps p.tables e below (T42.setTop (mkF m 70 #[.val (.int p0), .val (.int p1), .val (.int p2), .val (.int nn), .val (.ref b2), .val (.ref b3), .val (.int (1 : Int32)), .val (.int kk1), .val (.int (1 : Int32)), .val (.int kk2), .unset] [(.ref b3)])) _
        refine XS.iload X42.here hx rfl (hb hby at_70) rfl ?_
        exact kt
      obtain ⟨a49, T49, h49, k49, X49, e49, E49, hS49, hk49c, hZ, hown, st49⟩ := ldcS X42 hx hZ hown (hw _ (List.mem_of_getElem? (i := 39) rfl)) (own_str hw) e42 hS30 hk31 (g := (mkF m 72 #[.val (.int p0), .val (.int p1), .val (.int p2), .val (.int nn), .val (.ref b2), .val (.ref b3), .val (.int (1 : Int32)), .val (.int kk1), .val (.int (1 : Int32)), .val (.int kk2), .unset] [(.int kk2), (.ref b3)])) rfl (hb hby at_72) (n := 4) (by decide) (by decide) (by decide) (by decide)
      have V_b2 := V_b2.ext E49
      have u31_0 := u31_0.ext E49
      have u31_1 := u31_1.ext E49
      have u31_2 := u31_2.ext E49
      have u31_3 := u31_3.ext E49
      have u31_4 := u31_4.ext E49
      have O49 := O31.ext E49
      obtain ⟨cq50, kq50, q50a, q50b, q50c⟩ := isOf hZ e49 u31_0
      obtain ⟨_, _, ⟨T50, L50, k50, n50⟩, -, X50, ⟨Lc50, hQ50, l50, y50, z50⟩, st50⟩ := X49.virtualBack hx (y := (⟨"com/example/bindery/bindery/ByteReader", "take", "(ILjava/lang/String;)I"⟩ : MethodName)) (z := (⟨"com/example/bindery/bindery/ByteReader", "take", "(ILjava/lang/String;)I"⟩ : MethodName)) hown (mvT hZ (hw _ (List.mem_of_getElem? (i := 40) rfl))) (mvT hZ (hw _ (List.mem_of_getElem? (i := 41) rfl))) (notFace_of_selects (args := #[]) (mvT hZ (hw _ (List.mem_of_getElem? (i := 43) rfl)))) (mvT hZ (hw _ (List.mem_of_getElem? (i := 43) rfl))) (mvT hZ (hw _ (List.mem_of_getElem? (i := 42) rfl))) (by decide) (backOf (W := 0) (rm_take_8 l Z a0 hw [] b3 b2 nn kx4_kx6_kx9_bz14 b4_b6_a8 ((0 : Int32) + kk1) kk2 a49 k2 h49 n0 O49 u31_0 u31_1 u31_2 u31_3 u31_4 ge_b3 V_b2 ge_b2 (Ne.symm ne_b2_b3) h1.symm h1 ((Int32.zero_add _).trans h2) (own_t2 hb_nn hb_kk1 hb_kk2) ) hZ (hw _ (List.mem_of_getElem? (i := 44) rfl)) (hw _ (List.mem_of_getElem? (i := 3) rfl)) (by decide) (by decide)) q50a q50c (g := (mkF m 74 #[.val (.int p0), .val (.int p1), .val (.int p2), .val (.int nn), .val (.ref b2), .val (.ref b3), .val (.int (1 : Int32)), .val (.int kk1), .val (.int (1 : Int32)), .val (.int kk2), .unset] [(.ref a49), (.int kk2), (.ref b3)])) rfl (by rw [hml]; rfl) (Steps.refl _) (argsL := [(.int kk2), (.ref a49)]) (rest := []) (lenOf pd__ILjava_lang_String__I rfl) rfl (by show 2 * 0 + _ ≤ _; exact Nat.le_of_eq rfl) (hb hby at_74) (fun _ _ => ⟨rfl, e49, (by decide : 8 + 0 ≤ _), (by decide : 84 + 0 ≤ _)⟩)
      dsimp only [Pt.U, Pt.locs, Pt.cells, Pt.slots] at X50 l50 y50 z50 st50 hQ50
      subst l50 y50 z50
      obtain ⟨rfl, N50q, Kc50, u50_0, u50_1, u50_2, u50_3, u50_4⟩ := hQ50
      have N50 := Fr.app N42 N50q
      have V_b2 := V_b2.keep Kc50 (ninS ne_b2_b3 nin0)
      have O50 := O49.keep Kc50 (allS ge_b3 all0)
      have hk50 := Nat.le_trans hk49c Kc50.1
      have pre60 : ∀ t, Steps p.tables e below (T50.setTop (mkF m 80 #[.val (.int p0), .val (.int p1), .val (.int p2), .val (.int nn), .val (.ref b2), .val (.ref b3), .val (.int (1 : Int32)), .val (.int kk1), .val (.int (1 : Int32)), .val (.int kk2), .unset] [(.ref b3)])) t → Steps p.tables e below (s₁.setTop (entryFrame m #[(.int p0), (.int p1), (.int p2)] maxLocals)) t := by
        intro t kt
        refine pre48 t ?_
        show Steps p.tables e below (T42.setTop (mkF m 72 #[.val (.int p0), .val (.int p1), .val (.int p2), .val (.int nn), .val (.ref b2), .val (.ref b3), .val (.int (1 : Int32)), .val (.int kk1), .val (.int (1 : Int32)), .val (.int kk2), .unset] [(.int kk2), (.ref b3)])) _
        refine st49 _ ?_
        show Steps p.tables e below (T49.setTop (mkF m 74 #[.val (.int p0), .val (.int p1), .val (.int p2), .val (.int nn), .val (.ref b2), .val (.ref b3), .val (.int (1 : Int32)), .val (.int kk1), .val (.int (1 : Int32)), .val (.int kk2), .unset] [(.ref a49), (.int kk2), (.ref b3)])) _
        refine st50.trans ?_
        show Steps p.tables e below (T50.setTop (mkF m 77 #[.val (.int p0), .val (.int p1), .val (.int p2), .val (.int nn), .val (.ref b2), .val (.ref b3), .val (.int (1 : Int32)), .val (.int kk1), .val (.int (1 : Int32)), .val (.int kk2), .unset] [(.int ((0 : Int32) + kk1))])) _
        refine XS.pop X50.here hx rfl (hb hby at_77) rfl rfl ?_
        show Steps p.tables e below (T50.setTop (mkF m 78 #[.val (.int p0), .val (.int p1), .val (.int p2), .val (.int nn), .val (.ref b2), .val (.ref b3), .val (.int (1 : Int32)), .val (.int kk1), .val (.int (1 : Int32)), .val (.int kk2), .unset] [])) _
        refine XS.aload X50.here hx rfl (hb hby at_78) rfl rfl ?_
        exact kt
      by_cases h3 : (kk1 + kk2) = nn
      · obtain ⟨cq61, kq61, q61a, q61b, q61c⟩ := isOf hZ rfl u50_0
        obtain ⟨_, _, ⟨T61, L61, k61, n61⟩, -, X61, ⟨Lc61, hQ61, l61, y61, z61⟩, st61⟩ := X50.virtualBack hx (y := (⟨"com/example/bindery/bindery/ByteReader", "atEnd", "()Z"⟩ : MethodName)) (z := (⟨"com/example/bindery/bindery/ByteReader", "atEnd", "()Z"⟩ : MethodName)) hown (mvT hZ (hw _ (List.mem_of_getElem? (i := 32) rfl))) (mvT hZ (hw _ (List.mem_of_getElem? (i := 33) rfl))) (notFace_of_selects (args := #[]) (mvT hZ (hw _ (List.mem_of_getElem? (i := 35) rfl)))) (mvT hZ (hw _ (List.mem_of_getElem? (i := 35) rfl))) (mvT hZ (hw _ (List.mem_of_getElem? (i := 34) rfl))) (by decide) (backOf (W := 0) (rm_atEnd_7 l Z a0 hw [] b3 b2 nn (((0 : Int32) + kk1) + kk2) k2 T50.heap n0 O50 u50_1 u50_4 V_b2 ((congrArg (· + kk2) (Int32.zero_add kk1)).trans h3) ) hZ (hw _ (List.mem_of_getElem? (i := 36) rfl)) (hw _ (List.mem_of_getElem? (i := 3) rfl)) (by decide) (by decide)) q61a q61c (g := (mkF m 80 #[.val (.int p0), .val (.int p1), .val (.int p2), .val (.int nn), .val (.ref b2), .val (.ref b3), .val (.int (1 : Int32)), .val (.int kk1), .val (.int (1 : Int32)), .val (.int kk2), .unset] [(.ref b3)])) rfl (by rw [hml]; rfl) (Steps.refl _) (argsL := []) (rest := []) (lenOf pd___Z rfl) rfl (by show 2 * 0 + _ ≤ _; exact Nat.le_of_eq rfl) (hb hby at_80) (fun _ _ => ⟨rfl, rfl, (by decide : 8 + 0 ≤ _), (by decide : 84 + 0 ≤ _)⟩)
        dsimp only [Pt.U, Pt.locs, Pt.cells, Pt.slots] at X61 l61 y61 z61 st61 hQ61
        subst l61 y61 z61
        obtain ⟨rfl, N61q, e61⟩ := hQ61
        have N61 := Fr.app N50 N61q
        have pre65 : ∀ t, Steps p.tables e below (T61.setTop (mkF m 139 #[.val (.int p0), .val (.int p1), .val (.int p2), .val (.int nn), .val (.ref b2), .val (.ref b3), .val (.int (1 : Int32)), .val (.int kk1), .val (.int (1 : Int32)), .val (.int kk2), .val (.int (1 : Int32))] [(.int (1 : Int32))])) t → Steps p.tables e below (s₁.setTop (entryFrame m #[(.int p0), (.int p1), (.int p2)] maxLocals)) t := by
          intro t kt
          refine pre60 t ?_
          show Steps p.tables e below (T50.setTop (mkF m 80 #[.val (.int p0), .val (.int p1), .val (.int p2), .val (.int nn), .val (.ref b2), .val (.ref b3), .val (.int (1 : Int32)), .val (.int kk1), .val (.int (1 : Int32)), .val (.int kk2), .unset] [(.ref b3)])) _
          refine st61.trans ?_
          show Steps p.tables e below (T61.setTop (mkF m 83 #[.val (.int p0), .val (.int p1), .val (.int p2), .val (.int nn), .val (.ref b2), .val (.ref b3), .val (.int (1 : Int32)), .val (.int kk1), .val (.int (1 : Int32)), .val (.int kk2), .unset] [(.int (1 : Int32))])) _
          refine XS.istore X61.here hx rfl (hb hby at_83) rfl (l' := #[.val (.int p0), .val (.int p1), .val (.int p2), .val (.int nn), .val (.ref b2), .val (.ref b3), .val (.int (1 : Int32)), .val (.int kk1), .val (.int (1 : Int32)), .val (.int kk2), .val (.int (1 : Int32))]) rfl ?_
          show Steps p.tables e below (T61.setTop (mkF m 85 #[.val (.int p0), .val (.int p1), .val (.int p2), .val (.int nn), .val (.ref b2), .val (.ref b3), .val (.int (1 : Int32)), .val (.int kk1), .val (.int (1 : Int32)), .val (.int kk2), .val (.int (1 : Int32))] [])) _
          refine XS.iload X61.here hx rfl (hb hby at_85) rfl ?_
          show Steps p.tables e below (T61.setTop (mkF m 87 #[.val (.int p0), .val (.int p1), .val (.int p2), .val (.int nn), .val (.ref b2), .val (.ref b3), .val (.int (1 : Int32)), .val (.int kk1), .val (.int (1 : Int32)), .val (.int kk2), .val (.int (1 : Int32))] [(.int (1 : Int32))])) _
          refine XS.iloadN X61.here hx rfl (hb hby at_87) rfl ?_
          show Steps p.tables e below (T61.setTop (mkF m 88 #[.val (.int p0), .val (.int p1), .val (.int p2), .val (.int nn), .val (.ref b2), .val (.ref b3), .val (.int (1 : Int32)), .val (.int kk1), .val (.int (1 : Int32)), .val (.int kk2), .val (.int (1 : Int32))] [(.int nn), (.int (1 : Int32))])) _
          refine XS.ifNo X61.here hx rfl (hb hby at_88) rfl ((if0 _ _).trans (teq h1).2) ?_
          show Steps p.tables e below (T61.setTop (mkF m 91 #[.val (.int p0), .val (.int p1), .val (.int p2), .val (.int nn), .val (.ref b2), .val (.ref b3), .val (.int (1 : Int32)), .val (.int kk1), .val (.int (1 : Int32)), .val (.int kk2), .val (.int (1 : Int32))] [(.int (1 : Int32))])) _
          refine XS.iconst X61.here hx rfl (hb hby at_91) ?_
          show Steps p.tables e below (T61.setTop (mkF m 92 #[.val (.int p0), .val (.int p1), .val (.int p2), .val (.int nn), .val (.ref b2), .val (.ref b3), .val (.int (1 : Int32)), .val (.int kk1), .val (.int (1 : Int32)), .val (.int kk2), .val (.int (1 : Int32))] [(.int (1 : Int32)), (.int (1 : Int32))])) _
          refine XS.goto X61.here hx rfl (pc0 := 92) (pc' := 96) rfl (hb hby at_92) (by decide) (by decide) ?_
          show Steps p.tables e below (T61.setTop (mkF m 96 #[.val (.int p0), .val (.int p1), .val (.int p2), .val (.int nn), .val (.ref b2), .val (.ref b3), .val (.int (1 : Int32)), .val (.int kk1), .val (.int (1 : Int32)), .val (.int kk2), .val (.int (1 : Int32))] [(.int (1 : Int32)), (.int (1 : Int32))])) _
          refine XS.icmpNo X61.here hx rfl (hb hby at_96) rfl (teq (by decide : (1 : Int32) = (1 : Int32))).2 ?_
          show Steps p.tables e below (T61.setTop (mkF m 99 #[.val (.int p0), .val (.int p1), .val (.int p2), .val (.int nn), .val (.ref b2), .val (.ref b3), .val (.int (1 : Int32)), .val (.int kk1), .val (.int (1 : Int32)), .val (.int kk2), .val (.int (1 : Int32))] [])) _
          refine XS.iload X61.here hx rfl (hb hby at_99) rfl ?_
          show Steps p.tables e below (T61.setTop (mkF m 101 #[.val (.int p0), .val (.int p1), .val (.int p2), .val (.int nn), .val (.ref b2), .val (.ref b3), .val (.int (1 : Int32)), .val (.int kk1), .val (.int (1 : Int32)), .val (.int kk2), .val (.int (1 : Int32))] [(.int (1 : Int32))])) _
          refine XS.iload X61.here hx rfl (hb hby at_101) rfl ?_
          show Steps p.tables e below (T61.setTop (mkF m 103 #[.val (.int p0), .val (.int p1), .val (.int p2), .val (.int nn), .val (.ref b2), .val (.ref b3), .val (.int (1 : Int32)), .val (.int kk1), .val (.int (1 : Int32)), .val (.int kk2), .val (.int (1 : Int32))] [(.int kk1), (.int (1 : Int32))])) _
          refine XS.iloadN X61.here hx rfl (hb hby at_103) rfl ?_
          show Steps p.tables e below (T61.setTop (mkF m 104 #[.val (.int p0), .val (.int p1), .val (.int p2), .val (.int nn), .val (.ref b2), .val (.ref b3), .val (.int (1 : Int32)), .val (.int kk1), .val (.int (1 : Int32)), .val (.int kk2), .val (.int (1 : Int32))] [(.int nn), (.int kk1), (.int (1 : Int32))])) _
          refine XS.icmpNo X61.here hx rfl (hb hby at_104) rfl (teq h2).2 ?_
          show Steps p.tables e below (T61.setTop (mkF m 107 #[.val (.int p0), .val (.int p1), .val (.int p2), .val (.int nn), .val (.ref b2), .val (.ref b3), .val (.int (1 : Int32)), .val (.int kk1), .val (.int (1 : Int32)), .val (.int kk2), .val (.int (1 : Int32))] [(.int (1 : Int32))])) _
          refine XS.iconst X61.here hx rfl (hb hby at_107) ?_
          show Steps p.tables e below (T61.setTop (mkF m 108 #[.val (.int p0), .val (.int p1), .val (.int p2), .val (.int nn), .val (.ref b2), .val (.ref b3), .val (.int (1 : Int32)), .val (.int kk1), .val (.int (1 : Int32)), .val (.int kk2), .val (.int (1 : Int32))] [(.int (1 : Int32)), (.int (1 : Int32))])) _
          refine XS.goto X61.here hx rfl (pc0 := 108) (pc' := 112) rfl (hb hby at_108) (by decide) (by decide) ?_
          show Steps p.tables e below (T61.setTop (mkF m 112 #[.val (.int p0), .val (.int p1), .val (.int p2), .val (.int nn), .val (.ref b2), .val (.ref b3), .val (.int (1 : Int32)), .val (.int kk1), .val (.int (1 : Int32)), .val (.int kk2), .val (.int (1 : Int32))] [(.int (1 : Int32)), (.int (1 : Int32))])) _
          refine XS.icmpNo X61.here hx rfl (hb hby at_112) rfl (teq (by decide : (1 : Int32) = (1 : Int32))).2 ?_
          show Steps p.tables e below (T61.setTop (mkF m 115 #[.val (.int p0), .val (.int p1), .val (.int p2), .val (.int nn), .val (.ref b2), .val (.ref b3), .val (.int (1 : Int32)), .val (.int kk1), .val (.int (1 : Int32)), .val (.int kk2), .val (.int (1 : Int32))] [])) _
          refine XS.iload X61.here hx rfl (hb hby at_115) rfl ?_
          show Steps p.tables e below (T61.setTop (mkF m 117 #[.val (.int p0), .val (.int p1), .val (.int p2), .val (.int nn), .val (.ref b2), .val (.ref b3), .val (.int (1 : Int32)), .val (.int kk1), .val (.int (1 : Int32)), .val (.int kk2), .val (.int (1 : Int32))] [(.int (1 : Int32))])) _
          refine XS.iload X61.here hx rfl (hb hby at_117) rfl ?_
          show Steps p.tables e below (T61.setTop (mkF m 119 #[.val (.int p0), .val (.int p1), .val (.int p2), .val (.int nn), .val (.ref b2), .val (.ref b3), .val (.int (1 : Int32)), .val (.int kk1), .val (.int (1 : Int32)), .val (.int kk2), .val (.int (1 : Int32))] [(.int kk1), (.int (1 : Int32))])) _
          refine XS.iload X61.here hx rfl (hb hby at_119) rfl ?_
          show Steps p.tables e below (T61.setTop (mkF m 121 #[.val (.int p0), .val (.int p1), .val (.int p2), .val (.int nn), .val (.ref b2), .val (.ref b3), .val (.int (1 : Int32)), .val (.int kk1), .val (.int (1 : Int32)), .val (.int kk2), .val (.int (1 : Int32))] [(.int kk2), (.int kk1), (.int (1 : Int32))])) _
          refine XS.iadd X61.here hx rfl (hb hby at_121) rfl ?_
          show Steps p.tables e below (T61.setTop (mkF m 122 #[.val (.int p0), .val (.int p1), .val (.int p2), .val (.int nn), .val (.ref b2), .val (.ref b3), .val (.int (1 : Int32)), .val (.int kk1), .val (.int (1 : Int32)), .val (.int kk2), .val (.int (1 : Int32))] [(.int (kk1 + kk2)), (.int (1 : Int32))])) _
          refine XS.iloadN X61.here hx rfl (hb hby at_122) rfl ?_
          show Steps p.tables e below (T61.setTop (mkF m 123 #[.val (.int p0), .val (.int p1), .val (.int p2), .val (.int nn), .val (.ref b2), .val (.ref b3), .val (.int (1 : Int32)), .val (.int kk1), .val (.int (1 : Int32)), .val (.int kk2), .val (.int (1 : Int32))] [(.int nn), (.int (kk1 + kk2)), (.int (1 : Int32))])) _
          refine XS.icmpNo X61.here hx rfl (hb hby at_123) rfl (teq h3).2 ?_
          show Steps p.tables e below (T61.setTop (mkF m 126 #[.val (.int p0), .val (.int p1), .val (.int p2), .val (.int nn), .val (.ref b2), .val (.ref b3), .val (.int (1 : Int32)), .val (.int kk1), .val (.int (1 : Int32)), .val (.int kk2), .val (.int (1 : Int32))] [(.int (1 : Int32))])) _
          refine XS.iconst X61.here hx rfl (hb hby at_126) ?_
          show Steps p.tables e below (T61.setTop (mkF m 127 #[.val (.int p0), .val (.int p1), .val (.int p2), .val (.int nn), .val (.ref b2), .val (.ref b3), .val (.int (1 : Int32)), .val (.int kk1), .val (.int (1 : Int32)), .val (.int kk2), .val (.int (1 : Int32))] [(.int (1 : Int32)), (.int (1 : Int32))])) _
          refine XS.goto X61.here hx rfl (pc0 := 127) (pc' := 131) rfl (hb hby at_127) (by decide) (by decide) ?_
          show Steps p.tables e below (T61.setTop (mkF m 131 #[.val (.int p0), .val (.int p1), .val (.int p2), .val (.int nn), .val (.ref b2), .val (.ref b3), .val (.int (1 : Int32)), .val (.int kk1), .val (.int (1 : Int32)), .val (.int kk2), .val (.int (1 : Int32))] [(.int (1 : Int32)), (.int (1 : Int32))])) _
          refine XS.icmpNo X61.here hx rfl (hb hby at_131) rfl (teq (by decide : (1 : Int32) = (1 : Int32))).2 ?_
          show Steps p.tables e below (T61.setTop (mkF m 134 #[.val (.int p0), .val (.int p1), .val (.int p2), .val (.int nn), .val (.ref b2), .val (.ref b3), .val (.int (1 : Int32)), .val (.int kk1), .val (.int (1 : Int32)), .val (.int kk2), .val (.int (1 : Int32))] [])) _
          refine XS.iconst X61.here hx rfl (hb hby at_134) ?_
          show Steps p.tables e below (T61.setTop (mkF m 135 #[.val (.int p0), .val (.int p1), .val (.int p2), .val (.int nn), .val (.ref b2), .val (.ref b3), .val (.int (1 : Int32)), .val (.int kk1), .val (.int (1 : Int32)), .val (.int kk2), .val (.int (1 : Int32))] [(.int (1 : Int32))])) _
          refine XS.goto X61.here hx rfl (pc0 := 135) (pc' := 139) rfl (hb hby at_135) (by decide) (by decide) ?_
          exact kt
        obtain ⟨fs, hr, hrun, hended, q1, q2, q3, q4⟩ := X61.leaveW hS49 (by rw [e61]; exact hk50) (v := some (.int (1 : Int32))) (fun h => by rw [Bd.returns] at h; cases h)
        refine ⟨_, _, pre65 _ ?_, hrun, hended, _, _, rfl, ?_, ⟨_, rfl⟩, q2, q3, q4.mono (by decide) (by decide)⟩
        · show Steps p.tables e below (T61.setTop (mkF m 139 #[.val (.int p0), .val (.int p1), .val (.int p2), .val (.int nn), .val (.ref b2), .val (.ref b3), .val (.int (1 : Int32)), .val (.int kk1), .val (.int (1 : Int32)), .val (.int kk2), .val (.int (1 : Int32))] [(.int (1 : Int32))])) _
          exact retN X61 hx (t := .boolean) Bd.returns (by simp) (hb hby at_139) hr
        · show Q_rm0 Z p0 p1 p2 w_BIG_ENDIAN w_LITTLE_ENDIAN h0 n0 _ T61.heap _
          rw [e61]
          exact ⟨rfl, N61⟩
      · obtain ⟨cq66, kq66, q66a, q66b, q66c⟩ := isOf hZ rfl u50_0
        obtain ⟨_, _, ⟨T66, L66, k66, n66⟩, -, X66, ⟨Lc66, hQ66, l66, y66, z66⟩, st66⟩ := X50.virtualBack hx (y := (⟨"com/example/bindery/bindery/ByteReader", "atEnd", "()Z"⟩ : MethodName)) (z := (⟨"com/example/bindery/bindery/ByteReader", "atEnd", "()Z"⟩ : MethodName)) hown (mvT hZ (hw _ (List.mem_of_getElem? (i := 32) rfl))) (mvT hZ (hw _ (List.mem_of_getElem? (i := 33) rfl))) (notFace_of_selects (args := #[]) (mvT hZ (hw _ (List.mem_of_getElem? (i := 35) rfl)))) (mvT hZ (hw _ (List.mem_of_getElem? (i := 35) rfl))) (mvT hZ (hw _ (List.mem_of_getElem? (i := 34) rfl))) (by decide) (backOf (W := 0) (rm_atEnd_10 l Z a0 hw [] b3 b2 nn (((0 : Int32) + kk1) + kk2) k2 T50.heap n0 O50 u50_1 u50_4 V_b2 (fun q => h3 ((congrArg (· + kk2) (Int32.zero_add kk1)).symm.trans q)) ) hZ (hw _ (List.mem_of_getElem? (i := 36) rfl)) (hw _ (List.mem_of_getElem? (i := 3) rfl)) (by decide) (by decide)) q66a q66c (g := (mkF m 80 #[.val (.int p0), .val (.int p1), .val (.int p2), .val (.int nn), .val (.ref b2), .val (.ref b3), .val (.int (1 : Int32)), .val (.int kk1), .val (.int (1 : Int32)), .val (.int kk2), .unset] [(.ref b3)])) rfl (by rw [hml]; rfl) (Steps.refl _) (argsL := []) (rest := []) (lenOf pd___Z rfl) rfl (by show 2 * 0 + _ ≤ _; exact Nat.le_of_eq rfl) (hb hby at_80) (fun _ _ => ⟨rfl, rfl, (by decide : 8 + 0 ≤ _), (by decide : 84 + 0 ≤ _)⟩)
        dsimp only [Pt.U, Pt.locs, Pt.cells, Pt.slots] at X66 l66 y66 z66 st66 hQ66
        subst l66 y66 z66
        obtain ⟨rfl, N66q, e66⟩ := hQ66
        have N66 := Fr.app N50 N66q
        have pre74 : ∀ t, Steps p.tables e below (T66.setTop (mkF m 139 #[.val (.int p0), .val (.int p1), .val (.int p2), .val (.int nn), .val (.ref b2), .val (.ref b3), .val (.int (1 : Int32)), .val (.int kk1), .val (.int (1 : Int32)), .val (.int kk2), .val (.int (0 : Int32))] [(.int (1 : Int32))])) t → Steps p.tables e below (s₁.setTop (entryFrame m #[(.int p0), (.int p1), (.int p2)] maxLocals)) t := by
          intro t kt
          refine pre60 t ?_
          show Steps p.tables e below (T50.setTop (mkF m 80 #[.val (.int p0), .val (.int p1), .val (.int p2), .val (.int nn), .val (.ref b2), .val (.ref b3), .val (.int (1 : Int32)), .val (.int kk1), .val (.int (1 : Int32)), .val (.int kk2), .unset] [(.ref b3)])) _
          refine st66.trans ?_
          show Steps p.tables e below (T66.setTop (mkF m 83 #[.val (.int p0), .val (.int p1), .val (.int p2), .val (.int nn), .val (.ref b2), .val (.ref b3), .val (.int (1 : Int32)), .val (.int kk1), .val (.int (1 : Int32)), .val (.int kk2), .unset] [(.int (0 : Int32))])) _
          refine XS.istore X66.here hx rfl (hb hby at_83) rfl (l' := #[.val (.int p0), .val (.int p1), .val (.int p2), .val (.int nn), .val (.ref b2), .val (.ref b3), .val (.int (1 : Int32)), .val (.int kk1), .val (.int (1 : Int32)), .val (.int kk2), .val (.int (0 : Int32))]) rfl ?_
          show Steps p.tables e below (T66.setTop (mkF m 85 #[.val (.int p0), .val (.int p1), .val (.int p2), .val (.int nn), .val (.ref b2), .val (.ref b3), .val (.int (1 : Int32)), .val (.int kk1), .val (.int (1 : Int32)), .val (.int kk2), .val (.int (0 : Int32))] [])) _
          refine XS.iload X66.here hx rfl (hb hby at_85) rfl ?_
          show Steps p.tables e below (T66.setTop (mkF m 87 #[.val (.int p0), .val (.int p1), .val (.int p2), .val (.int nn), .val (.ref b2), .val (.ref b3), .val (.int (1 : Int32)), .val (.int kk1), .val (.int (1 : Int32)), .val (.int kk2), .val (.int (0 : Int32))] [(.int (1 : Int32))])) _
          refine XS.iloadN X66.here hx rfl (hb hby at_87) rfl ?_
          show Steps p.tables e below (T66.setTop (mkF m 88 #[.val (.int p0), .val (.int p1), .val (.int p2), .val (.int nn), .val (.ref b2), .val (.ref b3), .val (.int (1 : Int32)), .val (.int kk1), .val (.int (1 : Int32)), .val (.int kk2), .val (.int (0 : Int32))] [(.int nn), (.int (1 : Int32))])) _
          refine XS.ifNo X66.here hx rfl (hb hby at_88) rfl ((if0 _ _).trans (teq h1).2) ?_
          show Steps p.tables e below (T66.setTop (mkF m 91 #[.val (.int p0), .val (.int p1), .val (.int p2), .val (.int nn), .val (.ref b2), .val (.ref b3), .val (.int (1 : Int32)), .val (.int kk1), .val (.int (1 : Int32)), .val (.int kk2), .val (.int (0 : Int32))] [(.int (1 : Int32))])) _
          refine XS.iconst X66.here hx rfl (hb hby at_91) ?_
          show Steps p.tables e below (T66.setTop (mkF m 92 #[.val (.int p0), .val (.int p1), .val (.int p2), .val (.int nn), .val (.ref b2), .val (.ref b3), .val (.int (1 : Int32)), .val (.int kk1), .val (.int (1 : Int32)), .val (.int kk2), .val (.int (0 : Int32))] [(.int (1 : Int32)), (.int (1 : Int32))])) _
          refine XS.goto X66.here hx rfl (pc0 := 92) (pc' := 96) rfl (hb hby at_92) (by decide) (by decide) ?_
          show Steps p.tables e below (T66.setTop (mkF m 96 #[.val (.int p0), .val (.int p1), .val (.int p2), .val (.int nn), .val (.ref b2), .val (.ref b3), .val (.int (1 : Int32)), .val (.int kk1), .val (.int (1 : Int32)), .val (.int kk2), .val (.int (0 : Int32))] [(.int (1 : Int32)), (.int (1 : Int32))])) _
          refine XS.icmpNo X66.here hx rfl (hb hby at_96) rfl (teq (by decide : (1 : Int32) = (1 : Int32))).2 ?_
          show Steps p.tables e below (T66.setTop (mkF m 99 #[.val (.int p0), .val (.int p1), .val (.int p2), .val (.int nn), .val (.ref b2), .val (.ref b3), .val (.int (1 : Int32)), .val (.int kk1), .val (.int (1 : Int32)), .val (.int kk2), .val (.int (0 : Int32))] [])) _
          refine XS.iload X66.here hx rfl (hb hby at_99) rfl ?_
          show Steps p.tables e below (T66.setTop (mkF m 101 #[.val (.int p0), .val (.int p1), .val (.int p2), .val (.int nn), .val (.ref b2), .val (.ref b3), .val (.int (1 : Int32)), .val (.int kk1), .val (.int (1 : Int32)), .val (.int kk2), .val (.int (0 : Int32))] [(.int (1 : Int32))])) _
          refine XS.iload X66.here hx rfl (hb hby at_101) rfl ?_
          show Steps p.tables e below (T66.setTop (mkF m 103 #[.val (.int p0), .val (.int p1), .val (.int p2), .val (.int nn), .val (.ref b2), .val (.ref b3), .val (.int (1 : Int32)), .val (.int kk1), .val (.int (1 : Int32)), .val (.int kk2), .val (.int (0 : Int32))] [(.int kk1), (.int (1 : Int32))])) _
          refine XS.iloadN X66.here hx rfl (hb hby at_103) rfl ?_
          show Steps p.tables e below (T66.setTop (mkF m 104 #[.val (.int p0), .val (.int p1), .val (.int p2), .val (.int nn), .val (.ref b2), .val (.ref b3), .val (.int (1 : Int32)), .val (.int kk1), .val (.int (1 : Int32)), .val (.int kk2), .val (.int (0 : Int32))] [(.int nn), (.int kk1), (.int (1 : Int32))])) _
          refine XS.icmpNo X66.here hx rfl (hb hby at_104) rfl (teq h2).2 ?_
          show Steps p.tables e below (T66.setTop (mkF m 107 #[.val (.int p0), .val (.int p1), .val (.int p2), .val (.int nn), .val (.ref b2), .val (.ref b3), .val (.int (1 : Int32)), .val (.int kk1), .val (.int (1 : Int32)), .val (.int kk2), .val (.int (0 : Int32))] [(.int (1 : Int32))])) _
          refine XS.iconst X66.here hx rfl (hb hby at_107) ?_
          show Steps p.tables e below (T66.setTop (mkF m 108 #[.val (.int p0), .val (.int p1), .val (.int p2), .val (.int nn), .val (.ref b2), .val (.ref b3), .val (.int (1 : Int32)), .val (.int kk1), .val (.int (1 : Int32)), .val (.int kk2), .val (.int (0 : Int32))] [(.int (1 : Int32)), (.int (1 : Int32))])) _
          refine XS.goto X66.here hx rfl (pc0 := 108) (pc' := 112) rfl (hb hby at_108) (by decide) (by decide) ?_
          show Steps p.tables e below (T66.setTop (mkF m 112 #[.val (.int p0), .val (.int p1), .val (.int p2), .val (.int nn), .val (.ref b2), .val (.ref b3), .val (.int (1 : Int32)), .val (.int kk1), .val (.int (1 : Int32)), .val (.int kk2), .val (.int (0 : Int32))] [(.int (1 : Int32)), (.int (1 : Int32))])) _
          refine XS.icmpNo X66.here hx rfl (hb hby at_112) rfl (teq (by decide : (1 : Int32) = (1 : Int32))).2 ?_
          show Steps p.tables e below (T66.setTop (mkF m 115 #[.val (.int p0), .val (.int p1), .val (.int p2), .val (.int nn), .val (.ref b2), .val (.ref b3), .val (.int (1 : Int32)), .val (.int kk1), .val (.int (1 : Int32)), .val (.int kk2), .val (.int (0 : Int32))] [])) _
          refine XS.iload X66.here hx rfl (hb hby at_115) rfl ?_
          show Steps p.tables e below (T66.setTop (mkF m 117 #[.val (.int p0), .val (.int p1), .val (.int p2), .val (.int nn), .val (.ref b2), .val (.ref b3), .val (.int (1 : Int32)), .val (.int kk1), .val (.int (1 : Int32)), .val (.int kk2), .val (.int (0 : Int32))] [(.int (0 : Int32))])) _
          refine XS.iload X66.here hx rfl (hb hby at_117) rfl ?_
          show Steps p.tables e below (T66.setTop (mkF m 119 #[.val (.int p0), .val (.int p1), .val (.int p2), .val (.int nn), .val (.ref b2), .val (.ref b3), .val (.int (1 : Int32)), .val (.int kk1), .val (.int (1 : Int32)), .val (.int kk2), .val (.int (0 : Int32))] [(.int kk1), (.int (0 : Int32))])) _
          refine XS.iload X66.here hx rfl (hb hby at_119) rfl ?_
          show Steps p.tables e below (T66.setTop (mkF m 121 #[.val (.int p0), .val (.int p1), .val (.int p2), .val (.int nn), .val (.ref b2), .val (.ref b3), .val (.int (1 : Int32)), .val (.int kk1), .val (.int (1 : Int32)), .val (.int kk2), .val (.int (0 : Int32))] [(.int kk2), (.int kk1), (.int (0 : Int32))])) _
          refine XS.iadd X66.here hx rfl (hb hby at_121) rfl ?_
          show Steps p.tables e below (T66.setTop (mkF m 122 #[.val (.int p0), .val (.int p1), .val (.int p2), .val (.int nn), .val (.ref b2), .val (.ref b3), .val (.int (1 : Int32)), .val (.int kk1), .val (.int (1 : Int32)), .val (.int kk2), .val (.int (0 : Int32))] [(.int (kk1 + kk2)), (.int (0 : Int32))])) _
          refine XS.iloadN X66.here hx rfl (hb hby at_122) rfl ?_
          show Steps p.tables e below (T66.setTop (mkF m 123 #[.val (.int p0), .val (.int p1), .val (.int p2), .val (.int nn), .val (.ref b2), .val (.ref b3), .val (.int (1 : Int32)), .val (.int kk1), .val (.int (1 : Int32)), .val (.int kk2), .val (.int (0 : Int32))] [(.int nn), (.int (kk1 + kk2)), (.int (0 : Int32))])) _
          refine XS.icmpYes X66.here hx rfl (pc0 := 123) (pc' := 130) rfl (hb hby at_123) rfl (feq (fun q => h3 q)).2 (by decide) (by decide) ?_
          show Steps p.tables e below (T66.setTop (mkF m 130 #[.val (.int p0), .val (.int p1), .val (.int p2), .val (.int nn), .val (.ref b2), .val (.ref b3), .val (.int (1 : Int32)), .val (.int kk1), .val (.int (1 : Int32)), .val (.int kk2), .val (.int (0 : Int32))] [(.int (0 : Int32))])) _
          refine XS.iconst X66.here hx rfl (hb hby at_130) ?_
          show Steps p.tables e below (T66.setTop (mkF m 131 #[.val (.int p0), .val (.int p1), .val (.int p2), .val (.int nn), .val (.ref b2), .val (.ref b3), .val (.int (1 : Int32)), .val (.int kk1), .val (.int (1 : Int32)), .val (.int kk2), .val (.int (0 : Int32))] [(.int (0 : Int32)), (.int (0 : Int32))])) _
          refine XS.icmpNo X66.here hx rfl (hb hby at_131) rfl (teq (by decide : (0 : Int32) = (0 : Int32))).2 ?_
          show Steps p.tables e below (T66.setTop (mkF m 134 #[.val (.int p0), .val (.int p1), .val (.int p2), .val (.int nn), .val (.ref b2), .val (.ref b3), .val (.int (1 : Int32)), .val (.int kk1), .val (.int (1 : Int32)), .val (.int kk2), .val (.int (0 : Int32))] [])) _
          refine XS.iconst X66.here hx rfl (hb hby at_134) ?_
          show Steps p.tables e below (T66.setTop (mkF m 135 #[.val (.int p0), .val (.int p1), .val (.int p2), .val (.int nn), .val (.ref b2), .val (.ref b3), .val (.int (1 : Int32)), .val (.int kk1), .val (.int (1 : Int32)), .val (.int kk2), .val (.int (0 : Int32))] [(.int (1 : Int32))])) _
          refine XS.goto X66.here hx rfl (pc0 := 135) (pc' := 139) rfl (hb hby at_135) (by decide) (by decide) ?_
          exact kt
        obtain ⟨fs, hr, hrun, hended, q1, q2, q3, q4⟩ := X66.leaveW hS49 (by rw [e66]; exact hk50) (v := some (.int (1 : Int32))) (fun h => by rw [Bd.returns] at h; cases h)
        refine ⟨_, _, pre74 _ ?_, hrun, hended, _, _, rfl, ?_, ⟨_, rfl⟩, q2, q3, q4.mono (by decide) (by decide)⟩
        · show Steps p.tables e below (T66.setTop (mkF m 139 #[.val (.int p0), .val (.int p1), .val (.int p2), .val (.int nn), .val (.ref b2), .val (.ref b3), .val (.int (1 : Int32)), .val (.int kk1), .val (.int (1 : Int32)), .val (.int kk2), .val (.int (0 : Int32))] [(.int (1 : Int32))])) _
          exact retN X66 hx (t := .boolean) Bd.returns (by simp) (hb hby at_139) hr
        · show Q_rm0 Z p0 p1 p2 w_BIG_ENDIAN w_LITTLE_ENDIAN h0 n0 _ T66.heap _
          rw [e66]
          exact ⟨rfl, N66⟩
    · obtain ⟨cq75, kq75, q75a, q75b, q75c⟩ := isOf hZ rfl u31_0
      obtain ⟨_, _, ⟨T75, L75, k75, n75⟩, -, X75, ⟨Lc75, hQ75, l75, y75, z75⟩, st75⟩ := X31.virtualBack hx (y := (⟨"com/example/bindery/bindery/ByteReader", "atEnd", "()Z"⟩ : MethodName)) (z := (⟨"com/example/bindery/bindery/ByteReader", "atEnd", "()Z"⟩ : MethodName)) hown (mvT hZ (hw _ (List.mem_of_getElem? (i := 32) rfl))) (mvT hZ (hw _ (List.mem_of_getElem? (i := 33) rfl))) (notFace_of_selects (args := #[]) (mvT hZ (hw _ (List.mem_of_getElem? (i := 35) rfl)))) (mvT hZ (hw _ (List.mem_of_getElem? (i := 35) rfl))) (mvT hZ (hw _ (List.mem_of_getElem? (i := 34) rfl))) (by decide) (backOf (W := 0) (rm_atEnd_10 l Z a0 hw [] b3 b2 nn ((0 : Int32) + kk1) k2 T31.heap n0 O31 u31_1 u31_4 V_b2 (fun q => h2 ((Int32.zero_add _).symm.trans q)) ) hZ (hw _ (List.mem_of_getElem? (i := 36) rfl)) (hw _ (List.mem_of_getElem? (i := 3) rfl)) (by decide) (by decide)) q75a q75c (g := (mkF m 50 #[.val (.int p0), .val (.int p1), .val (.int p2), .val (.int nn), .val (.ref b2), .val (.ref b3), .val (.int (1 : Int32)), .val (.int kk1), .unset, .unset, .unset] [(.ref b3)])) rfl (by rw [hml]; rfl) (Steps.refl _) (argsL := []) (rest := []) (lenOf pd___Z rfl) rfl (by show 2 * 0 + _ ≤ _; exact Nat.le_of_eq rfl) (hb hby at_50) (fun _ _ => ⟨rfl, rfl, (by decide : 6 + 0 ≤ _), (by decide : 76 + 0 ≤ _)⟩)
      dsimp only [Pt.U, Pt.locs, Pt.cells, Pt.slots] at X75 l75 y75 z75 st75 hQ75
      subst l75 y75 z75
      obtain ⟨rfl, N75q, e75⟩ := hQ75
      have N75 := Fr.app N31 N75q
      have pre76 : ∀ t, Steps p.tables e below (T75.setTop (mkF m 68 #[.val (.int p0), .val (.int p1), .val (.int p2), .val (.int nn), .val (.ref b2), .val (.ref b3), .val (.int (1 : Int32)), .val (.int kk1), .val (.int (0 : Int32)), .val (.int ((p2 &&& (15 : Int32)) % ((nn - kk1) + (1 : Int32)))), .unset] [])) t → Steps p.tables e below (s₁.setTop (entryFrame m #[(.int p0), (.int p1), (.int p2)] maxLocals)) t := by
        intro t kt
        refine pre41 t ?_
        show Steps p.tables e below (T31.setTop (mkF m 50 #[.val (.int p0), .val (.int p1), .val (.int p2), .val (.int nn), .val (.ref b2), .val (.ref b3), .val (.int (1 : Int32)), .val (.int kk1), .unset, .unset, .unset] [(.ref b3)])) _
        refine st75.trans ?_
        show Steps p.tables e below (T75.setTop (mkF m 53 #[.val (.int p0), .val (.int p1), .val (.int p2), .val (.int nn), .val (.ref b2), .val (.ref b3), .val (.int (1 : Int32)), .val (.int kk1), .unset, .unset, .unset] [(.int (0 : Int32))])) _
        refine XS.istore X75.here hx rfl (hb hby at_53) rfl (l' := #[.val (.int p0), .val (.int p1), .val (.int p2), .val (.int nn), .val (.ref b2), .val (.ref b3), .val (.int (1 : Int32)), .val (.int kk1), .val (.int (0 : Int32)), .unset, .unset]) rfl ?_
        show Steps p.tables e below (T75.setTop (mkF m 55 #[.val (.int p0), .val (.int p1), .val (.int p2), .val (.int nn), .val (.ref b2), .val (.ref b3), .val (.int (1 : Int32)), .val (.int kk1), .val (.int (0 : Int32)), .unset, .unset] [])) _
        refine XS.iloadN X75.here hx rfl (hb hby at_55) rfl ?_
        show Steps p.tables e below (T75.setTop (mkF m 56 #[.val (.int p0), .val (.int p1), .val (.int p2), .val (.int nn), .val (.ref b2), .val (.ref b3), .val (.int (1 : Int32)), .val (.int kk1), .val (.int (0 : Int32)), .unset, .unset] [(.int p2)])) _
        refine XS.bipush X75.here hx rfl (hb hby at_56) ?_
        show Steps p.tables e below (T75.setTop (mkF m 58 #[.val (.int p0), .val (.int p1), .val (.int p2), .val (.int nn), .val (.ref b2), .val (.ref b3), .val (.int (1 : Int32)), .val (.int kk1), .val (.int (0 : Int32)), .unset, .unset] [(.int (15 : Int32)), (.int p2)])) _
        refine XS.iand X75.here hx rfl (hb hby at_58) rfl ?_
        show Steps p.tables e below (T75.setTop (mkF m 59 #[.val (.int p0), .val (.int p1), .val (.int p2), .val (.int nn), .val (.ref b2), .val (.ref b3), .val (.int (1 : Int32)), .val (.int kk1), .val (.int (0 : Int32)), .unset, .unset] [(.int (p2 &&& (15 : Int32)))])) _
        refine XS.iloadN X75.here hx rfl (hb hby at_59) rfl ?_
        show Steps p.tables e below (T75.setTop (mkF m 60 #[.val (.int p0), .val (.int p1), .val (.int p2), .val (.int nn), .val (.ref b2), .val (.ref b3), .val (.int (1 : Int32)), .val (.int kk1), .val (.int (0 : Int32)), .unset, .unset] [(.int nn), (.int (p2 &&& (15 : Int32)))])) _
        refine XS.iload X75.here hx rfl (hb hby at_60) rfl ?_
        show Steps p.tables e below (T75.setTop (mkF m 62 #[.val (.int p0), .val (.int p1), .val (.int p2), .val (.int nn), .val (.ref b2), .val (.ref b3), .val (.int (1 : Int32)), .val (.int kk1), .val (.int (0 : Int32)), .unset, .unset] [(.int kk1), (.int nn), (.int (p2 &&& (15 : Int32)))])) _
        refine XS.isub X75.here hx rfl (hb hby at_62) rfl ?_
        show Steps p.tables e below (T75.setTop (mkF m 63 #[.val (.int p0), .val (.int p1), .val (.int p2), .val (.int nn), .val (.ref b2), .val (.ref b3), .val (.int (1 : Int32)), .val (.int kk1), .val (.int (0 : Int32)), .unset, .unset] [(.int (nn - kk1)), (.int (p2 &&& (15 : Int32)))])) _
        refine XS.iconst X75.here hx rfl (hb hby at_63) ?_
        show Steps p.tables e below (T75.setTop (mkF m 64 #[.val (.int p0), .val (.int p1), .val (.int p2), .val (.int nn), .val (.ref b2), .val (.ref b3), .val (.int (1 : Int32)), .val (.int kk1), .val (.int (0 : Int32)), .unset, .unset] [(.int (1 : Int32)), (.int (nn - kk1)), (.int (p2 &&& (15 : Int32)))])) _
        refine XS.iadd X75.here hx rfl (hb hby at_64) rfl ?_
        show Steps p.tables e below (T75.setTop (mkF m 65 #[.val (.int p0), .val (.int p1), .val (.int p2), .val (.int nn), .val (.ref b2), .val (.ref b3), .val (.int (1 : Int32)), .val (.int kk1), .val (.int (0 : Int32)), .unset, .unset] [(.int ((nn - kk1) + (1 : Int32))), (.int (p2 &&& (15 : Int32)))])) _
        refine iremM X75 hx rfl (hb hby at_65) rfl (own_nz2 hb_nn hb_kk1) ?_
        show Steps p.tables e below (T75.setTop (mkF m 66 #[.val (.int p0), .val (.int p1), .val (.int p2), .val (.int nn), .val (.ref b2), .val (.ref b3), .val (.int (1 : Int32)), .val (.int kk1), .val (.int (0 : Int32)), .unset, .unset] [(.int ((p2 &&& (15 : Int32)) % ((nn - kk1) + (1 : Int32))))])) _
        refine XS.istore X75.here hx rfl (hb hby at_66) rfl (l' := #[.val (.int p0), .val (.int p1), .val (.int p2), .val (.int nn), .val (.ref b2), .val (.ref b3), .val (.int (1 : Int32)), .val (.int kk1), .val (.int (0 : Int32)), .val (.int ((p2 &&& (15 : Int32)) % ((nn - kk1) + (1 : Int32)))), .unset]) rfl ?_
        exact kt
      obtain ⟨kk2, hkk2⟩ : ∃ z : Int32, z = ((p2 &&& (15 : Int32)) % ((nn - kk1) + (1 : Int32))) := ⟨_, rfl⟩
      rw [← hkk2] at pre76
      have hb_kk2 : 0 ≤ kk2.toInt ∧ kk1.toInt + kk2.toInt ≤ nn.toInt := by rw [hkk2]; exact own_k2 hb_nn hb_kk1
      have pre77 : ∀ t, Steps p.tables e below (T75.setTop (mkF m 72 #[.val (.int p0), .val (.int p1), .val (.int p2), .val (.int nn), .val (.ref b2), .val (.ref b3), .val (.int (1 : Int32)), .val (.int kk1), .val (.int (0 : Int32)), .val (.int kk2), .unset] [(.int kk2), (.ref b3)])) t → Steps p.tables e below (s₁.setTop (entryFrame m #[(.int p0), (.int p1), (.int p2)] maxLocals)) t := by
        intro t kt
        refine pre76 t ?_
        show Steps p.tables e below (T75.setTop (mkF m 68 #[.val (.int p0), .val (.int p1), .val (.int p2), .val (.int nn), .val (.ref b2), .val (.ref b3), .val (.int (1 : Int32)), .val (.int kk1), .val (.int (0 : Int32)), .val (.int kk2), .unset] [])) _
        refine XS.aload X75.here hx rfl (hb hby at_68) rfl rfl ?_
        show Steps p.tables e below (T75.setTop (mkF m 70 #[.val (.int p0), .val (.int p1), .val (.int p2), .val (.int nn), .val (.ref b2), .val (.ref b3), .val (.int (1 : Int32)), .val (.int kk1), .val (.int (0 : Int32)), .val (.int kk2), .unset] [(.ref b3)])) _
        refine XS.iload X75.here hx rfl (hb hby at_70) rfl ?_
        exact kt
      obtain ⟨a78, T78, h78, k78, X78, e78, E78, hS78, hk78c, hZ, hown, st78⟩ := ldcS X75 hx hZ hown (hw _ (List.mem_of_getElem? (i := 39) rfl)) (own_str hw) e75 hS30 hk31 (g := (mkF m 72 #[.val (.int p0), .val (.int p1), .val (.int p2), .val (.int nn), .val (.ref b2), .val (.ref b3), .val (.int (1 : Int32)), .val (.int kk1), .val (.int (0 : Int32)), .val (.int kk2), .unset] [(.int kk2), (.ref b3)])) rfl (hb hby at_72) (n := 4) (by decide) (by decide) (by decide) (by decide)
      have V_b2 := V_b2.ext E78
      have u31_0 := u31_0.ext E78
      have u31_1 := u31_1.ext E78
      have u31_2 := u31_2.ext E78
      have u31_3 := u31_3.ext E78
      have u31_4 := u31_4.ext E78
      have O78 := O31.ext E78
      obtain ⟨cq79, kq79, q79a, q79b, q79c⟩ := isOf hZ e78 u31_0
      obtain ⟨_, _, ⟨T79, L79, k79, n79⟩, -, X79, ⟨Lc79, hQ79, l79, y79, z79⟩, st79⟩ := X78.virtualBack hx (y := (⟨"com/example/bindery/bindery/ByteReader", "take", "(ILjava/lang/String;)I"⟩ : MethodName)) (z := (⟨"com/example/bindery/bindery/ByteReader", "take", "(ILjava/lang/String;)I"⟩ : MethodName)) hown (mvT hZ (hw _ (List.mem_of_getElem? (i := 40) rfl))) (mvT hZ (hw _ (List.mem_of_getElem? (i := 41) rfl))) (notFace_of_selects (args := #[]) (mvT hZ (hw _ (List.mem_of_getElem? (i := 43) rfl)))) (mvT hZ (hw _ (List.mem_of_getElem? (i := 43) rfl))) (mvT hZ (hw _ (List.mem_of_getElem? (i := 42) rfl))) (by decide) (backOf (W := 0) (rm_take_11 l Z a0 hw [] b3 b2 nn kx4_kx6_kx9_bz14 b4_b6_a8 ((0 : Int32) + kk1) kk2 a78 k2 h78 n0 O78 u31_0 u31_1 u31_2 u31_3 u31_4 ge_b3 V_b2 ge_b2 (Ne.symm ne_b2_b3) h1.symm h1 (fun q => h2 ((Int32.zero_add _).symm.trans q)) (own_t2 hb_nn hb_kk1 hb_kk2) ) hZ (hw _ (List.mem_of_getElem? (i := 44) rfl)) (hw _ (List.mem_of_getElem? (i := 3) rfl)) (by decide) (by decide)) q79a q79c (g := (mkF m 74 #[.val (.int p0), .val (.int p1), .val (.int p2), .val (.int nn), .val (.ref b2), .val (.ref b3), .val (.int (1 : Int32)), .val (.int kk1), .val (.int (0 : Int32)), .val (.int kk2), .unset] [(.ref a78), (.int kk2), (.ref b3)])) rfl (by rw [hml]; rfl) (Steps.refl _) (argsL := [(.int kk2), (.ref a78)]) (rest := []) (lenOf pd__ILjava_lang_String__I rfl) rfl (by show 2 * 0 + _ ≤ _; exact Nat.le_of_eq rfl) (hb hby at_74) (fun _ _ => ⟨rfl, e78, (by decide : 8 + 0 ≤ _), (by decide : 84 + 0 ≤ _)⟩)
      dsimp only [Pt.U, Pt.locs, Pt.cells, Pt.slots] at X79 l79 y79 z79 st79 hQ79
      subst l79 y79 z79
      obtain ⟨rfl, N79q, Kc79, u79_0, u79_1, u79_2, u79_3, u79_4⟩ := hQ79
      have N79 := Fr.app N75 N79q
      have V_b2 := V_b2.keep Kc79 (ninS ne_b2_b3 nin0)
      have O79 := O78.keep Kc79 (allS ge_b3 all0)
      have hk79 := Nat.le_trans hk78c Kc79.1
      have pre85 : ∀ t, Steps p.tables e below (T79.setTop (mkF m 80 #[.val (.int p0), .val (.int p1), .val (.int p2), .val (.int nn), .val (.ref b2), .val (.ref b3), .val (.int (1 : Int32)), .val (.int kk1), .val (.int (0 : Int32)), .val (.int kk2), .unset] [(.ref b3)])) t → Steps p.tables e below (s₁.setTop (entryFrame m #[(.int p0), (.int p1), (.int p2)] maxLocals)) t := by
        intro t kt
        refine pre77 t ?_
        show Steps p.tables e below (T75.setTop (mkF m 72 #[.val (.int p0), .val (.int p1), .val (.int p2), .val (.int nn), .val (.ref b2), .val (.ref b3), .val (.int (1 : Int32)), .val (.int kk1), .val (.int (0 : Int32)), .val (.int kk2), .unset] [(.int kk2), (.ref b3)])) _
        refine st78 _ ?_
        show Steps p.tables e below (T78.setTop (mkF m 74 #[.val (.int p0), .val (.int p1), .val (.int p2), .val (.int nn), .val (.ref b2), .val (.ref b3), .val (.int (1 : Int32)), .val (.int kk1), .val (.int (0 : Int32)), .val (.int kk2), .unset] [(.ref a78), (.int kk2), (.ref b3)])) _
        refine st79.trans ?_
        show Steps p.tables e below (T79.setTop (mkF m 77 #[.val (.int p0), .val (.int p1), .val (.int p2), .val (.int nn), .val (.ref b2), .val (.ref b3), .val (.int (1 : Int32)), .val (.int kk1), .val (.int (0 : Int32)), .val (.int kk2), .unset] [(.int ((0 : Int32) + kk1))])) _
        refine XS.pop X79.here hx rfl (hb hby at_77) rfl rfl ?_
        show Steps p.tables e below (T79.setTop (mkF m 78 #[.val (.int p0), .val (.int p1), .val (.int p2), .val (.int nn), .val (.ref b2), .val (.ref b3), .val (.int (1 : Int32)), .val (.int kk1), .val (.int (0 : Int32)), .val (.int kk2), .unset] [])) _
        refine XS.aload X79.here hx rfl (hb hby at_78) rfl rfl ?_
        exact kt
      by_cases h3 : (kk1 + kk2) = nn
      · obtain ⟨cq86, kq86, q86a, q86b, q86c⟩ := isOf hZ rfl u79_0
        obtain ⟨_, _, ⟨T86, L86, k86, n86⟩, -, X86, ⟨Lc86, hQ86, l86, y86, z86⟩, st86⟩ := X79.virtualBack hx (y := (⟨"com/example/bindery/bindery/ByteReader", "atEnd", "()Z"⟩ : MethodName)) (z := (⟨"com/example/bindery/bindery/ByteReader", "atEnd", "()Z"⟩ : MethodName)) hown (mvT hZ (hw _ (List.mem_of_getElem? (i := 32) rfl))) (mvT hZ (hw _ (List.mem_of_getElem? (i := 33) rfl))) (notFace_of_selects (args := #[]) (mvT hZ (hw _ (List.mem_of_getElem? (i := 35) rfl)))) (mvT hZ (hw _ (List.mem_of_getElem? (i := 35) rfl))) (mvT hZ (hw _ (List.mem_of_getElem? (i := 34) rfl))) (by decide) (backOf (W := 0) (rm_atEnd_7 l Z a0 hw [] b3 b2 nn (((0 : Int32) + kk1) + kk2) k2 T79.heap n0 O79 u79_1 u79_4 V_b2 ((congrArg (· + kk2) (Int32.zero_add kk1)).trans h3) ) hZ (hw _ (List.mem_of_getElem? (i := 36) rfl)) (hw _ (List.mem_of_getElem? (i := 3) rfl)) (by decide) (by decide)) q86a q86c (g := (mkF m 80 #[.val (.int p0), .val (.int p1), .val (.int p2), .val (.int nn), .val (.ref b2), .val (.ref b3), .val (.int (1 : Int32)), .val (.int kk1), .val (.int (0 : Int32)), .val (.int kk2), .unset] [(.ref b3)])) rfl (by rw [hml]; rfl) (Steps.refl _) (argsL := []) (rest := []) (lenOf pd___Z rfl) rfl (by show 2 * 0 + _ ≤ _; exact Nat.le_of_eq rfl) (hb hby at_80) (fun _ _ => ⟨rfl, rfl, (by decide : 8 + 0 ≤ _), (by decide : 84 + 0 ≤ _)⟩)
        dsimp only [Pt.U, Pt.locs, Pt.cells, Pt.slots] at X86 l86 y86 z86 st86 hQ86
        subst l86 y86 z86
        obtain ⟨rfl, N86q, e86⟩ := hQ86
        have N86 := Fr.app N79 N86q
        have pre90 : ∀ t, Steps p.tables e below (T86.setTop (mkF m 139 #[.val (.int p0), .val (.int p1), .val (.int p2), .val (.int nn), .val (.ref b2), .val (.ref b3), .val (.int (1 : Int32)), .val (.int kk1), .val (.int (0 : Int32)), .val (.int kk2), .val (.int (1 : Int32))] [(.int (1 : Int32))])) t → Steps p.tables e below (s₁.setTop (entryFrame m #[(.int p0), (.int p1), (.int p2)] maxLocals)) t := by
          intro t kt
          refine pre85 t ?_
          show Steps p.tables e below (T79.setTop (mkF m 80 #[.val (.int p0), .val (.int p1), .val (.int p2), .val (.int nn), .val (.ref b2), .val (.ref b3), .val (.int (1 : Int32)), .val (.int kk1), .val (.int (0 : Int32)), .val (.int kk2), .unset] [(.ref b3)])) _
          refine st86.trans ?_
          show Steps p.tables e below (T86.setTop (mkF m 83 #[.val (.int p0), .val (.int p1), .val (.int p2), .val (.int nn), .val (.ref b2), .val (.ref b3), .val (.int (1 : Int32)), .val (.int kk1), .val (.int (0 : Int32)), .val (.int kk2), .unset] [(.int (1 : Int32))])) _
          refine XS.istore X86.here hx rfl (hb hby at_83) rfl (l' := #[.val (.int p0), .val (.int p1), .val (.int p2), .val (.int nn), .val (.ref b2), .val (.ref b3), .val (.int (1 : Int32)), .val (.int kk1), .val (.int (0 : Int32)), .val (.int kk2), .val (.int (1 : Int32))]) rfl ?_
          show Steps p.tables e below (T86.setTop (mkF m 85 #[.val (.int p0), .val (.int p1), .val (.int p2), .val (.int nn), .val (.ref b2), .val (.ref b3), .val (.int (1 : Int32)), .val (.int kk1), .val (.int (0 : Int32)), .val (.int kk2), .val (.int (1 : Int32))] [])) _
          refine XS.iload X86.here hx rfl (hb hby at_85) rfl ?_
          show Steps p.tables e below (T86.setTop (mkF m 87 #[.val (.int p0), .val (.int p1), .val (.int p2), .val (.int nn), .val (.ref b2), .val (.ref b3), .val (.int (1 : Int32)), .val (.int kk1), .val (.int (0 : Int32)), .val (.int kk2), .val (.int (1 : Int32))] [(.int (1 : Int32))])) _
          refine XS.iloadN X86.here hx rfl (hb hby at_87) rfl ?_
          show Steps p.tables e below (T86.setTop (mkF m 88 #[.val (.int p0), .val (.int p1), .val (.int p2), .val (.int nn), .val (.ref b2), .val (.ref b3), .val (.int (1 : Int32)), .val (.int kk1), .val (.int (0 : Int32)), .val (.int kk2), .val (.int (1 : Int32))] [(.int nn), (.int (1 : Int32))])) _
          refine XS.ifNo X86.here hx rfl (hb hby at_88) rfl ((if0 _ _).trans (teq h1).2) ?_
          show Steps p.tables e below (T86.setTop (mkF m 91 #[.val (.int p0), .val (.int p1), .val (.int p2), .val (.int nn), .val (.ref b2), .val (.ref b3), .val (.int (1 : Int32)), .val (.int kk1), .val (.int (0 : Int32)), .val (.int kk2), .val (.int (1 : Int32))] [(.int (1 : Int32))])) _
          refine XS.iconst X86.here hx rfl (hb hby at_91) ?_
          show Steps p.tables e below (T86.setTop (mkF m 92 #[.val (.int p0), .val (.int p1), .val (.int p2), .val (.int nn), .val (.ref b2), .val (.ref b3), .val (.int (1 : Int32)), .val (.int kk1), .val (.int (0 : Int32)), .val (.int kk2), .val (.int (1 : Int32))] [(.int (1 : Int32)), (.int (1 : Int32))])) _
          refine XS.goto X86.here hx rfl (pc0 := 92) (pc' := 96) rfl (hb hby at_92) (by decide) (by decide) ?_
          show Steps p.tables e below (T86.setTop (mkF m 96 #[.val (.int p0), .val (.int p1), .val (.int p2), .val (.int nn), .val (.ref b2), .val (.ref b3), .val (.int (1 : Int32)), .val (.int kk1), .val (.int (0 : Int32)), .val (.int kk2), .val (.int (1 : Int32))] [(.int (1 : Int32)), (.int (1 : Int32))])) _
          refine XS.icmpNo X86.here hx rfl (hb hby at_96) rfl (teq (by decide : (1 : Int32) = (1 : Int32))).2 ?_
          show Steps p.tables e below (T86.setTop (mkF m 99 #[.val (.int p0), .val (.int p1), .val (.int p2), .val (.int nn), .val (.ref b2), .val (.ref b3), .val (.int (1 : Int32)), .val (.int kk1), .val (.int (0 : Int32)), .val (.int kk2), .val (.int (1 : Int32))] [])) _
          refine XS.iload X86.here hx rfl (hb hby at_99) rfl ?_
          show Steps p.tables e below (T86.setTop (mkF m 101 #[.val (.int p0), .val (.int p1), .val (.int p2), .val (.int nn), .val (.ref b2), .val (.ref b3), .val (.int (1 : Int32)), .val (.int kk1), .val (.int (0 : Int32)), .val (.int kk2), .val (.int (1 : Int32))] [(.int (0 : Int32))])) _
          refine XS.iload X86.here hx rfl (hb hby at_101) rfl ?_
          show Steps p.tables e below (T86.setTop (mkF m 103 #[.val (.int p0), .val (.int p1), .val (.int p2), .val (.int nn), .val (.ref b2), .val (.ref b3), .val (.int (1 : Int32)), .val (.int kk1), .val (.int (0 : Int32)), .val (.int kk2), .val (.int (1 : Int32))] [(.int kk1), (.int (0 : Int32))])) _
          refine XS.iloadN X86.here hx rfl (hb hby at_103) rfl ?_
          show Steps p.tables e below (T86.setTop (mkF m 104 #[.val (.int p0), .val (.int p1), .val (.int p2), .val (.int nn), .val (.ref b2), .val (.ref b3), .val (.int (1 : Int32)), .val (.int kk1), .val (.int (0 : Int32)), .val (.int kk2), .val (.int (1 : Int32))] [(.int nn), (.int kk1), (.int (0 : Int32))])) _
          refine XS.icmpYes X86.here hx rfl (pc0 := 104) (pc' := 111) rfl (hb hby at_104) rfl (feq (fun q => h2 q)).2 (by decide) (by decide) ?_
          show Steps p.tables e below (T86.setTop (mkF m 111 #[.val (.int p0), .val (.int p1), .val (.int p2), .val (.int nn), .val (.ref b2), .val (.ref b3), .val (.int (1 : Int32)), .val (.int kk1), .val (.int (0 : Int32)), .val (.int kk2), .val (.int (1 : Int32))] [(.int (0 : Int32))])) _
          refine XS.iconst X86.here hx rfl (hb hby at_111) ?_
          show Steps p.tables e below (T86.setTop (mkF m 112 #[.val (.int p0), .val (.int p1), .val (.int p2), .val (.int nn), .val (.ref b2), .val (.ref b3), .val (.int (1 : Int32)), .val (.int kk1), .val (.int (0 : Int32)), .val (.int kk2), .val (.int (1 : Int32))] [(.int (0 : Int32)), (.int (0 : Int32))])) _
          refine XS.icmpNo X86.here hx rfl (hb hby at_112) rfl (teq (by decide : (0 : Int32) = (0 : Int32))).2 ?_
          show Steps p.tables e below (T86.setTop (mkF m 115 #[.val (.int p0), .val (.int p1), .val (.int p2), .val (.int nn), .val (.ref b2), .val (.ref b3), .val (.int (1 : Int32)), .val (.int kk1), .val (.int (0 : Int32)), .val (.int kk2), .val (.int (1 : Int32))] [])) _
          refine XS.iload X86.here hx rfl (hb hby at_115) rfl ?_
          show Steps p.tables e below (T86.setTop (mkF m 117 #[.val (.int p0), .val (.int p1), .val (.int p2), .val (.int nn), .val (.ref b2), .val (.ref b3), .val (.int (1 : Int32)), .val (.int kk1), .val (.int (0 : Int32)), .val (.int kk2), .val (.int (1 : Int32))] [(.int (1 : Int32))])) _
          refine XS.iload X86.here hx rfl (hb hby at_117) rfl ?_
          show Steps p.tables e below (T86.setTop (mkF m 119 #[.val (.int p0), .val (.int p1), .val (.int p2), .val (.int nn), .val (.ref b2), .val (.ref b3), .val (.int (1 : Int32)), .val (.int kk1), .val (.int (0 : Int32)), .val (.int kk2), .val (.int (1 : Int32))] [(.int kk1), (.int (1 : Int32))])) _
          refine XS.iload X86.here hx rfl (hb hby at_119) rfl ?_
          show Steps p.tables e below (T86.setTop (mkF m 121 #[.val (.int p0), .val (.int p1), .val (.int p2), .val (.int nn), .val (.ref b2), .val (.ref b3), .val (.int (1 : Int32)), .val (.int kk1), .val (.int (0 : Int32)), .val (.int kk2), .val (.int (1 : Int32))] [(.int kk2), (.int kk1), (.int (1 : Int32))])) _
          refine XS.iadd X86.here hx rfl (hb hby at_121) rfl ?_
          show Steps p.tables e below (T86.setTop (mkF m 122 #[.val (.int p0), .val (.int p1), .val (.int p2), .val (.int nn), .val (.ref b2), .val (.ref b3), .val (.int (1 : Int32)), .val (.int kk1), .val (.int (0 : Int32)), .val (.int kk2), .val (.int (1 : Int32))] [(.int (kk1 + kk2)), (.int (1 : Int32))])) _
          refine XS.iloadN X86.here hx rfl (hb hby at_122) rfl ?_
          show Steps p.tables e below (T86.setTop (mkF m 123 #[.val (.int p0), .val (.int p1), .val (.int p2), .val (.int nn), .val (.ref b2), .val (.ref b3), .val (.int (1 : Int32)), .val (.int kk1), .val (.int (0 : Int32)), .val (.int kk2), .val (.int (1 : Int32))] [(.int nn), (.int (kk1 + kk2)), (.int (1 : Int32))])) _
          refine XS.icmpNo X86.here hx rfl (hb hby at_123) rfl (teq h3).2 ?_
          show Steps p.tables e below (T86.setTop (mkF m 126 #[.val (.int p0), .val (.int p1), .val (.int p2), .val (.int nn), .val (.ref b2), .val (.ref b3), .val (.int (1 : Int32)), .val (.int kk1), .val (.int (0 : Int32)), .val (.int kk2), .val (.int (1 : Int32))] [(.int (1 : Int32))])) _
          refine XS.iconst X86.here hx rfl (hb hby at_126) ?_
          show Steps p.tables e below (T86.setTop (mkF m 127 #[.val (.int p0), .val (.int p1), .val (.int p2), .val (.int nn), .val (.ref b2), .val (.ref b3), .val (.int (1 : Int32)), .val (.int kk1), .val (.int (0 : Int32)), .val (.int kk2), .val (.int (1 : Int32))] [(.int (1 : Int32)), (.int (1 : Int32))])) _
          refine XS.goto X86.here hx rfl (pc0 := 127) (pc' := 131) rfl (hb hby at_127) (by decide) (by decide) ?_
          show Steps p.tables e below (T86.setTop (mkF m 131 #[.val (.int p0), .val (.int p1), .val (.int p2), .val (.int nn), .val (.ref b2), .val (.ref b3), .val (.int (1 : Int32)), .val (.int kk1), .val (.int (0 : Int32)), .val (.int kk2), .val (.int (1 : Int32))] [(.int (1 : Int32)), (.int (1 : Int32))])) _
          refine XS.icmpNo X86.here hx rfl (hb hby at_131) rfl (teq (by decide : (1 : Int32) = (1 : Int32))).2 ?_
          show Steps p.tables e below (T86.setTop (mkF m 134 #[.val (.int p0), .val (.int p1), .val (.int p2), .val (.int nn), .val (.ref b2), .val (.ref b3), .val (.int (1 : Int32)), .val (.int kk1), .val (.int (0 : Int32)), .val (.int kk2), .val (.int (1 : Int32))] [])) _
          refine XS.iconst X86.here hx rfl (hb hby at_134) ?_
          show Steps p.tables e below (T86.setTop (mkF m 135 #[.val (.int p0), .val (.int p1), .val (.int p2), .val (.int nn), .val (.ref b2), .val (.ref b3), .val (.int (1 : Int32)), .val (.int kk1), .val (.int (0 : Int32)), .val (.int kk2), .val (.int (1 : Int32))] [(.int (1 : Int32))])) _
          refine XS.goto X86.here hx rfl (pc0 := 135) (pc' := 139) rfl (hb hby at_135) (by decide) (by decide) ?_
          exact kt
        obtain ⟨fs, hr, hrun, hended, q1, q2, q3, q4⟩ := X86.leaveW hS78 (by rw [e86]; exact hk79) (v := some (.int (1 : Int32))) (fun h => by rw [Bd.returns] at h; cases h)
        refine ⟨_, _, pre90 _ ?_, hrun, hended, _, _, rfl, ?_, ⟨_, rfl⟩, q2, q3, q4.mono (by decide) (by decide)⟩
        · show Steps p.tables e below (T86.setTop (mkF m 139 #[.val (.int p0), .val (.int p1), .val (.int p2), .val (.int nn), .val (.ref b2), .val (.ref b3), .val (.int (1 : Int32)), .val (.int kk1), .val (.int (0 : Int32)), .val (.int kk2), .val (.int (1 : Int32))] [(.int (1 : Int32))])) _
          exact retN X86 hx (t := .boolean) Bd.returns (by simp) (hb hby at_139) hr
        · show Q_rm0 Z p0 p1 p2 w_BIG_ENDIAN w_LITTLE_ENDIAN h0 n0 _ T86.heap _
          rw [e86]
          exact ⟨rfl, N86⟩
      · obtain ⟨cq91, kq91, q91a, q91b, q91c⟩ := isOf hZ rfl u79_0
        obtain ⟨_, _, ⟨T91, L91, k91, n91⟩, -, X91, ⟨Lc91, hQ91, l91, y91, z91⟩, st91⟩ := X79.virtualBack hx (y := (⟨"com/example/bindery/bindery/ByteReader", "atEnd", "()Z"⟩ : MethodName)) (z := (⟨"com/example/bindery/bindery/ByteReader", "atEnd", "()Z"⟩ : MethodName)) hown (mvT hZ (hw _ (List.mem_of_getElem? (i := 32) rfl))) (mvT hZ (hw _ (List.mem_of_getElem? (i := 33) rfl))) (notFace_of_selects (args := #[]) (mvT hZ (hw _ (List.mem_of_getElem? (i := 35) rfl)))) (mvT hZ (hw _ (List.mem_of_getElem? (i := 35) rfl))) (mvT hZ (hw _ (List.mem_of_getElem? (i := 34) rfl))) (by decide) (backOf (W := 0) (rm_atEnd_10 l Z a0 hw [] b3 b2 nn (((0 : Int32) + kk1) + kk2) k2 T79.heap n0 O79 u79_1 u79_4 V_b2 (fun q => h3 ((congrArg (· + kk2) (Int32.zero_add kk1)).symm.trans q)) ) hZ (hw _ (List.mem_of_getElem? (i := 36) rfl)) (hw _ (List.mem_of_getElem? (i := 3) rfl)) (by decide) (by decide)) q91a q91c (g := (mkF m 80 #[.val (.int p0), .val (.int p1), .val (.int p2), .val (.int nn), .val (.ref b2), .val (.ref b3), .val (.int (1 : Int32)), .val (.int kk1), .val (.int (0 : Int32)), .val (.int kk2), .unset] [(.ref b3)])) rfl (by rw [hml]; rfl) (Steps.refl _) (argsL := []) (rest := []) (lenOf pd___Z rfl) rfl (by show 2 * 0 + _ ≤ _; exact Nat.le_of_eq rfl) (hb hby at_80) (fun _ _ => ⟨rfl, rfl, (by decide : 8 + 0 ≤ _), (by decide : 84 + 0 ≤ _)⟩)
        dsimp only [Pt.U, Pt.locs, Pt.cells, Pt.slots] at X91 l91 y91 z91 st91 hQ91
        subst l91 y91 z91
        obtain ⟨rfl, N91q, e91⟩ := hQ91
        have N91 := Fr.app N79 N91q
        have pre95 : ∀ t, Steps p.tables e below (T91.setTop (mkF m 139 #[.val (.int p0), .val (.int p1), .val (.int p2), .val (.int nn), .val (.ref b2), .val (.ref b3), .val (.int (1 : Int32)), .val (.int kk1), .val (.int (0 : Int32)), .val (.int kk2), .val (.int (0 : Int32))] [(.int (1 : Int32))])) t → Steps p.tables e below (s₁.setTop (entryFrame m #[(.int p0), (.int p1), (.int p2)] maxLocals)) t := by
          intro t kt
          refine pre85 t ?_
          show Steps p.tables e below (T79.setTop (mkF m 80 #[.val (.int p0), .val (.int p1), .val (.int p2), .val (.int nn), .val (.ref b2), .val (.ref b3), .val (.int (1 : Int32)), .val (.int kk1), .val (.int (0 : Int32)), .val (.int kk2), .unset] [(.ref b3)])) _
          refine st91.trans ?_
          show Steps p.tables e below (T91.setTop (mkF m 83 #[.val (.int p0), .val (.int p1), .val (.int p2), .val (.int nn), .val (.ref b2), .val (.ref b3), .val (.int (1 : Int32)), .val (.int kk1), .val (.int (0 : Int32)), .val (.int kk2), .unset] [(.int (0 : Int32))])) _
          refine XS.istore X91.here hx rfl (hb hby at_83) rfl (l' := #[.val (.int p0), .val (.int p1), .val (.int p2), .val (.int nn), .val (.ref b2), .val (.ref b3), .val (.int (1 : Int32)), .val (.int kk1), .val (.int (0 : Int32)), .val (.int kk2), .val (.int (0 : Int32))]) rfl ?_
          show Steps p.tables e below (T91.setTop (mkF m 85 #[.val (.int p0), .val (.int p1), .val (.int p2), .val (.int nn), .val (.ref b2), .val (.ref b3), .val (.int (1 : Int32)), .val (.int kk1), .val (.int (0 : Int32)), .val (.int kk2), .val (.int (0 : Int32))] [])) _
          refine XS.iload X91.here hx rfl (hb hby at_85) rfl ?_
          show Steps p.tables e below (T91.setTop (mkF m 87 #[.val (.int p0), .val (.int p1), .val (.int p2), .val (.int nn), .val (.ref b2), .val (.ref b3), .val (.int (1 : Int32)), .val (.int kk1), .val (.int (0 : Int32)), .val (.int kk2), .val (.int (0 : Int32))] [(.int (1 : Int32))])) _
          refine XS.iloadN X91.here hx rfl (hb hby at_87) rfl ?_
          show Steps p.tables e below (T91.setTop (mkF m 88 #[.val (.int p0), .val (.int p1), .val (.int p2), .val (.int nn), .val (.ref b2), .val (.ref b3), .val (.int (1 : Int32)), .val (.int kk1), .val (.int (0 : Int32)), .val (.int kk2), .val (.int (0 : Int32))] [(.int nn), (.int (1 : Int32))])) _
          refine XS.ifNo X91.here hx rfl (hb hby at_88) rfl ((if0 _ _).trans (teq h1).2) ?_
          show Steps p.tables e below (T91.setTop (mkF m 91 #[.val (.int p0), .val (.int p1), .val (.int p2), .val (.int nn), .val (.ref b2), .val (.ref b3), .val (.int (1 : Int32)), .val (.int kk1), .val (.int (0 : Int32)), .val (.int kk2), .val (.int (0 : Int32))] [(.int (1 : Int32))])) _
          refine XS.iconst X91.here hx rfl (hb hby at_91) ?_
          show Steps p.tables e below (T91.setTop (mkF m 92 #[.val (.int p0), .val (.int p1), .val (.int p2), .val (.int nn), .val (.ref b2), .val (.ref b3), .val (.int (1 : Int32)), .val (.int kk1), .val (.int (0 : Int32)), .val (.int kk2), .val (.int (0 : Int32))] [(.int (1 : Int32)), (.int (1 : Int32))])) _
          refine XS.goto X91.here hx rfl (pc0 := 92) (pc' := 96) rfl (hb hby at_92) (by decide) (by decide) ?_
          show Steps p.tables e below (T91.setTop (mkF m 96 #[.val (.int p0), .val (.int p1), .val (.int p2), .val (.int nn), .val (.ref b2), .val (.ref b3), .val (.int (1 : Int32)), .val (.int kk1), .val (.int (0 : Int32)), .val (.int kk2), .val (.int (0 : Int32))] [(.int (1 : Int32)), (.int (1 : Int32))])) _
          refine XS.icmpNo X91.here hx rfl (hb hby at_96) rfl (teq (by decide : (1 : Int32) = (1 : Int32))).2 ?_
          show Steps p.tables e below (T91.setTop (mkF m 99 #[.val (.int p0), .val (.int p1), .val (.int p2), .val (.int nn), .val (.ref b2), .val (.ref b3), .val (.int (1 : Int32)), .val (.int kk1), .val (.int (0 : Int32)), .val (.int kk2), .val (.int (0 : Int32))] [])) _
          refine XS.iload X91.here hx rfl (hb hby at_99) rfl ?_
          show Steps p.tables e below (T91.setTop (mkF m 101 #[.val (.int p0), .val (.int p1), .val (.int p2), .val (.int nn), .val (.ref b2), .val (.ref b3), .val (.int (1 : Int32)), .val (.int kk1), .val (.int (0 : Int32)), .val (.int kk2), .val (.int (0 : Int32))] [(.int (0 : Int32))])) _
          refine XS.iload X91.here hx rfl (hb hby at_101) rfl ?_
          show Steps p.tables e below (T91.setTop (mkF m 103 #[.val (.int p0), .val (.int p1), .val (.int p2), .val (.int nn), .val (.ref b2), .val (.ref b3), .val (.int (1 : Int32)), .val (.int kk1), .val (.int (0 : Int32)), .val (.int kk2), .val (.int (0 : Int32))] [(.int kk1), (.int (0 : Int32))])) _
          refine XS.iloadN X91.here hx rfl (hb hby at_103) rfl ?_
          show Steps p.tables e below (T91.setTop (mkF m 104 #[.val (.int p0), .val (.int p1), .val (.int p2), .val (.int nn), .val (.ref b2), .val (.ref b3), .val (.int (1 : Int32)), .val (.int kk1), .val (.int (0 : Int32)), .val (.int kk2), .val (.int (0 : Int32))] [(.int nn), (.int kk1), (.int (0 : Int32))])) _
          refine XS.icmpYes X91.here hx rfl (pc0 := 104) (pc' := 111) rfl (hb hby at_104) rfl (feq (fun q => h2 q)).2 (by decide) (by decide) ?_
          show Steps p.tables e below (T91.setTop (mkF m 111 #[.val (.int p0), .val (.int p1), .val (.int p2), .val (.int nn), .val (.ref b2), .val (.ref b3), .val (.int (1 : Int32)), .val (.int kk1), .val (.int (0 : Int32)), .val (.int kk2), .val (.int (0 : Int32))] [(.int (0 : Int32))])) _
          refine XS.iconst X91.here hx rfl (hb hby at_111) ?_
          show Steps p.tables e below (T91.setTop (mkF m 112 #[.val (.int p0), .val (.int p1), .val (.int p2), .val (.int nn), .val (.ref b2), .val (.ref b3), .val (.int (1 : Int32)), .val (.int kk1), .val (.int (0 : Int32)), .val (.int kk2), .val (.int (0 : Int32))] [(.int (0 : Int32)), (.int (0 : Int32))])) _
          refine XS.icmpNo X91.here hx rfl (hb hby at_112) rfl (teq (by decide : (0 : Int32) = (0 : Int32))).2 ?_
          show Steps p.tables e below (T91.setTop (mkF m 115 #[.val (.int p0), .val (.int p1), .val (.int p2), .val (.int nn), .val (.ref b2), .val (.ref b3), .val (.int (1 : Int32)), .val (.int kk1), .val (.int (0 : Int32)), .val (.int kk2), .val (.int (0 : Int32))] [])) _
          refine XS.iload X91.here hx rfl (hb hby at_115) rfl ?_
          show Steps p.tables e below (T91.setTop (mkF m 117 #[.val (.int p0), .val (.int p1), .val (.int p2), .val (.int nn), .val (.ref b2), .val (.ref b3), .val (.int (1 : Int32)), .val (.int kk1), .val (.int (0 : Int32)), .val (.int kk2), .val (.int (0 : Int32))] [(.int (0 : Int32))])) _
          refine XS.iload X91.here hx rfl (hb hby at_117) rfl ?_
          show Steps p.tables e below (T91.setTop (mkF m 119 #[.val (.int p0), .val (.int p1), .val (.int p2), .val (.int nn), .val (.ref b2), .val (.ref b3), .val (.int (1 : Int32)), .val (.int kk1), .val (.int (0 : Int32)), .val (.int kk2), .val (.int (0 : Int32))] [(.int kk1), (.int (0 : Int32))])) _
          refine XS.iload X91.here hx rfl (hb hby at_119) rfl ?_
          show Steps p.tables e below (T91.setTop (mkF m 121 #[.val (.int p0), .val (.int p1), .val (.int p2), .val (.int nn), .val (.ref b2), .val (.ref b3), .val (.int (1 : Int32)), .val (.int kk1), .val (.int (0 : Int32)), .val (.int kk2), .val (.int (0 : Int32))] [(.int kk2), (.int kk1), (.int (0 : Int32))])) _
          refine XS.iadd X91.here hx rfl (hb hby at_121) rfl ?_
          show Steps p.tables e below (T91.setTop (mkF m 122 #[.val (.int p0), .val (.int p1), .val (.int p2), .val (.int nn), .val (.ref b2), .val (.ref b3), .val (.int (1 : Int32)), .val (.int kk1), .val (.int (0 : Int32)), .val (.int kk2), .val (.int (0 : Int32))] [(.int (kk1 + kk2)), (.int (0 : Int32))])) _
          refine XS.iloadN X91.here hx rfl (hb hby at_122) rfl ?_
          show Steps p.tables e below (T91.setTop (mkF m 123 #[.val (.int p0), .val (.int p1), .val (.int p2), .val (.int nn), .val (.ref b2), .val (.ref b3), .val (.int (1 : Int32)), .val (.int kk1), .val (.int (0 : Int32)), .val (.int kk2), .val (.int (0 : Int32))] [(.int nn), (.int (kk1 + kk2)), (.int (0 : Int32))])) _
          refine XS.icmpYes X91.here hx rfl (pc0 := 123) (pc' := 130) rfl (hb hby at_123) rfl (feq (fun q => h3 q)).2 (by decide) (by decide) ?_
          show Steps p.tables e below (T91.setTop (mkF m 130 #[.val (.int p0), .val (.int p1), .val (.int p2), .val (.int nn), .val (.ref b2), .val (.ref b3), .val (.int (1 : Int32)), .val (.int kk1), .val (.int (0 : Int32)), .val (.int kk2), .val (.int (0 : Int32))] [(.int (0 : Int32))])) _
          refine XS.iconst X91.here hx rfl (hb hby at_130) ?_
          show Steps p.tables e below (T91.setTop (mkF m 131 #[.val (.int p0), .val (.int p1), .val (.int p2), .val (.int nn), .val (.ref b2), .val (.ref b3), .val (.int (1 : Int32)), .val (.int kk1), .val (.int (0 : Int32)), .val (.int kk2), .val (.int (0 : Int32))] [(.int (0 : Int32)), (.int (0 : Int32))])) _
          refine XS.icmpNo X91.here hx rfl (hb hby at_131) rfl (teq (by decide : (0 : Int32) = (0 : Int32))).2 ?_
          show Steps p.tables e below (T91.setTop (mkF m 134 #[.val (.int p0), .val (.int p1), .val (.int p2), .val (.int nn), .val (.ref b2), .val (.ref b3), .val (.int (1 : Int32)), .val (.int kk1), .val (.int (0 : Int32)), .val (.int kk2), .val (.int (0 : Int32))] [])) _
          refine XS.iconst X91.here hx rfl (hb hby at_134) ?_
          show Steps p.tables e below (T91.setTop (mkF m 135 #[.val (.int p0), .val (.int p1), .val (.int p2), .val (.int nn), .val (.ref b2), .val (.ref b3), .val (.int (1 : Int32)), .val (.int kk1), .val (.int (0 : Int32)), .val (.int kk2), .val (.int (0 : Int32))] [(.int (1 : Int32))])) _
          refine XS.goto X91.here hx rfl (pc0 := 135) (pc' := 139) rfl (hb hby at_135) (by decide) (by decide) ?_
          exact kt
        obtain ⟨fs, hr, hrun, hended, q1, q2, q3, q4⟩ := X91.leaveW hS78 (by rw [e91]; exact hk79) (v := some (.int (1 : Int32))) (fun h => by rw [Bd.returns] at h; cases h)
        refine ⟨_, _, pre95 _ ?_, hrun, hended, _, _, rfl, ?_, ⟨_, rfl⟩, q2, q3, q4.mono (by decide) (by decide)⟩
        · show Steps p.tables e below (T91.setTop (mkF m 139 #[.val (.int p0), .val (.int p1), .val (.int p2), .val (.int nn), .val (.ref b2), .val (.ref b3), .val (.int (1 : Int32)), .val (.int kk1), .val (.int (0 : Int32)), .val (.int kk2), .val (.int (0 : Int32))] [(.int (1 : Int32))])) _
          exact retN X91 hx (t := .boolean) Bd.returns (by simp) (hb hby at_139) hr
        · show Q_rm0 Z p0 p1 p2 w_BIG_ENDIAN w_LITTLE_ENDIAN h0 n0 _ T91.heap _
          rw [e91]
          exact ⟨rfl, N91⟩
  · obtain ⟨cq96, kq96, q96a, q96b, q96c⟩ := isOf hZ rfl u4_0
    obtain ⟨_, _, ⟨T96, L96, k96, n96⟩, -, X96, ⟨Lc96, hQ96, l96, y96, z96⟩, st96⟩ := X4.virtualBack hx (y := (⟨"com/example/bindery/bindery/ByteReader", "atEnd", "()Z"⟩ : MethodName)) (z := (⟨"com/example/bindery/bindery/ByteReader", "atEnd", "()Z"⟩ : MethodName)) hown (mvT hZ (hw _ (List.mem_of_getElem? (i := 32) rfl))) (mvT hZ (hw _ (List.mem_of_getElem? (i := 33) rfl))) (notFace_of_selects (args := #[]) (mvT hZ (hw _ (List.mem_of_getElem? (i := 35) rfl)))) (mvT hZ (hw _ (List.mem_of_getElem? (i := 35) rfl))) (mvT hZ (hw _ (List.mem_of_getElem? (i := 34) rfl))) (by decide) (backOf (W := 0) (rm_atEnd_12 l Z a0 hw [] b3 b2 nn k2 T4.heap n0 O4 u4_1 u4_4 V_b2 (fun q => h1 q.symm) ) hZ (hw _ (List.mem_of_getElem? (i := 36) rfl)) (hw _ (List.mem_of_getElem? (i := 3) rfl)) (by decide) (by decide)) q96a q96c (g := (mkF m 23 #[.val (.int p0), .val (.int p1), .val (.int p2), .val (.int nn), .val (.ref b2), .val (.ref b3), .unset, .unset, .unset, .unset, .unset] [(.ref b3)])) rfl (by rw [hml]; rfl) (Steps.refl _) (argsL := []) (rest := []) (lenOf pd___Z rfl) rfl (by show 2 * 0 + _ ≤ _; exact Nat.le_of_eq rfl) (hb hby at_23) (fun _ _ => ⟨rfl, rfl, (by decide : 4 + 0 ≤ _), (by decide : 68 + 0 ≤ _)⟩)
    dsimp only [Pt.U, Pt.locs, Pt.cells, Pt.slots] at X96 l96 y96 z96 st96 hQ96
    subst l96 y96 z96
    obtain ⟨rfl, N96q, e96⟩ := hQ96
    have N96 := Fr.app N4 N96q
    have pre101 : ∀ t, Steps p.tables e below (T96.setTop (mkF m 38 #[.val (.int p0), .val (.int p1), .val (.int p2), .val (.int nn), .val (.ref b2), .val (.ref b3), .val (.int (0 : Int32)), .val (.int ((p1 &&& (15 : Int32)) % (nn + (1 : Int32)))), .unset, .unset, .unset] [])) t → Steps p.tables e below (s₁.setTop (entryFrame m #[(.int p0), (.int p1), (.int p2)] maxLocals)) t := by
      intro t kt
      refine pre22 t ?_
      show Steps p.tables e below (T4.setTop (mkF m 23 #[.val (.int p0), .val (.int p1), .val (.int p2), .val (.int nn), .val (.ref b2), .val (.ref b3), .unset, .unset, .unset, .unset, .unset] [(.ref b3)])) _
      refine st96.trans ?_
      show Steps p.tables e below (T96.setTop (mkF m 26 #[.val (.int p0), .val (.int p1), .val (.int p2), .val (.int nn), .val (.ref b2), .val (.ref b3), .unset, .unset, .unset, .unset, .unset] [(.int (0 : Int32))])) _
      refine XS.istore X96.here hx rfl (hb hby at_26) rfl (l' := #[.val (.int p0), .val (.int p1), .val (.int p2), .val (.int nn), .val (.ref b2), .val (.ref b3), .val (.int (0 : Int32)), .unset, .unset, .unset, .unset]) rfl ?_
      show Steps p.tables e below (T96.setTop (mkF m 28 #[.val (.int p0), .val (.int p1), .val (.int p2), .val (.int nn), .val (.ref b2), .val (.ref b3), .val (.int (0 : Int32)), .unset, .unset, .unset, .unset] [])) _
      refine XS.iloadN X96.here hx rfl (hb hby at_28) rfl ?_
      show Steps p.tables e below (T96.setTop (mkF m 29 #[.val (.int p0), .val (.int p1), .val (.int p2), .val (.int nn), .val (.ref b2), .val (.ref b3), .val (.int (0 : Int32)), .unset, .unset, .unset, .unset] [(.int p1)])) _
      refine XS.bipush X96.here hx rfl (hb hby at_29) ?_
      show Steps p.tables e below (T96.setTop (mkF m 31 #[.val (.int p0), .val (.int p1), .val (.int p2), .val (.int nn), .val (.ref b2), .val (.ref b3), .val (.int (0 : Int32)), .unset, .unset, .unset, .unset] [(.int (15 : Int32)), (.int p1)])) _
      refine XS.iand X96.here hx rfl (hb hby at_31) rfl ?_
      show Steps p.tables e below (T96.setTop (mkF m 32 #[.val (.int p0), .val (.int p1), .val (.int p2), .val (.int nn), .val (.ref b2), .val (.ref b3), .val (.int (0 : Int32)), .unset, .unset, .unset, .unset] [(.int (p1 &&& (15 : Int32)))])) _
      refine XS.iloadN X96.here hx rfl (hb hby at_32) rfl ?_
      show Steps p.tables e below (T96.setTop (mkF m 33 #[.val (.int p0), .val (.int p1), .val (.int p2), .val (.int nn), .val (.ref b2), .val (.ref b3), .val (.int (0 : Int32)), .unset, .unset, .unset, .unset] [(.int nn), (.int (p1 &&& (15 : Int32)))])) _
      refine XS.iconst X96.here hx rfl (hb hby at_33) ?_
      show Steps p.tables e below (T96.setTop (mkF m 34 #[.val (.int p0), .val (.int p1), .val (.int p2), .val (.int nn), .val (.ref b2), .val (.ref b3), .val (.int (0 : Int32)), .unset, .unset, .unset, .unset] [(.int (1 : Int32)), (.int nn), (.int (p1 &&& (15 : Int32)))])) _
      refine XS.iadd X96.here hx rfl (hb hby at_34) rfl ?_
      show Steps p.tables e below (T96.setTop (mkF m 35 #[.val (.int p0), .val (.int p1), .val (.int p2), .val (.int nn), .val (.ref b2), .val (.ref b3), .val (.int (0 : Int32)), .unset, .unset, .unset, .unset] [(.int (nn + (1 : Int32))), (.int (p1 &&& (15 : Int32)))])) _
      refine iremM X96 hx rfl (hb hby at_35) rfl (own_nz1 hb_nn) ?_
      show Steps p.tables e below (T96.setTop (mkF m 36 #[.val (.int p0), .val (.int p1), .val (.int p2), .val (.int nn), .val (.ref b2), .val (.ref b3), .val (.int (0 : Int32)), .unset, .unset, .unset, .unset] [(.int ((p1 &&& (15 : Int32)) % (nn + (1 : Int32))))])) _
      refine XS.istore X96.here hx rfl (hb hby at_36) rfl (l' := #[.val (.int p0), .val (.int p1), .val (.int p2), .val (.int nn), .val (.ref b2), .val (.ref b3), .val (.int (0 : Int32)), .val (.int ((p1 &&& (15 : Int32)) % (nn + (1 : Int32)))), .unset, .unset, .unset]) rfl ?_
      exact kt
    obtain ⟨kk1, hkk1⟩ : ∃ z : Int32, z = ((p1 &&& (15 : Int32)) % (nn + (1 : Int32))) := ⟨_, rfl⟩
    rw [← hkk1] at pre101
    have hb_kk1 : 0 ≤ kk1.toInt ∧ kk1.toInt ≤ nn.toInt := by rw [hkk1]; exact own_k1 hb_nn
    have pre102 : ∀ t, Steps p.tables e below (T96.setTop (mkF m 42 #[.val (.int p0), .val (.int p1), .val (.int p2), .val (.int nn), .val (.ref b2), .val (.ref b3), .val (.int (0 : Int32)), .val (.int kk1), .unset, .unset, .unset] [(.int kk1), (.ref b3)])) t → Steps p.tables e below (s₁.setTop (entryFrame m #[(.int p0), (.int p1), (.int p2)] maxLocals)) t := by
      intro t kt
      refine pre101 t ?_
      show Steps p.tables e below (T96.setTop (mkF m 38 #[.val (.int p0), .val (.int p1), .val (.int p2), .val (.int nn), .val (.ref b2), .val (.ref b3), .val (.int (0 : Int32)), .val (.int kk1), .unset, .unset, .unset] [])) _
      refine XS.aload X96.here hx rfl (hb hby at_38) rfl rfl ?_
      show Steps p.tables e below (T96.setTop (mkF m 40 #[.val (.int p0), .val (.int p1), .val (.int p2), .val (.int nn), .val (.ref b2), .val (.ref b3), .val (.int (0 : Int32)), .val (.int kk1), .unset, .unset, .unset] [(.ref b3)])) _
      refine XS.iload X96.here hx rfl (hb hby at_40) rfl ?_
      exact kt
    obtain ⟨a103, T103, h103, k103, X103, e103, E103, hS103, hk103c, hZ, hown, st103⟩ := ldcS X96 hx hZ hown (hw _ (List.mem_of_getElem? (i := 39) rfl)) (own_str hw) e96 hS4 hk4 (g := (mkF m 42 #[.val (.int p0), .val (.int p1), .val (.int p2), .val (.int nn), .val (.ref b2), .val (.ref b3), .val (.int (0 : Int32)), .val (.int kk1), .unset, .unset, .unset] [(.int kk1), (.ref b3)])) rfl (hb hby at_42) (n := 4) (by decide) (by decide) (by decide) (by decide)
    have V_b2 := V_b2.ext E103
    have u4_0 := u4_0.ext E103
    have u4_1 := u4_1.ext E103
    have u4_2 := u4_2.ext E103
    have u4_3 := u4_3.ext E103
    have u4_4 := u4_4.ext E103
    have O103 := O4.ext E103
    obtain ⟨cq104, kq104, q104a, q104b, q104c⟩ := isOf hZ e103 u4_0
    obtain ⟨_, _, ⟨T104, L104, k104, n104⟩, -, X104, ⟨Lc104, hQ104, l104, y104, z104⟩, st104⟩ := X103.virtualBack hx (y := (⟨"com/example/bindery/bindery/ByteReader", "take", "(ILjava/lang/String;)I"⟩ : MethodName)) (z := (⟨"com/example/bindery/bindery/ByteReader", "take", "(ILjava/lang/String;)I"⟩ : MethodName)) hown (mvT hZ (hw _ (List.mem_of_getElem? (i := 40) rfl))) (mvT hZ (hw _ (List.mem_of_getElem? (i := 41) rfl))) (notFace_of_selects (args := #[]) (mvT hZ (hw _ (List.mem_of_getElem? (i := 43) rfl)))) (mvT hZ (hw _ (List.mem_of_getElem? (i := 43) rfl))) (mvT hZ (hw _ (List.mem_of_getElem? (i := 42) rfl))) (by decide) (backOf (W := 0) (rm_take_13 l Z a0 hw [] b3 b2 nn kx4_kx6_kx9_bz14 b4_b6_a8 kk1 a103 k2 h103 n0 O103 u4_0 u4_1 u4_2 u4_3 u4_4 ge_b3 V_b2 ge_b2 (Ne.symm ne_b2_b3) (fun q => h1 q.symm) (fun q => h1 q) (own_t1 hb_kk1) ) hZ (hw _ (List.mem_of_getElem? (i := 44) rfl)) (hw _ (List.mem_of_getElem? (i := 3) rfl)) (by decide) (by decide)) q104a q104c (g := (mkF m 44 #[.val (.int p0), .val (.int p1), .val (.int p2), .val (.int nn), .val (.ref b2), .val (.ref b3), .val (.int (0 : Int32)), .val (.int kk1), .unset, .unset, .unset] [(.ref a103), (.int kk1), (.ref b3)])) rfl (by rw [hml]; rfl) (Steps.refl _) (argsL := [(.int kk1), (.ref a103)]) (rest := []) (lenOf pd__ILjava_lang_String__I rfl) rfl (by show 2 * 0 + _ ≤ _; exact Nat.le_of_eq rfl) (hb hby at_44) (fun _ _ => ⟨rfl, e103, (by decide : 6 + 0 ≤ _), (by decide : 76 + 0 ≤ _)⟩)
    dsimp only [Pt.U, Pt.locs, Pt.cells, Pt.slots] at X104 l104 y104 z104 st104 hQ104
    subst l104 y104 z104
    obtain ⟨rfl, N104q, Kc104, u104_0, u104_1, u104_2, u104_3, u104_4⟩ := hQ104
    have N104 := Fr.app N96 N104q
    have V_b2 := V_b2.keep Kc104 (ninS ne_b2_b3 nin0)
    have O104 := O103.keep Kc104 (allS ge_b3 all0)
    have hk104 := Nat.le_trans hk103c Kc104.1
    have pre110 : ∀ t, Steps p.tables e below (T104.setTop (mkF m 50 #[.val (.int p0), .val (.int p1), .val (.int p2), .val (.int nn), .val (.ref b2), .val (.ref b3), .val (.int (0 : Int32)), .val (.int kk1), .unset, .unset, .unset] [(.ref b3)])) t → Steps p.tables e below (s₁.setTop (entryFrame m #[(.int p0), (.int p1), (.int p2)] maxLocals)) t := by
      intro t kt
      refine pre102 t ?_
      show Steps p.tables e below (T96.setTop (mkF m 42 #[.val (.int p0), .val (.int p1), .val (.int p2), .val (.int nn), .val (.ref b2), .val (.ref b3), .val (.int (0 : Int32)), .val (.int kk1), .unset, .unset, .unset] [(.int kk1), (.ref b3)])) _
      refine st103 _ ?_
      show Steps p.tables e below (T103.setTop (mkF m 44 #[.val (.int p0), .val (.int p1), .val (.int p2), .val (.int nn), .val (.ref b2), .val (.ref b3), .val (.int (0 : Int32)), .val (.int kk1), .unset, .unset, .unset] [(.ref a103), (.int kk1), (.ref b3)])) _
      refine st104.trans ?_
      show Steps p.tables e below (T104.setTop (mkF m 47 #[.val (.int p0), .val (.int p1), .val (.int p2), .val (.int nn), .val (.ref b2), .val (.ref b3), .val (.int (0 : Int32)), .val (.int kk1), .unset, .unset, .unset] [(.int (0 : Int32))])) _
      refine XS.pop X104.here hx rfl (hb hby at_47) rfl rfl ?_
      show Steps p.tables e below (T104.setTop (mkF m 48 #[.val (.int p0), .val (.int p1), .val (.int p2), .val (.int nn), .val (.ref b2), .val (.ref b3), .val (.int (0 : Int32)), .val (.int kk1), .unset, .unset, .unset] [])) _
      refine XS.aload X104.here hx rfl (hb hby at_48) rfl rfl ?_
      exact kt
    by_cases h2 : kk1 = nn
    · obtain ⟨cq111, kq111, q111a, q111b, q111c⟩ := isOf hZ rfl u104_0
      obtain ⟨_, _, ⟨T111, L111, k111, n111⟩, -, X111, ⟨Lc111, hQ111, l111, y111, z111⟩, st111⟩ := X104.virtualBack hx (y := (⟨"com/example/bindery/bindery/ByteReader", "atEnd", "()Z"⟩ : MethodName)) (z := (⟨"com/example/bindery/bindery/ByteReader", "atEnd", "()Z"⟩ : MethodName)) hown (mvT hZ (hw _ (List.mem_of_getElem? (i := 32) rfl))) (mvT hZ (hw _ (List.mem_of_getElem? (i := 33) rfl))) (notFace_of_selects (args := #[]) (mvT hZ (hw _ (List.mem_of_getElem? (i := 35) rfl)))) (mvT hZ (hw _ (List.mem_of_getElem? (i := 35) rfl))) (mvT hZ (hw _ (List.mem_of_getElem? (i := 34) rfl))) (by decide) (backOf (W := 0) (rm_atEnd_7 l Z a0 hw [] b3 b2 nn ((0 : Int32) + kk1) k2 T104.heap n0 O104 u104_1 u104_4 V_b2 ((Int32.zero_add _).trans h2) ) hZ (hw _ (List.mem_of_getElem? (i := 36) rfl)) (hw _ (List.mem_of_getElem? (i := 3) rfl)) (by decide) (by decide)) q111a q111c (g := (mkF m 50 #[.val (.int p0), .val (.int p1), .val (.int p2), .val (.int nn), .val (.ref b2), .val (.ref b3), .val (.int (0 : Int32)), .val (.int kk1), .unset, .unset, .unset] [(.ref b3)])) rfl (by rw [hml]; rfl) (Steps.refl _) (argsL := []) (rest := []) (lenOf pd___Z rfl) rfl (by show 2 * 0 + _ ≤ _; exact Nat.le_of_eq rfl) (hb hby at_50) (fun _ _ => ⟨rfl, rfl, (by decide : 6 + 0 ≤ _), (by decide : 76 + 0 ≤ _)⟩)
      dsimp only [Pt.U, Pt.locs, Pt.cells, Pt.slots] at X111 l111 y111 z111 st111 hQ111
      subst l111 y111 z111
      obtain ⟨rfl, N111q, e111⟩ := hQ111
      have N111 := Fr.app N104 N111q
      have pre112 : ∀ t, Steps p.tables e below (T111.setTop (mkF m 68 #[.val (.int p0), .val (.int p1), .val (.int p2), .val (.int nn), .val (.ref b2), .val (.ref b3), .val (.int (0 : Int32)), .val (.int kk1), .val (.int (1 : Int32)), .val (.int ((p2 &&& (15 : Int32)) % ((nn - kk1) + (1 : Int32)))), .unset] [])) t → Steps p.tables e below (s₁.setTop (entryFrame m #[(.int p0), (.int p1), (.int p2)] maxLocals)) t := by
        intro t kt
        refine pre110 t ?_
        show Steps p.tables e below (T104.setTop (mkF m 50 #[.val (.int p0), .val (.int p1), .val (.int p2), .val (.int nn), .val (.ref b2), .val (.ref b3), .val (.int (0 : Int32)), .val (.int kk1), .unset, .unset, .unset] [(.ref b3)])) _
        refine st111.trans ?_
        show Steps p.tables e below (T111.setTop (mkF m 53 #[.val (.int p0), .val (.int p1), .val (.int p2), .val (.int nn), .val (.ref b2), .val (.ref b3), .val (.int (0 : Int32)), .val (.int kk1), .unset, .unset, .unset] [(.int (1 : Int32))])) _
        refine XS.istore X111.here hx rfl (hb hby at_53) rfl (l' := #[.val (.int p0), .val (.int p1), .val (.int p2), .val (.int nn), .val (.ref b2), .val (.ref b3), .val (.int (0 : Int32)), .val (.int kk1), .val (.int (1 : Int32)), .unset, .unset]) rfl ?_
        show Steps p.tables e below (T111.setTop (mkF m 55 #[.val (.int p0), .val (.int p1), .val (.int p2), .val (.int nn), .val (.ref b2), .val (.ref b3), .val (.int (0 : Int32)), .val (.int kk1), .val (.int (1 : Int32)), .unset, .unset] [])) _
        refine XS.iloadN X111.here hx rfl (hb hby at_55) rfl ?_
        show Steps p.tables e below (T111.setTop (mkF m 56 #[.val (.int p0), .val (.int p1), .val (.int p2), .val (.int nn), .val (.ref b2), .val (.ref b3), .val (.int (0 : Int32)), .val (.int kk1), .val (.int (1 : Int32)), .unset, .unset] [(.int p2)])) _
        refine XS.bipush X111.here hx rfl (hb hby at_56) ?_
        show Steps p.tables e below (T111.setTop (mkF m 58 #[.val (.int p0), .val (.int p1), .val (.int p2), .val (.int nn), .val (.ref b2), .val (.ref b3), .val (.int (0 : Int32)), .val (.int kk1), .val (.int (1 : Int32)), .unset, .unset] [(.int (15 : Int32)), (.int p2)])) _
        refine XS.iand X111.here hx rfl (hb hby at_58) rfl ?_
        show Steps p.tables e below (T111.setTop (mkF m 59 #[.val (.int p0), .val (.int p1), .val (.int p2), .val (.int nn), .val (.ref b2), .val (.ref b3), .val (.int (0 : Int32)), .val (.int kk1), .val (.int (1 : Int32)), .unset, .unset] [(.int (p2 &&& (15 : Int32)))])) _
        refine XS.iloadN X111.here hx rfl (hb hby at_59) rfl ?_
        show Steps p.tables e below (T111.setTop (mkF m 60 #[.val (.int p0), .val (.int p1), .val (.int p2), .val (.int nn), .val (.ref b2), .val (.ref b3), .val (.int (0 : Int32)), .val (.int kk1), .val (.int (1 : Int32)), .unset, .unset] [(.int nn), (.int (p2 &&& (15 : Int32)))])) _
        refine XS.iload X111.here hx rfl (hb hby at_60) rfl ?_
        show Steps p.tables e below (T111.setTop (mkF m 62 #[.val (.int p0), .val (.int p1), .val (.int p2), .val (.int nn), .val (.ref b2), .val (.ref b3), .val (.int (0 : Int32)), .val (.int kk1), .val (.int (1 : Int32)), .unset, .unset] [(.int kk1), (.int nn), (.int (p2 &&& (15 : Int32)))])) _
        refine XS.isub X111.here hx rfl (hb hby at_62) rfl ?_
        show Steps p.tables e below (T111.setTop (mkF m 63 #[.val (.int p0), .val (.int p1), .val (.int p2), .val (.int nn), .val (.ref b2), .val (.ref b3), .val (.int (0 : Int32)), .val (.int kk1), .val (.int (1 : Int32)), .unset, .unset] [(.int (nn - kk1)), (.int (p2 &&& (15 : Int32)))])) _
        refine XS.iconst X111.here hx rfl (hb hby at_63) ?_
        show Steps p.tables e below (T111.setTop (mkF m 64 #[.val (.int p0), .val (.int p1), .val (.int p2), .val (.int nn), .val (.ref b2), .val (.ref b3), .val (.int (0 : Int32)), .val (.int kk1), .val (.int (1 : Int32)), .unset, .unset] [(.int (1 : Int32)), (.int (nn - kk1)), (.int (p2 &&& (15 : Int32)))])) _
        refine XS.iadd X111.here hx rfl (hb hby at_64) rfl ?_
        show Steps p.tables e below (T111.setTop (mkF m 65 #[.val (.int p0), .val (.int p1), .val (.int p2), .val (.int nn), .val (.ref b2), .val (.ref b3), .val (.int (0 : Int32)), .val (.int kk1), .val (.int (1 : Int32)), .unset, .unset] [(.int ((nn - kk1) + (1 : Int32))), (.int (p2 &&& (15 : Int32)))])) _
        refine iremM X111 hx rfl (hb hby at_65) rfl (own_nz2 hb_nn hb_kk1) ?_
        show Steps p.tables e below (T111.setTop (mkF m 66 #[.val (.int p0), .val (.int p1), .val (.int p2), .val (.int nn), .val (.ref b2), .val (.ref b3), .val (.int (0 : Int32)), .val (.int kk1), .val (.int (1 : Int32)), .unset, .unset] [(.int ((p2 &&& (15 : Int32)) % ((nn - kk1) + (1 : Int32))))])) _
        refine XS.istore X111.here hx rfl (hb hby at_66) rfl (l' := #[.val (.int p0), .val (.int p1), .val (.int p2), .val (.int nn), .val (.ref b2), .val (.ref b3), .val (.int (0 : Int32)), .val (.int kk1), .val (.int (1 : Int32)), .val (.int ((p2 &&& (15 : Int32)) % ((nn - kk1) + (1 : Int32)))), .unset]) rfl ?_
        exact kt
      obtain ⟨kk2, hkk2⟩ : ∃ z : Int32, z = ((p2 &&& (15 : Int32)) % ((nn - kk1) + (1 : Int32))) := ⟨_, rfl⟩
      rw [← hkk2] at pre112
      have hb_kk2 : 0 ≤ kk2.toInt ∧ kk1.toInt + kk2.toInt ≤ nn.toInt := by rw [hkk2]; exact own_k2 hb_nn hb_kk1
      have pre113 : ∀ t, Steps p.tables e below (T111.setTop (mkF m 72 #[.val (.int p0), .val (.int p1), .val (.int p2), .val (.int nn), .val (.ref b2), .val (.ref b3), .val (.int (0 : Int32)), .val (.int kk1), .val (.int (1 : Int32)), .val (.int kk2), .unset] [(.int kk2), (.ref b3)])) t → Steps p.tables e below (s₁.setTop (entryFrame m #[(.int p0), (.int p1), (.int p2)] maxLocals)) t := by
        intro t kt
        refine pre112 t ?_
        show Steps p.tables e below (T111.setTop (mkF m 68 #[.val (.int p0), .val (.int p1), .val (.int p2), .val (.int nn), .val (.ref b2), .val (.ref b3), .val (.int (0 : Int32)), .val (.int kk1), .val (.int (1 : Int32)), .val (.int kk2), .unset] [])) _
        refine XS.aload X111.here hx rfl (hb hby at_68) rfl rfl ?_
        show Steps p.tables e below (T111.setTop (mkF m 70 #[.val (.int p0), .val (.int p1), .val (.int p2), .val (.int nn), .val (.ref b2), .val (.ref b3), .val (.int (0 : Int32)), .val (.int kk1), .val (.int (1 : Int32)), .val (.int kk2), .unset] [(.ref b3)])) _
        refine XS.iload X111.here hx rfl (hb hby at_70) rfl ?_
        exact kt
      obtain ⟨a114, T114, h114, k114, X114, e114, E114, hS114, hk114c, hZ, hown, st114⟩ := ldcS X111 hx hZ hown (hw _ (List.mem_of_getElem? (i := 39) rfl)) (own_str hw) e111 hS103 hk104 (g := (mkF m 72 #[.val (.int p0), .val (.int p1), .val (.int p2), .val (.int nn), .val (.ref b2), .val (.ref b3), .val (.int (0 : Int32)), .val (.int kk1), .val (.int (1 : Int32)), .val (.int kk2), .unset] [(.int kk2), (.ref b3)])) rfl (hb hby at_72) (n := 4) (by decide) (by decide) (by decide) (by decide)
      have V_b2 := V_b2.ext E114
      have u104_0 := u104_0.ext E114
      have u104_1 := u104_1.ext E114
      have u104_2 := u104_2.ext E114
      have u104_3 := u104_3.ext E114
      have u104_4 := u104_4.ext E114
      have O114 := O104.ext E114
      obtain ⟨cq115, kq115, q115a, q115b, q115c⟩ := isOf hZ e114 u104_0
      obtain ⟨_, _, ⟨T115, L115, k115, n115⟩, -, X115, ⟨Lc115, hQ115, l115, y115, z115⟩, st115⟩ := X114.virtualBack hx (y := (⟨"com/example/bindery/bindery/ByteReader", "take", "(ILjava/lang/String;)I"⟩ : MethodName)) (z := (⟨"com/example/bindery/bindery/ByteReader", "take", "(ILjava/lang/String;)I"⟩ : MethodName)) hown (mvT hZ (hw _ (List.mem_of_getElem? (i := 40) rfl))) (mvT hZ (hw _ (List.mem_of_getElem? (i := 41) rfl))) (notFace_of_selects (args := #[]) (mvT hZ (hw _ (List.mem_of_getElem? (i := 43) rfl)))) (mvT hZ (hw _ (List.mem_of_getElem? (i := 43) rfl))) (mvT hZ (hw _ (List.mem_of_getElem? (i := 42) rfl))) (by decide) (backOf (W := 0) (rm_take_14 l Z a0 hw [] b3 b2 nn kx4_kx6_kx9_bz14 b4_b6_a8 ((0 : Int32) + kk1) kk2 a114 k2 h114 n0 O114 u104_0 u104_1 u104_2 u104_3 u104_4 ge_b3 V_b2 ge_b2 (Ne.symm ne_b2_b3) (fun q => h1 q.symm) (fun q => h1 q) ((Int32.zero_add _).trans h2) (own_t2 hb_nn hb_kk1 hb_kk2) ) hZ (hw _ (List.mem_of_getElem? (i := 44) rfl)) (hw _ (List.mem_of_getElem? (i := 3) rfl)) (by decide) (by decide)) q115a q115c (g := (mkF m 74 #[.val (.int p0), .val (.int p1), .val (.int p2), .val (.int nn), .val (.ref b2), .val (.ref b3), .val (.int (0 : Int32)), .val (.int kk1), .val (.int (1 : Int32)), .val (.int kk2), .unset] [(.ref a114), (.int kk2), (.ref b3)])) rfl (by rw [hml]; rfl) (Steps.refl _) (argsL := [(.int kk2), (.ref a114)]) (rest := []) (lenOf pd__ILjava_lang_String__I rfl) rfl (by show 2 * 0 + _ ≤ _; exact Nat.le_of_eq rfl) (hb hby at_74) (fun _ _ => ⟨rfl, e114, (by decide : 8 + 0 ≤ _), (by decide : 84 + 0 ≤ _)⟩)
      dsimp only [Pt.U, Pt.locs, Pt.cells, Pt.slots] at X115 l115 y115 z115 st115 hQ115
      subst l115 y115 z115
      obtain ⟨rfl, N115q, Kc115, u115_0, u115_1, u115_2, u115_3, u115_4⟩ := hQ115
      have N115 := Fr.app N111 N115q
      have V_b2 := V_b2.keep Kc115 (ninS ne_b2_b3 nin0)
      have O115 := O114.keep Kc115 (allS ge_b3 all0)
      have hk115 := Nat.le_trans hk114c Kc115.1
      have pre121 : ∀ t, Steps p.tables e below (T115.setTop (mkF m 80 #[.val (.int p0), .val (.int p1), .val (.int p2), .val (.int nn), .val (.ref b2), .val (.ref b3), .val (.int (0 : Int32)), .val (.int kk1), .val (.int (1 : Int32)), .val (.int kk2), .unset] [(.ref b3)])) t → Steps p.tables e below (s₁.setTop (entryFrame m #[(.int p0), (.int p1), (.int p2)] maxLocals)) t := by
        intro t kt
        refine pre113 t ?_
        show Steps p.tables e below (T111.setTop (mkF m 72 #[.val (.int p0), .val (.int p1), .val (.int p2), .val (.int nn), .val (.ref b2), .val (.ref b3), .val (.int (0 : Int32)), .val (.int kk1), .val (.int (1 : Int32)), .val (.int kk2), .unset] [(.int kk2), (.ref b3)])) _
        refine st114 _ ?_
        show Steps p.tables e below (T114.setTop (mkF m 74 #[.val (.int p0), .val (.int p1), .val (.int p2), .val (.int nn), .val (.ref b2), .val (.ref b3), .val (.int (0 : Int32)), .val (.int kk1), .val (.int (1 : Int32)), .val (.int kk2), .unset] [(.ref a114), (.int kk2), (.ref b3)])) _
        refine st115.trans ?_
        show Steps p.tables e below (T115.setTop (mkF m 77 #[.val (.int p0), .val (.int p1), .val (.int p2), .val (.int nn), .val (.ref b2), .val (.ref b3), .val (.int (0 : Int32)), .val (.int kk1), .val (.int (1 : Int32)), .val (.int kk2), .unset] [(.int ((0 : Int32) + kk1))])) _
        refine XS.pop X115.here hx rfl (hb hby at_77) rfl rfl ?_
        show Steps p.tables e below (T115.setTop (mkF m 78 #[.val (.int p0), .val (.int p1), .val (.int p2), .val (.int nn), .val (.ref b2), .val (.ref b3), .val (.int (0 : Int32)), .val (.int kk1), .val (.int (1 : Int32)), .val (.int kk2), .unset] [])) _
        refine XS.aload X115.here hx rfl (hb hby at_78) rfl rfl ?_
        exact kt
      by_cases h3 : (kk1 + kk2) = nn
      · obtain ⟨cq122, kq122, q122a, q122b, q122c⟩ := isOf hZ rfl u115_0
        obtain ⟨_, _, ⟨T122, L122, k122, n122⟩, -, X122, ⟨Lc122, hQ122, l122, y122, z122⟩, st122⟩ := X115.virtualBack hx (y := (⟨"com/example/bindery/bindery/ByteReader", "atEnd", "()Z"⟩ : MethodName)) (z := (⟨"com/example/bindery/bindery/ByteReader", "atEnd", "()Z"⟩ : MethodName)) hown (mvT hZ (hw _ (List.mem_of_getElem? (i := 32) rfl))) (mvT hZ (hw _ (List.mem_of_getElem? (i := 33) rfl))) (notFace_of_selects (args := #[]) (mvT hZ (hw _ (List.mem_of_getElem? (i := 35) rfl)))) (mvT hZ (hw _ (List.mem_of_getElem? (i := 35) rfl))) (mvT hZ (hw _ (List.mem_of_getElem? (i := 34) rfl))) (by decide) (backOf (W := 0) (rm_atEnd_7 l Z a0 hw [] b3 b2 nn (((0 : Int32) + kk1) + kk2) k2 T115.heap n0 O115 u115_1 u115_4 V_b2 ((congrArg (· + kk2) (Int32.zero_add kk1)).trans h3) ) hZ (hw _ (List.mem_of_getElem? (i := 36) rfl)) (hw _ (List.mem_of_getElem? (i := 3) rfl)) (by decide) (by decide)) q122a q122c (g := (mkF m 80 #[.val (.int p0), .val (.int p1), .val (.int p2), .val (.int nn), .val (.ref b2), .val (.ref b3), .val (.int (0 : Int32)), .val (.int kk1), .val (.int (1 : Int32)), .val (.int kk2), .unset] [(.ref b3)])) rfl (by rw [hml]; rfl) (Steps.refl _) (argsL := []) (rest := []) (lenOf pd___Z rfl) rfl (by show 2 * 0 + _ ≤ _; exact Nat.le_of_eq rfl) (hb hby at_80) (fun _ _ => ⟨rfl, rfl, (by decide : 8 + 0 ≤ _), (by decide : 84 + 0 ≤ _)⟩)
        dsimp only [Pt.U, Pt.locs, Pt.cells, Pt.slots] at X122 l122 y122 z122 st122 hQ122
        subst l122 y122 z122
        obtain ⟨rfl, N122q, e122⟩ := hQ122
        have N122 := Fr.app N115 N122q
        have pre126 : ∀ t, Steps p.tables e below (T122.setTop (mkF m 139 #[.val (.int p0), .val (.int p1), .val (.int p2), .val (.int nn), .val (.ref b2), .val (.ref b3), .val (.int (0 : Int32)), .val (.int kk1), .val (.int (1 : Int32)), .val (.int kk2), .val (.int (1 : Int32))] [(.int (1 : Int32))])) t → Steps p.tables e below (s₁.setTop (entryFrame m #[(.int p0), (.int p1), (.int p2)] maxLocals)) t := by
          intro t kt
          refine pre121 t ?_
          show Steps p.tables e below (T115.setTop (mkF m 80 #[.val (.int p0), .val (.int p1), .val (.int p2), .val (.int nn), .val (.ref b2), .val (.ref b3), .val (.int (0 : Int32)), .val (.int kk1), .val (.int (1 : Int32)), .val (.int kk2), .unset] [(.ref b3)])) _
          refine st122.trans ?_
          show Steps p.tables e below (T122.setTop (mkF m 83 #[.val (.int p0), .val (.int p1), .val (.int p2), .val (.int nn), .val (.ref b2), .val (.ref b3), .val (.int (0 : Int32)), .val (.int kk1), .val (.int (1 : Int32)), .val (.int kk2), .unset] [(.int (1 : Int32))])) _
          refine XS.istore X122.here hx rfl (hb hby at_83) rfl (l' := #[.val (.int p0), .val (.int p1), .val (.int p2), .val (.int nn), .val (.ref b2), .val (.ref b3), .val (.int (0 : Int32)), .val (.int kk1), .val (.int (1 : Int32)), .val (.int kk2), .val (.int (1 : Int32))]) rfl ?_
          show Steps p.tables e below (T122.setTop (mkF m 85 #[.val (.int p0), .val (.int p1), .val (.int p2), .val (.int nn), .val (.ref b2), .val (.ref b3), .val (.int (0 : Int32)), .val (.int kk1), .val (.int (1 : Int32)), .val (.int kk2), .val (.int (1 : Int32))] [])) _
          refine XS.iload X122.here hx rfl (hb hby at_85) rfl ?_
          show Steps p.tables e below (T122.setTop (mkF m 87 #[.val (.int p0), .val (.int p1), .val (.int p2), .val (.int nn), .val (.ref b2), .val (.ref b3), .val (.int (0 : Int32)), .val (.int kk1), .val (.int (1 : Int32)), .val (.int kk2), .val (.int (1 : Int32))] [(.int (0 : Int32))])) _
          refine XS.iloadN X122.here hx rfl (hb hby at_87) rfl ?_
          show Steps p.tables e below (T122.setTop (mkF m 88 #[.val (.int p0), .val (.int p1), .val (.int p2), .val (.int nn), .val (.ref b2), .val (.ref b3), .val (.int (0 : Int32)), .val (.int kk1), .val (.int (1 : Int32)), .val (.int kk2), .val (.int (1 : Int32))] [(.int nn), (.int (0 : Int32))])) _
          refine XS.ifYes X122.here hx rfl (pc0 := 88) (pc' := 95) rfl (hb hby at_88) rfl ((if0 _ _).trans (feq (fun q => h1 q)).2) (by decide) (by decide) ?_
          show Steps p.tables e below (T122.setTop (mkF m 95 #[.val (.int p0), .val (.int p1), .val (.int p2), .val (.int nn), .val (.ref b2), .val (.ref b3), .val (.int (0 : Int32)), .val (.int kk1), .val (.int (1 : Int32)), .val (.int kk2), .val (.int (1 : Int32))] [(.int (0 : Int32))])) _
          refine XS.iconst X122.here hx rfl (hb hby at_95) ?_
          show Steps p.tables e below (T122.setTop (mkF m 96 #[.val (.int p0), .val (.int p1), .val (.int p2), .val (.int nn), .val (.ref b2), .val (.ref b3), .val (.int (0 : Int32)), .val (.int kk1), .val (.int (1 : Int32)), .val (.int kk2), .val (.int (1 : Int32))] [(.int (0 : Int32)), (.int (0 : Int32))])) _
          refine XS.icmpNo X122.here hx rfl (hb hby at_96) rfl (teq (by decide : (0 : Int32) = (0 : Int32))).2 ?_
          show Steps p.tables e below (T122.setTop (mkF m 99 #[.val (.int p0), .val (.int p1), .val (.int p2), .val (.int nn), .val (.ref b2), .val (.ref b3), .val (.int (0 : Int32)), .val (.int kk1), .val (.int (1 : Int32)), .val (.int kk2), .val (.int (1 : Int32))] [])) _
          refine XS.iload X122.here hx rfl (hb hby at_99) rfl ?_
          show Steps p.tables e below (T122.setTop (mkF m 101 #[.val (.int p0), .val (.int p1), .val (.int p2), .val (.int nn), .val (.ref b2), .val (.ref b3), .val (.int (0 : Int32)), .val (.int kk1), .val (.int (1 : Int32)), .val (.int kk2), .val (.int (1 : Int32))] [(.int (1 : Int32))])) _
          refine XS.iload X122.here hx rfl (hb hby at_101) rfl ?_
          show Steps p.tables e below (T122.setTop (mkF m 103 #[.val (.int p0), .val (.int p1), .val (.int p2), .val (.int nn), .val (.ref b2), .val (.ref b3), .val (.int (0 : Int32)), .val (.int kk1), .val (.int (1 : Int32)), .val (.int kk2), .val (.int (1 : Int32))] [(.int kk1), (.int (1 : Int32))])) _
          refine XS.iloadN X122.here hx rfl (hb hby at_103) rfl ?_
          show Steps p.tables e below (T122.setTop (mkF m 104 #[.val (.int p0), .val (.int p1), .val (.int p2), .val (.int nn), .val (.ref b2), .val (.ref b3), .val (.int (0 : Int32)), .val (.int kk1), .val (.int (1 : Int32)), .val (.int kk2), .val (.int (1 : Int32))] [(.int nn), (.int kk1), (.int (1 : Int32))])) _
          refine XS.icmpNo X122.here hx rfl (hb hby at_104) rfl (teq h2).2 ?_
          show Steps p.tables e below (T122.setTop (mkF m 107 #[.val (.int p0), .val (.int p1), .val (.int p2), .val (.int nn), .val (.ref b2), .val (.ref b3), .val (.int (0 : Int32)), .val (.int kk1), .val (.int (1 : Int32)), .val (.int kk2), .val (.int (1 : Int32))] [(.int (1 : Int32))])) _
          refine XS.iconst X122.here hx rfl (hb hby at_107) ?_
          show Steps p.tables e below (T122.setTop (mkF m 108 #[.val (.int p0), .val (.int p1), .val (.int p2), .val (.int nn), .val (.ref b2), .val (.ref b3), .val (.int (0 : Int32)), .val (.int kk1), .val (.int (1 : Int32)), .val (.int kk2), .val (.int (1 : Int32))] [(.int (1 : Int32)), (.int (1 : Int32))])) _
          refine XS.goto X122.here hx rfl (pc0 := 108) (pc' := 112) rfl (hb hby at_108) (by decide) (by decide) ?_
          show Steps p.tables e below (T122.setTop (mkF m 112 #[.val (.int p0), .val (.int p1), .val (.int p2), .val (.int nn), .val (.ref b2), .val (.ref b3), .val (.int (0 : Int32)), .val (.int kk1), .val (.int (1 : Int32)), .val (.int kk2), .val (.int (1 : Int32))] [(.int (1 : Int32)), (.int (1 : Int32))])) _
          refine XS.icmpNo X122.here hx rfl (hb hby at_112) rfl (teq (by decide : (1 : Int32) = (1 : Int32))).2 ?_
          show Steps p.tables e below (T122.setTop (mkF m 115 #[.val (.int p0), .val (.int p1), .val (.int p2), .val (.int nn), .val (.ref b2), .val (.ref b3), .val (.int (0 : Int32)), .val (.int kk1), .val (.int (1 : Int32)), .val (.int kk2), .val (.int (1 : Int32))] [])) _
          refine XS.iload X122.here hx rfl (hb hby at_115) rfl ?_
          show Steps p.tables e below (T122.setTop (mkF m 117 #[.val (.int p0), .val (.int p1), .val (.int p2), .val (.int nn), .val (.ref b2), .val (.ref b3), .val (.int (0 : Int32)), .val (.int kk1), .val (.int (1 : Int32)), .val (.int kk2), .val (.int (1 : Int32))] [(.int (1 : Int32))])) _
          refine XS.iload X122.here hx rfl (hb hby at_117) rfl ?_
          show Steps p.tables e below (T122.setTop (mkF m 119 #[.val (.int p0), .val (.int p1), .val (.int p2), .val (.int nn), .val (.ref b2), .val (.ref b3), .val (.int (0 : Int32)), .val (.int kk1), .val (.int (1 : Int32)), .val (.int kk2), .val (.int (1 : Int32))] [(.int kk1), (.int (1 : Int32))])) _
          refine XS.iload X122.here hx rfl (hb hby at_119) rfl ?_
          show Steps p.tables e below (T122.setTop (mkF m 121 #[.val (.int p0), .val (.int p1), .val (.int p2), .val (.int nn), .val (.ref b2), .val (.ref b3), .val (.int (0 : Int32)), .val (.int kk1), .val (.int (1 : Int32)), .val (.int kk2), .val (.int (1 : Int32))] [(.int kk2), (.int kk1), (.int (1 : Int32))])) _
          refine XS.iadd X122.here hx rfl (hb hby at_121) rfl ?_
          show Steps p.tables e below (T122.setTop (mkF m 122 #[.val (.int p0), .val (.int p1), .val (.int p2), .val (.int nn), .val (.ref b2), .val (.ref b3), .val (.int (0 : Int32)), .val (.int kk1), .val (.int (1 : Int32)), .val (.int kk2), .val (.int (1 : Int32))] [(.int (kk1 + kk2)), (.int (1 : Int32))])) _
          refine XS.iloadN X122.here hx rfl (hb hby at_122) rfl ?_
          show Steps p.tables e below (T122.setTop (mkF m 123 #[.val (.int p0), .val (.int p1), .val (.int p2), .val (.int nn), .val (.ref b2), .val (.ref b3), .val (.int (0 : Int32)), .val (.int kk1), .val (.int (1 : Int32)), .val (.int kk2), .val (.int (1 : Int32))] [(.int nn), (.int (kk1 + kk2)), (.int (1 : Int32))])) _
          refine XS.icmpNo X122.here hx rfl (hb hby at_123) rfl (teq h3).2 ?_
          show Steps p.tables e below (T122.setTop (mkF m 126 #[.val (.int p0), .val (.int p1), .val (.int p2), .val (.int nn), .val (.ref b2), .val (.ref b3), .val (.int (0 : Int32)), .val (.int kk1), .val (.int (1 : Int32)), .val (.int kk2), .val (.int (1 : Int32))] [(.int (1 : Int32))])) _
          refine XS.iconst X122.here hx rfl (hb hby at_126) ?_
          show Steps p.tables e below (T122.setTop (mkF m 127 #[.val (.int p0), .val (.int p1), .val (.int p2), .val (.int nn), .val (.ref b2), .val (.ref b3), .val (.int (0 : Int32)), .val (.int kk1), .val (.int (1 : Int32)), .val (.int kk2), .val (.int (1 : Int32))] [(.int (1 : Int32)), (.int (1 : Int32))])) _
          refine XS.goto X122.here hx rfl (pc0 := 127) (pc' := 131) rfl (hb hby at_127) (by decide) (by decide) ?_
          show Steps p.tables e below (T122.setTop (mkF m 131 #[.val (.int p0), .val (.int p1), .val (.int p2), .val (.int nn), .val (.ref b2), .val (.ref b3), .val (.int (0 : Int32)), .val (.int kk1), .val (.int (1 : Int32)), .val (.int kk2), .val (.int (1 : Int32))] [(.int (1 : Int32)), (.int (1 : Int32))])) _
          refine XS.icmpNo X122.here hx rfl (hb hby at_131) rfl (teq (by decide : (1 : Int32) = (1 : Int32))).2 ?_
          show Steps p.tables e below (T122.setTop (mkF m 134 #[.val (.int p0), .val (.int p1), .val (.int p2), .val (.int nn), .val (.ref b2), .val (.ref b3), .val (.int (0 : Int32)), .val (.int kk1), .val (.int (1 : Int32)), .val (.int kk2), .val (.int (1 : Int32))] [])) _
          refine XS.iconst X122.here hx rfl (hb hby at_134) ?_
          show Steps p.tables e below (T122.setTop (mkF m 135 #[.val (.int p0), .val (.int p1), .val (.int p2), .val (.int nn), .val (.ref b2), .val (.ref b3), .val (.int (0 : Int32)), .val (.int kk1), .val (.int (1 : Int32)), .val (.int kk2), .val (.int (1 : Int32))] [(.int (1 : Int32))])) _
          refine XS.goto X122.here hx rfl (pc0 := 135) (pc' := 139) rfl (hb hby at_135) (by decide) (by decide) ?_
          exact kt
        obtain ⟨fs, hr, hrun, hended, q1, q2, q3, q4⟩ := X122.leaveW hS114 (by rw [e122]; exact hk115) (v := some (.int (1 : Int32))) (fun h => by rw [Bd.returns] at h; cases h)
        refine ⟨_, _, pre126 _ ?_, hrun, hended, _, _, rfl, ?_, ⟨_, rfl⟩, q2, q3, q4.mono (by decide) (by decide)⟩
        · show Steps p.tables e below (T122.setTop (mkF m 139 #[.val (.int p0), .val (.int p1), .val (.int p2), .val (.int nn), .val (.ref b2), .val (.ref b3), .val (.int (0 : Int32)), .val (.int kk1), .val (.int (1 : Int32)), .val (.int kk2), .val (.int (1 : Int32))] [(.int (1 : Int32))])) _
          exact retN X122 hx (t := .boolean) Bd.returns (by simp) (hb hby at_139) hr
        · show Q_rm0 Z p0 p1 p2 w_BIG_ENDIAN w_LITTLE_ENDIAN h0 n0 _ T122.heap _
          rw [e122]
          exact ⟨rfl, N122⟩
      · obtain ⟨cq127, kq127, q127a, q127b, q127c⟩ := isOf hZ rfl u115_0
        obtain ⟨_, _, ⟨T127, L127, k127, n127⟩, -, X127, ⟨Lc127, hQ127, l127, y127, z127⟩, st127⟩ := X115.virtualBack hx (y := (⟨"com/example/bindery/bindery/ByteReader", "atEnd", "()Z"⟩ : MethodName)) (z := (⟨"com/example/bindery/bindery/ByteReader", "atEnd", "()Z"⟩ : MethodName)) hown (mvT hZ (hw _ (List.mem_of_getElem? (i := 32) rfl))) (mvT hZ (hw _ (List.mem_of_getElem? (i := 33) rfl))) (notFace_of_selects (args := #[]) (mvT hZ (hw _ (List.mem_of_getElem? (i := 35) rfl)))) (mvT hZ (hw _ (List.mem_of_getElem? (i := 35) rfl))) (mvT hZ (hw _ (List.mem_of_getElem? (i := 34) rfl))) (by decide) (backOf (W := 0) (rm_atEnd_10 l Z a0 hw [] b3 b2 nn (((0 : Int32) + kk1) + kk2) k2 T115.heap n0 O115 u115_1 u115_4 V_b2 (fun q => h3 ((congrArg (· + kk2) (Int32.zero_add kk1)).symm.trans q)) ) hZ (hw _ (List.mem_of_getElem? (i := 36) rfl)) (hw _ (List.mem_of_getElem? (i := 3) rfl)) (by decide) (by decide)) q127a q127c (g := (mkF m 80 #[.val (.int p0), .val (.int p1), .val (.int p2), .val (.int nn), .val (.ref b2), .val (.ref b3), .val (.int (0 : Int32)), .val (.int kk1), .val (.int (1 : Int32)), .val (.int kk2), .unset] [(.ref b3)])) rfl (by rw [hml]; rfl) (Steps.refl _) (argsL := []) (rest := []) (lenOf pd___Z rfl) rfl (by show 2 * 0 + _ ≤ _; exact Nat.le_of_eq rfl) (hb hby at_80) (fun _ _ => ⟨rfl, rfl, (by decide : 8 + 0 ≤ _), (by decide : 84 + 0 ≤ _)⟩)
        dsimp only [Pt.U, Pt.locs, Pt.cells, Pt.slots] at X127 l127 y127 z127 st127 hQ127
        subst l127 y127 z127
        obtain ⟨rfl, N127q, e127⟩ := hQ127
        have N127 := Fr.app N115 N127q
        have pre131 : ∀ t, Steps p.tables e below (T127.setTop (mkF m 139 #[.val (.int p0), .val (.int p1), .val (.int p2), .val (.int nn), .val (.ref b2), .val (.ref b3), .val (.int (0 : Int32)), .val (.int kk1), .val (.int (1 : Int32)), .val (.int kk2), .val (.int (0 : Int32))] [(.int (1 : Int32))])) t → Steps p.tables e below (s₁.setTop (entryFrame m #[(.int p0), (.int p1), (.int p2)] maxLocals)) t := by
          intro t kt
          refine pre121 t ?_
          show Steps p.tables e below (T115.setTop (mkF m 80 #[.val (.int p0), .val (.int p1), .val (.int p2), .val (.int nn), .val (.ref b2), .val (.ref b3), .val (.int (0 : Int32)), .val (.int kk1), .val (.int (1 : Int32)), .val (.int kk2), .unset] [(.ref b3)])) _
          refine st127.trans ?_
          show Steps p.tables e below (T127.setTop (mkF m 83 #[.val (.int p0), .val (.int p1), .val (.int p2), .val (.int nn), .val (.ref b2), .val (.ref b3), .val (.int (0 : Int32)), .val (.int kk1), .val (.int (1 : Int32)), .val (.int kk2), .unset] [(.int (0 : Int32))])) _
          refine XS.istore X127.here hx rfl (hb hby at_83) rfl (l' := #[.val (.int p0), .val (.int p1), .val (.int p2), .val (.int nn), .val (.ref b2), .val (.ref b3), .val (.int (0 : Int32)), .val (.int kk1), .val (.int (1 : Int32)), .val (.int kk2), .val (.int (0 : Int32))]) rfl ?_
          show Steps p.tables e below (T127.setTop (mkF m 85 #[.val (.int p0), .val (.int p1), .val (.int p2), .val (.int nn), .val (.ref b2), .val (.ref b3), .val (.int (0 : Int32)), .val (.int kk1), .val (.int (1 : Int32)), .val (.int kk2), .val (.int (0 : Int32))] [])) _
          refine XS.iload X127.here hx rfl (hb hby at_85) rfl ?_
          show Steps p.tables e below (T127.setTop (mkF m 87 #[.val (.int p0), .val (.int p1), .val (.int p2), .val (.int nn), .val (.ref b2), .val (.ref b3), .val (.int (0 : Int32)), .val (.int kk1), .val (.int (1 : Int32)), .val (.int kk2), .val (.int (0 : Int32))] [(.int (0 : Int32))])) _
          refine XS.iloadN X127.here hx rfl (hb hby at_87) rfl ?_
          show Steps p.tables e below (T127.setTop (mkF m 88 #[.val (.int p0), .val (.int p1), .val (.int p2), .val (.int nn), .val (.ref b2), .val (.ref b3), .val (.int (0 : Int32)), .val (.int kk1), .val (.int (1 : Int32)), .val (.int kk2), .val (.int (0 : Int32))] [(.int nn), (.int (0 : Int32))])) _
          refine XS.ifYes X127.here hx rfl (pc0 := 88) (pc' := 95) rfl (hb hby at_88) rfl ((if0 _ _).trans (feq (fun q => h1 q)).2) (by decide) (by decide) ?_
          show Steps p.tables e below (T127.setTop (mkF m 95 #[.val (.int p0), .val (.int p1), .val (.int p2), .val (.int nn), .val (.ref b2), .val (.ref b3), .val (.int (0 : Int32)), .val (.int kk1), .val (.int (1 : Int32)), .val (.int kk2), .val (.int (0 : Int32))] [(.int (0 : Int32))])) _
          refine XS.iconst X127.here hx rfl (hb hby at_95) ?_
          show Steps p.tables e below (T127.setTop (mkF m 96 #[.val (.int p0), .val (.int p1), .val (.int p2), .val (.int nn), .val (.ref b2), .val (.ref b3), .val (.int (0 : Int32)), .val (.int kk1), .val (.int (1 : Int32)), .val (.int kk2), .val (.int (0 : Int32))] [(.int (0 : Int32)), (.int (0 : Int32))])) _
          refine XS.icmpNo X127.here hx rfl (hb hby at_96) rfl (teq (by decide : (0 : Int32) = (0 : Int32))).2 ?_
          show Steps p.tables e below (T127.setTop (mkF m 99 #[.val (.int p0), .val (.int p1), .val (.int p2), .val (.int nn), .val (.ref b2), .val (.ref b3), .val (.int (0 : Int32)), .val (.int kk1), .val (.int (1 : Int32)), .val (.int kk2), .val (.int (0 : Int32))] [])) _
          refine XS.iload X127.here hx rfl (hb hby at_99) rfl ?_
          show Steps p.tables e below (T127.setTop (mkF m 101 #[.val (.int p0), .val (.int p1), .val (.int p2), .val (.int nn), .val (.ref b2), .val (.ref b3), .val (.int (0 : Int32)), .val (.int kk1), .val (.int (1 : Int32)), .val (.int kk2), .val (.int (0 : Int32))] [(.int (1 : Int32))])) _
          refine XS.iload X127.here hx rfl (hb hby at_101) rfl ?_
          show Steps p.tables e below (T127.setTop (mkF m 103 #[.val (.int p0), .val (.int p1), .val (.int p2), .val (.int nn), .val (.ref b2), .val (.ref b3), .val (.int (0 : Int32)), .val (.int kk1), .val (.int (1 : Int32)), .val (.int kk2), .val (.int (0 : Int32))] [(.int kk1), (.int (1 : Int32))])) _
          refine XS.iloadN X127.here hx rfl (hb hby at_103) rfl ?_
          show Steps p.tables e below (T127.setTop (mkF m 104 #[.val (.int p0), .val (.int p1), .val (.int p2), .val (.int nn), .val (.ref b2), .val (.ref b3), .val (.int (0 : Int32)), .val (.int kk1), .val (.int (1 : Int32)), .val (.int kk2), .val (.int (0 : Int32))] [(.int nn), (.int kk1), (.int (1 : Int32))])) _
          refine XS.icmpNo X127.here hx rfl (hb hby at_104) rfl (teq h2).2 ?_
          show Steps p.tables e below (T127.setTop (mkF m 107 #[.val (.int p0), .val (.int p1), .val (.int p2), .val (.int nn), .val (.ref b2), .val (.ref b3), .val (.int (0 : Int32)), .val (.int kk1), .val (.int (1 : Int32)), .val (.int kk2), .val (.int (0 : Int32))] [(.int (1 : Int32))])) _
          refine XS.iconst X127.here hx rfl (hb hby at_107) ?_
          show Steps p.tables e below (T127.setTop (mkF m 108 #[.val (.int p0), .val (.int p1), .val (.int p2), .val (.int nn), .val (.ref b2), .val (.ref b3), .val (.int (0 : Int32)), .val (.int kk1), .val (.int (1 : Int32)), .val (.int kk2), .val (.int (0 : Int32))] [(.int (1 : Int32)), (.int (1 : Int32))])) _
          refine XS.goto X127.here hx rfl (pc0 := 108) (pc' := 112) rfl (hb hby at_108) (by decide) (by decide) ?_
          show Steps p.tables e below (T127.setTop (mkF m 112 #[.val (.int p0), .val (.int p1), .val (.int p2), .val (.int nn), .val (.ref b2), .val (.ref b3), .val (.int (0 : Int32)), .val (.int kk1), .val (.int (1 : Int32)), .val (.int kk2), .val (.int (0 : Int32))] [(.int (1 : Int32)), (.int (1 : Int32))])) _
          refine XS.icmpNo X127.here hx rfl (hb hby at_112) rfl (teq (by decide : (1 : Int32) = (1 : Int32))).2 ?_
          show Steps p.tables e below (T127.setTop (mkF m 115 #[.val (.int p0), .val (.int p1), .val (.int p2), .val (.int nn), .val (.ref b2), .val (.ref b3), .val (.int (0 : Int32)), .val (.int kk1), .val (.int (1 : Int32)), .val (.int kk2), .val (.int (0 : Int32))] [])) _
          refine XS.iload X127.here hx rfl (hb hby at_115) rfl ?_
          show Steps p.tables e below (T127.setTop (mkF m 117 #[.val (.int p0), .val (.int p1), .val (.int p2), .val (.int nn), .val (.ref b2), .val (.ref b3), .val (.int (0 : Int32)), .val (.int kk1), .val (.int (1 : Int32)), .val (.int kk2), .val (.int (0 : Int32))] [(.int (0 : Int32))])) _
          refine XS.iload X127.here hx rfl (hb hby at_117) rfl ?_
          show Steps p.tables e below (T127.setTop (mkF m 119 #[.val (.int p0), .val (.int p1), .val (.int p2), .val (.int nn), .val (.ref b2), .val (.ref b3), .val (.int (0 : Int32)), .val (.int kk1), .val (.int (1 : Int32)), .val (.int kk2), .val (.int (0 : Int32))] [(.int kk1), (.int (0 : Int32))])) _
          refine XS.iload X127.here hx rfl (hb hby at_119) rfl ?_
          show Steps p.tables e below (T127.setTop (mkF m 121 #[.val (.int p0), .val (.int p1), .val (.int p2), .val (.int nn), .val (.ref b2), .val (.ref b3), .val (.int (0 : Int32)), .val (.int kk1), .val (.int (1 : Int32)), .val (.int kk2), .val (.int (0 : Int32))] [(.int kk2), (.int kk1), (.int (0 : Int32))])) _
          refine XS.iadd X127.here hx rfl (hb hby at_121) rfl ?_
          show Steps p.tables e below (T127.setTop (mkF m 122 #[.val (.int p0), .val (.int p1), .val (.int p2), .val (.int nn), .val (.ref b2), .val (.ref b3), .val (.int (0 : Int32)), .val (.int kk1), .val (.int (1 : Int32)), .val (.int kk2), .val (.int (0 : Int32))] [(.int (kk1 + kk2)), (.int (0 : Int32))])) _
          refine XS.iloadN X127.here hx rfl (hb hby at_122) rfl ?_
          show Steps p.tables e below (T127.setTop (mkF m 123 #[.val (.int p0), .val (.int p1), .val (.int p2), .val (.int nn), .val (.ref b2), .val (.ref b3), .val (.int (0 : Int32)), .val (.int kk1), .val (.int (1 : Int32)), .val (.int kk2), .val (.int (0 : Int32))] [(.int nn), (.int (kk1 + kk2)), (.int (0 : Int32))])) _
          refine XS.icmpYes X127.here hx rfl (pc0 := 123) (pc' := 130) rfl (hb hby at_123) rfl (feq (fun q => h3 q)).2 (by decide) (by decide) ?_
          show Steps p.tables e below (T127.setTop (mkF m 130 #[.val (.int p0), .val (.int p1), .val (.int p2), .val (.int nn), .val (.ref b2), .val (.ref b3), .val (.int (0 : Int32)), .val (.int kk1), .val (.int (1 : Int32)), .val (.int kk2), .val (.int (0 : Int32))] [(.int (0 : Int32))])) _
          refine XS.iconst X127.here hx rfl (hb hby at_130) ?_
          show Steps p.tables e below (T127.setTop (mkF m 131 #[.val (.int p0), .val (.int p1), .val (.int p2), .val (.int nn), .val (.ref b2), .val (.ref b3), .val (.int (0 : Int32)), .val (.int kk1), .val (.int (1 : Int32)), .val (.int kk2), .val (.int (0 : Int32))] [(.int (0 : Int32)), (.int (0 : Int32))])) _
          refine XS.icmpNo X127.here hx rfl (hb hby at_131) rfl (teq (by decide : (0 : Int32) = (0 : Int32))).2 ?_
          show Steps p.tables e below (T127.setTop (mkF m 134 #[.val (.int p0), .val (.int p1), .val (.int p2), .val (.int nn), .val (.ref b2), .val (.ref b3), .val (.int (0 : Int32)), .val (.int kk1), .val (.int (1 : Int32)), .val (.int kk2), .val (.int (0 : Int32))] [])) _
          refine XS.iconst X127.here hx rfl (hb hby at_134) ?_
          show Steps p.tables e below (T127.setTop (mkF m 135 #[.val (.int p0), .val (.int p1), .val (.int p2), .val (.int nn), .val (.ref b2), .val (.ref b3), .val (.int (0 : Int32)), .val (.int kk1), .val (.int (1 : Int32)), .val (.int kk2), .val (.int (0 : Int32))] [(.int (1 : Int32))])) _
          refine XS.goto X127.here hx rfl (pc0 := 135) (pc' := 139) rfl (hb hby at_135) (by decide) (by decide) ?_
          exact kt
        obtain ⟨fs, hr, hrun, hended, q1, q2, q3, q4⟩ := X127.leaveW hS114 (by rw [e127]; exact hk115) (v := some (.int (1 : Int32))) (fun h => by rw [Bd.returns] at h; cases h)
        refine ⟨_, _, pre131 _ ?_, hrun, hended, _, _, rfl, ?_, ⟨_, rfl⟩, q2, q3, q4.mono (by decide) (by decide)⟩
        · show Steps p.tables e below (T127.setTop (mkF m 139 #[.val (.int p0), .val (.int p1), .val (.int p2), .val (.int nn), .val (.ref b2), .val (.ref b3), .val (.int (0 : Int32)), .val (.int kk1), .val (.int (1 : Int32)), .val (.int kk2), .val (.int (0 : Int32))] [(.int (1 : Int32))])) _
          exact retN X127 hx (t := .boolean) Bd.returns (by simp) (hb hby at_139) hr
        · show Q_rm0 Z p0 p1 p2 w_BIG_ENDIAN w_LITTLE_ENDIAN h0 n0 _ T127.heap _
          rw [e127]
          exact ⟨rfl, N127⟩
    · obtain ⟨cq132, kq132, q132a, q132b, q132c⟩ := isOf hZ rfl u104_0
      obtain ⟨_, _, ⟨T132, L132, k132, n132⟩, -, X132, ⟨Lc132, hQ132, l132, y132, z132⟩, st132⟩ := X104.virtualBack hx (y := (⟨"com/example/bindery/bindery/ByteReader", "atEnd", "()Z"⟩ : MethodName)) (z := (⟨"com/example/bindery/bindery/ByteReader", "atEnd", "()Z"⟩ : MethodName)) hown (mvT hZ (hw _ (List.mem_of_getElem? (i := 32) rfl))) (mvT hZ (hw _ (List.mem_of_getElem? (i := 33) rfl))) (notFace_of_selects (args := #[]) (mvT hZ (hw _ (List.mem_of_getElem? (i := 35) rfl)))) (mvT hZ (hw _ (List.mem_of_getElem? (i := 35) rfl))) (mvT hZ (hw _ (List.mem_of_getElem? (i := 34) rfl))) (by decide) (backOf (W := 0) (rm_atEnd_10 l Z a0 hw [] b3 b2 nn ((0 : Int32) + kk1) k2 T104.heap n0 O104 u104_1 u104_4 V_b2 (fun q => h2 ((Int32.zero_add _).symm.trans q)) ) hZ (hw _ (List.mem_of_getElem? (i := 36) rfl)) (hw _ (List.mem_of_getElem? (i := 3) rfl)) (by decide) (by decide)) q132a q132c (g := (mkF m 50 #[.val (.int p0), .val (.int p1), .val (.int p2), .val (.int nn), .val (.ref b2), .val (.ref b3), .val (.int (0 : Int32)), .val (.int kk1), .unset, .unset, .unset] [(.ref b3)])) rfl (by rw [hml]; rfl) (Steps.refl _) (argsL := []) (rest := []) (lenOf pd___Z rfl) rfl (by show 2 * 0 + _ ≤ _; exact Nat.le_of_eq rfl) (hb hby at_50) (fun _ _ => ⟨rfl, rfl, (by decide : 6 + 0 ≤ _), (by decide : 76 + 0 ≤ _)⟩)
      dsimp only [Pt.U, Pt.locs, Pt.cells, Pt.slots] at X132 l132 y132 z132 st132 hQ132
      subst l132 y132 z132
      obtain ⟨rfl, N132q, e132⟩ := hQ132
      have N132 := Fr.app N104 N132q
      have pre133 : ∀ t, Steps p.tables e below (T132.setTop (mkF m 68 #[.val (.int p0), .val (.int p1), .val (.int p2), .val (.int nn), .val (.ref b2), .val (.ref b3), .val (.int (0 : Int32)), .val (.int kk1), .val (.int (0 : Int32)), .val (.int ((p2 &&& (15 : Int32)) % ((nn - kk1) + (1 : Int32)))), .unset] [])) t → Steps p.tables e below (s₁.setTop (entryFrame m #[(.int p0), (.int p1), (.int p2)] maxLocals)) t := by
        intro t kt
        refine pre110 t ?_
        show Steps p.tables e below (T104.setTop (mkF m 50 #[.val (.int p0), .val (.int p1), .val (.int p2), .val (.int nn), .val (.ref b2), .val (.ref b3), .val (.int (0 : Int32)), .val (.int kk1), .unset, .unset, .unset] [(.ref b3)])) _
        refine st132.trans ?_
        show Steps p.tables e below (T132.setTop (mkF m 53 #[.val (.int p0), .val (.int p1), .val (.int p2), .val (.int nn), .val (.ref b2), .val (.ref b3), .val (.int (0 : Int32)), .val (.int kk1), .unset, .unset, .unset] [(.int (0 : Int32))])) _
        refine XS.istore X132.here hx rfl (hb hby at_53) rfl (l' := #[.val (.int p0), .val (.int p1), .val (.int p2), .val (.int nn), .val (.ref b2), .val (.ref b3), .val (.int (0 : Int32)), .val (.int kk1), .val (.int (0 : Int32)), .unset, .unset]) rfl ?_
        show Steps p.tables e below (T132.setTop (mkF m 55 #[.val (.int p0), .val (.int p1), .val (.int p2), .val (.int nn), .val (.ref b2), .val (.ref b3), .val (.int (0 : Int32)), .val (.int kk1), .val (.int (0 : Int32)), .unset, .unset] [])) _
        refine XS.iloadN X132.here hx rfl (hb hby at_55) rfl ?_
        show Steps p.tables e below (T132.setTop (mkF m 56 #[.val (.int p0), .val (.int p1), .val (.int p2), .val (.int nn), .val (.ref b2), .val (.ref b3), .val (.int (0 : Int32)), .val (.int kk1), .val (.int (0 : Int32)), .unset, .unset] [(.int p2)])) _
        refine XS.bipush X132.here hx rfl (hb hby at_56) ?_
        show Steps p.tables e below (T132.setTop (mkF m 58 #[.val (.int p0), .val (.int p1), .val (.int p2), .val (.int nn), .val (.ref b2), .val (.ref b3), .val (.int (0 : Int32)), .val (.int kk1), .val (.int (0 : Int32)), .unset, .unset] [(.int (15 : Int32)), (.int p2)])) _
        refine XS.iand X132.here hx rfl (hb hby at_58) rfl ?_
        show Steps p.tables e below (T132.setTop (mkF m 59 #[.val (.int p0), .val (.int p1), .val (.int p2), .val (.int nn), .val (.ref b2), .val (.ref b3), .val (.int (0 : Int32)), .val (.int kk1), .val (.int (0 : Int32)), .unset, .unset] [(.int (p2 &&& (15 : Int32)))])) _
        refine XS.iloadN X132.here hx rfl (hb hby at_59) rfl ?_
        show Steps p.tables e below (T132.setTop (mkF m 60 #[.val (.int p0), .val (.int p1), .val (.int p2), .val (.int nn), .val (.ref b2), .val (.ref b3), .val (.int (0 : Int32)), .val (.int kk1), .val (.int (0 : Int32)), .unset, .unset] [(.int nn), (.int (p2 &&& (15 : Int32)))])) _
        refine XS.iload X132.here hx rfl (hb hby at_60) rfl ?_
        show Steps p.tables e below (T132.setTop (mkF m 62 #[.val (.int p0), .val (.int p1), .val (.int p2), .val (.int nn), .val (.ref b2), .val (.ref b3), .val (.int (0 : Int32)), .val (.int kk1), .val (.int (0 : Int32)), .unset, .unset] [(.int kk1), (.int nn), (.int (p2 &&& (15 : Int32)))])) _
        refine XS.isub X132.here hx rfl (hb hby at_62) rfl ?_
        show Steps p.tables e below (T132.setTop (mkF m 63 #[.val (.int p0), .val (.int p1), .val (.int p2), .val (.int nn), .val (.ref b2), .val (.ref b3), .val (.int (0 : Int32)), .val (.int kk1), .val (.int (0 : Int32)), .unset, .unset] [(.int (nn - kk1)), (.int (p2 &&& (15 : Int32)))])) _
        refine XS.iconst X132.here hx rfl (hb hby at_63) ?_
        show Steps p.tables e below (T132.setTop (mkF m 64 #[.val (.int p0), .val (.int p1), .val (.int p2), .val (.int nn), .val (.ref b2), .val (.ref b3), .val (.int (0 : Int32)), .val (.int kk1), .val (.int (0 : Int32)), .unset, .unset] [(.int (1 : Int32)), (.int (nn - kk1)), (.int (p2 &&& (15 : Int32)))])) _
        refine XS.iadd X132.here hx rfl (hb hby at_64) rfl ?_
        show Steps p.tables e below (T132.setTop (mkF m 65 #[.val (.int p0), .val (.int p1), .val (.int p2), .val (.int nn), .val (.ref b2), .val (.ref b3), .val (.int (0 : Int32)), .val (.int kk1), .val (.int (0 : Int32)), .unset, .unset] [(.int ((nn - kk1) + (1 : Int32))), (.int (p2 &&& (15 : Int32)))])) _
        refine iremM X132 hx rfl (hb hby at_65) rfl (own_nz2 hb_nn hb_kk1) ?_
        show Steps p.tables e below (T132.setTop (mkF m 66 #[.val (.int p0), .val (.int p1), .val (.int p2), .val (.int nn), .val (.ref b2), .val (.ref b3), .val (.int (0 : Int32)), .val (.int kk1), .val (.int (0 : Int32)), .unset, .unset] [(.int ((p2 &&& (15 : Int32)) % ((nn - kk1) + (1 : Int32))))])) _
        refine XS.istore X132.here hx rfl (hb hby at_66) rfl (l' := #[.val (.int p0), .val (.int p1), .val (.int p2), .val (.int nn), .val (.ref b2), .val (.ref b3), .val (.int (0 : Int32)), .val (.int kk1), .val (.int (0 : Int32)), .val (.int ((p2 &&& (15 : Int32)) % ((nn - kk1) + (1 : Int32)))), .unset]) rfl ?_
        exact kt
      obtain ⟨kk2, hkk2⟩ : ∃ z : Int32, z = ((p2 &&& (15 : Int32)) % ((nn - kk1) + (1 : Int32))) := ⟨_, rfl⟩
      rw [← hkk2] at pre133
      have hb_kk2 : 0 ≤ kk2.toInt ∧ kk1.toInt + kk2.toInt ≤ nn.toInt := by rw [hkk2]; exact own_k2 hb_nn hb_kk1
      have pre134 : ∀ t, Steps p.tables e below (T132.setTop (mkF m 72 #[.val (.int p0), .val (.int p1), .val (.int p2), .val (.int nn), .val (.ref b2), .val (.ref b3), .val (.int (0 : Int32)), .val (.int kk1), .val (.int (0 : Int32)), .val (.int kk2), .unset] [(.int kk2), (.ref b3)])) t → Steps p.tables e below (s₁.setTop (entryFrame m #[(.int p0), (.int p1), (.int p2)] maxLocals)) t := by
        intro t kt
        refine pre133 t ?_
        show Steps p.tables e below (T132.setTop (mkF m 68 #[.val (.int p0), .val (.int p1), .val (.int p2), .val (.int nn), .val (.ref b2), .val (.ref b3), .val (.int (0 : Int32)), .val (.int kk1), .val (.int (0 : Int32)), .val (.int kk2), .unset] [])) _
        refine XS.aload X132.here hx rfl (hb hby at_68) rfl rfl ?_
        show Steps p.tables e below (T132.setTop (mkF m 70 #[.val (.int p0), .val (.int p1), .val (.int p2), .val (.int nn), .val (.ref b2), .val (.ref b3), .val (.int (0 : Int32)), .val (.int kk1), .val (.int (0 : Int32)), .val (.int kk2), .unset] [(.ref b3)])) _
        refine XS.iload X132.here hx rfl (hb hby at_70) rfl ?_
        exact kt
      obtain ⟨a135, T135, h135, k135, X135, e135, E135, hS135, hk135c, hZ, hown, st135⟩ := ldcS X132 hx hZ hown (hw _ (List.mem_of_getElem? (i := 39) rfl)) (own_str hw) e132 hS103 hk104 (g := (mkF m 72 #[.val (.int p0), .val (.int p1), .val (.int p2), .val (.int nn), .val (.ref b2), .val (.ref b3), .val (.int (0 : Int32)), .val (.int kk1), .val (.int (0 : Int32)), .val (.int kk2), .unset] [(.int kk2), (.ref b3)])) rfl (hb hby at_72) (n := 4) (by decide) (by decide) (by decide) (by decide)
      have V_b2 := V_b2.ext E135
      have u104_0 := u104_0.ext E135
      have u104_1 := u104_1.ext E135
      have u104_2 := u104_2.ext E135
      have u104_3 := u104_3.ext E135
      have u104_4 := u104_4.ext E135
      have O135 := O104.ext E135
      obtain ⟨cq136, kq136, q136a, q136b, q136c⟩ := isOf hZ e135 u104_0
      obtain ⟨_, _, ⟨T136, L136, k136, n136⟩, -, X136, ⟨Lc136, hQ136, l136, y136, z136⟩, st136⟩ := X135.virtualBack hx (y := (⟨"com/example/bindery/bindery/ByteReader", "take", "(ILjava/lang/String;)I"⟩ : MethodName)) (z := (⟨"com/example/bindery/bindery/ByteReader", "take", "(ILjava/lang/String;)I"⟩ : MethodName)) hown (mvT hZ (hw _ (List.mem_of_getElem? (i := 40) rfl))) (mvT hZ (hw _ (List.mem_of_getElem? (i := 41) rfl))) (notFace_of_selects (args := #[]) (mvT hZ (hw _ (List.mem_of_getElem? (i := 43) rfl)))) (mvT hZ (hw _ (List.mem_of_getElem? (i := 43) rfl))) (mvT hZ (hw _ (List.mem_of_getElem? (i := 42) rfl))) (by decide) (backOf (W := 0) (rm_take_15 l Z a0 hw [] b3 b2 nn kx4_kx6_kx9_bz14 b4_b6_a8 ((0 : Int32) + kk1) kk2 a135 k2 h135 n0 O135 u104_0 u104_1 u104_2 u104_3 u104_4 ge_b3 V_b2 ge_b2 (Ne.symm ne_b2_b3) (fun q => h1 q.symm) (fun q => h1 q) (fun q => h2 ((Int32.zero_add _).symm.trans q)) (own_t2 hb_nn hb_kk1 hb_kk2) ) hZ (hw _ (List.mem_of_getElem? (i := 44) rfl)) (hw _ (List.mem_of_getElem? (i := 3) rfl)) (by decide) (by decide)) q136a q136c (g := (mkF m 74 #[.val (.int p0), .val (.int p1), .val (.int p2), .val (.int nn), .val (.ref b2), .val (.ref b3), .val (.int (0 : Int32)), .val (.int kk1), .val (.int (0 : Int32)), .val (.int kk2), .unset] [(.ref a135), (.int kk2), (.ref b3)])) rfl (by rw [hml]; rfl) (Steps.refl _) (argsL := [(.int kk2), (.ref a135)]) (rest := []) (lenOf pd__ILjava_lang_String__I rfl) rfl (by show 2 * 0 + _ ≤ _; exact Nat.le_of_eq rfl) (hb hby at_74) (fun _ _ => ⟨rfl, e135, (by decide : 8 + 0 ≤ _), (by decide : 84 + 0 ≤ _)⟩)
      dsimp only [Pt.U, Pt.locs, Pt.cells, Pt.slots] at X136 l136 y136 z136 st136 hQ136
      subst l136 y136 z136
      obtain ⟨rfl, N136q, Kc136, u136_0, u136_1, u136_2, u136_3, u136_4⟩ := hQ136
      have N136 := Fr.app N132 N136q
      have V_b2 := V_b2.keep Kc136 (ninS ne_b2_b3 nin0)
      have O136 := O135.keep Kc136 (allS ge_b3 all0)
      have hk136 := Nat.le_trans hk135c Kc136.1
      have pre142 : ∀ t, Steps p.tables e below (T136.setTop (mkF m 80 #[.val (.int p0), .val (.int p1), .val (.int p2), .val (.int nn), .val (.ref b2), .val (.ref b3), .val (.int (0 : Int32)), .val (.int kk1), .val (.int (0 : Int32)), .val (.int kk2), .unset] [(.ref b3)])) t → Steps p.tables e below (s₁.setTop (entryFrame m #[(.int p0), (.int p1), (.int p2)] maxLocals)) t := by
        intro t kt
        refine pre134 t ?_
        show Steps p.tables e below (T132.setTop (mkF m 72 #[.val (.int p0), .val (.int p1), .val (.int p2), .val (.int nn), .val (.ref b2), .val (.ref b3), .val (.int (0 : Int32)), .val (.int kk1), .val (.int (0 : Int32)), .val (.int kk2), .unset] [(.int kk2), (.ref b3)])) _
        refine st135 _ ?_
        show Steps p.tables e below (T135.setTop (mkF m 74 #[.val (.int p0), .val (.int p1), .val (.int p2), .val (.int nn), .val (.ref b2), .val (.ref b3), .val (.int (0 : Int32)), .val (.int kk1), .val (.int (0 : Int32)), .val (.int kk2), .unset] [(.ref a135), (.int kk2), (.ref b3)])) _
        refine st136.trans ?_
        show Steps p.tables e below (T136.setTop (mkF m 77 #[.val (.int p0), .val (.int p1), .val (.int p2), .val (.int nn), .val (.ref b2), .val (.ref b3), .val (.int (0 : Int32)), .val (.int kk1), .val (.int (0 : Int32)), .val (.int kk2), .unset] [(.int ((0 : Int32) + kk1))])) _
        refine XS.pop X136.here hx rfl (hb hby at_77) rfl rfl ?_
        show Steps p.tables e below (T136.setTop (mkF m 78 #[.val (.int p0), .val (.int p1), .val (.int p2), .val (.int nn), .val (.ref b2), .val (.ref b3), .val (.int (0 : Int32)), .val (.int kk1), .val (.int (0 : Int32)), .val (.int kk2), .unset] [])) _
        refine XS.aload X136.here hx rfl (hb hby at_78) rfl rfl ?_
        exact kt
      by_cases h3 : (kk1 + kk2) = nn
      · obtain ⟨cq143, kq143, q143a, q143b, q143c⟩ := isOf hZ rfl u136_0
        obtain ⟨_, _, ⟨T143, L143, k143, n143⟩, -, X143, ⟨Lc143, hQ143, l143, y143, z143⟩, st143⟩ := X136.virtualBack hx (y := (⟨"com/example/bindery/bindery/ByteReader", "atEnd", "()Z"⟩ : MethodName)) (z := (⟨"com/example/bindery/bindery/ByteReader", "atEnd", "()Z"⟩ : MethodName)) hown (mvT hZ (hw _ (List.mem_of_getElem? (i := 32) rfl))) (mvT hZ (hw _ (List.mem_of_getElem? (i := 33) rfl))) (notFace_of_selects (args := #[]) (mvT hZ (hw _ (List.mem_of_getElem? (i := 35) rfl)))) (mvT hZ (hw _ (List.mem_of_getElem? (i := 35) rfl))) (mvT hZ (hw _ (List.mem_of_getElem? (i := 34) rfl))) (by decide) (backOf (W := 0) (rm_atEnd_7 l Z a0 hw [] b3 b2 nn (((0 : Int32) + kk1) + kk2) k2 T136.heap n0 O136 u136_1 u136_4 V_b2 ((congrArg (· + kk2) (Int32.zero_add kk1)).trans h3) ) hZ (hw _ (List.mem_of_getElem? (i := 36) rfl)) (hw _ (List.mem_of_getElem? (i := 3) rfl)) (by decide) (by decide)) q143a q143c (g := (mkF m 80 #[.val (.int p0), .val (.int p1), .val (.int p2), .val (.int nn), .val (.ref b2), .val (.ref b3), .val (.int (0 : Int32)), .val (.int kk1), .val (.int (0 : Int32)), .val (.int kk2), .unset] [(.ref b3)])) rfl (by rw [hml]; rfl) (Steps.refl _) (argsL := []) (rest := []) (lenOf pd___Z rfl) rfl (by show 2 * 0 + _ ≤ _; exact Nat.le_of_eq rfl) (hb hby at_80) (fun _ _ => ⟨rfl, rfl, (by decide : 8 + 0 ≤ _), (by decide : 84 + 0 ≤ _)⟩)
        dsimp only [Pt.U, Pt.locs, Pt.cells, Pt.slots] at X143 l143 y143 z143 st143 hQ143
        subst l143 y143 z143
        obtain ⟨rfl, N143q, e143⟩ := hQ143
        have N143 := Fr.app N136 N143q
        have pre147 : ∀ t, Steps p.tables e below (T143.setTop (mkF m 139 #[.val (.int p0), .val (.int p1), .val (.int p2), .val (.int nn), .val (.ref b2), .val (.ref b3), .val (.int (0 : Int32)), .val (.int kk1), .val (.int (0 : Int32)), .val (.int kk2), .val (.int (1 : Int32))] [(.int (1 : Int32))])) t → Steps p.tables e below (s₁.setTop (entryFrame m #[(.int p0), (.int p1), (.int p2)] maxLocals)) t := by
          intro t kt
          refine pre142 t ?_
          show Steps p.tables e below (T136.setTop (mkF m 80 #[.val (.int p0), .val (.int p1), .val (.int p2), .val (.int nn), .val (.ref b2), .val (.ref b3), .val (.int (0 : Int32)), .val (.int kk1), .val (.int (0 : Int32)), .val (.int kk2), .unset] [(.ref b3)])) _
          refine st143.trans ?_
          show Steps p.tables e below (T143.setTop (mkF m 83 #[.val (.int p0), .val (.int p1), .val (.int p2), .val (.int nn), .val (.ref b2), .val (.ref b3), .val (.int (0 : Int32)), .val (.int kk1), .val (.int (0 : Int32)), .val (.int kk2), .unset] [(.int (1 : Int32))])) _
          refine XS.istore X143.here hx rfl (hb hby at_83) rfl (l' := #[.val (.int p0), .val (.int p1), .val (.int p2), .val (.int nn), .val (.ref b2), .val (.ref b3), .val (.int (0 : Int32)), .val (.int kk1), .val (.int (0 : Int32)), .val (.int kk2), .val (.int (1 : Int32))]) rfl ?_
          show Steps p.tables e below (T143.setTop (mkF m 85 #[.val (.int p0), .val (.int p1), .val (.int p2), .val (.int nn), .val (.ref b2), .val (.ref b3), .val (.int (0 : Int32)), .val (.int kk1), .val (.int (0 : Int32)), .val (.int kk2), .val (.int (1 : Int32))] [])) _
          refine XS.iload X143.here hx rfl (hb hby at_85) rfl ?_
          show Steps p.tables e below (T143.setTop (mkF m 87 #[.val (.int p0), .val (.int p1), .val (.int p2), .val (.int nn), .val (.ref b2), .val (.ref b3), .val (.int (0 : Int32)), .val (.int kk1), .val (.int (0 : Int32)), .val (.int kk2), .val (.int (1 : Int32))] [(.int (0 : Int32))])) _
          refine XS.iloadN X143.here hx rfl (hb hby at_87) rfl ?_
          show Steps p.tables e below (T143.setTop (mkF m 88 #[.val (.int p0), .val (.int p1), .val (.int p2), .val (.int nn), .val (.ref b2), .val (.ref b3), .val (.int (0 : Int32)), .val (.int kk1), .val (.int (0 : Int32)), .val (.int kk2), .val (.int (1 : Int32))] [(.int nn), (.int (0 : Int32))])) _
          refine XS.ifYes X143.here hx rfl (pc0 := 88) (pc' := 95) rfl (hb hby at_88) rfl ((if0 _ _).trans (feq (fun q => h1 q)).2) (by decide) (by decide) ?_
          show Steps p.tables e below (T143.setTop (mkF m 95 #[.val (.int p0), .val (.int p1), .val (.int p2), .val (.int nn), .val (.ref b2), .val (.ref b3), .val (.int (0 : Int32)), .val (.int kk1), .val (.int (0 : Int32)), .val (.int kk2), .val (.int (1 : Int32))] [(.int (0 : Int32))])) _
          refine XS.iconst X143.here hx rfl (hb hby at_95) ?_
          show Steps p.tables e below (T143.setTop (mkF m 96 #[.val (.int p0), .val (.int p1), .val (.int p2), .val (.int nn), .val (.ref b2), .val (.ref b3), .val (.int (0 : Int32)), .val (.int kk1), .val (.int (0 : Int32)), .val (.int kk2), .val (.int (1 : Int32))] [(.int (0 : Int32)), (.int (0 : Int32))])) _
          refine XS.icmpNo X143.here hx rfl (hb hby at_96) rfl (teq (by decide : (0 : Int32) = (0 : Int32))).2 ?_
          show Steps p.tables e below (T143.setTop (mkF m 99 #[.val (.int p0), .val (.int p1), .val (.int p2), .val (.int nn), .val (.ref b2), .val (.ref b3), .val (.int (0 : Int32)), .val (.int kk1), .val (.int (0 : Int32)), .val (.int kk2), .val (.int (1 : Int32))] [])) _
          refine XS.iload X143.here hx rfl (hb hby at_99) rfl ?_
          show Steps p.tables e below (T143.setTop (mkF m 101 #[.val (.int p0), .val (.int p1), .val (.int p2), .val (.int nn), .val (.ref b2), .val (.ref b3), .val (.int (0 : Int32)), .val (.int kk1), .val (.int (0 : Int32)), .val (.int kk2), .val (.int (1 : Int32))] [(.int (0 : Int32))])) _
          refine XS.iload X143.here hx rfl (hb hby at_101) rfl ?_
          show Steps p.tables e below (T143.setTop (mkF m 103 #[.val (.int p0), .val (.int p1), .val (.int p2), .val (.int nn), .val (.ref b2), .val (.ref b3), .val (.int (0 : Int32)), .val (.int kk1), .val (.int (0 : Int32)), .val (.int kk2), .val (.int (1 : Int32))] [(.int kk1), (.int (0 : Int32))])) _
          refine XS.iloadN X143.here hx rfl (hb hby at_103) rfl ?_
          show Steps p.tables e below (T143.setTop (mkF m 104 #[.val (.int p0), .val (.int p1), .val (.int p2), .val (.int nn), .val (.ref b2), .val (.ref b3), .val (.int (0 : Int32)), .val (.int kk1), .val (.int (0 : Int32)), .val (.int kk2), .val (.int (1 : Int32))] [(.int nn), (.int kk1), (.int (0 : Int32))])) _
          refine XS.icmpYes X143.here hx rfl (pc0 := 104) (pc' := 111) rfl (hb hby at_104) rfl (feq (fun q => h2 q)).2 (by decide) (by decide) ?_
          show Steps p.tables e below (T143.setTop (mkF m 111 #[.val (.int p0), .val (.int p1), .val (.int p2), .val (.int nn), .val (.ref b2), .val (.ref b3), .val (.int (0 : Int32)), .val (.int kk1), .val (.int (0 : Int32)), .val (.int kk2), .val (.int (1 : Int32))] [(.int (0 : Int32))])) _
          refine XS.iconst X143.here hx rfl (hb hby at_111) ?_
          show Steps p.tables e below (T143.setTop (mkF m 112 #[.val (.int p0), .val (.int p1), .val (.int p2), .val (.int nn), .val (.ref b2), .val (.ref b3), .val (.int (0 : Int32)), .val (.int kk1), .val (.int (0 : Int32)), .val (.int kk2), .val (.int (1 : Int32))] [(.int (0 : Int32)), (.int (0 : Int32))])) _
          refine XS.icmpNo X143.here hx rfl (hb hby at_112) rfl (teq (by decide : (0 : Int32) = (0 : Int32))).2 ?_
          show Steps p.tables e below (T143.setTop (mkF m 115 #[.val (.int p0), .val (.int p1), .val (.int p2), .val (.int nn), .val (.ref b2), .val (.ref b3), .val (.int (0 : Int32)), .val (.int kk1), .val (.int (0 : Int32)), .val (.int kk2), .val (.int (1 : Int32))] [])) _
          refine XS.iload X143.here hx rfl (hb hby at_115) rfl ?_
          show Steps p.tables e below (T143.setTop (mkF m 117 #[.val (.int p0), .val (.int p1), .val (.int p2), .val (.int nn), .val (.ref b2), .val (.ref b3), .val (.int (0 : Int32)), .val (.int kk1), .val (.int (0 : Int32)), .val (.int kk2), .val (.int (1 : Int32))] [(.int (1 : Int32))])) _
          refine XS.iload X143.here hx rfl (hb hby at_117) rfl ?_
          show Steps p.tables e below (T143.setTop (mkF m 119 #[.val (.int p0), .val (.int p1), .val (.int p2), .val (.int nn), .val (.ref b2), .val (.ref b3), .val (.int (0 : Int32)), .val (.int kk1), .val (.int (0 : Int32)), .val (.int kk2), .val (.int (1 : Int32))] [(.int kk1), (.int (1 : Int32))])) _
          refine XS.iload X143.here hx rfl (hb hby at_119) rfl ?_
          show Steps p.tables e below (T143.setTop (mkF m 121 #[.val (.int p0), .val (.int p1), .val (.int p2), .val (.int nn), .val (.ref b2), .val (.ref b3), .val (.int (0 : Int32)), .val (.int kk1), .val (.int (0 : Int32)), .val (.int kk2), .val (.int (1 : Int32))] [(.int kk2), (.int kk1), (.int (1 : Int32))])) _
          refine XS.iadd X143.here hx rfl (hb hby at_121) rfl ?_
          show Steps p.tables e below (T143.setTop (mkF m 122 #[.val (.int p0), .val (.int p1), .val (.int p2), .val (.int nn), .val (.ref b2), .val (.ref b3), .val (.int (0 : Int32)), .val (.int kk1), .val (.int (0 : Int32)), .val (.int kk2), .val (.int (1 : Int32))] [(.int (kk1 + kk2)), (.int (1 : Int32))])) _
          refine XS.iloadN X143.here hx rfl (hb hby at_122) rfl ?_
          show Steps p.tables e below (T143.setTop (mkF m 123 #[.val (.int p0), .val (.int p1), .val (.int p2), .val (.int nn), .val (.ref b2), .val (.ref b3), .val (.int (0 : Int32)), .val (.int kk1), .val (.int (0 : Int32)), .val (.int kk2), .val (.int (1 : Int32))] [(.int nn), (.int (kk1 + kk2)), (.int (1 : Int32))])) _
          refine XS.icmpNo X143.here hx rfl (hb hby at_123) rfl (teq h3).2 ?_
          show Steps p.tables e below (T143.setTop (mkF m 126 #[.val (.int p0), .val (.int p1), .val (.int p2), .val (.int nn), .val (.ref b2), .val (.ref b3), .val (.int (0 : Int32)), .val (.int kk1), .val (.int (0 : Int32)), .val (.int kk2), .val (.int (1 : Int32))] [(.int (1 : Int32))])) _
          refine XS.iconst X143.here hx rfl (hb hby at_126) ?_
          show Steps p.tables e below (T143.setTop (mkF m 127 #[.val (.int p0), .val (.int p1), .val (.int p2), .val (.int nn), .val (.ref b2), .val (.ref b3), .val (.int (0 : Int32)), .val (.int kk1), .val (.int (0 : Int32)), .val (.int kk2), .val (.int (1 : Int32))] [(.int (1 : Int32)), (.int (1 : Int32))])) _
          refine XS.goto X143.here hx rfl (pc0 := 127) (pc' := 131) rfl (hb hby at_127) (by decide) (by decide) ?_
          show Steps p.tables e below (T143.setTop (mkF m 131 #[.val (.int p0), .val (.int p1), .val (.int p2), .val (.int nn), .val (.ref b2), .val (.ref b3), .val (.int (0 : Int32)), .val (.int kk1), .val (.int (0 : Int32)), .val (.int kk2), .val (.int (1 : Int32))] [(.int (1 : Int32)), (.int (1 : Int32))])) _
          refine XS.icmpNo X143.here hx rfl (hb hby at_131) rfl (teq (by decide : (1 : Int32) = (1 : Int32))).2 ?_
          show Steps p.tables e below (T143.setTop (mkF m 134 #[.val (.int p0), .val (.int p1), .val (.int p2), .val (.int nn), .val (.ref b2), .val (.ref b3), .val (.int (0 : Int32)), .val (.int kk1), .val (.int (0 : Int32)), .val (.int kk2), .val (.int (1 : Int32))] [])) _
          refine XS.iconst X143.here hx rfl (hb hby at_134) ?_
          show Steps p.tables e below (T143.setTop (mkF m 135 #[.val (.int p0), .val (.int p1), .val (.int p2), .val (.int nn), .val (.ref b2), .val (.ref b3), .val (.int (0 : Int32)), .val (.int kk1), .val (.int (0 : Int32)), .val (.int kk2), .val (.int (1 : Int32))] [(.int (1 : Int32))])) _
          refine XS.goto X143.here hx rfl (pc0 := 135) (pc' := 139) rfl (hb hby at_135) (by decide) (by decide) ?_
          exact kt
        obtain ⟨fs, hr, hrun, hended, q1, q2, q3, q4⟩ := X143.leaveW hS135 (by rw [e143]; exact hk136) (v := some (.int (1 : Int32))) (fun h => by rw [Bd.returns] at h; cases h)
        refine ⟨_, _, pre147 _ ?_, hrun, hended, _, _, rfl, ?_, ⟨_, rfl⟩, q2, q3, q4.mono (by decide) (by decide)⟩
        · show Steps p.tables e below (T143.setTop (mkF m 139 #[.val (.int p0), .val (.int p1), .val (.int p2), .val (.int nn), .val (.ref b2), .val (.ref b3), .val (.int (0 : Int32)), .val (.int kk1), .val (.int (0 : Int32)), .val (.int kk2), .val (.int (1 : Int32))] [(.int (1 : Int32))])) _
          exact retN X143 hx (t := .boolean) Bd.returns (by simp) (hb hby at_139) hr
        · show Q_rm0 Z p0 p1 p2 w_BIG_ENDIAN w_LITTLE_ENDIAN h0 n0 _ T143.heap _
          rw [e143]
          exact ⟨rfl, N143⟩
      · obtain ⟨cq148, kq148, q148a, q148b, q148c⟩ := isOf hZ rfl u136_0
        obtain ⟨_, _, ⟨T148, L148, k148, n148⟩, -, X148, ⟨Lc148, hQ148, l148, y148, z148⟩, st148⟩ := X136.virtualBack hx (y := (⟨"com/example/bindery/bindery/ByteReader", "atEnd", "()Z"⟩ : MethodName)) (z := (⟨"com/example/bindery/bindery/ByteReader", "atEnd", "()Z"⟩ : MethodName)) hown (mvT hZ (hw _ (List.mem_of_getElem? (i := 32) rfl))) (mvT hZ (hw _ (List.mem_of_getElem? (i := 33) rfl))) (notFace_of_selects (args := #[]) (mvT hZ (hw _ (List.mem_of_getElem? (i := 35) rfl)))) (mvT hZ (hw _ (List.mem_of_getElem? (i := 35) rfl))) (mvT hZ (hw _ (List.mem_of_getElem? (i := 34) rfl))) (by decide) (backOf (W := 0) (rm_atEnd_10 l Z a0 hw [] b3 b2 nn (((0 : Int32) + kk1) + kk2) k2 T136.heap n0 O136 u136_1 u136_4 V_b2 (fun q => h3 ((congrArg (· + kk2) (Int32.zero_add kk1)).symm.trans q)) ) hZ (hw _ (List.mem_of_getElem? (i := 36) rfl)) (hw _ (List.mem_of_getElem? (i := 3) rfl)) (by decide) (by decide)) q148a q148c (g := (mkF m 80 #[.val (.int p0), .val (.int p1), .val (.int p2), .val (.int nn), .val (.ref b2), .val (.ref b3), .val (.int (0 : Int32)), .val (.int kk1), .val (.int (0 : Int32)), .val (.int kk2), .unset] [(.ref b3)])) rfl (by rw [hml]; rfl) (Steps.refl _) (argsL := []) (rest := []) (lenOf pd___Z rfl) rfl (by show 2 * 0 + _ ≤ _; exact Nat.le_of_eq rfl) (hb hby at_80) (fun _ _ => ⟨rfl, rfl, (by decide : 8 + 0 ≤ _), (by decide : 84 + 0 ≤ _)⟩)
        dsimp only [Pt.U, Pt.locs, Pt.cells, Pt.slots] at X148 l148 y148 z148 st148 hQ148
        subst l148 y148 z148
        obtain ⟨rfl, N148q, e148⟩ := hQ148
        have N148 := Fr.app N136 N148q
        have pre152 : ∀ t, Steps p.tables e below (T148.setTop (mkF m 139 #[.val (.int p0), .val (.int p1), .val (.int p2), .val (.int nn), .val (.ref b2), .val (.ref b3), .val (.int (0 : Int32)), .val (.int kk1), .val (.int (0 : Int32)), .val (.int kk2), .val (.int (0 : Int32))] [(.int (1 : Int32))])) t → Steps p.tables e below (s₁.setTop (entryFrame m #[(.int p0), (.int p1), (.int p2)] maxLocals)) t := by
          intro t kt
          refine pre142 t ?_
          show Steps p.tables e below (T136.setTop (mkF m 80 #[.val (.int p0), .val (.int p1), .val (.int p2), .val (.int nn), .val (.ref b2), .val (.ref b3), .val (.int (0 : Int32)), .val (.int kk1), .val (.int (0 : Int32)), .val (.int kk2), .unset] [(.ref b3)])) _
          refine st148.trans ?_
          show Steps p.tables e below (T148.setTop (mkF m 83 #[.val (.int p0), .val (.int p1), .val (.int p2), .val (.int nn), .val (.ref b2), .val (.ref b3), .val (.int (0 : Int32)), .val (.int kk1), .val (.int (0 : Int32)), .val (.int kk2), .unset] [(.int (0 : Int32))])) _
          refine XS.istore X148.here hx rfl (hb hby at_83) rfl (l' := #[.val (.int p0), .val (.int p1), .val (.int p2), .val (.int nn), .val (.ref b2), .val (.ref b3), .val (.int (0 : Int32)), .val (.int kk1), .val (.int (0 : Int32)), .val (.int kk2), .val (.int (0 : Int32))]) rfl ?_
          show Steps p.tables e below (T148.setTop (mkF m 85 #[.val (.int p0), .val (.int p1), .val (.int p2), .val (.int nn), .val (.ref b2), .val (.ref b3), .val (.int (0 : Int32)), .val (.int kk1), .val (.int (0 : Int32)), .val (.int kk2), .val (.int (0 : Int32))] [])) _
          refine XS.iload X148.here hx rfl (hb hby at_85) rfl ?_
          show Steps p.tables e below (T148.setTop (mkF m 87 #[.val (.int p0), .val (.int p1), .val (.int p2), .val (.int nn), .val (.ref b2), .val (.ref b3), .val (.int (0 : Int32)), .val (.int kk1), .val (.int (0 : Int32)), .val (.int kk2), .val (.int (0 : Int32))] [(.int (0 : Int32))])) _
          refine XS.iloadN X148.here hx rfl (hb hby at_87) rfl ?_
          show Steps p.tables e below (T148.setTop (mkF m 88 #[.val (.int p0), .val (.int p1), .val (.int p2), .val (.int nn), .val (.ref b2), .val (.ref b3), .val (.int (0 : Int32)), .val (.int kk1), .val (.int (0 : Int32)), .val (.int kk2), .val (.int (0 : Int32))] [(.int nn), (.int (0 : Int32))])) _
          refine XS.ifYes X148.here hx rfl (pc0 := 88) (pc' := 95) rfl (hb hby at_88) rfl ((if0 _ _).trans (feq (fun q => h1 q)).2) (by decide) (by decide) ?_
          show Steps p.tables e below (T148.setTop (mkF m 95 #[.val (.int p0), .val (.int p1), .val (.int p2), .val (.int nn), .val (.ref b2), .val (.ref b3), .val (.int (0 : Int32)), .val (.int kk1), .val (.int (0 : Int32)), .val (.int kk2), .val (.int (0 : Int32))] [(.int (0 : Int32))])) _
          refine XS.iconst X148.here hx rfl (hb hby at_95) ?_
          show Steps p.tables e below (T148.setTop (mkF m 96 #[.val (.int p0), .val (.int p1), .val (.int p2), .val (.int nn), .val (.ref b2), .val (.ref b3), .val (.int (0 : Int32)), .val (.int kk1), .val (.int (0 : Int32)), .val (.int kk2), .val (.int (0 : Int32))] [(.int (0 : Int32)), (.int (0 : Int32))])) _
          refine XS.icmpNo X148.here hx rfl (hb hby at_96) rfl (teq (by decide : (0 : Int32) = (0 : Int32))).2 ?_
          show Steps p.tables e below (T148.setTop (mkF m 99 #[.val (.int p0), .val (.int p1), .val (.int p2), .val (.int nn), .val (.ref b2), .val (.ref b3), .val (.int (0 : Int32)), .val (.int kk1), .val (.int (0 : Int32)), .val (.int kk2), .val (.int (0 : Int32))] [])) _
          refine XS.iload X148.here hx rfl (hb hby at_99) rfl ?_
          show Steps p.tables e below (T148.setTop (mkF m 101 #[.val (.int p0), .val (.int p1), .val (.int p2), .val (.int nn), .val (.ref b2), .val (.ref b3), .val (.int (0 : Int32)), .val (.int kk1), .val (.int (0 : Int32)), .val (.int kk2), .val (.int (0 : Int32))] [(.int (0 : Int32))])) _
          refine XS.iload X148.here hx rfl (hb hby at_101) rfl ?_
          show Steps p.tables e below (T148.setTop (mkF m 103 #[.val (.int p0), .val (.int p1), .val (.int p2), .val (.int nn), .val (.ref b2), .val (.ref b3), .val (.int (0 : Int32)), .val (.int kk1), .val (.int (0 : Int32)), .val (.int kk2), .val (.int (0 : Int32))] [(.int kk1), (.int (0 : Int32))])) _
          refine XS.iloadN X148.here hx rfl (hb hby at_103) rfl ?_
          show Steps p.tables e below (T148.setTop (mkF m 104 #[.val (.int p0), .val (.int p1), .val (.int p2), .val (.int nn), .val (.ref b2), .val (.ref b3), .val (.int (0 : Int32)), .val (.int kk1), .val (.int (0 : Int32)), .val (.int kk2), .val (.int (0 : Int32))] [(.int nn), (.int kk1), (.int (0 : Int32))])) _
          refine XS.icmpYes X148.here hx rfl (pc0 := 104) (pc' := 111) rfl (hb hby at_104) rfl (feq (fun q => h2 q)).2 (by decide) (by decide) ?_
          show Steps p.tables e below (T148.setTop (mkF m 111 #[.val (.int p0), .val (.int p1), .val (.int p2), .val (.int nn), .val (.ref b2), .val (.ref b3), .val (.int (0 : Int32)), .val (.int kk1), .val (.int (0 : Int32)), .val (.int kk2), .val (.int (0 : Int32))] [(.int (0 : Int32))])) _
          refine XS.iconst X148.here hx rfl (hb hby at_111) ?_
          show Steps p.tables e below (T148.setTop (mkF m 112 #[.val (.int p0), .val (.int p1), .val (.int p2), .val (.int nn), .val (.ref b2), .val (.ref b3), .val (.int (0 : Int32)), .val (.int kk1), .val (.int (0 : Int32)), .val (.int kk2), .val (.int (0 : Int32))] [(.int (0 : Int32)), (.int (0 : Int32))])) _
          refine XS.icmpNo X148.here hx rfl (hb hby at_112) rfl (teq (by decide : (0 : Int32) = (0 : Int32))).2 ?_
          show Steps p.tables e below (T148.setTop (mkF m 115 #[.val (.int p0), .val (.int p1), .val (.int p2), .val (.int nn), .val (.ref b2), .val (.ref b3), .val (.int (0 : Int32)), .val (.int kk1), .val (.int (0 : Int32)), .val (.int kk2), .val (.int (0 : Int32))] [])) _
          refine XS.iload X148.here hx rfl (hb hby at_115) rfl ?_
          show Steps p.tables e below (T148.setTop (mkF m 117 #[.val (.int p0), .val (.int p1), .val (.int p2), .val (.int nn), .val (.ref b2), .val (.ref b3), .val (.int (0 : Int32)), .val (.int kk1), .val (.int (0 : Int32)), .val (.int kk2), .val (.int (0 : Int32))] [(.int (0 : Int32))])) _
          refine XS.iload X148.here hx rfl (hb hby at_117) rfl ?_
          show Steps p.tables e below (T148.setTop (mkF m 119 #[.val (.int p0), .val (.int p1), .val (.int p2), .val (.int nn), .val (.ref b2), .val (.ref b3), .val (.int (0 : Int32)), .val (.int kk1), .val (.int (0 : Int32)), .val (.int kk2), .val (.int (0 : Int32))] [(.int kk1), (.int (0 : Int32))])) _
          refine XS.iload X148.here hx rfl (hb hby at_119) rfl ?_
          show Steps p.tables e below (T148.setTop (mkF m 121 #[.val (.int p0), .val (.int p1), .val (.int p2), .val (.int nn), .val (.ref b2), .val (.ref b3), .val (.int (0 : Int32)), .val (.int kk1), .val (.int (0 : Int32)), .val (.int kk2), .val (.int (0 : Int32))] [(.int kk2), (.int kk1), (.int (0 : Int32))])) _
          refine XS.iadd X148.here hx rfl (hb hby at_121) rfl ?_
          show Steps p.tables e below (T148.setTop (mkF m 122 #[.val (.int p0), .val (.int p1), .val (.int p2), .val (.int nn), .val (.ref b2), .val (.ref b3), .val (.int (0 : Int32)), .val (.int kk1), .val (.int (0 : Int32)), .val (.int kk2), .val (.int (0 : Int32))] [(.int (kk1 + kk2)), (.int (0 : Int32))])) _
          refine XS.iloadN X148.here hx rfl (hb hby at_122) rfl ?_
          show Steps p.tables e below (T148.setTop (mkF m 123 #[.val (.int p0), .val (.int p1), .val (.int p2), .val (.int nn), .val (.ref b2), .val (.ref b3), .val (.int (0 : Int32)), .val (.int kk1), .val (.int (0 : Int32)), .val (.int kk2), .val (.int (0 : Int32))] [(.int nn), (.int (kk1 + kk2)), (.int (0 : Int32))])) _
          refine XS.icmpYes X148.here hx rfl (pc0 := 123) (pc' := 130) rfl (hb hby at_123) rfl (feq (fun q => h3 q)).2 (by decide) (by decide) ?_
          show Steps p.tables e below (T148.setTop (mkF m 130 #[.val (.int p0), .val (.int p1), .val (.int p2), .val (.int nn), .val (.ref b2), .val (.ref b3), .val (.int (0 : Int32)), .val (.int kk1), .val (.int (0 : Int32)), .val (.int kk2), .val (.int (0 : Int32))] [(.int (0 : Int32))])) _
          refine XS.iconst X148.here hx rfl (hb hby at_130) ?_
          show Steps p.tables e below (T148.setTop (mkF m 131 #[.val (.int p0), .val (.int p1), .val (.int p2), .val (.int nn), .val (.ref b2), .val (.ref b3), .val (.int (0 : Int32)), .val (.int kk1), .val (.int (0 : Int32)), .val (.int kk2), .val (.int (0 : Int32))] [(.int (0 : Int32)), (.int (0 : Int32))])) _
          refine XS.icmpNo X148.here hx rfl (hb hby at_131) rfl (teq (by decide : (0 : Int32) = (0 : Int32))).2 ?_
          show Steps p.tables e below (T148.setTop (mkF m 134 #[.val (.int p0), .val (.int p1), .val (.int p2), .val (.int nn), .val (.ref b2), .val (.ref b3), .val (.int (0 : Int32)), .val (.int kk1), .val (.int (0 : Int32)), .val (.int kk2), .val (.int (0 : Int32))] [])) _
          refine XS.iconst X148.here hx rfl (hb hby at_134) ?_
          show Steps p.tables e below (T148.setTop (mkF m 135 #[.val (.int p0), .val (.int p1), .val (.int p2), .val (.int nn), .val (.ref b2), .val (.ref b3), .val (.int (0 : Int32)), .val (.int kk1), .val (.int (0 : Int32)), .val (.int kk2), .val (.int (0 : Int32))] [(.int (1 : Int32))])) _
          refine XS.goto X148.here hx rfl (pc0 := 135) (pc' := 139) rfl (hb hby at_135) (by decide) (by decide) ?_
          exact kt
        obtain ⟨fs, hr, hrun, hended, q1, q2, q3, q4⟩ := X148.leaveW hS135 (by rw [e148]; exact hk136) (v := some (.int (1 : Int32))) (fun h => by rw [Bd.returns] at h; cases h)
        refine ⟨_, _, pre152 _ ?_, hrun, hended, _, _, rfl, ?_, ⟨_, rfl⟩, q2, q3, q4.mono (by decide) (by decide)⟩
        · show Steps p.tables e below (T148.setTop (mkF m 139 #[.val (.int p0), .val (.int p1), .val (.int p2), .val (.int nn), .val (.ref b2), .val (.ref b3), .val (.int (0 : Int32)), .val (.int kk1), .val (.int (0 : Int32)), .val (.int kk2), .val (.int (0 : Int32))] [(.int (1 : Int32))])) _
          exact retN X148 hx (t := .boolean) Bd.returns (by simp) (hb hby at_139) hr
        · show Q_rm0 Z p0 p1 p2 w_BIG_ENDIAN w_LITTLE_ENDIAN h0 n0 _ T148.heap _
          rw [e148]
          exact ⟨rfl, N148⟩
set_option maxRecDepth 65536 in
set_option maxHeartbeats 40000000 in
theorem comes_1 {Post : Tables → Env → Array Value → State → Outcome → State → Prop} (hpost : ∀ tb e args s v u, (limb_1_1.after args s (.returned v) u = true ∧ limb_1_2.after args s (.returned v) u = true ∧ True) → ReturnedEndW s (.returned v) u (Jvm.fieldLocs frame_1_writes args s ++ Jvm.arrayLocs frame_1_arrays args s ++ Jvm.staticLocs frame_1_statics s) 16 2176 → Post tb e args s (.returned v) u) :
    ArmFor flags0 classFile x code maxLocals ret World_1 tables_1 room_1 Calls_1 rest_1 Pre_1 Post := by
  intro l hfl _ _ p e ha hc hk s m args below hf hA hF happ hP
  obtain ⟨hcalls, hrest, hpre⟩ := hP
  obtain ⟨-, -, -, hnamed, -, -, -, hat⟩ := (Spec.applies_iff hf).mp happ
  obtain ⟨hg, hn⟩ := and_e (Cond.before_iff.mp (show (Jvm.Cond.and given_1 narrow_1).before args s = true from hpre))
  have hw := fun d (hd : d ∈ tables_1) => atoms_spec (ws := Jvm.Cond.code x code maxLocals ret :: tables_1) hat d (List.mem_cons_of_mem _ hd)
  obtain ⟨g1, g2⟩ := and_e hg
  obtain ⟨g3, g4⟩ := and_e g2
  obtain ⟨g5, g6⟩ := and_e g4
  obtain ⟨v0, v1, v2, rfl⟩ : ∃ v0 v1 v2 : Value, args = #[v0, v1, v2] := by
    have hs : args.size = 3 := by simpa [Cond.value, given_1] using g1
    obtain ⟨L⟩ := args
    match L, hs with
    | [v0, v1, v2], _ => exact ⟨v0, v1, v2, rfl⟩
  have hfit : Fit s := fun {y c} hc i hi => by
    obtain ⟨ha, rfl⟩ := Array.getElem?_eq_some_iff.mp hc
    have q := List.all_eq_true.mp ((Array.all_eq_true_iff_forall_mem.mp hF) _ (Array.getElem_mem ha)) i (List.mem_range.mpr hi)
    simpa [Array.getElem?_eq_getElem hi] using q
  obtain ⟨i0, ei0⟩ := is_v g3
  obtain rfl : v0 = (.int i0) := Option.some.inj ei0
  obtain ⟨i1, ei1⟩ := is_v g5
  obtain rfl : v1 = (.int i1) := Option.some.inj ei1
  obtain ⟨i2, ei2⟩ := is_v g6
  obtain rfl : v2 = (.int i2) := Option.some.inj ei2
  obtain ⟨hsets, hown0⟩ := atoms_of _ (rest_1_c_eq ▸ (show rest_1_c.before _ s = true from hrest))
  obtain ⟨w_BIG_ENDIAN, ev_BIG_ENDIAN⟩ := exa_v (Cond.before_iff.mp (hsets _ (List.mem_of_getElem? (i := 2) rfl)))
  have S_BIG_ENDIAN : Sta s s.heap "java/nio/ByteOrder" "BIG_ENDIAN" "Ljava/nio/ByteOrder;" (.ref w_BIG_ENDIAN) := Sta.start ev_BIG_ENDIAN (Or.inl (hsets _ (List.mem_of_getElem? (i := 1) rfl)))
  obtain ⟨w_LITTLE_ENDIAN, ev_LITTLE_ENDIAN⟩ := exa_v (Cond.before_iff.mp (hsets _ (List.mem_of_getElem? (i := 6) rfl)))
  have S_LITTLE_ENDIAN : Sta s s.heap "java/nio/ByteOrder" "LITTLE_ENDIAN" "Ljava/nio/ByteOrder;" (.ref w_LITTLE_ENDIAN) := Sta.start ev_LITTLE_ENDIAN (Or.inl (hsets _ (List.mem_of_getElem? (i := 5) rfl)))
  obtain ⟨n, o, h1, h2, h3, _, L, rfl, ⟨rfl, N⟩, hq⟩ := rm0 l s _ hw tables_1 i0 i1 i2 w_BIG_ENDIAN w_LITTLE_ENDIAN s.heap s.heap.size (Old.start s) S_BIG_ENDIAN S_LITTLE_ENDIAN p e ha hc hk s m _ below hf ((Spec.applies_iff_loose hf).mp happ).1 ⟨rfl, State.Warmed39.refl s, rfl⟩ trivial
  refine ⟨n, _, h1, h2, h3, hpost _ _ _ _ _ _ ⟨Cond.after_iff.mpr rfl, Cond.after_iff.mpr (eq_i res_at (Term.int_eval (1)) rfl), trivial⟩ ⟨hq.1, hq.2.1, hq.2.2.1, (hq.2.2.2.sift fun y hy => Or.inr (N y hy)).mono (by decide) (by decide)⟩⟩
theorem main_1_1 : Claimed_1_1 := comes_1 fun _ _ _ _ _ _ h hF => ⟨h.1, hF⟩
theorem main_1_2 : Claimed_1_2 := comes_1 fun _ _ _ _ _ _ h hF => ⟨h.2.1, hF⟩
end Jvm.Pilot.@@N@@
namespace Jvm.Pilot.@@N@@
open Jvm Jvm.ClassFile Sem Op Lib Jvm.Free Jvm.Stand Jvm.Pilot.@@N@@.Jvm.D
/-! MADE BY PROGRAM (witnessworld.py) out of the Statement's table words and the real class files: 15 classes; the members and pool entries that the words name. The judged class is class 1, her method 1. -/
namespace start1
open Jvm.ClassFile
def u (s : String) : CpInfo := .utf8 (stringToUtf16 s)
/-- a pool by its gaps: so many unusable entries, then the entry; so many at the end -/
def gap : Nat → List CpInfo → List CpInfo
  | 0, r => r
  | n + 1, r => .unusable :: gap n r
def poolList (es : List (Nat × CpInfo)) (last : Nat) : List CpInfo := es.foldr (fun e r => gap e.1 (e.2 :: r)) (gap last [])
def pool (es : List (Nat × CpInfo)) (last : Nat) : Array CpInfo := ⟨poolList es last⟩
def fileOf (pool : Array CpInfo) (this : Nat) (attrs : Array Attribute := #[]) (ms : Array MethodInfo := #[]) (fl : Nat := 33) (sup : Nat := 0) (ifs : Array Nat := #[]) (fds : Array FieldInfo := #[]) : ClassFile where
  minorVersion := 0
  majorVersion := 65
  constantPool := pool
  accessFlags := fl
  thisClass := this
  superClass := sup
  interfaces := ifs
  fields := fds
  methods := ms
  attributes := attrs
def plain (name : String) (sup : Option ClassId) : Class where
  name := name
  kind := .ordinary
  loader := none
  accessFlags := 33
  super := sup
  interfaces := #[]
  cf := none
  fields := #[]
  methods := #[]
  instanceTypes := #[]
  staticTypes := #[]
  resolved := #[]
  callSites := []
  init := .initialized
  statics := none
  mirror := none

def pool0 : Array CpInfo := pool [(5, u "<init>"), (0, u "()V"), (1, .class_ 10), (1, u "java/lang/Object")] 113

def k0c0 : Code := { maxStack := 0, maxLocals := 1, code := object_method_1_code, exceptionTable := #[], attributes := #[] }
def k0m0 : Method := { name := "<init>", desc := "()V", sig := { parameters := [], returnType := none }, accessFlags := 1, code := some k0c0 }
/-- java/lang/Object -/
def k0 : Class := { plain "java/lang/Object" none with
  accessFlags := 33
  interfaces := #[]
  cf := some (fileOf pool0 8 #[] #[{ accessFlags := 1, nameIndex := 5, descriptorIndex := 6, attributes := #[] }] 33 0 #[] #[])
  fields := #[]
  methods := #[k0m0]
  instanceTypes := #[]
  staticTypes := #[]
  resolved := Array.replicate 124 none
  statics := none }

def pool1 : Array CpInfo := pool [(2, .class_ 4), (1, u "java/lang/Object"), (0, u "<init>"), (0, u "()V"), (0, .class_ 8), (0, u "com/example/bindery/bindery/ByteReader"), (0, .methodref 7 10), (0, .nameAndType 5 11), (0, u "([B)V"), (0, .methodref 7 13), (0, .nameAndType 14 15), (0, u "atEnd"), (0, u "()Z"), (0, .string 17), (0, u "x"), (0, .methodref 7 19), (0, .nameAndType 20 21), (0, u "take"), (0, u "(ILjava/lang/String;)I"), (0, .class_ 23), (0, u "com/example/bindery/bindery/ByteReaderAtEndPinLaw"), (2, u "law"), (0, u "(III)Z")] 8

def k1m0 : Method := { name := "<init>", desc := "()V", sig := { parameters := [], returnType := none }, accessFlags := 1, code := none }
def k1c1 : Code := { maxStack := 3, maxLocals := 11, code := code, exceptionTable := #[], attributes := #[] }
def k1m1 : Method := { name := "law", desc := "(III)Z", sig := { parameters := [.int, .int, .int], returnType := some .boolean }, accessFlags := 9, code := some k1c1 }
/-- com/example/bindery/bindery/ByteReaderAtEndPinLaw -/
def k1 : Class := { plain "com/example/bindery/bindery/ByteReaderAtEndPinLaw" (some 0) with
  accessFlags := 49
  interfaces := #[]
  cf := some (fileOf pool1 22 #[] #[{ accessFlags := 1, nameIndex := 5, descriptorIndex := 6, attributes := #[] }, { accessFlags := 9, nameIndex := 26, descriptorIndex := 27, attributes := #[] }] 49 2 #[] #[])
  fields := #[]
  methods := #[k1m0, k1m1]
  instanceTypes := #[]
  staticTypes := #[]
  resolved := Array.replicate 36 none
  statics := none }

def pool2 : Array CpInfo := pool [(1, .fieldref 2 3), (0, .class_ 4), (0, .nameAndType 5 6), (0, u "java/nio/ByteOrder"), (0, u "BIG_ENDIAN"), (0, u "Ljava/nio/ByteOrder;"), (0, .methodref 8 9), (0, .class_ 10), (0, .nameAndType 11 12), (0, u "com/example/bindery/bindery/ByteReader"), (0, u "<init>"), (0, u "([BLjava/nio/ByteOrder;)V"), (0, .string 14), (0, u "the payload"), (0, .methodref 8 16), (0, .nameAndType 11 17), (0, u "([BLjava/nio/ByteOrder;Ljava/lang/String;)V"), (0, .methodref 19 20), (0, .class_ 21), (0, .nameAndType 11 22), (0, u "java/lang/Object"), (0, u "()V"), (0, .fieldref 8 24), (0, .nameAndType 25 26), (0, u "payload"), (0, u "[B"), (0, .fieldref 2 28), (0, .nameAndType 29 6), (0, u "LITTLE_ENDIAN"), (0, .fieldref 8 31), (0, .nameAndType 32 33), (0, u "littleEndian"), (0, u "Z"), (0, .fieldref 8 35), (0, .nameAndType 36 37), (0, u "input"), (0, u "Ljava/lang/String;"), (0, .fieldref 8 39), (0, .nameAndType 40 41), (0, u "position"), (0, u "I"), (5, u "()I"), (3, u "()Z"), (10, u "INTEGER_WHAT"), (0, u "Ljava/util/Map;"), (42, u "take"), (0, u "(ILjava/lang/String;)I"), (31, u "NATIVE_LONG"), (0, u "Ljava/lang/invoke/VarHandle;"), (9, u "BIG_ENDIAN_LONG"), (8, u "FLOATING_POINT_WHAT"), (70, .methodref 8 231), (0, .nameAndType 232 47), (0, u "remaining"), (25, u "LITTLE_ENDIAN_LONG"), (29, u "utf8"), (19, u "Ljava/nio/charset/CharsetDecoder;"), (73, u "HIGH_BITS"), (0, u "J"), (1, u "LEB128_MAX_BYTES"), (1, u "U32_MAX"), (0, u "([B)V"), (4, u "atEnd")] 83

def k2c0 : Code := { maxStack := 3, maxLocals := 2, code := prog_1_method_1_code, exceptionTable := #[], attributes := #[] }
def k2m0 : Method := { name := "<init>", desc := "([B)V", sig := { parameters := [(.array .byte)], returnType := none }, accessFlags := 1, code := some k2c0 }
def k2c1 : Code := { maxStack := 4, maxLocals := 3, code := prog_1_method_2_code, exceptionTable := #[], attributes := #[] }
def k2m1 : Method := { name := "<init>", desc := "([BLjava/nio/ByteOrder;)V", sig := { parameters := [(.array .byte), (.object "java/nio/ByteOrder")], returnType := none }, accessFlags := 1, code := some k2c1 }
def k2c2 : Code := { maxStack := 3, maxLocals := 4, code := prog_1_method_3_code, exceptionTable := #[], attributes := #[] }
def k2m2 : Method := { name := "<init>", desc := "([BLjava/nio/ByteOrder;Ljava/lang/String;)V", sig := { parameters := [(.array .byte), (.object "java/nio/ByteOrder"), (.object "java/lang/String")], returnType := none }, accessFlags := 1, code := some k2c2 }
def k2c3 : Code := { maxStack := 2, maxLocals := 1, code := prog_1_method_5_code, exceptionTable := #[], attributes := #[] }
def k2m3 : Method := { name := "atEnd", desc := "()Z", sig := { parameters := [], returnType := some .boolean }, accessFlags := 1, code := some k2c3 }
def k2c4 : Code := { maxStack := 3, maxLocals := 4, code := prog_1_method_26_code, exceptionTable := #[], attributes := #[] }
def k2m4 : Method := { name := "take", desc := "(ILjava/lang/String;)I", sig := { parameters := [.int, (.object "java/lang/String")], returnType := some .int }, accessFlags := 1, code := some k2c4 }
def k2c5 : Code := { maxStack := 2, maxLocals := 1, code := prog_1_method_35_code, exceptionTable := #[], attributes := #[] }
def k2m5 : Method := { name := "remaining", desc := "()I", sig := { parameters := [], returnType := some .int }, accessFlags := 2, code := some k2c5 }
/-- com/example/bindery/bindery/ByteReader -/
def k2 : Class := { plain "com/example/bindery/bindery/ByteReader" (some 0) with
  accessFlags := 49
  interfaces := #[]
  cf := some (fileOf pool2 8 #[] #[{ accessFlags := 1, nameIndex := 11, descriptorIndex := 388, attributes := #[] }, { accessFlags := 1, nameIndex := 11, descriptorIndex := 12, attributes := #[] }, { accessFlags := 1, nameIndex := 11, descriptorIndex := 17, attributes := #[] }, { accessFlags := 1, nameIndex := 393, descriptorIndex := 51, attributes := #[] }, { accessFlags := 1, nameIndex := 106, descriptorIndex := 107, attributes := #[] }, { accessFlags := 2, nameIndex := 232, descriptorIndex := 47, attributes := #[] }] 49 19 #[] #[{ accessFlags := 26, nameIndex := 62, descriptorIndex := 63, attributes := #[] }, { accessFlags := 26, nameIndex := 159, descriptorIndex := 63, attributes := #[] }, { accessFlags := 26, nameIndex := 150, descriptorIndex := 140, attributes := #[] }, { accessFlags := 26, nameIndex := 258, descriptorIndex := 140, attributes := #[] }, { accessFlags := 26, nameIndex := 139, descriptorIndex := 140, attributes := #[] }, { accessFlags := 26, nameIndex := 382, descriptorIndex := 383, attributes := #[] }, { accessFlags := 26, nameIndex := 385, descriptorIndex := 41, attributes := #[] }, { accessFlags := 26, nameIndex := 387, descriptorIndex := 383, attributes := #[] }, { accessFlags := 18, nameIndex := 25, descriptorIndex := 26, attributes := #[] }, { accessFlags := 18, nameIndex := 32, descriptorIndex := 33, attributes := #[] }, { accessFlags := 18, nameIndex := 36, descriptorIndex := 37, attributes := #[] }, { accessFlags := 2, nameIndex := 40, descriptorIndex := 41, attributes := #[] }, { accessFlags := 2, nameIndex := 288, descriptorIndex := 308, attributes := #[] }])
  fields := #[{ name := "INTEGER_WHAT", type := (.object "java/util/Map"), accessFlags := 26, slot := 0, constantValue := 0 }, { name := "FLOATING_POINT_WHAT", type := (.object "java/util/Map"), accessFlags := 26, slot := 1, constantValue := 0 }, { name := "BIG_ENDIAN_LONG", type := (.object "java/lang/invoke/VarHandle"), accessFlags := 26, slot := 2, constantValue := 0 }, { name := "LITTLE_ENDIAN_LONG", type := (.object "java/lang/invoke/VarHandle"), accessFlags := 26, slot := 3, constantValue := 0 }, { name := "NATIVE_LONG", type := (.object "java/lang/invoke/VarHandle"), accessFlags := 26, slot := 4, constantValue := 0 }, { name := "HIGH_BITS", type := .long, accessFlags := 26, slot := 5, constantValue := 0 }, { name := "LEB128_MAX_BYTES", type := .int, accessFlags := 26, slot := 6, constantValue := 0 }, { name := "U32_MAX", type := .long, accessFlags := 26, slot := 7, constantValue := 0 }, { name := "payload", type := (.array .byte), accessFlags := 18, slot := 0, constantValue := 0 }, { name := "littleEndian", type := .boolean, accessFlags := 18, slot := 1, constantValue := 0 }, { name := "input", type := (.object "java/lang/String"), accessFlags := 18, slot := 2, constantValue := 0 }, { name := "position", type := .int, accessFlags := 2, slot := 3, constantValue := 0 }, { name := "utf8", type := (.object "java/nio/charset/CharsetDecoder"), accessFlags := 2, slot := 4, constantValue := 0 }]
  methods := #[k2m0, k2m1, k2m2, k2m3, k2m4, k2m5]
  instanceTypes := #[(.array .byte), .boolean, (.object "java/lang/String"), .int, (.object "java/nio/charset/CharsetDecoder")]
  staticTypes := #[(.object "java/util/Map"), (.object "java/util/Map"), (.object "java/lang/invoke/VarHandle"), (.object "java/lang/invoke/VarHandle"), (.object "java/lang/invoke/VarHandle"), .long, .int, .long]
  resolved := Array.replicate 477 none
  statics := none }

def pool3 : Array CpInfo := pool [(2, .class_ 4), (1, u "java/lang/Object"), (3, .class_ 10), (1, u "java/nio/ByteOrder"), (0, u "name"), (0, u "Ljava/lang/String;"), (2, u "NATIVE_ORDER"), (0, u "Ljava/nio/ByteOrder;"), (1, u "BIG_ENDIAN"), (6, u "LITTLE_ENDIAN")] 24

/-- java/nio/ByteOrder -/
def k3 : Class := { plain "java/nio/ByteOrder" (some 0) with
  accessFlags := 49
  interfaces := #[]
  cf := some (fileOf pool3 8 #[] #[] 49 2 #[] #[{ accessFlags := 18, nameIndex := 11, descriptorIndex := 12, attributes := #[] }, { accessFlags := 25, nameIndex := 18, descriptorIndex := 16, attributes := #[] }, { accessFlags := 25, nameIndex := 25, descriptorIndex := 16, attributes := #[] }, { accessFlags := 26, nameIndex := 15, descriptorIndex := 16, attributes := #[] }])
  fields := #[{ name := "name", type := (.object "java/lang/String"), accessFlags := 18, slot := 0, constantValue := 0 }, { name := "BIG_ENDIAN", type := (.object "java/nio/ByteOrder"), accessFlags := 25, slot := 0, constantValue := 0 }, { name := "LITTLE_ENDIAN", type := (.object "java/nio/ByteOrder"), accessFlags := 25, slot := 1, constantValue := 0 }, { name := "NATIVE_ORDER", type := (.object "java/nio/ByteOrder"), accessFlags := 26, slot := 2, constantValue := 0 }]
  methods := #[]
  instanceTypes := #[(.object "java/lang/String")]
  staticTypes := #[(.object "java/nio/ByteOrder"), (.object "java/nio/ByteOrder"), (.object "java/nio/ByteOrder")]
  resolved := Array.replicate 50 none
  statics := some 0 }

def pool4 : Array CpInfo := pool [(1, .class_ 2), (0, u "java/io/Serializable"), (0, .class_ 4), (0, u "java/lang/Object")] 2

/-- java/io/Serializable -/
def k4 : Class := { plain "java/io/Serializable" (some 0) with
  accessFlags := 1537
  interfaces := #[]
  cf := some (fileOf pool4 1 #[] #[] 1537 3 #[] #[])
  fields := #[]
  methods := #[]
  instanceTypes := #[]
  staticTypes := #[]
  resolved := Array.replicate 7 none
  statics := none }

def pool5 : Array CpInfo := pool [(1, .class_ 2), (0, u "java/lang/Comparable"), (0, .class_ 4), (0, u "java/lang/Object")] 7

/-- java/lang/Comparable -/
def k5 : Class := { plain "java/lang/Comparable" (some 0) with
  accessFlags := 1537
  interfaces := #[]
  cf := some (fileOf pool5 1 #[] #[] 1537 3 #[] #[])
  fields := #[]
  methods := #[]
  instanceTypes := #[]
  staticTypes := #[]
  resolved := Array.replicate 12 none
  statics := none }

def pool6 : Array CpInfo := pool [(2, .class_ 4), (1, u "java/lang/CharSequence"), (42, .class_ 48), (0, u "java/lang/CharSequence$1CodePointIterator"), (10, .class_ 60), (0, u "java/lang/CharSequence$1CharIterator"), (5, .class_ 67), (0, u "java/lang/Object")] 63

/-- java/lang/CharSequence -/
def k6 : Class := { plain "java/lang/CharSequence" (some 0) with
  accessFlags := 1537
  interfaces := #[]
  cf := some (fileOf pool6 2 #[.nestMembers #[47, 59]] #[] 1537 66 #[] #[])
  fields := #[]
  methods := #[]
  instanceTypes := #[]
  staticTypes := #[]
  resolved := Array.replicate 131 none
  statics := none }

def pool7 : Array CpInfo := pool [(1, .class_ 2), (0, u "java/lang/constant/Constable"), (0, .class_ 4), (0, u "java/lang/Object")] 6

/-- java/lang/constant/Constable -/
def k7 : Class := { plain "java/lang/constant/Constable" (some 0) with
  accessFlags := 1537
  interfaces := #[]
  cf := some (fileOf pool7 1 #[] #[] 1537 3 #[] #[])
  fields := #[]
  methods := #[]
  instanceTypes := #[]
  staticTypes := #[]
  resolved := Array.replicate 11 none
  statics := none }

def pool8 : Array CpInfo := pool [(1, .class_ 2), (0, u "java/lang/constant/ConstantDesc"), (0, .class_ 4), (0, u "java/lang/Object")] 32

/-- java/lang/constant/ConstantDesc -/
def k8 : Class := { plain "java/lang/constant/ConstantDesc" (some 0) with
  accessFlags := 1537
  interfaces := #[]
  cf := some (fileOf pool8 1 #[] #[] 1537 3 #[] #[])
  fields := #[]
  methods := #[]
  instanceTypes := #[]
  staticTypes := #[]
  resolved := Array.replicate 37 none
  statics := none }

def pool9 : Array CpInfo := pool [(2, .class_ 4), (1, u "java/lang/Object"), (0, u "<init>"), (0, u "()V"), (3, .class_ 12), (1, u "java/lang/String"), (0, u "value"), (0, u "[B"), (2, u "coder"), (0, u "B"), (2, u "hash"), (0, u "I"), (2, u "hashIsZero"), (0, u "Z"), (13, u "COMPACT_STRINGS"), (534, .class_ 576), (0, u "java/lang/CharSequence"), (22, u "CASE_INSENSITIVE_ORDER"), (0, u "Ljava/util/Comparator;"), (500, u "serialPersistentFields"), (0, u "[Ljava/io/ObjectStreamField;"), (0, .class_ 1104), (0, u "java/lang/String$CaseInsensitiveComparator"), (1, .class_ 1107), (0, u "java/io/Serializable"), (0, .class_ 1109), (0, u "java/lang/Comparable"), (0, .class_ 1111), (0, u "java/lang/constant/Constable"), (0, .class_ 1113), (0, u "java/lang/constant/ConstantDesc"), (2, u "serialVersionUID"), (0, u "J"), (3, u "REPL"), (0, u "C"), (2, u "LATIN1"), (1, u "UTF16")] 323

def k9m0 : Method := { name := "<init>", desc := "()V", sig := { parameters := [], returnType := none }, accessFlags := 1, code := none }
/-- java/lang/String -/
def k9 : Class := { plain "java/lang/String" (some 0) with
  accessFlags := 49
  interfaces := #[4, 5, 6, 7, 8]
  cf := some (fileOf pool9 10 #[.nestMembers #[1103]] #[{ accessFlags := 1, nameIndex := 5, descriptorIndex := 6, attributes := #[] }] 49 2 #[1106, 1108, 575, 1110, 1112] #[{ accessFlags := 18, nameIndex := 13, descriptorIndex := 14, attributes := #[] }, { accessFlags := 18, nameIndex := 17, descriptorIndex := 18, attributes := #[] }, { accessFlags := 2, nameIndex := 21, descriptorIndex := 22, attributes := #[] }, { accessFlags := 2, nameIndex := 25, descriptorIndex := 26, attributes := #[] }, { accessFlags := 26, nameIndex := 1116, descriptorIndex := 1117, attributes := #[] }, { accessFlags := 24, nameIndex := 40, descriptorIndex := 26, attributes := #[] }, { accessFlags := 26, nameIndex := 1101, descriptorIndex := 1102, attributes := #[] }, { accessFlags := 26, nameIndex := 1121, descriptorIndex := 1122, attributes := #[] }, { accessFlags := 25, nameIndex := 599, descriptorIndex := 600, attributes := #[] }, { accessFlags := 24, nameIndex := 1125, descriptorIndex := 18, attributes := #[] }, { accessFlags := 24, nameIndex := 1127, descriptorIndex := 18, attributes := #[] }])
  fields := #[{ name := "value", type := (.array .byte), accessFlags := 18, slot := 0, constantValue := 0 }, { name := "coder", type := .byte, accessFlags := 18, slot := 1, constantValue := 0 }, { name := "hash", type := .int, accessFlags := 2, slot := 2, constantValue := 0 }, { name := "hashIsZero", type := .boolean, accessFlags := 2, slot := 3, constantValue := 0 }, { name := "serialVersionUID", type := .long, accessFlags := 26, slot := 0, constantValue := 0 }, { name := "COMPACT_STRINGS", type := .boolean, accessFlags := 24, slot := 1, constantValue := 0 }, { name := "serialPersistentFields", type := (.array (.object "java/io/ObjectStreamField")), accessFlags := 26, slot := 2, constantValue := 0 }, { name := "REPL", type := .char, accessFlags := 26, slot := 3, constantValue := 0 }, { name := "CASE_INSENSITIVE_ORDER", type := (.object "java/util/Comparator"), accessFlags := 25, slot := 4, constantValue := 0 }, { name := "LATIN1", type := .byte, accessFlags := 24, slot := 5, constantValue := 0 }, { name := "UTF16", type := .byte, accessFlags := 24, slot := 6, constantValue := 0 }]
  methods := #[k9m0]
  instanceTypes := #[(.array .byte), .byte, .int, .boolean]
  staticTypes := #[.long, .boolean, (.array (.object "java/io/ObjectStreamField")), .char, (.object "java/util/Comparator"), .byte, .byte]
  resolved := Array.replicate 1451 none
  statics := none }

def pool10 : Array CpInfo := pool [(1, u "java/lang/Cloneable"), (0, .class_ 1), (0, u "java/lang/Object"), (0, .class_ 3)] 3

/-- java/lang/Cloneable -/
def k10 : Class := { plain "java/lang/Cloneable" (some 0) with
  accessFlags := 1537
  interfaces := #[]
  cf := some (fileOf pool10 2 #[] #[] 1537 4 #[] #[])
  fields := #[]
  methods := #[]
  instanceTypes := #[]
  staticTypes := #[]
  resolved := Array.replicate 8 none
  statics := none }

/-- the primitive byte -/
def k11 : Class := { plain "byte" none with kind := .primitive 'B', accessFlags := 0x411 }
/-- [B -/
def k12 : Class := { plain "[B" (some 0) with kind := .array 11 .byte, interfaces := #[10, 4], accessFlags := 1041 }

/-- the primitive int -/
def k13 : Class := { plain "int" none with kind := .primitive 'I', accessFlags := 0x411 }
/-- [I -/
def k14 : Class := { plain "[I" (some 0) with kind := .array 13 .int, interfaces := #[10, 4], accessFlags := 1041 }

def heap : Heap := #[{ cls := 3, slots := #[.ref 2, .ref 3, .null], vm := .statics 3 },
  { cls := 9, slots := #[.null, .int 0, .int 0, .int 0], vm := .none },
  { cls := 3, slots := #[.ref 1], vm := .none },
  { cls := 3, slots := #[.ref 1], vm := .none }]
def classes : Array Class := #[k0, k1, k2, k3, k4, k5, k6, k7, k8, k9, k10, k11, k12, k13, k14]
def interned : List (Array UInt16 × Addr) := []
def slotsUsed : Nat := 9
def theMethod : MethodId := ⟨1, 1⟩
def args0 : Array Value := #[.int 5, .int 7, .int 3]
def aboutOver (below : List Frame) : State where
  vm := { classes := classes, interned := interned.toArray }
  heap := heap
  slotsUsed := slotsUsed
  threads := #[{ frames := .invoking theMethod args0 :: below }]
def below0 : List Frame := [.native { method := ⟨0, 0⟩, args := #[] }]
def about1 : State := aboutOver below0
def p0 : Program := .bare "" "" ""
def e0 : Env := launch0.env 0 0 0
theorem w_frames : about1.frames = Frame.invoking theMethod args0 :: below0 := rfl
set_option maxRecDepth 65536 in
theorem w_args : argsFit about1.vm theMethod args0 = true := by decide +kernel
set_option maxRecDepth 65536 in
theorem w_heap : heapFits about1 = true := by decide +kernel
set_option maxRecDepth 65536 in
theorem w_runnable : about1.curStatus? = some .runnable := by decide +kernel
set_option maxRecDepth 65536 in
theorem w_alone : about1.alone = true := by decide +kernel
set_option maxRecDepth 65536 in
theorem w_named : about1.methodNamed? x = some theMethod := by decide +kernel
set_option maxRecDepth 65536 in
theorem w_hears : about1.hears theMethod below0 = true := by decide +kernel
set_option maxRecDepth 65536 in
theorem w_ripe : about1.ripe theMethod args0 below0 = true := by decide +kernel
theorem w_running : about1.status = .running := rfl
set_option maxRecDepth 65536 in
theorem w_room : about1.hasRoom e0.platform room_1 = true :=
  launch0.hasRoom_least _ room_1 (by decide +kernel) (by decide +kernel) (by decide +kernel) (by decide +kernel) (by decide +kernel) (by decide +kernel)
theorem allAtoms_all (ts : List Jvm.Cond) (a : Array Jvm.Value) (st : Jvm.State) : (allAtoms ts).before a st = ts.all (fun c => c.before a st) := by
  induction ts with
  | nil => rfl
  | cons c t ih =>
    show (Jvm.Cond.and c (allAtoms t)).before a st = _
    rw [Jvm.Cond.before_and, ih, List.all_cons]
def words1 : List Jvm.Cond := Jvm.Cond.code x code maxLocals ret :: tables_1
/-- a 'code' word, met by the world's own term for the bytes: nothing is compared byte by byte -/
theorem code_word {y : MethodName} {bytes : ByteArray} {mx : Nat} {rt : Option FieldType} {a : Array Value} {s : State} {m : MethodId} {meth : Method} {c : Code} (h1 : s.methodNamed? y = some m) (h2 : s.vm.method? m = some meth) (h3 : meth.code = some c) (h4 : c.code = bytes)
    (h5 : (c.maxLocals == mx && c.exceptionTable.isEmpty && decide (c.maxStack ≤ mostOperands) && decide (meth.sig.returnType = rt) && !meth.locks && decide (parseMethodDescriptor y.desc = some meth.sig)) = true) : (Jvm.Cond.code y bytes mx rt).before a s = true := by
  simp only [Bool.and_eq_true, beq_iff_eq, Bool.not_eq_true', decide_eq_true_eq] at h5
  obtain ⟨⟨⟨⟨⟨g1, g2⟩, g3⟩, g4⟩, g5⟩, g6⟩ := h5
  simp [Cond.before, Cond.holds, Cond.value, h1, h2, h3, h4, g1, g2, g3, g4, g5, g6]
def isCode : Jvm.Cond → Bool
  | .code _ _ _ _ => true
  | _ => false
theorem all_split {L : List Jvm.Cond} {P : Jvm.Cond → Bool} (h1 : L.all (fun c => isCode c || P c) = true) (h2 : ∀ c ∈ L.filter isCode, P c = true) : L.all P = true := by
  refine List.all_eq_true.mpr fun c hc => ?_
  have h := List.all_eq_true.mp h1 c hc
  rcases Bool.eq_false_or_eq_true (isCode c) with hi | hi
  · exact h2 c (List.mem_filter.mpr ⟨hc, hi⟩)
  · simpa [hi] using h
set_option maxRecDepth 65536 in
theorem w_c0 : (Jvm.Cond.code x code maxLocals ret).before args0 about1 = true := code_word (m := ⟨1, 1⟩) (meth := k1m1) (c := k1c1) (by decide +kernel) rfl rfl rfl (by decide +kernel)
set_option maxRecDepth 65536 in
theorem w_c1 : (Jvm.Cond.code ({ cls := "com/example/bindery/bindery/ByteReader", name := "<init>", desc := "([B)V" } : Jvm.MethodName) prog_1_method_1_code (2 : Nat) (Option.none : Option Jvm.ClassFile.FieldType)).before args0 about1 = true := code_word (m := ⟨2, 0⟩) (meth := k2m0) (c := k2c0) (by decide +kernel) rfl rfl rfl (by decide +kernel)
set_option maxRecDepth 65536 in
theorem w_c2 : (Jvm.Cond.code ({ cls := "com/example/bindery/bindery/ByteReader", name := "<init>", desc := "([BLjava/nio/ByteOrder;)V" } : Jvm.MethodName) prog_1_method_2_code (3 : Nat) (Option.none : Option Jvm.ClassFile.FieldType)).before args0 about1 = true := code_word (m := ⟨2, 1⟩) (meth := k2m1) (c := k2c1) (by decide +kernel) rfl rfl rfl (by decide +kernel)
set_option maxRecDepth 65536 in
theorem w_c3 : (Jvm.Cond.code ({ cls := "com/example/bindery/bindery/ByteReader", name := "<init>", desc := "([BLjava/nio/ByteOrder;Ljava/lang/String;)V" } : Jvm.MethodName) prog_1_method_3_code (4 : Nat) (Option.none : Option Jvm.ClassFile.FieldType)).before args0 about1 = true := code_word (m := ⟨2, 2⟩) (meth := k2m2) (c := k2c2) (by decide +kernel) rfl rfl rfl (by decide +kernel)
set_option maxRecDepth 65536 in
theorem w_c4 : (Jvm.Cond.code ({ cls := "java/lang/Object", name := "<init>", desc := "()V" } : Jvm.MethodName) object_method_1_code (1 : Nat) (Option.none : Option Jvm.ClassFile.FieldType)).before args0 about1 = true := code_word (m := ⟨0, 0⟩) (meth := k0m0) (c := k0c0) (by decide +kernel) rfl rfl rfl (by decide +kernel)
set_option maxRecDepth 65536 in
theorem w_c5 : (Jvm.Cond.code ({ cls := "com/example/bindery/bindery/ByteReader", name := "atEnd", desc := "()Z" } : Jvm.MethodName) prog_1_method_5_code (1 : Nat) (Option.some Jvm.ClassFile.FieldType.boolean)).before args0 about1 = true := code_word (m := ⟨2, 3⟩) (meth := k2m3) (c := k2c3) (by decide +kernel) rfl rfl rfl (by decide +kernel)
set_option maxRecDepth 65536 in
theorem w_c6 : (Jvm.Cond.code ({ cls := "com/example/bindery/bindery/ByteReader", name := "take", desc := "(ILjava/lang/String;)I" } : Jvm.MethodName) prog_1_method_26_code (4 : Nat) (Option.some Jvm.ClassFile.FieldType.int)).before args0 about1 = true := code_word (m := ⟨2, 4⟩) (meth := k2m4) (c := k2c4) (by decide +kernel) rfl rfl rfl (by decide +kernel)
set_option maxRecDepth 65536 in
theorem w_c7 : (Jvm.Cond.code ({ cls := "com/example/bindery/bindery/ByteReader", name := "remaining", desc := "()I" } : Jvm.MethodName) prog_1_method_35_code (1 : Nat) (Option.some Jvm.ClassFile.FieldType.int)).before args0 about1 = true := code_word (m := ⟨2, 5⟩) (meth := k2m5) (c := k2c5) (by decide +kernel) rfl rfl rfl (by decide +kernel)
def codes1 : List Jvm.Cond := [Jvm.Cond.code x code maxLocals ret, Jvm.Cond.code ({ cls := "com/example/bindery/bindery/ByteReader", name := "<init>", desc := "([B)V" } : Jvm.MethodName) prog_1_method_1_code (2 : Nat) (Option.none : Option Jvm.ClassFile.FieldType), Jvm.Cond.code ({ cls := "com/example/bindery/bindery/ByteReader", name := "<init>", desc := "([BLjava/nio/ByteOrder;)V" } : Jvm.MethodName) prog_1_method_2_code (3 : Nat) (Option.none : Option Jvm.ClassFile.FieldType), Jvm.Cond.code ({ cls := "com/example/bindery/bindery/ByteReader", name := "<init>", desc := "([BLjava/nio/ByteOrder;Ljava/lang/String;)V" } : Jvm.MethodName) prog_1_method_3_code (4 : Nat) (Option.none : Option Jvm.ClassFile.FieldType), Jvm.Cond.code ({ cls := "java/lang/Object", name := "<init>", desc := "()V" } : Jvm.MethodName) object_method_1_code (1 : Nat) (Option.none : Option Jvm.ClassFile.FieldType), Jvm.Cond.code ({ cls := "com/example/bindery/bindery/ByteReader", name := "atEnd", desc := "()Z" } : Jvm.MethodName) prog_1_method_5_code (1 : Nat) (Option.some Jvm.ClassFile.FieldType.boolean), Jvm.Cond.code ({ cls := "com/example/bindery/bindery/ByteReader", name := "take", desc := "(ILjava/lang/String;)I" } : Jvm.MethodName) prog_1_method_26_code (4 : Nat) (Option.some Jvm.ClassFile.FieldType.int), Jvm.Cond.code ({ cls := "com/example/bindery/bindery/ByteReader", name := "remaining", desc := "()I" } : Jvm.MethodName) prog_1_method_35_code (1 : Nat) (Option.some Jvm.ClassFile.FieldType.int)]
set_option maxRecDepth 65536 in
theorem codes_eq : words1.filter isCode = codes1 := rfl
theorem w_codes : ∀ c ∈ words1.filter isCode, c.before args0 about1 = true := by
  rw [codes_eq]
  intro c hc
  simp only [codes1, List.mem_cons, List.not_mem_nil, or_false] at hc
  rcases hc with rfl | rfl | rfl | rfl | rfl | rfl | rfl | rfl
  · exact w_c0
  · exact w_c1
  · exact w_c2
  · exact w_c3
  · exact w_c4
  · exact w_c5
  · exact w_c6
  · exact w_c7
set_option maxRecDepth 65536 in
theorem w_t1 : (words1.take 24).all (fun c => isCode c || c.before args0 about1) = true := by decide +kernel
set_option maxRecDepth 65536 in
theorem w_t2 : ((words1.drop 24).take 24).all (fun c => isCode c || c.before args0 about1) = true := by decide +kernel
set_option maxRecDepth 65536 in
theorem w_t3 : ((words1.drop 24).drop 24).all (fun c => isCode c || c.before args0 about1) = true := by decide +kernel
theorem w_tables : (allAtoms (Jvm.Cond.code x code maxLocals ret :: tables_1)).before args0 about1 = true := by
  rw [allAtoms_all]
  show words1.all (fun c => c.before args0 about1) = true
  refine all_split ?_ w_codes
  rw [← List.take_append_drop 24 words1, List.all_append, w_t1, ← List.take_append_drop 24 (words1.drop 24), List.all_append, w_t2, w_t3]
  rfl
set_option maxRecDepth 65536 in
theorem w_rest : rest_1_c.before args0 about1 = true := by decide +kernel
set_option maxRecDepth 65536 in
theorem w_case : (Jvm.Cond.and given_1 narrow_1).before args0 about1 = true := by decide +kernel
theorem w_applies : (headSpec (Jvm.Cond.code x code maxLocals ret :: tables_1) room_1).applies x e0.platform about1 = true :=
  (Spec.applies_iff w_frames).mpr ⟨w_running, w_runnable, w_alone, w_named, w_hears, w_ripe, w_room, w_tables⟩
theorem atStart : AtStart classFile x code maxLocals ret World_1 tables_1 room_1 Calls_1 rest_1 Pre_1 launch0 p0 e0 about1 theMethod args0 below0 :=
  ⟨lists_1, trivial, launch0.admits_env _ _ _, launch0.least_env, fairChoices_fair.cas, fairChoices_fair.clock, w_frames, w_args, w_heap, w_applies, trivial, w_rest, w_case⟩
end start1
theorem witness_1 : WitnessClaimed_1 := ⟨start1.p0, start1.e0, start1.about1, start1.theMethod, start1.args0, start1.below0, start1.atStart⟩
end Jvm.Pilot.@@N@@
