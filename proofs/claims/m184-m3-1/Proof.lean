import JvmDerived
import JvmDerived.Pilot.@@N@@Statement
import JvmDerived.Pilot.@@N@@Code
set_option linter.unusedVariables false
set_option linter.unusedSimpArgs false
namespace Jvm.RoadKit
open Sem ClassFile Op Lib Jvm.Stand Jvm.Free Jvm.LawKit
section New
variable {p : Program} {l : Launch} {e : Env} {R : Room} {s : State} {m : MethodId} {args : Array Value} {below : List Frame} {meth : Method} {c : Code} {T : State} {locs : List Loc} {cells slots : Nat}
theorem retI (X : Stand p l e R s m args below meth c T locs cells slots) (hx : p.tables.exec = Jvm.exec) {pc : Nat} {Ls : Array Slot} {z : Int32} {rest : List Value} (hret : meth.sig.returnType = some .int) (hd : decode c.code pc = .ok (.ireturn, 1)) {fs : List Frame}
    (hl : ∀ (f : JFrame) (acts : List Action), f.method = m → f.locked = none → f.entered = [] → (doReturn e (T.setTop f) acts (some (.int z))).1 = T.setFrames fs) : Steps p.tables e below (T.setTop (mkF m pc Ls (.int z :: rest))) (T.setFrames fs) := by
  have hm' : T.vm.method? m = some meth := X.method'
  have hn : narrow .int (.int z) = .int z := rfl
  show Steps p.tables e below (T.setTop { method := m, pc := pc, locals := Ls, stack := _ :: rest, locked := none }) _
  jvm_step X.here [X.here.top, hx, hd, hm', hret, hn]
  first | (intro acts; rw [hl _ acts rfl rfl rfl]) | rw [hl _ _ rfl rfl rfl]
  exact Steps.refl _
end New
end Jvm.RoadKit
namespace Jvm.Pilot.@@N@@
open Jvm Jvm.ClassFile Sem Op Lib Jvm.Free Jvm.Stand Jvm.LawKit Jvm.RoadKit Bundle Jvm.Pilot.@@N@@.Jvm.D
theorem own_eq {args : Array Value} {first s : State} {o : Option Outcome} {idx : List Nat} {a b : Term} (h : (Jvm.Cond.eq a b).value args first o s idx = some true) : a.eval args first o idx s = b.eval args first o idx s := by
  obtain ⟨x, y, h1, h2, k1, k2⟩ := cmp_v (Or.inl h)
  rw [h1, h2]
  simp only [Jvm.Cond.value, h1, h2] at h
  cases x <;> cases y <;> simp_all
theorem own_fld {args : Array Value} {s : State} {t u : Term} {a : Addr} {C n d : String} {v : Value} (ev : t.eval args s none [] s = some (.ref a)) (eu : u.eval args s none [] s = some v) (h : (Jvm.Cond.eq (.field t C n d) u).value args s none s [] = some true) : Fld s s.heap a C n d v :=
  Fld.start ((fld_at ev).symm.trans ((own_eq h).trans eu))
theorem own_z {Z : State} {n0 : Nat} {h : Heap} (O : Old Z n0 h) : n0 ≤ h.size := O.1 ▸ O.2.1
theorem own_len {args : Array Value} {s : State} {t : Term} {a : Addr} {cl : Cell} {ty : FieldType} {n : Int32} (ev : t.eval args s none [] s = some (.ref a)) (A : Arr s s.heap a cl ty) (h : (Term.length t).eval args s none [] s = some (.int n)) : cl.slots.size.toInt32 = n ∧ cl.slots.size < 2 ^ 31 := by
  have hA : s.arrayAt? a = some cl := A.fin (Vm.Alike.refl _)
  simp only [Term.eval, ev, hA, Option.bind_eq_bind, Option.bind_some] at h
  split at h
  · rename_i q
    simp only [Option.pure_def, Option.some.injEq, Value.int.injEq] at h
    exact ⟨h, q⟩
  · cases h
theorem own_mask7 (x : Int32) : 0 ≤ (x &&& (7 : Int32)).toInt ∧ (x &&& (7 : Int32)).toInt < 8 := by
  have h1 := c_mask x (7 : Int32) 3 (by decide) (by decide)
  omega
theorem own_cases8 {z : Int32} (h0 : 0 ≤ z.toInt) (h1 : z.toInt < 8) : z = (0 : Int32) ∨ z = (1 : Int32) ∨ z = (2 : Int32) ∨ z = (3 : Int32) ∨ z = (4 : Int32) ∨ z = (5 : Int32) ∨ z = (6 : Int32) ∨ z = (7 : Int32) := by
  have h : z.toInt = 0 ∨ z.toInt = 1 ∨ z.toInt = 2 ∨ z.toInt = 3 ∨ z.toInt = 4 ∨ z.toInt = 5 ∨ z.toInt = 6 ∨ z.toInt = 7 := by omega
  rcases h with h | h | h | h | h | h | h | h
  · exact Or.inl (Int32.toInt_inj.mp (h.trans (by decide)))
  · exact Or.inr (Or.inl (Int32.toInt_inj.mp (h.trans (by decide))))
  · exact Or.inr (Or.inr (Or.inl (Int32.toInt_inj.mp (h.trans (by decide)))))
  · exact Or.inr (Or.inr (Or.inr (Or.inl (Int32.toInt_inj.mp (h.trans (by decide))))))
  · exact Or.inr (Or.inr (Or.inr (Or.inr (Or.inl (Int32.toInt_inj.mp (h.trans (by decide)))))))
  · exact Or.inr (Or.inr (Or.inr (Or.inr (Or.inr (Or.inl (Int32.toInt_inj.mp (h.trans (by decide))))))))
  · exact Or.inr (Or.inr (Or.inr (Or.inr (Or.inr (Or.inr (Or.inl (Int32.toInt_inj.mp (h.trans (by decide)))))))))
  · exact Or.inr (Or.inr (Or.inr (Or.inr (Or.inr (Or.inr (Or.inr ((Int32.toInt_inj.mp (h.trans (by decide))))))))))
theorem own_cases16 {z : Int32} (h0 : 0 ≤ z.toInt) (h1 : z.toInt < 16) : z = (0 : Int32) ∨ z = (1 : Int32) ∨ z = (2 : Int32) ∨ z = (3 : Int32) ∨ z = (4 : Int32) ∨ z = (5 : Int32) ∨ z = (6 : Int32) ∨ z = (7 : Int32) ∨ z = (8 : Int32) ∨ z = (9 : Int32) ∨ z = (10 : Int32) ∨ z = (11 : Int32) ∨ z = (12 : Int32) ∨ z = (13 : Int32) ∨ z = (14 : Int32) ∨ z = (15 : Int32) := by
  have h : z.toInt = 0 ∨ z.toInt = 1 ∨ z.toInt = 2 ∨ z.toInt = 3 ∨ z.toInt = 4 ∨ z.toInt = 5 ∨ z.toInt = 6 ∨ z.toInt = 7 ∨ z.toInt = 8 ∨ z.toInt = 9 ∨ z.toInt = 10 ∨ z.toInt = 11 ∨ z.toInt = 12 ∨ z.toInt = 13 ∨ z.toInt = 14 ∨ z.toInt = 15 := by omega
  rcases h with h | h | h | h | h | h | h | h | h | h | h | h | h | h | h | h
  · exact Or.inl (Int32.toInt_inj.mp (h.trans (by decide)))
  · exact Or.inr (Or.inl (Int32.toInt_inj.mp (h.trans (by decide))))
  · exact Or.inr (Or.inr (Or.inl (Int32.toInt_inj.mp (h.trans (by decide)))))
  · exact Or.inr (Or.inr (Or.inr (Or.inl (Int32.toInt_inj.mp (h.trans (by decide))))))
  · exact Or.inr (Or.inr (Or.inr (Or.inr (Or.inl (Int32.toInt_inj.mp (h.trans (by decide)))))))
  · exact Or.inr (Or.inr (Or.inr (Or.inr (Or.inr (Or.inl (Int32.toInt_inj.mp (h.trans (by decide))))))))
  · exact Or.inr (Or.inr (Or.inr (Or.inr (Or.inr (Or.inr (Or.inl (Int32.toInt_inj.mp (h.trans (by decide)))))))))
  · exact Or.inr (Or.inr (Or.inr (Or.inr (Or.inr (Or.inr (Or.inr (Or.inl (Int32.toInt_inj.mp (h.trans (by decide))))))))))
  · exact Or.inr (Or.inr (Or.inr (Or.inr (Or.inr (Or.inr (Or.inr (Or.inr (Or.inl (Int32.toInt_inj.mp (h.trans (by decide)))))))))))
  · exact Or.inr (Or.inr (Or.inr (Or.inr (Or.inr (Or.inr (Or.inr (Or.inr (Or.inr (Or.inl (Int32.toInt_inj.mp (h.trans (by decide))))))))))))
  · exact Or.inr (Or.inr (Or.inr (Or.inr (Or.inr (Or.inr (Or.inr (Or.inr (Or.inr (Or.inr (Or.inl (Int32.toInt_inj.mp (h.trans (by decide)))))))))))))
  · exact Or.inr (Or.inr (Or.inr (Or.inr (Or.inr (Or.inr (Or.inr (Or.inr (Or.inr (Or.inr (Or.inr (Or.inl (Int32.toInt_inj.mp (h.trans (by decide))))))))))))))
  · exact Or.inr (Or.inr (Or.inr (Or.inr (Or.inr (Or.inr (Or.inr (Or.inr (Or.inr (Or.inr (Or.inr (Or.inr (Or.inl (Int32.toInt_inj.mp (h.trans (by decide)))))))))))))))
  · exact Or.inr (Or.inr (Or.inr (Or.inr (Or.inr (Or.inr (Or.inr (Or.inr (Or.inr (Or.inr (Or.inr (Or.inr (Or.inr (Or.inl (Int32.toInt_inj.mp (h.trans (by decide))))))))))))))))
  · exact Or.inr (Or.inr (Or.inr (Or.inr (Or.inr (Or.inr (Or.inr (Or.inr (Or.inr (Or.inr (Or.inr (Or.inr (Or.inr (Or.inr (Or.inl (Int32.toInt_inj.mp (h.trans (by decide)))))))))))))))))
  · exact Or.inr (Or.inr (Or.inr (Or.inr (Or.inr (Or.inr (Or.inr (Or.inr (Or.inr (Or.inr (Or.inr (Or.inr (Or.inr (Or.inr (Or.inr ((Int32.toInt_inj.mp (h.trans (by decide))))))))))))))))))
theorem own_idx (x : Int32) : ¬ (((x &&& (255 : Int32)).toUInt32 >>> ((4 : Int32) &&& 31).toUInt32).toInt32 < (0 : Int32)) ∧ ((x &&& (255 : Int32)).toUInt32 >>> ((4 : Int32) &&& 31).toUInt32).toInt32 < (16 : Int32) := by
  have h1 := c_mask x (255 : Int32) 8 (by decide) (by decide)
  have h2 := c_iushr (x &&& (255 : Int32)) (4 : Int32) 4 (by decide) (by decide)
  have h3 : (0 : Int32).toInt = 0 := by decide
  have h4 : (16 : Int32).toInt = 16 := by decide
  rw [Int32.lt_iff_toInt_lt, Int32.lt_iff_toInt_lt]
  omega
theorem own_cap (x : Int32) : ¬ ((x &&& (7 : Int32)) < (0 : Int32)) ∧ (x &&& (7 : Int32)).toNatClampNeg ≤ 7 := by
  rcases own_cases8 (own_mask7 x).1 (own_mask7 x).2 with h | h | h | h | h | h | h | h <;> rw [h] <;> decide
theorem own_zero {a b : Int32} (h : b = (0 : Int32)) : a = (a + b) := by rw [h, Int32.add_zero]
theorem own_nonzero {a b : Int32} (h : ¬ (b = (0 : Int32))) : ¬ (a = (a + b)) := by
  intro q
  have h1 := c_iadd a b
  have h2 := rng32 b
  have h3 : b.toInt ≠ 0 := fun e => h (Int32.toInt_inj.mp (e.trans (by decide)))
  rw [← q] at h1
  omega
theorem own_el {w0 w1 w2 w3 w4 w5 w6 w7 w8 w9 w10 w11 w12 w13 w14 w15 : Addr} {j : Int32} (h : ¬ (j < (0 : Int32)) ∧ j < (16 : Int32)) : ∃ w : Addr, ([.ref w0, .ref w1, .ref w2, .ref w3, .ref w4, .ref w5, .ref w6, .ref w7, .ref w8, .ref w9, .ref w10, .ref w11, .ref w12, .ref w13, .ref w14, .ref w15] : List Value).getD j.toNatClampNeg .null = .ref w := by
  have h0 : 0 ≤ j.toInt := by have := h.1; rw [Int32.lt_iff_toInt_lt] at this; have e : (0 : Int32).toInt = 0 := by decide
                              omega
  have h1 : j.toInt < 16 := by have := h.2; rw [Int32.lt_iff_toInt_lt] at this; have e : (16 : Int32).toInt = 16 := by decide
                               omega
  rcases own_cases16 h0 h1 with rfl | rfl | rfl | rfl | rfl | rfl | rfl | rfl | rfl | rfl | rfl | rfl | rfl | rfl | rfl | rfl <;> exact ⟨_, rfl⟩
theorem own_str {Z : State} {a0 : Array Value} (hw : ∀ d ∈ tables_1, d.before a0 Z = true) : ∀ a ∈ Bundle.stringAtoms, a.before a0 Z = true := by
  intro a ha
  simp only [Bundle.stringAtoms, List.mem_cons, List.not_mem_nil, or_false] at ha
  rcases ha with rfl | rfl | rfl | rfl | rfl | rfl | rfl
  · exact hw _ (List.mem_of_getElem? (i := 73) rfl)
  · exact hw _ (List.mem_of_getElem? (i := 74) rfl)
  · exact hw _ (List.mem_of_getElem? (i := 16) rfl)
  · exact hw _ (List.mem_of_getElem? (i := 75) rfl)
  · exact hw _ (List.mem_of_getElem? (i := 76) rfl)
  · exact hw _ (List.mem_of_getElem? (i := 77) rfl)
  · exact hw _ (List.mem_of_getElem? (i := 78) rfl)
theorem d_prog_45_method_1_code_0 : decode prog_45_method_1_code 0 = .ok (.aload_n 0, 1) := by decide +kernel
theorem d_prog_45_method_1_code_1 : decode prog_45_method_1_code 1 = .ok (.invokespecial 1, 3) := by decide +kernel
theorem d_prog_45_method_1_code_4 : decode prog_45_method_1_code 4 = .ok (.return_, 1) := by decide +kernel
theorem pn_com_example_octets_to_session_octetstosession_core_Packet : plainName "com/example/octets_to_session/octetstosession/core/Packet" = true := by first | (simp [plainName, overriddenIn]; done) | decide +kernel
theorem ef_rm_init_1 (m : MethodId) (x0 : Addr) : entryFrame m #[(.ref x0)] 1 = mkF m 0 #[.val (.ref x0)] [] := by first | (simp [entryFrame, mkF, argsToLocals, Value.category]; done) | rfl
def Q_rm_init_1 (Z : State) (x0 : Addr) (h0 : Heap) (n0 : Nat) (v : Option Value) (h : Heap) (L : List Loc) : Prop := v = none ∧ Fr n0 L ∧ h = h0
set_option maxRecDepth 65536 in
set_option maxHeartbeats 40000000 in
theorem rm_init_1 (l : Launch) (Z : State) (a0 : Array Value) (hw : ∀ d ∈ tables_1, d.before a0 Z = true) (ws : List Jvm.Cond) (x0 : Addr) (h0 : Heap) (n0 : Nat) (O0 : Old Z n0 h0)   :
    MetFree l (⟨"com/example/octets_to_session/octetstosession/core/Packet", "<init>", "()V"⟩ : MethodName) (head1 (Jvm.Cond.code (⟨"com/example/octets_to_session/octetstosession/core/Packet", "<init>", "()V"⟩ : MethodName) prog_45_method_1_code 1 none :: ws) ({ frames := 1, cells := 0, slots := 0, locals := 12 } : Room)) (fun a U => a = #[(.ref x0)] ∧ Z.Warmed39 U.vm ∧ U.heap = h0) (fun _ _ _ _ _ => True) (fun _ U o U' => ∃ v L, o = .returned v ∧ Q_rm_init_1 Z x0 h0 n0 v U'.heap L ∧ FrameEnd U o U' L ({ frames := 1, cells := 0, slots := 0, locals := 12 } : Room).cells ({ frames := 1, cells := 0, slots := 0, locals := 12 } : Room).slots) := by
  refine MetFree.of_bodySF (plainFor_of_name pn_com_example_octets_to_session_octetstosession_core_Packet) hisR ?_
  intro p e s m args below meth c s₁ Bd hml0 hP hK
  obtain ⟨rfl, hZ, hh⟩ := hP
  have hx := Bd.exec
  have hby := Bd.bytes
  have hml : c.maxLocals = 1 := hml0
  have hown : s.vm.findClass "com/example/octets_to_session/octetstosession/core/Packet" = some m.cls := findClass_of_methodNamed Bd.named
  have hnm := (name_of_methodNamed Bd.named Bd.method).1
  have X0 : Stand p l e ({ frames := 1, cells := 0, slots := 0, locals := 12 } : Room) s m #[(.ref x0)] below meth c s₁ [] 0 0 := Stand.of_body Bd
  have e0 : s₁.heap = h0 := by rw [← hh, Bd.state]; rfl
  have N0 := Fr.nil n0
  have pre0 : ∀ t, Steps p.tables e below (s₁.setTop (mkF m 0 #[.val (.ref x0)] [])) t → Steps p.tables e below (s₁.setTop (entryFrame m #[(.ref x0)] 1)) t := fun t k => castTop (ef_rm_init_1 m x0) k
  have K0 := Keep.refl h0 []
  obtain ⟨T3, X3, e3, st3⟩ := initO X0 hx hZ hown (hw _ (List.mem_of_getElem? (i := 6) rfl)) (hw _ (List.mem_of_getElem? (i := 7) rfl)) (hw _ (List.mem_of_getElem? (i := 8) rfl)) e0 (g := (mkF m 1 #[.val (.ref x0)] [(.ref x0)])) rfl (by rw [hml]; rfl) rfl (hb hby d_prog_45_method_1_code_1) (by decide) (W := 0) (by show 2 * 0 + _ ≤ _; exact Nat.le_of_eq rfl) (by decide)
  have pre4 : ∀ t, Steps p.tables e below (T3.setTop (mkF m 4 #[.val (.ref x0)] [])) t → Steps p.tables e below (s₁.setTop (entryFrame m #[(.ref x0)] 1)) t := by
    intro t kt
    refine pre0 t ?_
    show Steps p.tables e below (s₁.setTop (mkF m 0 #[.val (.ref x0)] [])) _
    refine XS.aloadN X0.here hx rfl (hb hby d_prog_45_method_1_code_0) rfl rfl ?_
    show Steps p.tables e below (s₁.setTop (mkF m 1 #[.val (.ref x0)] [(.ref x0)])) _
    refine st3 _ ?_
    exact kt
  obtain ⟨fs, hr, hrun, hended, hW, hsame⟩ := X3.leave (v := none) (fun _ => rfl)
  refine ⟨_, _, pre4 _ ?_, hrun, hended, _, _, rfl, ?_, ⟨_, rfl⟩, hW, hsame.mono (by decide) (by decide)⟩
  · show Steps p.tables e below (T3.setTop (mkF m 4 #[.val (.ref x0)] [])) _
    exact X3.returnOut hx Bd.returns (hb hby d_prog_45_method_1_code_4) hr
  · show Q_rm_init_1 Z x0 h0 n0 _ T3.heap _
    rw [e3]
    exact ⟨rfl, N0, rfl⟩
theorem d_prog_50_method_4_code_0 : decode prog_50_method_4_code 0 = .ok (.getstatic 75, 3) := by decide +kernel
theorem d_prog_50_method_4_code_3 : decode prog_50_method_4_code 3 = .ok (.iload_n 0, 1) := by decide +kernel
theorem d_prog_50_method_4_code_4 : decode prog_50_method_4_code 4 = .ok (.sipush 255, 3) := by decide +kernel
theorem d_prog_50_method_4_code_7 : decode prog_50_method_4_code 7 = .ok (.iand, 1) := by decide +kernel
theorem d_prog_50_method_4_code_8 : decode prog_50_method_4_code 8 = .ok (.iconst 4, 1) := by decide +kernel
theorem d_prog_50_method_4_code_9 : decode prog_50_method_4_code 9 = .ok (.iushr, 1) := by decide +kernel
theorem d_prog_50_method_4_code_10 : decode prog_50_method_4_code 10 = .ok (.aaload, 1) := by decide +kernel
theorem d_prog_50_method_4_code_11 : decode prog_50_method_4_code 11 = .ok (.areturn, 1) := by decide +kernel
theorem pn_com_example_octets_to_session_octetstosession_core_PacketType : plainName "com/example/octets_to_session/octetstosession/core/PacketType" = true := by first | (simp [plainName, overriddenIn]; done) | decide +kernel
theorem ef_rm_of_2 (m : MethodId) (y0 : Int32) : entryFrame m #[(.int y0)] 1 = mkF m 0 #[.val (.int y0)] [] := by first | (simp [entryFrame, mkF, argsToLocals, Value.category]; done) | rfl
def Q_rm_of_2 (Z : State) (y0 : Int32) (w_BY_CODE : Addr) (w_PUBREL : Addr) (w_SUBSCRIBE : Addr) (w_CONNECT : Addr) (k_BY_CODE : ClassId) (w_PUBCOMP : Addr) (w_SUBACK : Addr) (w_UNSUBSCRIBE : Addr) (w_AUTH : Addr) (w_PUBACK : Addr) (w_DISCONNECT : Addr) (w_PUBLISH : Addr) (w_PINGREQ : Addr) (w_PINGRESP : Addr) (w_PUBREC : Addr) (w_UNSUBACK : Addr) (w_RESERVED : Addr) (w_CONNACK : Addr) (h0 : Heap) (n0 : Nat) (v : Option Value) (h : Heap) (L : List Loc) : Prop := ∃ (wt7 : Addr), v = some (.ref wt7) ∧ Fr n0 L ∧ h = h0
set_option maxRecDepth 65536 in
set_option maxHeartbeats 40000000 in
theorem rm_of_2 (l : Launch) (Z : State) (a0 : Array Value) (hw : ∀ d ∈ tables_1, d.before a0 Z = true) (ws : List Jvm.Cond) (y0 : Int32) (w_BY_CODE : Addr) (w_PUBREL : Addr) (w_SUBSCRIBE : Addr) (w_CONNECT : Addr) (k_BY_CODE : ClassId) (w_PUBCOMP : Addr) (w_SUBACK : Addr) (w_UNSUBSCRIBE : Addr) (w_AUTH : Addr) (w_PUBACK : Addr) (w_DISCONNECT : Addr) (w_PUBLISH : Addr) (w_PINGREQ : Addr) (w_PINGRESP : Addr) (w_PUBREC : Addr) (w_UNSUBACK : Addr) (w_RESERVED : Addr) (w_CONNACK : Addr) (h0 : Heap) (n0 : Nat) (O0 : Old Z n0 h0)  (S_BY_CODE : Sta Z Z.heap "com/example/octets_to_session/octetstosession/core/PacketType" "BY_CODE" "[Lcom/example/octets_to_session/octetstosession/core/PacketType;" (.ref w_BY_CODE)) (V_BY_CODE : Arv Z Z.heap w_BY_CODE k_BY_CODE (.object "com/example/octets_to_session/octetstosession/core/PacketType") (16 : Int32) [(.ref w_RESERVED), (.ref w_CONNECT), (.ref w_CONNACK), (.ref w_PUBLISH), (.ref w_PUBACK), (.ref w_PUBREC), (.ref w_PUBREL), (.ref w_PUBCOMP), (.ref w_SUBSCRIBE), (.ref w_SUBACK), (.ref w_UNSUBSCRIBE), (.ref w_UNSUBACK), (.ref w_PINGREQ), (.ref w_PINGRESP), (.ref w_DISCONNECT), (.ref w_AUTH)] .null) :
    MetFree l (⟨"com/example/octets_to_session/octetstosession/core/PacketType", "of", "(I)Lcom/example/octets_to_session/octetstosession/core/PacketType;"⟩ : MethodName) (head1 (Jvm.Cond.code (⟨"com/example/octets_to_session/octetstosession/core/PacketType", "of", "(I)Lcom/example/octets_to_session/octetstosession/core/PacketType;"⟩ : MethodName) prog_50_method_4_code 1 (some (.object "com/example/octets_to_session/octetstosession/core/PacketType")) :: ws) ({ frames := 0, cells := 0, slots := 0, locals := 0 } : Room)) (fun a U => a = #[(.int y0)] ∧ Z.Warmed39 U.vm ∧ U.heap = h0) (fun _ _ _ _ _ => True) (fun _ U o U' => ∃ v L, o = .returned v ∧ Q_rm_of_2 Z y0 w_BY_CODE w_PUBREL w_SUBSCRIBE w_CONNECT k_BY_CODE w_PUBCOMP w_SUBACK w_UNSUBSCRIBE w_AUTH w_PUBACK w_DISCONNECT w_PUBLISH w_PINGREQ w_PINGRESP w_PUBREC w_UNSUBACK w_RESERVED w_CONNACK h0 n0 v U'.heap L ∧ FrameEnd U o U' L ({ frames := 0, cells := 0, slots := 0, locals := 0 } : Room).cells ({ frames := 0, cells := 0, slots := 0, locals := 0 } : Room).slots) := by
  refine MetFree.of_bodySF (plainFor_of_name pn_com_example_octets_to_session_octetstosession_core_PacketType) hisR ?_
  intro p e s m args below meth c s₁ Bd hml0 hP hK
  obtain ⟨rfl, hZ, hh⟩ := hP
  have hx := Bd.exec
  have hby := Bd.bytes
  have hml : c.maxLocals = 1 := hml0
  have hown : s.vm.findClass "com/example/octets_to_session/octetstosession/core/PacketType" = some m.cls := findClass_of_methodNamed Bd.named
  have hnm := (name_of_methodNamed Bd.named Bd.method).1
  have X0 : Stand p l e ({ frames := 0, cells := 0, slots := 0, locals := 0 } : Room) s m #[(.int y0)] below meth c s₁ [] 0 0 := Stand.of_body Bd
  have e0 : s₁.heap = h0 := by rw [← hh, Bd.state]; rfl
  have N0 := Fr.nil n0
  have pre0 : ∀ t, Steps p.tables e below (s₁.setTop (mkF m 0 #[.val (.int y0)] [])) t → Steps p.tables e below (s₁.setTop (entryFrame m #[(.int y0)] 1)) t := fun t k => castTop (ef_rm_of_2 m y0) k
  have K0 := Keep.refl h0 []
  obtain ⟨T6, X6, e6, st6⟩ := getS2 X0 hx hZ hown (host := "") (Or.inl (hw _ (List.mem_of_getElem? (i := 13) rfl))) Via.refl e0 (S_BY_CODE.ext O0.2) (g := (mkF m 0 #[.val (.int y0)] [])) rfl (hb hby d_prog_50_method_4_code_0)
  have vt7 := (V_BY_CODE.ext O0.2)
  obtain ⟨cl7, Ar7, q7, S7, Ng7, Ha7, G7⟩ := vt7
  have hin7 := inb_of S7 (own_idx y0)
  obtain ⟨wt7, hwt7⟩ := own_el (own_idx y0)
  have hat7 := Ha7.at hin7 hwt7
  have pre8 : ∀ t, Steps p.tables e below (T6.setTop (mkF m 11 #[.val (.int y0)] [(.ref wt7)])) t → Steps p.tables e below (s₁.setTop (entryFrame m #[(.int y0)] 1)) t := by
    intro t kt
    refine pre0 t ?_
    show Steps p.tables e below (s₁.setTop (mkF m 0 #[.val (.int y0)] [])) _
    refine st6 _ ?_
    show Steps p.tables e below (T6.setTop (mkF m 3 #[.val (.int y0)] [(.ref w_BY_CODE)])) _
    refine XS.iloadN X6.here hx rfl (hb hby d_prog_50_method_4_code_3) rfl ?_
    show Steps p.tables e below (T6.setTop (mkF m 4 #[.val (.int y0)] [(.int y0), (.ref w_BY_CODE)])) _
    refine XS.sipush X6.here hx rfl (hb hby d_prog_50_method_4_code_4) ?_
    show Steps p.tables e below (T6.setTop (mkF m 7 #[.val (.int y0)] [(.int (255 : Int32)), (.int y0), (.ref w_BY_CODE)])) _
    refine XS.iand X6.here hx rfl (hb hby d_prog_50_method_4_code_7) rfl ?_
    show Steps p.tables e below (T6.setTop (mkF m 8 #[.val (.int y0)] [(.int (y0 &&& (255 : Int32))), (.ref w_BY_CODE)])) _
    refine XS.iconst X6.here hx rfl (hb hby d_prog_50_method_4_code_8) ?_
    show Steps p.tables e below (T6.setTop (mkF m 9 #[.val (.int y0)] [(.int (4 : Int32)), (.int (y0 &&& (255 : Int32))), (.ref w_BY_CODE)])) _
    refine XS.iushr X6.here hx rfl (hb hby d_prog_50_method_4_code_9) rfl ?_
    show Steps p.tables e below (T6.setTop (mkF m 10 #[.val (.int y0)] [(.int (((y0 &&& (255 : Int32)).toUInt32 >>> ((4 : Int32) &&& 31).toUInt32).toInt32)), (.ref w_BY_CODE)])) _
    refine X6.aaload hx (j := (((y0 &&& (255 : Int32)).toUInt32 >>> ((4 : Int32) &&& 31).toUInt32).toInt32)) (v := (.ref wt7)) (by rw [e6]; exact Ar7.1) (State.isArrayOf_alike hZ.alike Ar7.2.1) rfl Ar7.2.2 hin7 hat7 (g := (mkF m 10 #[.val (.int y0)] [(.int (((y0 &&& (255 : Int32)).toUInt32 >>> ((4 : Int32) &&& 31).toUInt32).toInt32)), (.ref w_BY_CODE)])) rfl rfl (hb hby d_prog_50_method_4_code_10) _ ?_
    exact kt
  obtain ⟨fs, hr, hrun, hended, hW, hsame⟩ := X6.leave (v := some (.ref wt7)) (fun h => by rw [Bd.returns] at h; cases h)
  refine ⟨_, _, pre8 _ ?_, hrun, hended, _, _, rfl, ?_, ⟨_, rfl⟩, hW, hsame.mono (by decide) (by decide)⟩
  · show Steps p.tables e below (T6.setTop (mkF m 11 #[.val (.int y0)] [(.ref wt7)])) _
    jvm_step X6.here [X6.here.top, hx, (hb hby d_prog_50_method_4_code_11), X6.method', Bd.returns, Value.isRef, FieldType.isReference]
    first | (intro acts; rw [hr _ acts rfl rfl rfl]) | rw [hr _ _ rfl rfl rfl]
    exact Steps.refl _
  · show Q_rm_of_2 Z y0 w_BY_CODE w_PUBREL w_SUBSCRIBE w_CONNECT k_BY_CODE w_PUBCOMP w_SUBACK w_UNSUBSCRIBE w_AUTH w_PUBACK w_DISCONNECT w_PUBLISH w_PINGREQ w_PINGRESP w_PUBREC w_UNSUBACK w_RESERVED w_CONNACK h0 n0 _ T6.heap _
    rw [e6]
    exact ⟨wt7, rfl, N0, rfl⟩
theorem d_prog_45_method_3_code_0 : decode prog_45_method_3_code 0 = .ok (.aload_n 0, 1) := by decide +kernel
theorem d_prog_45_method_3_code_1 : decode prog_45_method_3_code 1 = .ok (.aload_n 1, 1) := by decide +kernel
theorem d_prog_45_method_3_code_2 : decode prog_45_method_3_code 2 = .ok (.putfield 13, 3) := by decide +kernel
theorem d_prog_45_method_3_code_5 : decode prog_45_method_3_code 5 = .ok (.aload_n 0, 1) := by decide +kernel
theorem d_prog_45_method_3_code_6 : decode prog_45_method_3_code 6 = .ok (.iload_n 2, 1) := by decide +kernel
theorem d_prog_45_method_3_code_7 : decode prog_45_method_3_code 7 = .ok (.putfield 17, 3) := by decide +kernel
theorem d_prog_45_method_3_code_10 : decode prog_45_method_3_code 10 = .ok (.aload_n 0, 1) := by decide +kernel
theorem d_prog_45_method_3_code_11 : decode prog_45_method_3_code 11 = .ok (.aload_n 3, 1) := by decide +kernel
theorem d_prog_45_method_3_code_12 : decode prog_45_method_3_code 12 = .ok (.putfield 21, 3) := by decide +kernel
theorem d_prog_45_method_3_code_15 : decode prog_45_method_3_code 15 = .ok (.aload_n 0, 1) := by decide +kernel
theorem d_prog_45_method_3_code_16 : decode prog_45_method_3_code 16 = .ok (.iload 4, 2) := by decide +kernel
theorem d_prog_45_method_3_code_18 : decode prog_45_method_3_code 18 = .ok (.putfield 25, 3) := by decide +kernel
theorem d_prog_45_method_3_code_21 : decode prog_45_method_3_code 21 = .ok (.aload_n 0, 1) := by decide +kernel
theorem d_prog_45_method_3_code_22 : decode prog_45_method_3_code 22 = .ok (.iload 5, 2) := by decide +kernel
theorem d_prog_45_method_3_code_24 : decode prog_45_method_3_code 24 = .ok (.putfield 28, 3) := by decide +kernel
theorem d_prog_45_method_3_code_27 : decode prog_45_method_3_code 27 = .ok (.aload_n 0, 1) := by decide +kernel
theorem d_prog_45_method_3_code_28 : decode prog_45_method_3_code 28 = .ok (.areturn, 1) := by decide +kernel
theorem ef_rm_set_3 (m : MethodId) (x0 : Addr) (w_PUBLISH : Addr) (y0 : Int32) (x1 : Addr) (y2 : Int32) (y3 : Int32) : entryFrame m #[(.ref x0), (.ref w_PUBLISH), (.int y0), (.ref x1), (.int y2), (.int y3)] 6 = mkF m 0 #[.val (.ref x0), .val (.ref w_PUBLISH), .val (.int y0), .val (.ref x1), .val (.int y2), .val (.int y3)] [] := by first | (simp [entryFrame, mkF, argsToLocals, Value.category]; done) | rfl
def Q_rm_set_3 (Z : State) (x0 : Addr) (y0 : Int32) (x1 : Addr) (y1 : Int32) (y2 : Int32) (y3 : Int32) (kc0 : ClassId) (w_PUBLISH : Addr) (h0 : Heap) (n0 : Nat) (v : Option Value) (h : Heap) (L : List Loc) : Prop := v = some (.ref x0) ∧ Fr n0 L ∧ Keep h0 h [x0] ∧ Exa Z h x0 "com/example/octets_to_session/octetstosession/core/Packet" ∧ Fld Z h x0 "com/example/octets_to_session/octetstosession/core/Packet" "type" "Lcom/example/octets_to_session/octetstosession/core/PacketType;" (.ref w_PUBLISH) ∧ Fld Z h x0 "com/example/octets_to_session/octetstosession/core/Packet" "flags" "I" (.int y0) ∧ Fld Z h x0 "com/example/octets_to_session/octetstosession/core/Packet" "octets" "[B" (.ref x1) ∧ Fld Z h x0 "com/example/octets_to_session/octetstosession/core/Packet" "start" "I" (.int y2) ∧ Fld Z h x0 "com/example/octets_to_session/octetstosession/core/Packet" "length" "I" (.int y3) ∧ Fld Z h x0 "com/example/octets_to_session/octetstosession/core/Packet" "reader" "Lcom/example/octets_to_session/octetstosession/core/PacketReader;" .null
set_option maxRecDepth 65536 in
set_option maxHeartbeats 40000000 in
theorem rm_set_3 (l : Launch) (Z : State) (a0 : Array Value) (hw : ∀ d ∈ tables_1, d.before a0 Z = true) (ws : List Jvm.Cond) (x0 : Addr) (y0 : Int32) (x1 : Addr) (y1 : Int32) (y2 : Int32) (y3 : Int32) (kc0 : ClassId) (w_PUBLISH : Addr) (h0 : Heap) (n0 : Nat) (O0 : Old Z n0 h0) (E_x0 : Exa Z h0 x0 "com/example/octets_to_session/octetstosession/core/Packet") (F_x0_type : Fld Z h0 x0 "com/example/octets_to_session/octetstosession/core/Packet" "type" "Lcom/example/octets_to_session/octetstosession/core/PacketType;" .null) (F_x0_flags : Fld Z h0 x0 "com/example/octets_to_session/octetstosession/core/Packet" "flags" "I" (.int (0 : Int32))) (F_x0_octets : Fld Z h0 x0 "com/example/octets_to_session/octetstosession/core/Packet" "octets" "[B" .null) (F_x0_start : Fld Z h0 x0 "com/example/octets_to_session/octetstosession/core/Packet" "start" "I" (.int (0 : Int32))) (F_x0_length : Fld Z h0 x0 "com/example/octets_to_session/octetstosession/core/Packet" "length" "I" (.int (0 : Int32))) (F_x0_reader : Fld Z h0 x0 "com/example/octets_to_session/octetstosession/core/Packet" "reader" "Lcom/example/octets_to_session/octetstosession/core/PacketReader;" .null) (ge_x0 : n0 ≤ x0) (V_x1 : Arv Z h0 x1 kc0 .byte y1 [] (.int (0 : Int32))) (ge_x1 : n0 ≤ x1) (ne_x0_x1 : x0 ≠ x1)  :
    MetFree l (⟨"com/example/octets_to_session/octetstosession/core/Packet", "set", "(Lcom/example/octets_to_session/octetstosession/core/PacketType;I[BII)Lcom/example/octets_to_session/octetstosession/core/Packet;"⟩ : MethodName) (head1 (Jvm.Cond.code (⟨"com/example/octets_to_session/octetstosession/core/Packet", "set", "(Lcom/example/octets_to_session/octetstosession/core/PacketType;I[BII)Lcom/example/octets_to_session/octetstosession/core/Packet;"⟩ : MethodName) prog_45_method_3_code 6 (some (.object "com/example/octets_to_session/octetstosession/core/Packet")) :: ws) ({ frames := 0, cells := 0, slots := 0, locals := 0 } : Room)) (fun a U => a = #[(.ref x0), (.ref w_PUBLISH), (.int y0), (.ref x1), (.int y2), (.int y3)] ∧ Z.Warmed39 U.vm ∧ U.heap = h0) (fun _ _ _ _ _ => True) (fun _ U o U' => ∃ v L, o = .returned v ∧ Q_rm_set_3 Z x0 y0 x1 y1 y2 y3 kc0 w_PUBLISH h0 n0 v U'.heap L ∧ FrameEnd U o U' L ({ frames := 0, cells := 0, slots := 0, locals := 0 } : Room).cells ({ frames := 0, cells := 0, slots := 0, locals := 0 } : Room).slots) := by
  refine MetFree.of_bodySF (plainFor_of_name pn_com_example_octets_to_session_octetstosession_core_Packet) hisR ?_
  intro p e s m args below meth c s₁ Bd hml0 hP hK
  obtain ⟨rfl, hZ, hh⟩ := hP
  have hx := Bd.exec
  have hby := Bd.bytes
  have hml : c.maxLocals = 6 := hml0
  have hown : s.vm.findClass "com/example/octets_to_session/octetstosession/core/Packet" = some m.cls := findClass_of_methodNamed Bd.named
  have hnm := (name_of_methodNamed Bd.named Bd.method).1
  have X0 : Stand p l e ({ frames := 0, cells := 0, slots := 0, locals := 0 } : Room) s m #[(.ref x0), (.ref w_PUBLISH), (.int y0), (.ref x1), (.int y2), (.int y3)] below meth c s₁ [] 0 0 := Stand.of_body Bd
  have e0 : s₁.heap = h0 := by rw [← hh, Bd.state]; rfl
  have N0 := Fr.nil n0
  have pre0 : ∀ t, Steps p.tables e below (s₁.setTop (mkF m 0 #[.val (.ref x0), .val (.ref w_PUBLISH), .val (.int y0), .val (.ref x1), .val (.int y2), .val (.int y3)] [])) t → Steps p.tables e below (s₁.setTop (entryFrame m #[(.ref x0), (.ref w_PUBLISH), (.int y0), (.ref x1), (.int y2), (.int y3)] 6)) t := fun t k => castTop (ef_rm_set_3 m x0 w_PUBLISH y0 x1 y2 y3) k
  have K0 := Keep.refl h0 [x0]
  obtain ⟨T13, h13, X13, e13, W13, st13⟩ := putF X0 hx hZ hown (host := "") (Or.inl (hw _ (List.mem_of_getElem? (i := 24) rfl))) Via.refl e0 F_x0_type E_x0 (Or.inl (hw _ (List.mem_of_getElem? (i := 25) rfl))) (hw _ (List.mem_of_getElem? (i := 1) rfl)) (ty := (.object "com/example/octets_to_session/octetstosession/core/PacketType")) (by decide) rfl rfl (g := (mkF m 2 #[.val (.ref x0), .val (.ref w_PUBLISH), .val (.int y0), .val (.ref x1), .val (.int y2), .val (.int y3)] [(.ref w_PUBLISH), (.ref x0)])) rfl rfl (hb hby d_prog_45_method_3_code_2)
  have F_x0_type := F_x0_type.same W13
  have E_x0 := E_x0.wr W13
  have F_x0_flags := F_x0_flags.other W13 (Or.inr (slot_ne (Or.inl (hw _ (List.mem_of_getElem? (i := 27) rfl))) (Or.inl (hw _ (List.mem_of_getElem? (i := 25) rfl))) (by decide) (t := .int) (t' := (.object "com/example/octets_to_session/octetstosession/core/PacketType")) (by decide) (by decide)))
  have F_x0_octets := F_x0_octets.other W13 (Or.inr (slot_ne (Or.inl (hw _ (List.mem_of_getElem? (i := 29) rfl))) (Or.inl (hw _ (List.mem_of_getElem? (i := 25) rfl))) (by decide) (t := (.array .byte)) (t' := (.object "com/example/octets_to_session/octetstosession/core/PacketType")) (by decide) (by decide)))
  have F_x0_start := F_x0_start.other W13 (Or.inr (slot_ne (Or.inl (hw _ (List.mem_of_getElem? (i := 31) rfl))) (Or.inl (hw _ (List.mem_of_getElem? (i := 25) rfl))) (by decide) (t := .int) (t' := (.object "com/example/octets_to_session/octetstosession/core/PacketType")) (by decide) (by decide)))
  have F_x0_length := F_x0_length.other W13 (Or.inr (slot_ne (Or.inl (hw _ (List.mem_of_getElem? (i := 33) rfl))) (Or.inl (hw _ (List.mem_of_getElem? (i := 25) rfl))) (by decide) (t := .int) (t' := (.object "com/example/octets_to_session/octetstosession/core/PacketType")) (by decide) (by decide)))
  have F_x0_reader := F_x0_reader.other W13 (Or.inr (slot_ne (Or.inl (hw _ (List.mem_of_getElem? (i := 65) rfl))) (Or.inl (hw _ (List.mem_of_getElem? (i := 25) rfl))) (by decide) (t := (.object "com/example/octets_to_session/octetstosession/core/PacketReader")) (t' := (.object "com/example/octets_to_session/octetstosession/core/PacketType")) (by decide) (by decide)))
  have V_x1 := V_x1.other W13 (Ne.symm ne_x0_x1)
  have O13 := O0.wr W13 ge_x0
  have K13 := K0.wr W13 (Or.inl (List.mem_of_getElem? (i := 0) rfl))
  have N13 := Fr.snoc X13 N0 ge_x0
  obtain ⟨T14, h14, X14, e14, W14, st14⟩ := putF X13 hx hZ hown (host := "") (Or.inl (hw _ (List.mem_of_getElem? (i := 26) rfl))) Via.refl e13 F_x0_flags E_x0 (Or.inl (hw _ (List.mem_of_getElem? (i := 27) rfl))) (hw _ (List.mem_of_getElem? (i := 1) rfl)) (ty := .int) (by decide) rfl rfl (g := (mkF m 7 #[.val (.ref x0), .val (.ref w_PUBLISH), .val (.int y0), .val (.ref x1), .val (.int y2), .val (.int y3)] [(.int y0), (.ref x0)])) rfl rfl (hb hby d_prog_45_method_3_code_7)
  have F_x0_flags := F_x0_flags.same W14
  have E_x0 := E_x0.wr W14
  have F_x0_type := F_x0_type.other W14 (Or.inr (slot_ne (Or.inl (hw _ (List.mem_of_getElem? (i := 25) rfl))) (Or.inl (hw _ (List.mem_of_getElem? (i := 27) rfl))) (by decide) (t := (.object "com/example/octets_to_session/octetstosession/core/PacketType")) (t' := .int) (by decide) (by decide)))
  have F_x0_octets := F_x0_octets.other W14 (Or.inr (slot_ne (Or.inl (hw _ (List.mem_of_getElem? (i := 29) rfl))) (Or.inl (hw _ (List.mem_of_getElem? (i := 27) rfl))) (by decide) (t := (.array .byte)) (t' := .int) (by decide) (by decide)))
  have F_x0_start := F_x0_start.other W14 (Or.inr (slot_ne (Or.inl (hw _ (List.mem_of_getElem? (i := 31) rfl))) (Or.inl (hw _ (List.mem_of_getElem? (i := 27) rfl))) (by decide) (t := .int) (t' := .int) (by decide) (by decide)))
  have F_x0_length := F_x0_length.other W14 (Or.inr (slot_ne (Or.inl (hw _ (List.mem_of_getElem? (i := 33) rfl))) (Or.inl (hw _ (List.mem_of_getElem? (i := 27) rfl))) (by decide) (t := .int) (t' := .int) (by decide) (by decide)))
  have F_x0_reader := F_x0_reader.other W14 (Or.inr (slot_ne (Or.inl (hw _ (List.mem_of_getElem? (i := 65) rfl))) (Or.inl (hw _ (List.mem_of_getElem? (i := 27) rfl))) (by decide) (t := (.object "com/example/octets_to_session/octetstosession/core/PacketReader")) (t' := .int) (by decide) (by decide)))
  have V_x1 := V_x1.other W14 (Ne.symm ne_x0_x1)
  have O14 := O13.wr W14 ge_x0
  have K14 := K13.wr W14 (Or.inl (List.mem_of_getElem? (i := 0) rfl))
  have N14 := Fr.snoc X14 N13 ge_x0
  obtain ⟨T15, h15, X15, e15, W15, st15⟩ := putF X14 hx hZ hown (host := "") (Or.inl (hw _ (List.mem_of_getElem? (i := 28) rfl))) Via.refl e14 F_x0_octets E_x0 (Or.inl (hw _ (List.mem_of_getElem? (i := 29) rfl))) (hw _ (List.mem_of_getElem? (i := 1) rfl)) (ty := (.array .byte)) (by decide) rfl rfl (g := (mkF m 12 #[.val (.ref x0), .val (.ref w_PUBLISH), .val (.int y0), .val (.ref x1), .val (.int y2), .val (.int y3)] [(.ref x1), (.ref x0)])) rfl rfl (hb hby d_prog_45_method_3_code_12)
  have F_x0_octets := F_x0_octets.same W15
  have E_x0 := E_x0.wr W15
  have F_x0_type := F_x0_type.other W15 (Or.inr (slot_ne (Or.inl (hw _ (List.mem_of_getElem? (i := 25) rfl))) (Or.inl (hw _ (List.mem_of_getElem? (i := 29) rfl))) (by decide) (t := (.object "com/example/octets_to_session/octetstosession/core/PacketType")) (t' := (.array .byte)) (by decide) (by decide)))
  have F_x0_flags := F_x0_flags.other W15 (Or.inr (slot_ne (Or.inl (hw _ (List.mem_of_getElem? (i := 27) rfl))) (Or.inl (hw _ (List.mem_of_getElem? (i := 29) rfl))) (by decide) (t := .int) (t' := (.array .byte)) (by decide) (by decide)))
  have F_x0_start := F_x0_start.other W15 (Or.inr (slot_ne (Or.inl (hw _ (List.mem_of_getElem? (i := 31) rfl))) (Or.inl (hw _ (List.mem_of_getElem? (i := 29) rfl))) (by decide) (t := .int) (t' := (.array .byte)) (by decide) (by decide)))
  have F_x0_length := F_x0_length.other W15 (Or.inr (slot_ne (Or.inl (hw _ (List.mem_of_getElem? (i := 33) rfl))) (Or.inl (hw _ (List.mem_of_getElem? (i := 29) rfl))) (by decide) (t := .int) (t' := (.array .byte)) (by decide) (by decide)))
  have F_x0_reader := F_x0_reader.other W15 (Or.inr (slot_ne (Or.inl (hw _ (List.mem_of_getElem? (i := 65) rfl))) (Or.inl (hw _ (List.mem_of_getElem? (i := 29) rfl))) (by decide) (t := (.object "com/example/octets_to_session/octetstosession/core/PacketReader")) (t' := (.array .byte)) (by decide) (by decide)))
  have V_x1 := V_x1.other W15 (Ne.symm ne_x0_x1)
  have O15 := O14.wr W15 ge_x0
  have K15 := K14.wr W15 (Or.inl (List.mem_of_getElem? (i := 0) rfl))
  have N15 := Fr.snoc X15 N14 ge_x0
  obtain ⟨T16, h16, X16, e16, W16, st16⟩ := putF X15 hx hZ hown (host := "") (Or.inl (hw _ (List.mem_of_getElem? (i := 30) rfl))) Via.refl e15 F_x0_start E_x0 (Or.inl (hw _ (List.mem_of_getElem? (i := 31) rfl))) (hw _ (List.mem_of_getElem? (i := 1) rfl)) (ty := .int) (by decide) rfl rfl (g := (mkF m 18 #[.val (.ref x0), .val (.ref w_PUBLISH), .val (.int y0), .val (.ref x1), .val (.int y2), .val (.int y3)] [(.int y2), (.ref x0)])) rfl rfl (hb hby d_prog_45_method_3_code_18)
  have F_x0_start := F_x0_start.same W16
  have E_x0 := E_x0.wr W16
  have F_x0_type := F_x0_type.other W16 (Or.inr (slot_ne (Or.inl (hw _ (List.mem_of_getElem? (i := 25) rfl))) (Or.inl (hw _ (List.mem_of_getElem? (i := 31) rfl))) (by decide) (t := (.object "com/example/octets_to_session/octetstosession/core/PacketType")) (t' := .int) (by decide) (by decide)))
  have F_x0_flags := F_x0_flags.other W16 (Or.inr (slot_ne (Or.inl (hw _ (List.mem_of_getElem? (i := 27) rfl))) (Or.inl (hw _ (List.mem_of_getElem? (i := 31) rfl))) (by decide) (t := .int) (t' := .int) (by decide) (by decide)))
  have F_x0_octets := F_x0_octets.other W16 (Or.inr (slot_ne (Or.inl (hw _ (List.mem_of_getElem? (i := 29) rfl))) (Or.inl (hw _ (List.mem_of_getElem? (i := 31) rfl))) (by decide) (t := (.array .byte)) (t' := .int) (by decide) (by decide)))
  have F_x0_length := F_x0_length.other W16 (Or.inr (slot_ne (Or.inl (hw _ (List.mem_of_getElem? (i := 33) rfl))) (Or.inl (hw _ (List.mem_of_getElem? (i := 31) rfl))) (by decide) (t := .int) (t' := .int) (by decide) (by decide)))
  have F_x0_reader := F_x0_reader.other W16 (Or.inr (slot_ne (Or.inl (hw _ (List.mem_of_getElem? (i := 65) rfl))) (Or.inl (hw _ (List.mem_of_getElem? (i := 31) rfl))) (by decide) (t := (.object "com/example/octets_to_session/octetstosession/core/PacketReader")) (t' := .int) (by decide) (by decide)))
  have V_x1 := V_x1.other W16 (Ne.symm ne_x0_x1)
  have O16 := O15.wr W16 ge_x0
  have K16 := K15.wr W16 (Or.inl (List.mem_of_getElem? (i := 0) rfl))
  have N16 := Fr.snoc X16 N15 ge_x0
  obtain ⟨T17, h17, X17, e17, W17, st17⟩ := putF X16 hx hZ hown (host := "") (Or.inl (hw _ (List.mem_of_getElem? (i := 32) rfl))) Via.refl e16 F_x0_length E_x0 (Or.inl (hw _ (List.mem_of_getElem? (i := 33) rfl))) (hw _ (List.mem_of_getElem? (i := 1) rfl)) (ty := .int) (by decide) rfl rfl (g := (mkF m 24 #[.val (.ref x0), .val (.ref w_PUBLISH), .val (.int y0), .val (.ref x1), .val (.int y2), .val (.int y3)] [(.int y3), (.ref x0)])) rfl rfl (hb hby d_prog_45_method_3_code_24)
  have F_x0_length := F_x0_length.same W17
  have E_x0 := E_x0.wr W17
  have F_x0_type := F_x0_type.other W17 (Or.inr (slot_ne (Or.inl (hw _ (List.mem_of_getElem? (i := 25) rfl))) (Or.inl (hw _ (List.mem_of_getElem? (i := 33) rfl))) (by decide) (t := (.object "com/example/octets_to_session/octetstosession/core/PacketType")) (t' := .int) (by decide) (by decide)))
  have F_x0_flags := F_x0_flags.other W17 (Or.inr (slot_ne (Or.inl (hw _ (List.mem_of_getElem? (i := 27) rfl))) (Or.inl (hw _ (List.mem_of_getElem? (i := 33) rfl))) (by decide) (t := .int) (t' := .int) (by decide) (by decide)))
  have F_x0_octets := F_x0_octets.other W17 (Or.inr (slot_ne (Or.inl (hw _ (List.mem_of_getElem? (i := 29) rfl))) (Or.inl (hw _ (List.mem_of_getElem? (i := 33) rfl))) (by decide) (t := (.array .byte)) (t' := .int) (by decide) (by decide)))
  have F_x0_start := F_x0_start.other W17 (Or.inr (slot_ne (Or.inl (hw _ (List.mem_of_getElem? (i := 31) rfl))) (Or.inl (hw _ (List.mem_of_getElem? (i := 33) rfl))) (by decide) (t := .int) (t' := .int) (by decide) (by decide)))
  have F_x0_reader := F_x0_reader.other W17 (Or.inr (slot_ne (Or.inl (hw _ (List.mem_of_getElem? (i := 65) rfl))) (Or.inl (hw _ (List.mem_of_getElem? (i := 33) rfl))) (by decide) (t := (.object "com/example/octets_to_session/octetstosession/core/PacketReader")) (t' := .int) (by decide) (by decide)))
  have V_x1 := V_x1.other W17 (Ne.symm ne_x0_x1)
  have O17 := O16.wr W17 ge_x0
  have K17 := K16.wr W17 (Or.inl (List.mem_of_getElem? (i := 0) rfl))
  have N17 := Fr.snoc X17 N16 ge_x0
  have pre18 : ∀ t, Steps p.tables e below (T17.setTop (mkF m 28 #[.val (.ref x0), .val (.ref w_PUBLISH), .val (.int y0), .val (.ref x1), .val (.int y2), .val (.int y3)] [(.ref x0)])) t → Steps p.tables e below (s₁.setTop (entryFrame m #[(.ref x0), (.ref w_PUBLISH), (.int y0), (.ref x1), (.int y2), (.int y3)] 6)) t := by
    intro t kt
    refine pre0 t ?_
    show Steps p.tables e below (s₁.setTop (mkF m 0 #[.val (.ref x0), .val (.ref w_PUBLISH), .val (.int y0), .val (.ref x1), .val (.int y2), .val (.int y3)] [])) _
    refine XS.aloadN X0.here hx rfl (hb hby d_prog_45_method_3_code_0) rfl rfl ?_
    show Steps p.tables e below (s₁.setTop (mkF m 1 #[.val (.ref x0), .val (.ref w_PUBLISH), .val (.int y0), .val (.ref x1), .val (.int y2), .val (.int y3)] [(.ref x0)])) _
    refine XS.aloadN X0.here hx rfl (hb hby d_prog_45_method_3_code_1) rfl rfl ?_
    show Steps p.tables e below (s₁.setTop (mkF m 2 #[.val (.ref x0), .val (.ref w_PUBLISH), .val (.int y0), .val (.ref x1), .val (.int y2), .val (.int y3)] [(.ref w_PUBLISH), (.ref x0)])) _
    refine st13 _ ?_
    show Steps p.tables e below (T13.setTop (mkF m 5 #[.val (.ref x0), .val (.ref w_PUBLISH), .val (.int y0), .val (.ref x1), .val (.int y2), .val (.int y3)] [])) _
    refine XS.aloadN X13.here hx rfl (hb hby d_prog_45_method_3_code_5) rfl rfl ?_
    show Steps p.tables e below (T13.setTop (mkF m 6 #[.val (.ref x0), .val (.ref w_PUBLISH), .val (.int y0), .val (.ref x1), .val (.int y2), .val (.int y3)] [(.ref x0)])) _
    refine XS.iloadN X13.here hx rfl (hb hby d_prog_45_method_3_code_6) rfl ?_
    show Steps p.tables e below (T13.setTop (mkF m 7 #[.val (.ref x0), .val (.ref w_PUBLISH), .val (.int y0), .val (.ref x1), .val (.int y2), .val (.int y3)] [(.int y0), (.ref x0)])) _
    refine st14 _ ?_
    show Steps p.tables e below (T14.setTop (mkF m 10 #[.val (.ref x0), .val (.ref w_PUBLISH), .val (.int y0), .val (.ref x1), .val (.int y2), .val (.int y3)] [])) _
    refine XS.aloadN X14.here hx rfl (hb hby d_prog_45_method_3_code_10) rfl rfl ?_
    show Steps p.tables e below (T14.setTop (mkF m 11 #[.val (.ref x0), .val (.ref w_PUBLISH), .val (.int y0), .val (.ref x1), .val (.int y2), .val (.int y3)] [(.ref x0)])) _
    refine XS.aloadN X14.here hx rfl (hb hby d_prog_45_method_3_code_11) rfl rfl ?_
    show Steps p.tables e below (T14.setTop (mkF m 12 #[.val (.ref x0), .val (.ref w_PUBLISH), .val (.int y0), .val (.ref x1), .val (.int y2), .val (.int y3)] [(.ref x1), (.ref x0)])) _
    refine st15 _ ?_
    show Steps p.tables e below (T15.setTop (mkF m 15 #[.val (.ref x0), .val (.ref w_PUBLISH), .val (.int y0), .val (.ref x1), .val (.int y2), .val (.int y3)] [])) _
    refine XS.aloadN X15.here hx rfl (hb hby d_prog_45_method_3_code_15) rfl rfl ?_
    show Steps p.tables e below (T15.setTop (mkF m 16 #[.val (.ref x0), .val (.ref w_PUBLISH), .val (.int y0), .val (.ref x1), .val (.int y2), .val (.int y3)] [(.ref x0)])) _
    refine XS.iload X15.here hx rfl (hb hby d_prog_45_method_3_code_16) rfl ?_
    show Steps p.tables e below (T15.setTop (mkF m 18 #[.val (.ref x0), .val (.ref w_PUBLISH), .val (.int y0), .val (.ref x1), .val (.int y2), .val (.int y3)] [(.int y2), (.ref x0)])) _
    refine st16 _ ?_
    show Steps p.tables e below (T16.setTop (mkF m 21 #[.val (.ref x0), .val (.ref w_PUBLISH), .val (.int y0), .val (.ref x1), .val (.int y2), .val (.int y3)] [])) _
    refine XS.aloadN X16.here hx rfl (hb hby d_prog_45_method_3_code_21) rfl rfl ?_
    show Steps p.tables e below (T16.setTop (mkF m 22 #[.val (.ref x0), .val (.ref w_PUBLISH), .val (.int y0), .val (.ref x1), .val (.int y2), .val (.int y3)] [(.ref x0)])) _
    refine XS.iload X16.here hx rfl (hb hby d_prog_45_method_3_code_22) rfl ?_
    show Steps p.tables e below (T16.setTop (mkF m 24 #[.val (.ref x0), .val (.ref w_PUBLISH), .val (.int y0), .val (.ref x1), .val (.int y2), .val (.int y3)] [(.int y3), (.ref x0)])) _
    refine st17 _ ?_
    show Steps p.tables e below (T17.setTop (mkF m 27 #[.val (.ref x0), .val (.ref w_PUBLISH), .val (.int y0), .val (.ref x1), .val (.int y2), .val (.int y3)] [])) _
    refine XS.aloadN X17.here hx rfl (hb hby d_prog_45_method_3_code_27) rfl rfl ?_
    exact kt
  obtain ⟨fs, hr, hrun, hended, hW, hsame⟩ := X17.leave (v := some (.ref x0)) (fun h => by rw [Bd.returns] at h; cases h)
  refine ⟨_, _, pre18 _ ?_, hrun, hended, _, _, rfl, ?_, ⟨_, rfl⟩, hW, hsame.mono (by decide) (by decide)⟩
  · show Steps p.tables e below (T17.setTop (mkF m 28 #[.val (.ref x0), .val (.ref w_PUBLISH), .val (.int y0), .val (.ref x1), .val (.int y2), .val (.int y3)] [(.ref x0)])) _
    jvm_step X17.here [X17.here.top, hx, (hb hby d_prog_45_method_3_code_28), X17.method', Bd.returns, Value.isRef, FieldType.isReference]
    first | (intro acts; rw [hr _ acts rfl rfl rfl]) | rw [hr _ _ rfl rfl rfl]
    exact Steps.refl _
  · show Q_rm_set_3 Z x0 y0 x1 y1 y2 y3 kc0 w_PUBLISH h0 n0 _ T17.heap _
    rw [e17]
    exact ⟨rfl, N17, K17, E_x0, F_x0_type, F_x0_flags, F_x0_octets, F_x0_start, F_x0_length, F_x0_reader⟩
theorem ef_rm_set_4 (m : MethodId) (x0 : Addr) (x2 : Addr) (y4 : Int32) (x3 : Addr) (y6 : Int32) (y7 : Int32) : entryFrame m #[(.ref x0), (.ref x2), (.int y4), (.ref x3), (.int y6), (.int y7)] 6 = mkF m 0 #[.val (.ref x0), .val (.ref x2), .val (.int y4), .val (.ref x3), .val (.int y6), .val (.int y7)] [] := by first | (simp [entryFrame, mkF, argsToLocals, Value.category]; done) | rfl
def Q_rm_set_4 (Z : State) (x0 : Addr) (y0 : Int32) (x1 : Addr) (y1 : Int32) (y2 : Int32) (y3 : Int32) (x2 : Addr) (y4 : Int32) (x3 : Addr) (y5 : Int32) (y6 : Int32) (y7 : Int32) (kc0 : ClassId) (kc1 : ClassId) (w_PUBLISH : Addr) (h0 : Heap) (n0 : Nat) (v : Option Value) (h : Heap) (L : List Loc) : Prop := v = some (.ref x0) ∧ Fr n0 L ∧ Keep h0 h [x0] ∧ Exa Z h x0 "com/example/octets_to_session/octetstosession/core/Packet" ∧ Fld Z h x0 "com/example/octets_to_session/octetstosession/core/Packet" "type" "Lcom/example/octets_to_session/octetstosession/core/PacketType;" (.ref x2) ∧ Fld Z h x0 "com/example/octets_to_session/octetstosession/core/Packet" "flags" "I" (.int y4) ∧ Fld Z h x0 "com/example/octets_to_session/octetstosession/core/Packet" "octets" "[B" (.ref x3) ∧ Fld Z h x0 "com/example/octets_to_session/octetstosession/core/Packet" "start" "I" (.int y6) ∧ Fld Z h x0 "com/example/octets_to_session/octetstosession/core/Packet" "length" "I" (.int y7) ∧ Fld Z h x0 "com/example/octets_to_session/octetstosession/core/Packet" "reader" "Lcom/example/octets_to_session/octetstosession/core/PacketReader;" .null
set_option maxRecDepth 65536 in
set_option maxHeartbeats 40000000 in
theorem rm_set_4 (l : Launch) (Z : State) (a0 : Array Value) (hw : ∀ d ∈ tables_1, d.before a0 Z = true) (ws : List Jvm.Cond) (x0 : Addr) (y0 : Int32) (x1 : Addr) (y1 : Int32) (y2 : Int32) (y3 : Int32) (x2 : Addr) (y4 : Int32) (x3 : Addr) (y5 : Int32) (y6 : Int32) (y7 : Int32) (kc0 : ClassId) (kc1 : ClassId) (w_PUBLISH : Addr) (h0 : Heap) (n0 : Nat) (O0 : Old Z n0 h0) (E_x0 : Exa Z h0 x0 "com/example/octets_to_session/octetstosession/core/Packet") (F_x0_type : Fld Z h0 x0 "com/example/octets_to_session/octetstosession/core/Packet" "type" "Lcom/example/octets_to_session/octetstosession/core/PacketType;" (.ref w_PUBLISH)) (F_x0_flags : Fld Z h0 x0 "com/example/octets_to_session/octetstosession/core/Packet" "flags" "I" (.int y0)) (F_x0_octets : Fld Z h0 x0 "com/example/octets_to_session/octetstosession/core/Packet" "octets" "[B" (.ref x1)) (F_x0_start : Fld Z h0 x0 "com/example/octets_to_session/octetstosession/core/Packet" "start" "I" (.int y2)) (F_x0_length : Fld Z h0 x0 "com/example/octets_to_session/octetstosession/core/Packet" "length" "I" (.int y3)) (F_x0_reader : Fld Z h0 x0 "com/example/octets_to_session/octetstosession/core/Packet" "reader" "Lcom/example/octets_to_session/octetstosession/core/PacketReader;" .null) (ge_x0 : n0 ≤ x0) (V_x1 : Arv Z h0 x1 kc0 .byte y1 [] (.int (0 : Int32))) (ge_x1 : n0 ≤ x1) (V_x3 : Arv Z h0 x3 kc1 .byte y5 [] (.int (0 : Int32))) (ge_x3 : n0 ≤ x3) (ne_x0_x1 : x0 ≠ x1) (ne_x0_x3 : x0 ≠ x3) (ne_x1_x3 : x1 ≠ x3)  :
    MetFree l (⟨"com/example/octets_to_session/octetstosession/core/Packet", "set", "(Lcom/example/octets_to_session/octetstosession/core/PacketType;I[BII)Lcom/example/octets_to_session/octetstosession/core/Packet;"⟩ : MethodName) (head1 (Jvm.Cond.code (⟨"com/example/octets_to_session/octetstosession/core/Packet", "set", "(Lcom/example/octets_to_session/octetstosession/core/PacketType;I[BII)Lcom/example/octets_to_session/octetstosession/core/Packet;"⟩ : MethodName) prog_45_method_3_code 6 (some (.object "com/example/octets_to_session/octetstosession/core/Packet")) :: ws) ({ frames := 0, cells := 0, slots := 0, locals := 0 } : Room)) (fun a U => a = #[(.ref x0), (.ref x2), (.int y4), (.ref x3), (.int y6), (.int y7)] ∧ Z.Warmed39 U.vm ∧ U.heap = h0) (fun _ _ _ _ _ => True) (fun _ U o U' => ∃ v L, o = .returned v ∧ Q_rm_set_4 Z x0 y0 x1 y1 y2 y3 x2 y4 x3 y5 y6 y7 kc0 kc1 w_PUBLISH h0 n0 v U'.heap L ∧ FrameEnd U o U' L ({ frames := 0, cells := 0, slots := 0, locals := 0 } : Room).cells ({ frames := 0, cells := 0, slots := 0, locals := 0 } : Room).slots) := by
  refine MetFree.of_bodySF (plainFor_of_name pn_com_example_octets_to_session_octetstosession_core_Packet) hisR ?_
  intro p e s m args below meth c s₁ Bd hml0 hP hK
  obtain ⟨rfl, hZ, hh⟩ := hP
  have hx := Bd.exec
  have hby := Bd.bytes
  have hml : c.maxLocals = 6 := hml0
  have hown : s.vm.findClass "com/example/octets_to_session/octetstosession/core/Packet" = some m.cls := findClass_of_methodNamed Bd.named
  have hnm := (name_of_methodNamed Bd.named Bd.method).1
  have X0 : Stand p l e ({ frames := 0, cells := 0, slots := 0, locals := 0 } : Room) s m #[(.ref x0), (.ref x2), (.int y4), (.ref x3), (.int y6), (.int y7)] below meth c s₁ [] 0 0 := Stand.of_body Bd
  have e0 : s₁.heap = h0 := by rw [← hh, Bd.state]; rfl
  have N0 := Fr.nil n0
  have pre0 : ∀ t, Steps p.tables e below (s₁.setTop (mkF m 0 #[.val (.ref x0), .val (.ref x2), .val (.int y4), .val (.ref x3), .val (.int y6), .val (.int y7)] [])) t → Steps p.tables e below (s₁.setTop (entryFrame m #[(.ref x0), (.ref x2), (.int y4), (.ref x3), (.int y6), (.int y7)] 6)) t := fun t k => castTop (ef_rm_set_4 m x0 x2 y4 x3 y6 y7) k
  have K0 := Keep.refl h0 [x0]
  obtain ⟨T20, h20, X20, e20, W20, st20⟩ := putF X0 hx hZ hown (host := "") (Or.inl (hw _ (List.mem_of_getElem? (i := 24) rfl))) Via.refl e0 F_x0_type E_x0 (Or.inl (hw _ (List.mem_of_getElem? (i := 25) rfl))) (hw _ (List.mem_of_getElem? (i := 1) rfl)) (ty := (.object "com/example/octets_to_session/octetstosession/core/PacketType")) (by decide) rfl rfl (g := (mkF m 2 #[.val (.ref x0), .val (.ref x2), .val (.int y4), .val (.ref x3), .val (.int y6), .val (.int y7)] [(.ref x2), (.ref x0)])) rfl rfl (hb hby d_prog_45_method_3_code_2)
  have F_x0_type := F_x0_type.same W20
  have E_x0 := E_x0.wr W20
  have F_x0_flags := F_x0_flags.other W20 (Or.inr (slot_ne (Or.inl (hw _ (List.mem_of_getElem? (i := 27) rfl))) (Or.inl (hw _ (List.mem_of_getElem? (i := 25) rfl))) (by decide) (t := .int) (t' := (.object "com/example/octets_to_session/octetstosession/core/PacketType")) (by decide) (by decide)))
  have F_x0_octets := F_x0_octets.other W20 (Or.inr (slot_ne (Or.inl (hw _ (List.mem_of_getElem? (i := 29) rfl))) (Or.inl (hw _ (List.mem_of_getElem? (i := 25) rfl))) (by decide) (t := (.array .byte)) (t' := (.object "com/example/octets_to_session/octetstosession/core/PacketType")) (by decide) (by decide)))
  have F_x0_start := F_x0_start.other W20 (Or.inr (slot_ne (Or.inl (hw _ (List.mem_of_getElem? (i := 31) rfl))) (Or.inl (hw _ (List.mem_of_getElem? (i := 25) rfl))) (by decide) (t := .int) (t' := (.object "com/example/octets_to_session/octetstosession/core/PacketType")) (by decide) (by decide)))
  have F_x0_length := F_x0_length.other W20 (Or.inr (slot_ne (Or.inl (hw _ (List.mem_of_getElem? (i := 33) rfl))) (Or.inl (hw _ (List.mem_of_getElem? (i := 25) rfl))) (by decide) (t := .int) (t' := (.object "com/example/octets_to_session/octetstosession/core/PacketType")) (by decide) (by decide)))
  have F_x0_reader := F_x0_reader.other W20 (Or.inr (slot_ne (Or.inl (hw _ (List.mem_of_getElem? (i := 65) rfl))) (Or.inl (hw _ (List.mem_of_getElem? (i := 25) rfl))) (by decide) (t := (.object "com/example/octets_to_session/octetstosession/core/PacketReader")) (t' := (.object "com/example/octets_to_session/octetstosession/core/PacketType")) (by decide) (by decide)))
  have V_x1 := V_x1.other W20 (Ne.symm ne_x0_x1)
  have V_x3 := V_x3.other W20 (Ne.symm ne_x0_x3)
  have O20 := O0.wr W20 ge_x0
  have K20 := K0.wr W20 (Or.inl (List.mem_of_getElem? (i := 0) rfl))
  have N20 := Fr.snoc X20 N0 ge_x0
  obtain ⟨T21, h21, X21, e21, W21, st21⟩ := putF X20 hx hZ hown (host := "") (Or.inl (hw _ (List.mem_of_getElem? (i := 26) rfl))) Via.refl e20 F_x0_flags E_x0 (Or.inl (hw _ (List.mem_of_getElem? (i := 27) rfl))) (hw _ (List.mem_of_getElem? (i := 1) rfl)) (ty := .int) (by decide) rfl rfl (g := (mkF m 7 #[.val (.ref x0), .val (.ref x2), .val (.int y4), .val (.ref x3), .val (.int y6), .val (.int y7)] [(.int y4), (.ref x0)])) rfl rfl (hb hby d_prog_45_method_3_code_7)
  have F_x0_flags := F_x0_flags.same W21
  have E_x0 := E_x0.wr W21
  have F_x0_type := F_x0_type.other W21 (Or.inr (slot_ne (Or.inl (hw _ (List.mem_of_getElem? (i := 25) rfl))) (Or.inl (hw _ (List.mem_of_getElem? (i := 27) rfl))) (by decide) (t := (.object "com/example/octets_to_session/octetstosession/core/PacketType")) (t' := .int) (by decide) (by decide)))
  have F_x0_octets := F_x0_octets.other W21 (Or.inr (slot_ne (Or.inl (hw _ (List.mem_of_getElem? (i := 29) rfl))) (Or.inl (hw _ (List.mem_of_getElem? (i := 27) rfl))) (by decide) (t := (.array .byte)) (t' := .int) (by decide) (by decide)))
  have F_x0_start := F_x0_start.other W21 (Or.inr (slot_ne (Or.inl (hw _ (List.mem_of_getElem? (i := 31) rfl))) (Or.inl (hw _ (List.mem_of_getElem? (i := 27) rfl))) (by decide) (t := .int) (t' := .int) (by decide) (by decide)))
  have F_x0_length := F_x0_length.other W21 (Or.inr (slot_ne (Or.inl (hw _ (List.mem_of_getElem? (i := 33) rfl))) (Or.inl (hw _ (List.mem_of_getElem? (i := 27) rfl))) (by decide) (t := .int) (t' := .int) (by decide) (by decide)))
  have F_x0_reader := F_x0_reader.other W21 (Or.inr (slot_ne (Or.inl (hw _ (List.mem_of_getElem? (i := 65) rfl))) (Or.inl (hw _ (List.mem_of_getElem? (i := 27) rfl))) (by decide) (t := (.object "com/example/octets_to_session/octetstosession/core/PacketReader")) (t' := .int) (by decide) (by decide)))
  have V_x1 := V_x1.other W21 (Ne.symm ne_x0_x1)
  have V_x3 := V_x3.other W21 (Ne.symm ne_x0_x3)
  have O21 := O20.wr W21 ge_x0
  have K21 := K20.wr W21 (Or.inl (List.mem_of_getElem? (i := 0) rfl))
  have N21 := Fr.snoc X21 N20 ge_x0
  obtain ⟨T22, h22, X22, e22, W22, st22⟩ := putF X21 hx hZ hown (host := "") (Or.inl (hw _ (List.mem_of_getElem? (i := 28) rfl))) Via.refl e21 F_x0_octets E_x0 (Or.inl (hw _ (List.mem_of_getElem? (i := 29) rfl))) (hw _ (List.mem_of_getElem? (i := 1) rfl)) (ty := (.array .byte)) (by decide) rfl rfl (g := (mkF m 12 #[.val (.ref x0), .val (.ref x2), .val (.int y4), .val (.ref x3), .val (.int y6), .val (.int y7)] [(.ref x3), (.ref x0)])) rfl rfl (hb hby d_prog_45_method_3_code_12)
  have F_x0_octets := F_x0_octets.same W22
  have E_x0 := E_x0.wr W22
  have F_x0_type := F_x0_type.other W22 (Or.inr (slot_ne (Or.inl (hw _ (List.mem_of_getElem? (i := 25) rfl))) (Or.inl (hw _ (List.mem_of_getElem? (i := 29) rfl))) (by decide) (t := (.object "com/example/octets_to_session/octetstosession/core/PacketType")) (t' := (.array .byte)) (by decide) (by decide)))
  have F_x0_flags := F_x0_flags.other W22 (Or.inr (slot_ne (Or.inl (hw _ (List.mem_of_getElem? (i := 27) rfl))) (Or.inl (hw _ (List.mem_of_getElem? (i := 29) rfl))) (by decide) (t := .int) (t' := (.array .byte)) (by decide) (by decide)))
  have F_x0_start := F_x0_start.other W22 (Or.inr (slot_ne (Or.inl (hw _ (List.mem_of_getElem? (i := 31) rfl))) (Or.inl (hw _ (List.mem_of_getElem? (i := 29) rfl))) (by decide) (t := .int) (t' := (.array .byte)) (by decide) (by decide)))
  have F_x0_length := F_x0_length.other W22 (Or.inr (slot_ne (Or.inl (hw _ (List.mem_of_getElem? (i := 33) rfl))) (Or.inl (hw _ (List.mem_of_getElem? (i := 29) rfl))) (by decide) (t := .int) (t' := (.array .byte)) (by decide) (by decide)))
  have F_x0_reader := F_x0_reader.other W22 (Or.inr (slot_ne (Or.inl (hw _ (List.mem_of_getElem? (i := 65) rfl))) (Or.inl (hw _ (List.mem_of_getElem? (i := 29) rfl))) (by decide) (t := (.object "com/example/octets_to_session/octetstosession/core/PacketReader")) (t' := (.array .byte)) (by decide) (by decide)))
  have V_x1 := V_x1.other W22 (Ne.symm ne_x0_x1)
  have V_x3 := V_x3.other W22 (Ne.symm ne_x0_x3)
  have O22 := O21.wr W22 ge_x0
  have K22 := K21.wr W22 (Or.inl (List.mem_of_getElem? (i := 0) rfl))
  have N22 := Fr.snoc X22 N21 ge_x0
  obtain ⟨T23, h23, X23, e23, W23, st23⟩ := putF X22 hx hZ hown (host := "") (Or.inl (hw _ (List.mem_of_getElem? (i := 30) rfl))) Via.refl e22 F_x0_start E_x0 (Or.inl (hw _ (List.mem_of_getElem? (i := 31) rfl))) (hw _ (List.mem_of_getElem? (i := 1) rfl)) (ty := .int) (by decide) rfl rfl (g := (mkF m 18 #[.val (.ref x0), .val (.ref x2), .val (.int y4), .val (.ref x3), .val (.int y6), .val (.int y7)] [(.int y6), (.ref x0)])) rfl rfl (hb hby d_prog_45_method_3_code_18)
  have F_x0_start := F_x0_start.same W23
  have E_x0 := E_x0.wr W23
  have F_x0_type := F_x0_type.other W23 (Or.inr (slot_ne (Or.inl (hw _ (List.mem_of_getElem? (i := 25) rfl))) (Or.inl (hw _ (List.mem_of_getElem? (i := 31) rfl))) (by decide) (t := (.object "com/example/octets_to_session/octetstosession/core/PacketType")) (t' := .int) (by decide) (by decide)))
  have F_x0_flags := F_x0_flags.other W23 (Or.inr (slot_ne (Or.inl (hw _ (List.mem_of_getElem? (i := 27) rfl))) (Or.inl (hw _ (List.mem_of_getElem? (i := 31) rfl))) (by decide) (t := .int) (t' := .int) (by decide) (by decide)))
  have F_x0_octets := F_x0_octets.other W23 (Or.inr (slot_ne (Or.inl (hw _ (List.mem_of_getElem? (i := 29) rfl))) (Or.inl (hw _ (List.mem_of_getElem? (i := 31) rfl))) (by decide) (t := (.array .byte)) (t' := .int) (by decide) (by decide)))
  have F_x0_length := F_x0_length.other W23 (Or.inr (slot_ne (Or.inl (hw _ (List.mem_of_getElem? (i := 33) rfl))) (Or.inl (hw _ (List.mem_of_getElem? (i := 31) rfl))) (by decide) (t := .int) (t' := .int) (by decide) (by decide)))
  have F_x0_reader := F_x0_reader.other W23 (Or.inr (slot_ne (Or.inl (hw _ (List.mem_of_getElem? (i := 65) rfl))) (Or.inl (hw _ (List.mem_of_getElem? (i := 31) rfl))) (by decide) (t := (.object "com/example/octets_to_session/octetstosession/core/PacketReader")) (t' := .int) (by decide) (by decide)))
  have V_x1 := V_x1.other W23 (Ne.symm ne_x0_x1)
  have V_x3 := V_x3.other W23 (Ne.symm ne_x0_x3)
  have O23 := O22.wr W23 ge_x0
  have K23 := K22.wr W23 (Or.inl (List.mem_of_getElem? (i := 0) rfl))
  have N23 := Fr.snoc X23 N22 ge_x0
  obtain ⟨T24, h24, X24, e24, W24, st24⟩ := putF X23 hx hZ hown (host := "") (Or.inl (hw _ (List.mem_of_getElem? (i := 32) rfl))) Via.refl e23 F_x0_length E_x0 (Or.inl (hw _ (List.mem_of_getElem? (i := 33) rfl))) (hw _ (List.mem_of_getElem? (i := 1) rfl)) (ty := .int) (by decide) rfl rfl (g := (mkF m 24 #[.val (.ref x0), .val (.ref x2), .val (.int y4), .val (.ref x3), .val (.int y6), .val (.int y7)] [(.int y7), (.ref x0)])) rfl rfl (hb hby d_prog_45_method_3_code_24)
  have F_x0_length := F_x0_length.same W24
  have E_x0 := E_x0.wr W24
  have F_x0_type := F_x0_type.other W24 (Or.inr (slot_ne (Or.inl (hw _ (List.mem_of_getElem? (i := 25) rfl))) (Or.inl (hw _ (List.mem_of_getElem? (i := 33) rfl))) (by decide) (t := (.object "com/example/octets_to_session/octetstosession/core/PacketType")) (t' := .int) (by decide) (by decide)))
  have F_x0_flags := F_x0_flags.other W24 (Or.inr (slot_ne (Or.inl (hw _ (List.mem_of_getElem? (i := 27) rfl))) (Or.inl (hw _ (List.mem_of_getElem? (i := 33) rfl))) (by decide) (t := .int) (t' := .int) (by decide) (by decide)))
  have F_x0_octets := F_x0_octets.other W24 (Or.inr (slot_ne (Or.inl (hw _ (List.mem_of_getElem? (i := 29) rfl))) (Or.inl (hw _ (List.mem_of_getElem? (i := 33) rfl))) (by decide) (t := (.array .byte)) (t' := .int) (by decide) (by decide)))
  have F_x0_start := F_x0_start.other W24 (Or.inr (slot_ne (Or.inl (hw _ (List.mem_of_getElem? (i := 31) rfl))) (Or.inl (hw _ (List.mem_of_getElem? (i := 33) rfl))) (by decide) (t := .int) (t' := .int) (by decide) (by decide)))
  have F_x0_reader := F_x0_reader.other W24 (Or.inr (slot_ne (Or.inl (hw _ (List.mem_of_getElem? (i := 65) rfl))) (Or.inl (hw _ (List.mem_of_getElem? (i := 33) rfl))) (by decide) (t := (.object "com/example/octets_to_session/octetstosession/core/PacketReader")) (t' := .int) (by decide) (by decide)))
  have V_x1 := V_x1.other W24 (Ne.symm ne_x0_x1)
  have V_x3 := V_x3.other W24 (Ne.symm ne_x0_x3)
  have O24 := O23.wr W24 ge_x0
  have K24 := K23.wr W24 (Or.inl (List.mem_of_getElem? (i := 0) rfl))
  have N24 := Fr.snoc X24 N23 ge_x0
  have pre25 : ∀ t, Steps p.tables e below (T24.setTop (mkF m 28 #[.val (.ref x0), .val (.ref x2), .val (.int y4), .val (.ref x3), .val (.int y6), .val (.int y7)] [(.ref x0)])) t → Steps p.tables e below (s₁.setTop (entryFrame m #[(.ref x0), (.ref x2), (.int y4), (.ref x3), (.int y6), (.int y7)] 6)) t := by
    intro t kt
    refine pre0 t ?_
    show Steps p.tables e below (s₁.setTop (mkF m 0 #[.val (.ref x0), .val (.ref x2), .val (.int y4), .val (.ref x3), .val (.int y6), .val (.int y7)] [])) _
    refine XS.aloadN X0.here hx rfl (hb hby d_prog_45_method_3_code_0) rfl rfl ?_
    show Steps p.tables e below (s₁.setTop (mkF m 1 #[.val (.ref x0), .val (.ref x2), .val (.int y4), .val (.ref x3), .val (.int y6), .val (.int y7)] [(.ref x0)])) _
    refine XS.aloadN X0.here hx rfl (hb hby d_prog_45_method_3_code_1) rfl rfl ?_
    show Steps p.tables e below (s₁.setTop (mkF m 2 #[.val (.ref x0), .val (.ref x2), .val (.int y4), .val (.ref x3), .val (.int y6), .val (.int y7)] [(.ref x2), (.ref x0)])) _
    refine st20 _ ?_
    show Steps p.tables e below (T20.setTop (mkF m 5 #[.val (.ref x0), .val (.ref x2), .val (.int y4), .val (.ref x3), .val (.int y6), .val (.int y7)] [])) _
    refine XS.aloadN X20.here hx rfl (hb hby d_prog_45_method_3_code_5) rfl rfl ?_
    show Steps p.tables e below (T20.setTop (mkF m 6 #[.val (.ref x0), .val (.ref x2), .val (.int y4), .val (.ref x3), .val (.int y6), .val (.int y7)] [(.ref x0)])) _
    refine XS.iloadN X20.here hx rfl (hb hby d_prog_45_method_3_code_6) rfl ?_
    show Steps p.tables e below (T20.setTop (mkF m 7 #[.val (.ref x0), .val (.ref x2), .val (.int y4), .val (.ref x3), .val (.int y6), .val (.int y7)] [(.int y4), (.ref x0)])) _
    refine st21 _ ?_
    show Steps p.tables e below (T21.setTop (mkF m 10 #[.val (.ref x0), .val (.ref x2), .val (.int y4), .val (.ref x3), .val (.int y6), .val (.int y7)] [])) _
    refine XS.aloadN X21.here hx rfl (hb hby d_prog_45_method_3_code_10) rfl rfl ?_
    show Steps p.tables e below (T21.setTop (mkF m 11 #[.val (.ref x0), .val (.ref x2), .val (.int y4), .val (.ref x3), .val (.int y6), .val (.int y7)] [(.ref x0)])) _
    refine XS.aloadN X21.here hx rfl (hb hby d_prog_45_method_3_code_11) rfl rfl ?_
    show Steps p.tables e below (T21.setTop (mkF m 12 #[.val (.ref x0), .val (.ref x2), .val (.int y4), .val (.ref x3), .val (.int y6), .val (.int y7)] [(.ref x3), (.ref x0)])) _
    refine st22 _ ?_
    show Steps p.tables e below (T22.setTop (mkF m 15 #[.val (.ref x0), .val (.ref x2), .val (.int y4), .val (.ref x3), .val (.int y6), .val (.int y7)] [])) _
    refine XS.aloadN X22.here hx rfl (hb hby d_prog_45_method_3_code_15) rfl rfl ?_
    show Steps p.tables e below (T22.setTop (mkF m 16 #[.val (.ref x0), .val (.ref x2), .val (.int y4), .val (.ref x3), .val (.int y6), .val (.int y7)] [(.ref x0)])) _
    refine XS.iload X22.here hx rfl (hb hby d_prog_45_method_3_code_16) rfl ?_
    show Steps p.tables e below (T22.setTop (mkF m 18 #[.val (.ref x0), .val (.ref x2), .val (.int y4), .val (.ref x3), .val (.int y6), .val (.int y7)] [(.int y6), (.ref x0)])) _
    refine st23 _ ?_
    show Steps p.tables e below (T23.setTop (mkF m 21 #[.val (.ref x0), .val (.ref x2), .val (.int y4), .val (.ref x3), .val (.int y6), .val (.int y7)] [])) _
    refine XS.aloadN X23.here hx rfl (hb hby d_prog_45_method_3_code_21) rfl rfl ?_
    show Steps p.tables e below (T23.setTop (mkF m 22 #[.val (.ref x0), .val (.ref x2), .val (.int y4), .val (.ref x3), .val (.int y6), .val (.int y7)] [(.ref x0)])) _
    refine XS.iload X23.here hx rfl (hb hby d_prog_45_method_3_code_22) rfl ?_
    show Steps p.tables e below (T23.setTop (mkF m 24 #[.val (.ref x0), .val (.ref x2), .val (.int y4), .val (.ref x3), .val (.int y6), .val (.int y7)] [(.int y7), (.ref x0)])) _
    refine st24 _ ?_
    show Steps p.tables e below (T24.setTop (mkF m 27 #[.val (.ref x0), .val (.ref x2), .val (.int y4), .val (.ref x3), .val (.int y6), .val (.int y7)] [])) _
    refine XS.aloadN X24.here hx rfl (hb hby d_prog_45_method_3_code_27) rfl rfl ?_
    exact kt
  obtain ⟨fs, hr, hrun, hended, hW, hsame⟩ := X24.leave (v := some (.ref x0)) (fun h => by rw [Bd.returns] at h; cases h)
  refine ⟨_, _, pre25 _ ?_, hrun, hended, _, _, rfl, ?_, ⟨_, rfl⟩, hW, hsame.mono (by decide) (by decide)⟩
  · show Steps p.tables e below (T24.setTop (mkF m 28 #[.val (.ref x0), .val (.ref x2), .val (.int y4), .val (.ref x3), .val (.int y6), .val (.int y7)] [(.ref x0)])) _
    jvm_step X24.here [X24.here.top, hx, (hb hby d_prog_45_method_3_code_28), X24.method', Bd.returns, Value.isRef, FieldType.isReference]
    first | (intro acts; rw [hr _ acts rfl rfl rfl]) | rw [hr _ _ rfl rfl rfl]
    exact Steps.refl _
  · show Q_rm_set_4 Z x0 y0 x1 y1 y2 y3 x2 y4 x3 y5 y6 y7 kc0 kc1 w_PUBLISH h0 n0 _ T24.heap _
    rw [e24]
    exact ⟨rfl, N24, K24, E_x0, F_x0_type, F_x0_flags, F_x0_octets, F_x0_start, F_x0_length, F_x0_reader⟩
theorem d_prog_45_method_6_code_0 : decode prog_45_method_6_code 0 = .ok (.aload_n 0, 1) := by decide +kernel
theorem d_prog_45_method_6_code_1 : decode prog_45_method_6_code 1 = .ok (.getfield 13, 3) := by decide +kernel
theorem d_prog_45_method_6_code_4 : decode prog_45_method_6_code 4 = .ok (.areturn, 1) := by decide +kernel
theorem ef_rm_type_5 (m : MethodId) (x0 : Addr) : entryFrame m #[(.ref x0)] 1 = mkF m 0 #[.val (.ref x0)] [] := by first | (simp [entryFrame, mkF, argsToLocals, Value.category]; done) | rfl
def Q_rm_type_5 (Z : State) (x0 : Addr) (x1 : Addr) (h0 : Heap) (n0 : Nat) (v : Option Value) (h : Heap) (L : List Loc) : Prop := v = some (.ref x1) ∧ Fr n0 L ∧ h = h0
set_option maxRecDepth 65536 in
set_option maxHeartbeats 40000000 in
theorem rm_type_5 (l : Launch) (Z : State) (a0 : Array Value) (hw : ∀ d ∈ tables_1, d.before a0 Z = true) (ws : List Jvm.Cond) (x0 : Addr) (x1 : Addr) (h0 : Heap) (n0 : Nat) (O0 : Old Z n0 h0) (F_x0_type : Fld Z h0 x0 "com/example/octets_to_session/octetstosession/core/Packet" "type" "Lcom/example/octets_to_session/octetstosession/core/PacketType;" (.ref x1))  :
    MetFree l (⟨"com/example/octets_to_session/octetstosession/core/Packet", "type", "()Lcom/example/octets_to_session/octetstosession/core/PacketType;"⟩ : MethodName) (head1 (Jvm.Cond.code (⟨"com/example/octets_to_session/octetstosession/core/Packet", "type", "()Lcom/example/octets_to_session/octetstosession/core/PacketType;"⟩ : MethodName) prog_45_method_6_code 1 (some (.object "com/example/octets_to_session/octetstosession/core/PacketType")) :: ws) ({ frames := 0, cells := 0, slots := 0, locals := 0 } : Room)) (fun a U => a = #[(.ref x0)] ∧ Z.Warmed39 U.vm ∧ U.heap = h0) (fun _ _ _ _ _ => True) (fun _ U o U' => ∃ v L, o = .returned v ∧ Q_rm_type_5 Z x0 x1 h0 n0 v U'.heap L ∧ FrameEnd U o U' L ({ frames := 0, cells := 0, slots := 0, locals := 0 } : Room).cells ({ frames := 0, cells := 0, slots := 0, locals := 0 } : Room).slots) := by
  refine MetFree.of_bodySF (plainFor_of_name pn_com_example_octets_to_session_octetstosession_core_Packet) hisR ?_
  intro p e s m args below meth c s₁ Bd hml0 hP hK
  obtain ⟨rfl, hZ, hh⟩ := hP
  have hx := Bd.exec
  have hby := Bd.bytes
  have hml : c.maxLocals = 1 := hml0
  have hown : s.vm.findClass "com/example/octets_to_session/octetstosession/core/Packet" = some m.cls := findClass_of_methodNamed Bd.named
  have hnm := (name_of_methodNamed Bd.named Bd.method).1
  have X0 : Stand p l e ({ frames := 0, cells := 0, slots := 0, locals := 0 } : Room) s m #[(.ref x0)] below meth c s₁ [] 0 0 := Stand.of_body Bd
  have e0 : s₁.heap = h0 := by rw [← hh, Bd.state]; rfl
  have N0 := Fr.nil n0
  have pre0 : ∀ t, Steps p.tables e below (s₁.setTop (mkF m 0 #[.val (.ref x0)] [])) t → Steps p.tables e below (s₁.setTop (entryFrame m #[(.ref x0)] 1)) t := fun t k => castTop (ef_rm_type_5 m x0) k
  have K0 := Keep.refl h0 []
  obtain ⟨T27, X27, e27, st27⟩ := getF X0 hx hZ hown (host := "") (Or.inl (hw _ (List.mem_of_getElem? (i := 24) rfl))) Via.refl e0 F_x0_type (g := (mkF m 1 #[.val (.ref x0)] [(.ref x0)])) rfl rfl (hb hby d_prog_45_method_6_code_1)
  have pre28 : ∀ t, Steps p.tables e below (T27.setTop (mkF m 4 #[.val (.ref x0)] [(.ref x1)])) t → Steps p.tables e below (s₁.setTop (entryFrame m #[(.ref x0)] 1)) t := by
    intro t kt
    refine pre0 t ?_
    show Steps p.tables e below (s₁.setTop (mkF m 0 #[.val (.ref x0)] [])) _
    refine XS.aloadN X0.here hx rfl (hb hby d_prog_45_method_6_code_0) rfl rfl ?_
    show Steps p.tables e below (s₁.setTop (mkF m 1 #[.val (.ref x0)] [(.ref x0)])) _
    refine st27 _ ?_
    exact kt
  obtain ⟨fs, hr, hrun, hended, hW, hsame⟩ := X27.leave (v := some (.ref x1)) (fun h => by rw [Bd.returns] at h; cases h)
  refine ⟨_, _, pre28 _ ?_, hrun, hended, _, _, rfl, ?_, ⟨_, rfl⟩, hW, hsame.mono (by decide) (by decide)⟩
  · show Steps p.tables e below (T27.setTop (mkF m 4 #[.val (.ref x0)] [(.ref x1)])) _
    jvm_step X27.here [X27.here.top, hx, (hb hby d_prog_45_method_6_code_4), X27.method', Bd.returns, Value.isRef, FieldType.isReference]
    first | (intro acts; rw [hr _ acts rfl rfl rfl]) | rw [hr _ _ rfl rfl rfl]
    exact Steps.refl _
  · show Q_rm_type_5 Z x0 x1 h0 n0 _ T27.heap _
    rw [e27]
    exact ⟨rfl, N0, rfl⟩
theorem d_prog_45_method_7_code_0 : decode prog_45_method_7_code 0 = .ok (.aload_n 0, 1) := by decide +kernel
theorem d_prog_45_method_7_code_1 : decode prog_45_method_7_code 1 = .ok (.getfield 17, 3) := by decide +kernel
theorem d_prog_45_method_7_code_4 : decode prog_45_method_7_code 4 = .ok (.ireturn, 1) := by decide +kernel
theorem ef_rm_flags_6 (m : MethodId) (x0 : Addr) : entryFrame m #[(.ref x0)] 1 = mkF m 0 #[.val (.ref x0)] [] := by first | (simp [entryFrame, mkF, argsToLocals, Value.category]; done) | rfl
def Q_rm_flags_6 (Z : State) (x0 : Addr) (y0 : Int32) (h0 : Heap) (n0 : Nat) (v : Option Value) (h : Heap) (L : List Loc) : Prop := v = some (.int y0) ∧ Fr n0 L ∧ h = h0
set_option maxRecDepth 65536 in
set_option maxHeartbeats 40000000 in
theorem rm_flags_6 (l : Launch) (Z : State) (a0 : Array Value) (hw : ∀ d ∈ tables_1, d.before a0 Z = true) (ws : List Jvm.Cond) (x0 : Addr) (y0 : Int32) (h0 : Heap) (n0 : Nat) (O0 : Old Z n0 h0) (F_x0_flags : Fld Z h0 x0 "com/example/octets_to_session/octetstosession/core/Packet" "flags" "I" (.int y0))  :
    MetFree l (⟨"com/example/octets_to_session/octetstosession/core/Packet", "flags", "()I"⟩ : MethodName) (head1 (Jvm.Cond.code (⟨"com/example/octets_to_session/octetstosession/core/Packet", "flags", "()I"⟩ : MethodName) prog_45_method_7_code 1 (some .int) :: ws) ({ frames := 0, cells := 0, slots := 0, locals := 0 } : Room)) (fun a U => a = #[(.ref x0)] ∧ Z.Warmed39 U.vm ∧ U.heap = h0) (fun _ _ _ _ _ => True) (fun _ U o U' => ∃ v L, o = .returned v ∧ Q_rm_flags_6 Z x0 y0 h0 n0 v U'.heap L ∧ FrameEnd U o U' L ({ frames := 0, cells := 0, slots := 0, locals := 0 } : Room).cells ({ frames := 0, cells := 0, slots := 0, locals := 0 } : Room).slots) := by
  refine MetFree.of_bodySF (plainFor_of_name pn_com_example_octets_to_session_octetstosession_core_Packet) hisR ?_
  intro p e s m args below meth c s₁ Bd hml0 hP hK
  obtain ⟨rfl, hZ, hh⟩ := hP
  have hx := Bd.exec
  have hby := Bd.bytes
  have hml : c.maxLocals = 1 := hml0
  have hown : s.vm.findClass "com/example/octets_to_session/octetstosession/core/Packet" = some m.cls := findClass_of_methodNamed Bd.named
  have hnm := (name_of_methodNamed Bd.named Bd.method).1
  have X0 : Stand p l e ({ frames := 0, cells := 0, slots := 0, locals := 0 } : Room) s m #[(.ref x0)] below meth c s₁ [] 0 0 := Stand.of_body Bd
  have e0 : s₁.heap = h0 := by rw [← hh, Bd.state]; rfl
  have N0 := Fr.nil n0
  have pre0 : ∀ t, Steps p.tables e below (s₁.setTop (mkF m 0 #[.val (.ref x0)] [])) t → Steps p.tables e below (s₁.setTop (entryFrame m #[(.ref x0)] 1)) t := fun t k => castTop (ef_rm_flags_6 m x0) k
  have K0 := Keep.refl h0 []
  obtain ⟨T30, X30, e30, st30⟩ := getF X0 hx hZ hown (host := "") (Or.inl (hw _ (List.mem_of_getElem? (i := 26) rfl))) Via.refl e0 F_x0_flags (g := (mkF m 1 #[.val (.ref x0)] [(.ref x0)])) rfl rfl (hb hby d_prog_45_method_7_code_1)
  have pre31 : ∀ t, Steps p.tables e below (T30.setTop (mkF m 4 #[.val (.ref x0)] [(.int y0)])) t → Steps p.tables e below (s₁.setTop (entryFrame m #[(.ref x0)] 1)) t := by
    intro t kt
    refine pre0 t ?_
    show Steps p.tables e below (s₁.setTop (mkF m 0 #[.val (.ref x0)] [])) _
    refine XS.aloadN X0.here hx rfl (hb hby d_prog_45_method_7_code_0) rfl rfl ?_
    show Steps p.tables e below (s₁.setTop (mkF m 1 #[.val (.ref x0)] [(.ref x0)])) _
    refine st30 _ ?_
    exact kt
  obtain ⟨fs, hr, hrun, hended, hW, hsame⟩ := X30.leave (v := some (.int y0)) (fun h => by rw [Bd.returns] at h; cases h)
  refine ⟨_, _, pre31 _ ?_, hrun, hended, _, _, rfl, ?_, ⟨_, rfl⟩, hW, hsame.mono (by decide) (by decide)⟩
  · show Steps p.tables e below (T30.setTop (mkF m 4 #[.val (.ref x0)] [(.int y0)])) _
    exact retI X30 hx Bd.returns (hb hby d_prog_45_method_7_code_4) hr
  · show Q_rm_flags_6 Z x0 y0 h0 n0 _ T30.heap _
    rw [e30]
    exact ⟨rfl, N0, rfl⟩
theorem d_prog_45_method_9_code_0 : decode prog_45_method_9_code 0 = .ok (.aload_n 0, 1) := by decide +kernel
theorem d_prog_45_method_9_code_1 : decode prog_45_method_9_code 1 = .ok (.getfield 21, 3) := by decide +kernel
theorem d_prog_45_method_9_code_4 : decode prog_45_method_9_code 4 = .ok (.areturn, 1) := by decide +kernel
theorem ef_rm_octets_7 (m : MethodId) (x0 : Addr) : entryFrame m #[(.ref x0)] 1 = mkF m 0 #[.val (.ref x0)] [] := by first | (simp [entryFrame, mkF, argsToLocals, Value.category]; done) | rfl
def Q_rm_octets_7 (Z : State) (x0 : Addr) (x2 : Addr) (h0 : Heap) (n0 : Nat) (v : Option Value) (h : Heap) (L : List Loc) : Prop := v = some (.ref x2) ∧ Fr n0 L ∧ h = h0
set_option maxRecDepth 65536 in
set_option maxHeartbeats 40000000 in
theorem rm_octets_7 (l : Launch) (Z : State) (a0 : Array Value) (hw : ∀ d ∈ tables_1, d.before a0 Z = true) (ws : List Jvm.Cond) (x0 : Addr) (x2 : Addr) (h0 : Heap) (n0 : Nat) (O0 : Old Z n0 h0) (F_x0_octets : Fld Z h0 x0 "com/example/octets_to_session/octetstosession/core/Packet" "octets" "[B" (.ref x2))  :
    MetFree l (⟨"com/example/octets_to_session/octetstosession/core/Packet", "octets", "()[B"⟩ : MethodName) (head1 (Jvm.Cond.code (⟨"com/example/octets_to_session/octetstosession/core/Packet", "octets", "()[B"⟩ : MethodName) prog_45_method_9_code 1 (some (.array .byte)) :: ws) ({ frames := 0, cells := 0, slots := 0, locals := 0 } : Room)) (fun a U => a = #[(.ref x0)] ∧ Z.Warmed39 U.vm ∧ U.heap = h0) (fun _ _ _ _ _ => True) (fun _ U o U' => ∃ v L, o = .returned v ∧ Q_rm_octets_7 Z x0 x2 h0 n0 v U'.heap L ∧ FrameEnd U o U' L ({ frames := 0, cells := 0, slots := 0, locals := 0 } : Room).cells ({ frames := 0, cells := 0, slots := 0, locals := 0 } : Room).slots) := by
  refine MetFree.of_bodySF (plainFor_of_name pn_com_example_octets_to_session_octetstosession_core_Packet) hisR ?_
  intro p e s m args below meth c s₁ Bd hml0 hP hK
  obtain ⟨rfl, hZ, hh⟩ := hP
  have hx := Bd.exec
  have hby := Bd.bytes
  have hml : c.maxLocals = 1 := hml0
  have hown : s.vm.findClass "com/example/octets_to_session/octetstosession/core/Packet" = some m.cls := findClass_of_methodNamed Bd.named
  have hnm := (name_of_methodNamed Bd.named Bd.method).1
  have X0 : Stand p l e ({ frames := 0, cells := 0, slots := 0, locals := 0 } : Room) s m #[(.ref x0)] below meth c s₁ [] 0 0 := Stand.of_body Bd
  have e0 : s₁.heap = h0 := by rw [← hh, Bd.state]; rfl
  have N0 := Fr.nil n0
  have pre0 : ∀ t, Steps p.tables e below (s₁.setTop (mkF m 0 #[.val (.ref x0)] [])) t → Steps p.tables e below (s₁.setTop (entryFrame m #[(.ref x0)] 1)) t := fun t k => castTop (ef_rm_octets_7 m x0) k
  have K0 := Keep.refl h0 []
  obtain ⟨T34, X34, e34, st34⟩ := getF X0 hx hZ hown (host := "") (Or.inl (hw _ (List.mem_of_getElem? (i := 28) rfl))) Via.refl e0 F_x0_octets (g := (mkF m 1 #[.val (.ref x0)] [(.ref x0)])) rfl rfl (hb hby d_prog_45_method_9_code_1)
  have pre35 : ∀ t, Steps p.tables e below (T34.setTop (mkF m 4 #[.val (.ref x0)] [(.ref x2)])) t → Steps p.tables e below (s₁.setTop (entryFrame m #[(.ref x0)] 1)) t := by
    intro t kt
    refine pre0 t ?_
    show Steps p.tables e below (s₁.setTop (mkF m 0 #[.val (.ref x0)] [])) _
    refine XS.aloadN X0.here hx rfl (hb hby d_prog_45_method_9_code_0) rfl rfl ?_
    show Steps p.tables e below (s₁.setTop (mkF m 1 #[.val (.ref x0)] [(.ref x0)])) _
    refine st34 _ ?_
    exact kt
  obtain ⟨fs, hr, hrun, hended, hW, hsame⟩ := X34.leave (v := some (.ref x2)) (fun h => by rw [Bd.returns] at h; cases h)
  refine ⟨_, _, pre35 _ ?_, hrun, hended, _, _, rfl, ?_, ⟨_, rfl⟩, hW, hsame.mono (by decide) (by decide)⟩
  · show Steps p.tables e below (T34.setTop (mkF m 4 #[.val (.ref x0)] [(.ref x2)])) _
    jvm_step X34.here [X34.here.top, hx, (hb hby d_prog_45_method_9_code_4), X34.method', Bd.returns, Value.isRef, FieldType.isReference]
    first | (intro acts; rw [hr _ acts rfl rfl rfl]) | rw [hr _ _ rfl rfl rfl]
    exact Steps.refl _
  · show Q_rm_octets_7 Z x0 x2 h0 n0 _ T34.heap _
    rw [e34]
    exact ⟨rfl, N0, rfl⟩
theorem d_prog_45_method_10_code_0 : decode prog_45_method_10_code 0 = .ok (.aload_n 0, 1) := by decide +kernel
theorem d_prog_45_method_10_code_1 : decode prog_45_method_10_code 1 = .ok (.getfield 25, 3) := by decide +kernel
theorem d_prog_45_method_10_code_4 : decode prog_45_method_10_code 4 = .ok (.ireturn, 1) := by decide +kernel
theorem ef_rm_start_8 (m : MethodId) (x0 : Addr) : entryFrame m #[(.ref x0)] 1 = mkF m 0 #[.val (.ref x0)] [] := by first | (simp [entryFrame, mkF, argsToLocals, Value.category]; done) | rfl
def Q_rm_start_8 (Z : State) (x0 : Addr) (y2 : Int32) (h0 : Heap) (n0 : Nat) (v : Option Value) (h : Heap) (L : List Loc) : Prop := v = some (.int y2) ∧ Fr n0 L ∧ h = h0
set_option maxRecDepth 65536 in
set_option maxHeartbeats 40000000 in
theorem rm_start_8 (l : Launch) (Z : State) (a0 : Array Value) (hw : ∀ d ∈ tables_1, d.before a0 Z = true) (ws : List Jvm.Cond) (x0 : Addr) (y2 : Int32) (h0 : Heap) (n0 : Nat) (O0 : Old Z n0 h0) (F_x0_start : Fld Z h0 x0 "com/example/octets_to_session/octetstosession/core/Packet" "start" "I" (.int y2))  :
    MetFree l (⟨"com/example/octets_to_session/octetstosession/core/Packet", "start", "()I"⟩ : MethodName) (head1 (Jvm.Cond.code (⟨"com/example/octets_to_session/octetstosession/core/Packet", "start", "()I"⟩ : MethodName) prog_45_method_10_code 1 (some .int) :: ws) ({ frames := 0, cells := 0, slots := 0, locals := 0 } : Room)) (fun a U => a = #[(.ref x0)] ∧ Z.Warmed39 U.vm ∧ U.heap = h0) (fun _ _ _ _ _ => True) (fun _ U o U' => ∃ v L, o = .returned v ∧ Q_rm_start_8 Z x0 y2 h0 n0 v U'.heap L ∧ FrameEnd U o U' L ({ frames := 0, cells := 0, slots := 0, locals := 0 } : Room).cells ({ frames := 0, cells := 0, slots := 0, locals := 0 } : Room).slots) := by
  refine MetFree.of_bodySF (plainFor_of_name pn_com_example_octets_to_session_octetstosession_core_Packet) hisR ?_
  intro p e s m args below meth c s₁ Bd hml0 hP hK
  obtain ⟨rfl, hZ, hh⟩ := hP
  have hx := Bd.exec
  have hby := Bd.bytes
  have hml : c.maxLocals = 1 := hml0
  have hown : s.vm.findClass "com/example/octets_to_session/octetstosession/core/Packet" = some m.cls := findClass_of_methodNamed Bd.named
  have hnm := (name_of_methodNamed Bd.named Bd.method).1
  have X0 : Stand p l e ({ frames := 0, cells := 0, slots := 0, locals := 0 } : Room) s m #[(.ref x0)] below meth c s₁ [] 0 0 := Stand.of_body Bd
  have e0 : s₁.heap = h0 := by rw [← hh, Bd.state]; rfl
  have N0 := Fr.nil n0
  have pre0 : ∀ t, Steps p.tables e below (s₁.setTop (mkF m 0 #[.val (.ref x0)] [])) t → Steps p.tables e below (s₁.setTop (entryFrame m #[(.ref x0)] 1)) t := fun t k => castTop (ef_rm_start_8 m x0) k
  have K0 := Keep.refl h0 []
  obtain ⟨T37, X37, e37, st37⟩ := getF X0 hx hZ hown (host := "") (Or.inl (hw _ (List.mem_of_getElem? (i := 30) rfl))) Via.refl e0 F_x0_start (g := (mkF m 1 #[.val (.ref x0)] [(.ref x0)])) rfl rfl (hb hby d_prog_45_method_10_code_1)
  have pre38 : ∀ t, Steps p.tables e below (T37.setTop (mkF m 4 #[.val (.ref x0)] [(.int y2)])) t → Steps p.tables e below (s₁.setTop (entryFrame m #[(.ref x0)] 1)) t := by
    intro t kt
    refine pre0 t ?_
    show Steps p.tables e below (s₁.setTop (mkF m 0 #[.val (.ref x0)] [])) _
    refine XS.aloadN X0.here hx rfl (hb hby d_prog_45_method_10_code_0) rfl rfl ?_
    show Steps p.tables e below (s₁.setTop (mkF m 1 #[.val (.ref x0)] [(.ref x0)])) _
    refine st37 _ ?_
    exact kt
  obtain ⟨fs, hr, hrun, hended, hW, hsame⟩ := X37.leave (v := some (.int y2)) (fun h => by rw [Bd.returns] at h; cases h)
  refine ⟨_, _, pre38 _ ?_, hrun, hended, _, _, rfl, ?_, ⟨_, rfl⟩, hW, hsame.mono (by decide) (by decide)⟩
  · show Steps p.tables e below (T37.setTop (mkF m 4 #[.val (.ref x0)] [(.int y2)])) _
    exact retI X37 hx Bd.returns (hb hby d_prog_45_method_10_code_4) hr
  · show Q_rm_start_8 Z x0 y2 h0 n0 _ T37.heap _
    rw [e37]
    exact ⟨rfl, N0, rfl⟩
theorem d_prog_45_method_11_code_0 : decode prog_45_method_11_code 0 = .ok (.aload_n 0, 1) := by decide +kernel
theorem d_prog_45_method_11_code_1 : decode prog_45_method_11_code 1 = .ok (.getfield 28, 3) := by decide +kernel
theorem d_prog_45_method_11_code_4 : decode prog_45_method_11_code 4 = .ok (.ireturn, 1) := by decide +kernel
theorem ef_rm_length_9 (m : MethodId) (x0 : Addr) : entryFrame m #[(.ref x0)] 1 = mkF m 0 #[.val (.ref x0)] [] := by first | (simp [entryFrame, mkF, argsToLocals, Value.category]; done) | rfl
def Q_rm_length_9 (Z : State) (x0 : Addr) (y3 : Int32) (h0 : Heap) (n0 : Nat) (v : Option Value) (h : Heap) (L : List Loc) : Prop := v = some (.int y3) ∧ Fr n0 L ∧ h = h0
set_option maxRecDepth 65536 in
set_option maxHeartbeats 40000000 in
theorem rm_length_9 (l : Launch) (Z : State) (a0 : Array Value) (hw : ∀ d ∈ tables_1, d.before a0 Z = true) (ws : List Jvm.Cond) (x0 : Addr) (y3 : Int32) (h0 : Heap) (n0 : Nat) (O0 : Old Z n0 h0) (F_x0_length : Fld Z h0 x0 "com/example/octets_to_session/octetstosession/core/Packet" "length" "I" (.int y3))  :
    MetFree l (⟨"com/example/octets_to_session/octetstosession/core/Packet", "length", "()I"⟩ : MethodName) (head1 (Jvm.Cond.code (⟨"com/example/octets_to_session/octetstosession/core/Packet", "length", "()I"⟩ : MethodName) prog_45_method_11_code 1 (some .int) :: ws) ({ frames := 0, cells := 0, slots := 0, locals := 0 } : Room)) (fun a U => a = #[(.ref x0)] ∧ Z.Warmed39 U.vm ∧ U.heap = h0) (fun _ _ _ _ _ => True) (fun _ U o U' => ∃ v L, o = .returned v ∧ Q_rm_length_9 Z x0 y3 h0 n0 v U'.heap L ∧ FrameEnd U o U' L ({ frames := 0, cells := 0, slots := 0, locals := 0 } : Room).cells ({ frames := 0, cells := 0, slots := 0, locals := 0 } : Room).slots) := by
  refine MetFree.of_bodySF (plainFor_of_name pn_com_example_octets_to_session_octetstosession_core_Packet) hisR ?_
  intro p e s m args below meth c s₁ Bd hml0 hP hK
  obtain ⟨rfl, hZ, hh⟩ := hP
  have hx := Bd.exec
  have hby := Bd.bytes
  have hml : c.maxLocals = 1 := hml0
  have hown : s.vm.findClass "com/example/octets_to_session/octetstosession/core/Packet" = some m.cls := findClass_of_methodNamed Bd.named
  have hnm := (name_of_methodNamed Bd.named Bd.method).1
  have X0 : Stand p l e ({ frames := 0, cells := 0, slots := 0, locals := 0 } : Room) s m #[(.ref x0)] below meth c s₁ [] 0 0 := Stand.of_body Bd
  have e0 : s₁.heap = h0 := by rw [← hh, Bd.state]; rfl
  have N0 := Fr.nil n0
  have pre0 : ∀ t, Steps p.tables e below (s₁.setTop (mkF m 0 #[.val (.ref x0)] [])) t → Steps p.tables e below (s₁.setTop (entryFrame m #[(.ref x0)] 1)) t := fun t k => castTop (ef_rm_length_9 m x0) k
  have K0 := Keep.refl h0 []
  obtain ⟨T41, X41, e41, st41⟩ := getF X0 hx hZ hown (host := "") (Or.inl (hw _ (List.mem_of_getElem? (i := 32) rfl))) Via.refl e0 F_x0_length (g := (mkF m 1 #[.val (.ref x0)] [(.ref x0)])) rfl rfl (hb hby d_prog_45_method_11_code_1)
  have pre42 : ∀ t, Steps p.tables e below (T41.setTop (mkF m 4 #[.val (.ref x0)] [(.int y3)])) t → Steps p.tables e below (s₁.setTop (entryFrame m #[(.ref x0)] 1)) t := by
    intro t kt
    refine pre0 t ?_
    show Steps p.tables e below (s₁.setTop (mkF m 0 #[.val (.ref x0)] [])) _
    refine XS.aloadN X0.here hx rfl (hb hby d_prog_45_method_11_code_0) rfl rfl ?_
    show Steps p.tables e below (s₁.setTop (mkF m 1 #[.val (.ref x0)] [(.ref x0)])) _
    refine st41 _ ?_
    exact kt
  obtain ⟨fs, hr, hrun, hended, hW, hsame⟩ := X41.leave (v := some (.int y3)) (fun h => by rw [Bd.returns] at h; cases h)
  refine ⟨_, _, pre42 _ ?_, hrun, hended, _, _, rfl, ?_, ⟨_, rfl⟩, hW, hsame.mono (by decide) (by decide)⟩
  · show Steps p.tables e below (T41.setTop (mkF m 4 #[.val (.ref x0)] [(.int y3)])) _
    exact retI X41 hx Bd.returns (hb hby d_prog_45_method_11_code_4) hr
  · show Q_rm_length_9 Z x0 y3 h0 n0 _ T41.heap _
    rw [e41]
    exact ⟨rfl, N0, rfl⟩
theorem d_prog_48_method_3_code_0 : decode prog_48_method_3_code 0 = .ok (.aload_n 0, 1) := by decide +kernel
theorem d_prog_48_method_3_code_1 : decode prog_48_method_3_code 1 = .ok (.invokespecial 9, 3) := by decide +kernel
theorem d_prog_48_method_3_code_4 : decode prog_48_method_3_code 4 = .ok (.aload_n 0, 1) := by decide +kernel
theorem d_prog_48_method_3_code_5 : decode prog_48_method_3_code 5 = .ok (.aload_n 1, 1) := by decide +kernel
theorem d_prog_48_method_3_code_6 : decode prog_48_method_3_code 6 = .ok (.putfield 14, 3) := by decide +kernel
theorem d_prog_48_method_3_code_9 : decode prog_48_method_3_code 9 = .ok (.aload_n 0, 1) := by decide +kernel
theorem d_prog_48_method_3_code_10 : decode prog_48_method_3_code 10 = .ok (.iload_n 2, 1) := by decide +kernel
theorem d_prog_48_method_3_code_11 : decode prog_48_method_3_code 11 = .ok (.putfield 18, 3) := by decide +kernel
theorem d_prog_48_method_3_code_14 : decode prog_48_method_3_code 14 = .ok (.aload_n 0, 1) := by decide +kernel
theorem d_prog_48_method_3_code_15 : decode prog_48_method_3_code 15 = .ok (.iload_n 3, 1) := by decide +kernel
theorem d_prog_48_method_3_code_16 : decode prog_48_method_3_code 16 = .ok (.putfield 22, 3) := by decide +kernel
theorem d_prog_48_method_3_code_19 : decode prog_48_method_3_code 19 = .ok (.aload_n 0, 1) := by decide +kernel
theorem d_prog_48_method_3_code_20 : decode prog_48_method_3_code 20 = .ok (.aload 4, 2) := by decide +kernel
theorem d_prog_48_method_3_code_22 : decode prog_48_method_3_code 22 = .ok (.putfield 25, 3) := by decide +kernel
theorem d_prog_48_method_3_code_25 : decode prog_48_method_3_code 25 = .ok (.return_, 1) := by decide +kernel
theorem pn_com_example_octets_to_session_octetstosession_core_PacketReader : plainName "com/example/octets_to_session/octetstosession/core/PacketReader" = true := by first | (simp [plainName, overriddenIn]; done) | decide +kernel
theorem ef_rm_init_12 (m : MethodId) (x0 : Addr) (x1 : Addr) (y1 : Int32) (y2 : Int32) (x2 : Addr) : entryFrame m #[(.ref x0), (.ref x1), (.int y1), (.int y2), (.ref x2)] 5 = mkF m 0 #[.val (.ref x0), .val (.ref x1), .val (.int y1), .val (.int y2), .val (.ref x2)] [] := by first | (simp [entryFrame, mkF, argsToLocals, Value.category]; done) | rfl
def Q_rm_init_12 (Z : State) (x0 : Addr) (x1 : Addr) (y0 : Int32) (y1 : Int32) (y2 : Int32) (x2 : Addr) (kc0 : ClassId) (h0 : Heap) (n0 : Nat) (v : Option Value) (h : Heap) (L : List Loc) : Prop := v = none ∧ Fr n0 L ∧ Keep h0 h [x0] ∧ Exa Z h x0 "com/example/octets_to_session/octetstosession/core/PacketReader" ∧ Fld Z h x0 "com/example/octets_to_session/octetstosession/core/PacketReader" "body" "[B" (.ref x1) ∧ Fld Z h x0 "com/example/octets_to_session/octetstosession/core/PacketReader" "at" "I" (.int y1) ∧ Fld Z h x0 "com/example/octets_to_session/octetstosession/core/PacketReader" "end" "I" (.int y2) ∧ Fld Z h x0 "com/example/octets_to_session/octetstosession/core/PacketReader" "container" "Ljava/lang/String;" (.ref x2)
set_option maxRecDepth 65536 in
set_option maxHeartbeats 40000000 in
theorem rm_init_12 (l : Launch) (Z : State) (a0 : Array Value) (hw : ∀ d ∈ tables_1, d.before a0 Z = true) (ws : List Jvm.Cond) (x0 : Addr) (x1 : Addr) (y0 : Int32) (y1 : Int32) (y2 : Int32) (x2 : Addr) (kc0 : ClassId) (h0 : Heap) (n0 : Nat) (O0 : Old Z n0 h0) (E_x0 : Exa Z h0 x0 "com/example/octets_to_session/octetstosession/core/PacketReader") (F_x0_body : Fld Z h0 x0 "com/example/octets_to_session/octetstosession/core/PacketReader" "body" "[B" .null) (F_x0_at : Fld Z h0 x0 "com/example/octets_to_session/octetstosession/core/PacketReader" "at" "I" (.int (0 : Int32))) (F_x0_end : Fld Z h0 x0 "com/example/octets_to_session/octetstosession/core/PacketReader" "end" "I" (.int (0 : Int32))) (F_x0_container : Fld Z h0 x0 "com/example/octets_to_session/octetstosession/core/PacketReader" "container" "Ljava/lang/String;" .null) (ge_x0 : n0 ≤ x0) (V_x1 : Arv Z h0 x1 kc0 .byte y0 [] (.int (0 : Int32))) (ge_x1 : n0 ≤ x1) (ne_x0_x1 : x0 ≠ x1) (hp0 : y1 = y2)  :
    MetFree l (⟨"com/example/octets_to_session/octetstosession/core/PacketReader", "<init>", "([BIILjava/lang/String;)V"⟩ : MethodName) (head1 (Jvm.Cond.code (⟨"com/example/octets_to_session/octetstosession/core/PacketReader", "<init>", "([BIILjava/lang/String;)V"⟩ : MethodName) prog_48_method_3_code 5 none :: ws) ({ frames := 1, cells := 0, slots := 0, locals := 12 } : Room)) (fun a U => a = #[(.ref x0), (.ref x1), (.int y1), (.int y2), (.ref x2)] ∧ Z.Warmed39 U.vm ∧ U.heap = h0) (fun _ _ _ _ _ => True) (fun _ U o U' => ∃ v L, o = .returned v ∧ Q_rm_init_12 Z x0 x1 y0 y1 y2 x2 kc0 h0 n0 v U'.heap L ∧ FrameEnd U o U' L ({ frames := 1, cells := 0, slots := 0, locals := 12 } : Room).cells ({ frames := 1, cells := 0, slots := 0, locals := 12 } : Room).slots) := by
  refine MetFree.of_bodySF (plainFor_of_name pn_com_example_octets_to_session_octetstosession_core_PacketReader) hisR ?_
  intro p e s m args below meth c s₁ Bd hml0 hP hK
  obtain ⟨rfl, hZ, hh⟩ := hP
  have hx := Bd.exec
  have hby := Bd.bytes
  have hml : c.maxLocals = 5 := hml0
  have hown : s.vm.findClass "com/example/octets_to_session/octetstosession/core/PacketReader" = some m.cls := findClass_of_methodNamed Bd.named
  have hnm := (name_of_methodNamed Bd.named Bd.method).1
  have X0 : Stand p l e ({ frames := 1, cells := 0, slots := 0, locals := 12 } : Room) s m #[(.ref x0), (.ref x1), (.int y1), (.int y2), (.ref x2)] below meth c s₁ [] 0 0 := Stand.of_body Bd
  have e0 : s₁.heap = h0 := by rw [← hh, Bd.state]; rfl
  have N0 := Fr.nil n0
  have pre0 : ∀ t, Steps p.tables e below (s₁.setTop (mkF m 0 #[.val (.ref x0), .val (.ref x1), .val (.int y1), .val (.int y2), .val (.ref x2)] [])) t → Steps p.tables e below (s₁.setTop (entryFrame m #[(.ref x0), (.ref x1), (.int y1), (.int y2), (.ref x2)] 5)) t := fun t k => castTop (ef_rm_init_12 m x0 x1 y1 y2 x2) k
  have K0 := Keep.refl h0 [x0]
  obtain ⟨T56, X56, e56, st56⟩ := initO X0 hx hZ hown (hw _ (List.mem_of_getElem? (i := 82) rfl)) (hw _ (List.mem_of_getElem? (i := 7) rfl)) (hw _ (List.mem_of_getElem? (i := 8) rfl)) e0 (g := (mkF m 1 #[.val (.ref x0), .val (.ref x1), .val (.int y1), .val (.int y2), .val (.ref x2)] [(.ref x0)])) rfl (by rw [hml]; rfl) rfl (hb hby d_prog_48_method_3_code_1) (by decide) (W := 0) (by show 2 * 0 + _ ≤ _; exact Nat.le_of_eq rfl) (by decide)
  obtain ⟨T57, h57, X57, e57, W57, st57⟩ := putF X56 hx hZ hown (host := "") (Or.inl (hw _ (List.mem_of_getElem? (i := 83) rfl))) Via.refl e56 F_x0_body E_x0 (Or.inl (hw _ (List.mem_of_getElem? (i := 84) rfl))) (hw _ (List.mem_of_getElem? (i := 67) rfl)) (ty := (.array .byte)) (by decide) rfl rfl (g := (mkF m 6 #[.val (.ref x0), .val (.ref x1), .val (.int y1), .val (.int y2), .val (.ref x2)] [(.ref x1), (.ref x0)])) rfl rfl (hb hby d_prog_48_method_3_code_6)
  have F_x0_body := F_x0_body.same W57
  have E_x0 := E_x0.wr W57
  have F_x0_at := F_x0_at.other W57 (Or.inr (slot_ne (Or.inl (hw _ (List.mem_of_getElem? (i := 86) rfl))) (Or.inl (hw _ (List.mem_of_getElem? (i := 84) rfl))) (by decide) (t := .int) (t' := (.array .byte)) (by decide) (by decide)))
  have F_x0_end := F_x0_end.other W57 (Or.inr (slot_ne (Or.inl (hw _ (List.mem_of_getElem? (i := 88) rfl))) (Or.inl (hw _ (List.mem_of_getElem? (i := 84) rfl))) (by decide) (t := .int) (t' := (.array .byte)) (by decide) (by decide)))
  have F_x0_container := F_x0_container.other W57 (Or.inr (slot_ne (Or.inl (hw _ (List.mem_of_getElem? (i := 90) rfl))) (Or.inl (hw _ (List.mem_of_getElem? (i := 84) rfl))) (by decide) (t := (.object "java/lang/String")) (t' := (.array .byte)) (by decide) (by decide)))
  have V_x1 := V_x1.other W57 (Ne.symm ne_x0_x1)
  have O57 := O0.wr W57 ge_x0
  have K57 := K0.wr W57 (Or.inl (List.mem_of_getElem? (i := 0) rfl))
  have N57 := Fr.snoc X57 N0 ge_x0
  obtain ⟨T58, h58, X58, e58, W58, st58⟩ := putF X57 hx hZ hown (host := "") (Or.inl (hw _ (List.mem_of_getElem? (i := 85) rfl))) Via.refl e57 F_x0_at E_x0 (Or.inl (hw _ (List.mem_of_getElem? (i := 86) rfl))) (hw _ (List.mem_of_getElem? (i := 67) rfl)) (ty := .int) (by decide) rfl rfl (g := (mkF m 11 #[.val (.ref x0), .val (.ref x1), .val (.int y1), .val (.int y2), .val (.ref x2)] [(.int y1), (.ref x0)])) rfl rfl (hb hby d_prog_48_method_3_code_11)
  have F_x0_at := F_x0_at.same W58
  have E_x0 := E_x0.wr W58
  have F_x0_body := F_x0_body.other W58 (Or.inr (slot_ne (Or.inl (hw _ (List.mem_of_getElem? (i := 84) rfl))) (Or.inl (hw _ (List.mem_of_getElem? (i := 86) rfl))) (by decide) (t := (.array .byte)) (t' := .int) (by decide) (by decide)))
  have F_x0_end := F_x0_end.other W58 (Or.inr (slot_ne (Or.inl (hw _ (List.mem_of_getElem? (i := 88) rfl))) (Or.inl (hw _ (List.mem_of_getElem? (i := 86) rfl))) (by decide) (t := .int) (t' := .int) (by decide) (by decide)))
  have F_x0_container := F_x0_container.other W58 (Or.inr (slot_ne (Or.inl (hw _ (List.mem_of_getElem? (i := 90) rfl))) (Or.inl (hw _ (List.mem_of_getElem? (i := 86) rfl))) (by decide) (t := (.object "java/lang/String")) (t' := .int) (by decide) (by decide)))
  have V_x1 := V_x1.other W58 (Ne.symm ne_x0_x1)
  have O58 := O57.wr W58 ge_x0
  have K58 := K57.wr W58 (Or.inl (List.mem_of_getElem? (i := 0) rfl))
  have N58 := Fr.snoc X58 N57 ge_x0
  obtain ⟨T59, h59, X59, e59, W59, st59⟩ := putF X58 hx hZ hown (host := "") (Or.inl (hw _ (List.mem_of_getElem? (i := 87) rfl))) Via.refl e58 F_x0_end E_x0 (Or.inl (hw _ (List.mem_of_getElem? (i := 88) rfl))) (hw _ (List.mem_of_getElem? (i := 67) rfl)) (ty := .int) (by decide) rfl rfl (g := (mkF m 16 #[.val (.ref x0), .val (.ref x1), .val (.int y1), .val (.int y2), .val (.ref x2)] [(.int y2), (.ref x0)])) rfl rfl (hb hby d_prog_48_method_3_code_16)
  have F_x0_end := F_x0_end.same W59
  have E_x0 := E_x0.wr W59
  have F_x0_body := F_x0_body.other W59 (Or.inr (slot_ne (Or.inl (hw _ (List.mem_of_getElem? (i := 84) rfl))) (Or.inl (hw _ (List.mem_of_getElem? (i := 88) rfl))) (by decide) (t := (.array .byte)) (t' := .int) (by decide) (by decide)))
  have F_x0_at := F_x0_at.other W59 (Or.inr (slot_ne (Or.inl (hw _ (List.mem_of_getElem? (i := 86) rfl))) (Or.inl (hw _ (List.mem_of_getElem? (i := 88) rfl))) (by decide) (t := .int) (t' := .int) (by decide) (by decide)))
  have F_x0_container := F_x0_container.other W59 (Or.inr (slot_ne (Or.inl (hw _ (List.mem_of_getElem? (i := 90) rfl))) (Or.inl (hw _ (List.mem_of_getElem? (i := 88) rfl))) (by decide) (t := (.object "java/lang/String")) (t' := .int) (by decide) (by decide)))
  have V_x1 := V_x1.other W59 (Ne.symm ne_x0_x1)
  have O59 := O58.wr W59 ge_x0
  have K59 := K58.wr W59 (Or.inl (List.mem_of_getElem? (i := 0) rfl))
  have N59 := Fr.snoc X59 N58 ge_x0
  obtain ⟨T60, h60, X60, e60, W60, st60⟩ := putF X59 hx hZ hown (host := "") (Or.inl (hw _ (List.mem_of_getElem? (i := 89) rfl))) Via.refl e59 F_x0_container E_x0 (Or.inl (hw _ (List.mem_of_getElem? (i := 90) rfl))) (hw _ (List.mem_of_getElem? (i := 67) rfl)) (ty := (.object "java/lang/String")) (by decide) rfl rfl (g := (mkF m 22 #[.val (.ref x0), .val (.ref x1), .val (.int y1), .val (.int y2), .val (.ref x2)] [(.ref x2), (.ref x0)])) rfl rfl (hb hby d_prog_48_method_3_code_22)
  have F_x0_container := F_x0_container.same W60
  have E_x0 := E_x0.wr W60
  have F_x0_body := F_x0_body.other W60 (Or.inr (slot_ne (Or.inl (hw _ (List.mem_of_getElem? (i := 84) rfl))) (Or.inl (hw _ (List.mem_of_getElem? (i := 90) rfl))) (by decide) (t := (.array .byte)) (t' := (.object "java/lang/String")) (by decide) (by decide)))
  have F_x0_at := F_x0_at.other W60 (Or.inr (slot_ne (Or.inl (hw _ (List.mem_of_getElem? (i := 86) rfl))) (Or.inl (hw _ (List.mem_of_getElem? (i := 90) rfl))) (by decide) (t := .int) (t' := (.object "java/lang/String")) (by decide) (by decide)))
  have F_x0_end := F_x0_end.other W60 (Or.inr (slot_ne (Or.inl (hw _ (List.mem_of_getElem? (i := 88) rfl))) (Or.inl (hw _ (List.mem_of_getElem? (i := 90) rfl))) (by decide) (t := .int) (t' := (.object "java/lang/String")) (by decide) (by decide)))
  have V_x1 := V_x1.other W60 (Ne.symm ne_x0_x1)
  have O60 := O59.wr W60 ge_x0
  have K60 := K59.wr W60 (Or.inl (List.mem_of_getElem? (i := 0) rfl))
  have N60 := Fr.snoc X60 N59 ge_x0
  have pre61 : ∀ t, Steps p.tables e below (T60.setTop (mkF m 25 #[.val (.ref x0), .val (.ref x1), .val (.int y1), .val (.int y2), .val (.ref x2)] [])) t → Steps p.tables e below (s₁.setTop (entryFrame m #[(.ref x0), (.ref x1), (.int y1), (.int y2), (.ref x2)] 5)) t := by
    intro t kt
    refine pre0 t ?_
    show Steps p.tables e below (s₁.setTop (mkF m 0 #[.val (.ref x0), .val (.ref x1), .val (.int y1), .val (.int y2), .val (.ref x2)] [])) _
    refine XS.aloadN X0.here hx rfl (hb hby d_prog_48_method_3_code_0) rfl rfl ?_
    show Steps p.tables e below (s₁.setTop (mkF m 1 #[.val (.ref x0), .val (.ref x1), .val (.int y1), .val (.int y2), .val (.ref x2)] [(.ref x0)])) _
    refine st56 _ ?_
    show Steps p.tables e below (T56.setTop (mkF m 4 #[.val (.ref x0), .val (.ref x1), .val (.int y1), .val (.int y2), .val (.ref x2)] [])) _
    refine XS.aloadN X56.here hx rfl (hb hby d_prog_48_method_3_code_4) rfl rfl ?_
    show Steps p.tables e below (T56.setTop (mkF m 5 #[.val (.ref x0), .val (.ref x1), .val (.int y1), .val (.int y2), .val (.ref x2)] [(.ref x0)])) _
    refine XS.aloadN X56.here hx rfl (hb hby d_prog_48_method_3_code_5) rfl rfl ?_
    show Steps p.tables e below (T56.setTop (mkF m 6 #[.val (.ref x0), .val (.ref x1), .val (.int y1), .val (.int y2), .val (.ref x2)] [(.ref x1), (.ref x0)])) _
    refine st57 _ ?_
    show Steps p.tables e below (T57.setTop (mkF m 9 #[.val (.ref x0), .val (.ref x1), .val (.int y1), .val (.int y2), .val (.ref x2)] [])) _
    refine XS.aloadN X57.here hx rfl (hb hby d_prog_48_method_3_code_9) rfl rfl ?_
    show Steps p.tables e below (T57.setTop (mkF m 10 #[.val (.ref x0), .val (.ref x1), .val (.int y1), .val (.int y2), .val (.ref x2)] [(.ref x0)])) _
    refine XS.iloadN X57.here hx rfl (hb hby d_prog_48_method_3_code_10) rfl ?_
    show Steps p.tables e below (T57.setTop (mkF m 11 #[.val (.ref x0), .val (.ref x1), .val (.int y1), .val (.int y2), .val (.ref x2)] [(.int y1), (.ref x0)])) _
    refine st58 _ ?_
    show Steps p.tables e below (T58.setTop (mkF m 14 #[.val (.ref x0), .val (.ref x1), .val (.int y1), .val (.int y2), .val (.ref x2)] [])) _
    refine XS.aloadN X58.here hx rfl (hb hby d_prog_48_method_3_code_14) rfl rfl ?_
    show Steps p.tables e below (T58.setTop (mkF m 15 #[.val (.ref x0), .val (.ref x1), .val (.int y1), .val (.int y2), .val (.ref x2)] [(.ref x0)])) _
    refine XS.iloadN X58.here hx rfl (hb hby d_prog_48_method_3_code_15) rfl ?_
    show Steps p.tables e below (T58.setTop (mkF m 16 #[.val (.ref x0), .val (.ref x1), .val (.int y1), .val (.int y2), .val (.ref x2)] [(.int y2), (.ref x0)])) _
    refine st59 _ ?_
    show Steps p.tables e below (T59.setTop (mkF m 19 #[.val (.ref x0), .val (.ref x1), .val (.int y1), .val (.int y2), .val (.ref x2)] [])) _
    refine XS.aloadN X59.here hx rfl (hb hby d_prog_48_method_3_code_19) rfl rfl ?_
    show Steps p.tables e below (T59.setTop (mkF m 20 #[.val (.ref x0), .val (.ref x1), .val (.int y1), .val (.int y2), .val (.ref x2)] [(.ref x0)])) _
    refine XS.aload X59.here hx rfl (hb hby d_prog_48_method_3_code_20) rfl rfl ?_
    show Steps p.tables e below (T59.setTop (mkF m 22 #[.val (.ref x0), .val (.ref x1), .val (.int y1), .val (.int y2), .val (.ref x2)] [(.ref x2), (.ref x0)])) _
    refine st60 _ ?_
    exact kt
  obtain ⟨fs, hr, hrun, hended, hW, hsame⟩ := X60.leave (v := none) (fun _ => rfl)
  refine ⟨_, _, pre61 _ ?_, hrun, hended, _, _, rfl, ?_, ⟨_, rfl⟩, hW, hsame.mono (by decide) (by decide)⟩
  · show Steps p.tables e below (T60.setTop (mkF m 25 #[.val (.ref x0), .val (.ref x1), .val (.int y1), .val (.int y2), .val (.ref x2)] [])) _
    exact X60.returnOut hx Bd.returns (hb hby d_prog_48_method_3_code_25) hr
  · show Q_rm_init_12 Z x0 x1 y0 y1 y2 x2 kc0 h0 n0 _ T60.heap _
    rw [e60]
    exact ⟨rfl, N60, K60, E_x0, F_x0_body, F_x0_at, F_x0_end, F_x0_container⟩
theorem d_prog_48_method_2_code_0 : decode prog_48_method_2_code 0 = .ok (.aload_n 0, 1) := by decide +kernel
theorem d_prog_48_method_2_code_1 : decode prog_48_method_2_code 1 = .ok (.aload_n 1, 1) := by decide +kernel
theorem d_prog_48_method_2_code_2 : decode prog_48_method_2_code 2 = .ok (.iload_n 2, 1) := by decide +kernel
theorem d_prog_48_method_2_code_3 : decode prog_48_method_2_code 3 = .ok (.iload_n 3, 1) := by decide +kernel
theorem d_prog_48_method_2_code_4 : decode prog_48_method_2_code 4 = .ok (.ldc 3, 2) := by decide +kernel
theorem d_prog_48_method_2_code_6 : decode prog_48_method_2_code 6 = .ok (.invokespecial 5, 3) := by decide +kernel
theorem pd___BIILjava_lang_String__V : parseMethodDescriptor "([BIILjava/lang/String;)V" = some ⟨[(.array .byte), .int, .int, (.object "java/lang/String")], none⟩ := by decide +kernel
theorem d_prog_48_method_2_code_9 : decode prog_48_method_2_code 9 = .ok (.return_, 1) := by decide +kernel
theorem ef_rm_init_11 (m : MethodId) (x0 : Addr) (x1 : Addr) (y1 : Int32) (y2 : Int32) : entryFrame m #[(.ref x0), (.ref x1), (.int y1), (.int y2)] 4 = mkF m 0 #[.val (.ref x0), .val (.ref x1), .val (.int y1), .val (.int y2)] [] := by first | (simp [entryFrame, mkF, argsToLocals, Value.category]; done) | rfl
def Q_rm_init_11 (Z : State) (x0 : Addr) (x1 : Addr) (y0 : Int32) (y1 : Int32) (y2 : Int32) (kc0 : ClassId) (h0 : Heap) (n0 : Nat) (v : Option Value) (h : Heap) (L : List Loc) : Prop := ∃ (a54 : Addr), v = none ∧ Fr n0 L ∧ Keep h0 h [x0] ∧ Exa Z h x0 "com/example/octets_to_session/octetstosession/core/PacketReader" ∧ Fld Z h x0 "com/example/octets_to_session/octetstosession/core/PacketReader" "body" "[B" (.ref x1) ∧ Fld Z h x0 "com/example/octets_to_session/octetstosession/core/PacketReader" "at" "I" (.int y1) ∧ Fld Z h x0 "com/example/octets_to_session/octetstosession/core/PacketReader" "end" "I" (.int y2) ∧ Fld Z h x0 "com/example/octets_to_session/octetstosession/core/PacketReader" "container" "Ljava/lang/String;" (.ref a54)
set_option maxRecDepth 65536 in
set_option maxHeartbeats 40000000 in
theorem rm_init_11 (l : Launch) (Z : State) (a0 : Array Value) (hw : ∀ d ∈ tables_1, d.before a0 Z = true) (ws : List Jvm.Cond) (x0 : Addr) (x1 : Addr) (y0 : Int32) (y1 : Int32) (y2 : Int32) (kc0 : ClassId) (h0 : Heap) (n0 : Nat) (O0 : Old Z n0 h0) (E_x0 : Exa Z h0 x0 "com/example/octets_to_session/octetstosession/core/PacketReader") (F_x0_body : Fld Z h0 x0 "com/example/octets_to_session/octetstosession/core/PacketReader" "body" "[B" .null) (F_x0_at : Fld Z h0 x0 "com/example/octets_to_session/octetstosession/core/PacketReader" "at" "I" (.int (0 : Int32))) (F_x0_end : Fld Z h0 x0 "com/example/octets_to_session/octetstosession/core/PacketReader" "end" "I" (.int (0 : Int32))) (F_x0_container : Fld Z h0 x0 "com/example/octets_to_session/octetstosession/core/PacketReader" "container" "Ljava/lang/String;" .null) (ge_x0 : n0 ≤ x0) (V_x1 : Arv Z h0 x1 kc0 .byte y0 [] (.int (0 : Int32))) (ge_x1 : n0 ≤ x1) (ne_x0_x1 : x0 ≠ x1) (hp0 : y1 = y2)  :
    MetFree l (⟨"com/example/octets_to_session/octetstosession/core/PacketReader", "<init>", "([BII)V"⟩ : MethodName) (head1 (Jvm.Cond.code (⟨"com/example/octets_to_session/octetstosession/core/PacketReader", "<init>", "([BII)V"⟩ : MethodName) prog_48_method_2_code 4 none :: ws) ({ frames := 2, cells := 2, slots := 28, locals := 28 } : Room)) (fun a U => a = #[(.ref x0), (.ref x1), (.int y1), (.int y2)] ∧ Z.Warmed39 U.vm ∧ U.heap = h0) (fun _ _ _ _ _ => True) (fun _ U o U' => ∃ v L, o = .returned v ∧ Q_rm_init_11 Z x0 x1 y0 y1 y2 kc0 h0 n0 v U'.heap L ∧ ReturnedEndW U o U' L ({ frames := 2, cells := 2, slots := 28, locals := 28 } : Room).cells ({ frames := 2, cells := 2, slots := 28, locals := 28 } : Room).slots) := by
  refine MetFree.of_bodySF (plainFor_of_name pn_com_example_octets_to_session_octetstosession_core_PacketReader) hisR ?_
  intro p e s m args below meth c s₁ Bd hml0 hP hK
  obtain ⟨rfl, hZ, hh⟩ := hP
  have hx := Bd.exec
  have hby := Bd.bytes
  have hml : c.maxLocals = 4 := hml0
  have hown : s.vm.findClass "com/example/octets_to_session/octetstosession/core/PacketReader" = some m.cls := findClass_of_methodNamed Bd.named
  have hnm := (name_of_methodNamed Bd.named Bd.method).1
  have X0 : Stand p l e ({ frames := 2, cells := 2, slots := 28, locals := 28 } : Room) (s.setVm s.vm) m #[(.ref x0), (.ref x1), (.int y1), (.int y2)] below meth c s₁ [] 0 0 := Stand.of_body Bd
  have e0 : s₁.heap = h0 := by rw [← hh, Bd.state]; rfl
  have N0 := Fr.nil n0
  have pre0 : ∀ t, Steps p.tables e below (s₁.setTop (mkF m 0 #[.val (.ref x0), .val (.ref x1), .val (.int y1), .val (.int y2)] [])) t → Steps p.tables e below (s₁.setTop (entryFrame m #[(.ref x0), (.ref x1), (.int y1), (.int y2)] 4)) t := fun t k => castTop (ef_rm_init_11 m x0 x1 y1 y2) k
  have hZ : Z.Warmed39 (s.setVm s.vm).vm := hZ
  have hown : (s.setVm s.vm).vm.findClass "com/example/octets_to_session/octetstosession/core/PacketReader" = some m.cls := hown
  have hS0 : s.Since s.vm 0 := (State.WarmedH.refl s).since 0
  have hk0 : 0 ≤ h0.size := Nat.zero_le _
  have K0 := Keep.refl h0 [x0]
  have pre53 : ∀ t, Steps p.tables e below (s₁.setTop (mkF m 4 #[.val (.ref x0), .val (.ref x1), .val (.int y1), .val (.int y2)] [(.int y2), (.int y1), (.ref x1), (.ref x0)])) t → Steps p.tables e below (s₁.setTop (entryFrame m #[(.ref x0), (.ref x1), (.int y1), (.int y2)] 4)) t := by
    intro t kt
    refine pre0 t ?_
    show Steps p.tables e below (s₁.setTop (mkF m 0 #[.val (.ref x0), .val (.ref x1), .val (.int y1), .val (.int y2)] [])) _
    refine XS.aloadN X0.here hx rfl (hb hby d_prog_48_method_2_code_0) rfl rfl ?_
    show Steps p.tables e below (s₁.setTop (mkF m 1 #[.val (.ref x0), .val (.ref x1), .val (.int y1), .val (.int y2)] [(.ref x0)])) _
    refine XS.aloadN X0.here hx rfl (hb hby d_prog_48_method_2_code_1) rfl rfl ?_
    show Steps p.tables e below (s₁.setTop (mkF m 2 #[.val (.ref x0), .val (.ref x1), .val (.int y1), .val (.int y2)] [(.ref x1), (.ref x0)])) _
    refine XS.iloadN X0.here hx rfl (hb hby d_prog_48_method_2_code_2) rfl ?_
    show Steps p.tables e below (s₁.setTop (mkF m 3 #[.val (.ref x0), .val (.ref x1), .val (.int y1), .val (.int y2)] [(.int y1), (.ref x1), (.ref x0)])) _
    refine XS.iloadN X0.here hx rfl (hb hby d_prog_48_method_2_code_3) rfl ?_
    exact kt
  obtain ⟨a54, T54, h54, k54, X54, e54, E54, hS54, hk54c, hZ, hown, st54⟩ := ldcS X0 hx hZ hown (hw _ (List.mem_of_getElem? (i := 72) rfl)) (own_str hw) e0 hS0 hk0 (g := (mkF m 4 #[.val (.ref x0), .val (.ref x1), .val (.int y1), .val (.int y2)] [(.int y2), (.int y1), (.ref x1), (.ref x0)])) rfl (hb hby d_prog_48_method_2_code_4) (n := 24) (by decide) (by decide) (by decide) (by decide)
  have E_x0 := E_x0.ext E54
  have F_x0_body := F_x0_body.ext E54
  have F_x0_at := F_x0_at.ext E54
  have F_x0_end := F_x0_end.ext E54
  have F_x0_container := F_x0_container.ext E54
  have V_x1 := V_x1.ext E54
  have O54 := O0.ext E54
  have K54 := K0.ext E54
  obtain ⟨_, _, ⟨T55, L55, k55, n55⟩, -, X55, ⟨Lc55, hQ55, l55, y55, z55⟩, st55⟩ := X54.specialBack hx (y := (⟨"com/example/octets_to_session/octetstosession/core/PacketReader", "<init>", "([BIILjava/lang/String;)V"⟩ : MethodName)) rfl hown (mvT hZ (hw _ (List.mem_of_getElem? (i := 79) rfl))) (mvT hZ (hw _ (List.mem_of_getElem? (i := 80) rfl))) (mvT hZ (hw _ (List.mem_of_getElem? (i := 81) rfl))) (by decide) (backOf (W := 0) (rm_init_12 l Z a0 hw [] x0 x1 y0 y1 y2 a54 kc0 h54 n0 O54 E_x0 F_x0_body F_x0_at F_x0_end F_x0_container ge_x0 V_x1 ge_x1 ne_x0_x1 hp0 ) hZ (hw _ (List.mem_of_getElem? (i := 81) rfl)) (hw _ (List.mem_of_getElem? (i := 68) rfl)) (by decide) (by decide)) (g := (mkF m 6 #[.val (.ref x0), .val (.ref x1), .val (.int y1), .val (.int y2)] [(.ref a54), (.int y2), (.int y1), (.ref x1), (.ref x0)])) rfl (by rw [hml]; rfl) (Steps.refl _) (a := x0) (argsL := [(.ref x1), (.int y1), (.int y2), (.ref a54)]) (rest := []) (lenOf pd___BIILjava_lang_String__V rfl) rfl (by show 2 * 0 + _ ≤ _; exact Nat.le_of_eq rfl) (hb hby d_prog_48_method_2_code_6) (fun _ _ => ⟨rfl, e54, (by decide : 2 + 0 ≤ _), (by decide : 28 + 0 ≤ _)⟩)
  dsimp only [Pt.U, Pt.locs, Pt.cells, Pt.slots] at X55 l55 y55 z55 st55 hQ55
  subst l55 y55 z55
  obtain ⟨rfl, N55q, Kc55, u55_0, u55_1, u55_2, u55_3, u55_4⟩ := hQ55
  have N55 := Fr.app N0 N55q
  have V_x1 := V_x1.keep Kc55 (ninS (Ne.symm ne_x0_x1) nin0)
  have O55 := O54.keep Kc55 (allS ge_x0 all0)
  have K55 := K54.trans Kc55 (allS (Or.inl (List.mem_of_getElem? (i := 0) rfl)) all0)
  have hk55 := Nat.le_trans hk54c Kc55.1
  have pre62 : ∀ t, Steps p.tables e below (T55.setTop (mkF m 9 #[.val (.ref x0), .val (.ref x1), .val (.int y1), .val (.int y2)] [])) t → Steps p.tables e below (s₁.setTop (entryFrame m #[(.ref x0), (.ref x1), (.int y1), (.int y2)] 4)) t := by
    intro t kt
    refine pre53 t ?_
    show Steps p.tables e below (s₁.setTop (mkF m 4 #[.val (.ref x0), .val (.ref x1), .val (.int y1), .val (.int y2)] [(.int y2), (.int y1), (.ref x1), (.ref x0)])) _
    refine st54 _ ?_
    show Steps p.tables e below (T54.setTop (mkF m 6 #[.val (.ref x0), .val (.ref x1), .val (.int y1), .val (.int y2)] [(.ref a54), (.int y2), (.int y1), (.ref x1), (.ref x0)])) _
    refine st55.trans ?_
    exact kt
  obtain ⟨fs, hr, hrun, hended, q1, q2, q3, q4⟩ := X55.leaveW hS54 hk55 (v := none) (fun _ => rfl)
  refine ⟨_, _, pre62 _ ?_, hrun, hended, _, _, rfl, ?_, ⟨_, rfl⟩, q2, q3, q4.mono (by decide) (by decide)⟩
  · show Steps p.tables e below (T55.setTop (mkF m 9 #[.val (.ref x0), .val (.ref x1), .val (.int y1), .val (.int y2)] [])) _
    exact X55.returnOut hx Bd.returns (hb hby d_prog_48_method_2_code_9) hr
  · show Q_rm_init_11 Z x0 x1 y0 y1 y2 kc0 h0 n0 _ T55.heap _
    exact ⟨a54, rfl, N55, K55, u55_0, u55_1, u55_2, u55_3, u55_4⟩
theorem d_prog_45_method_12_code_0 : decode prog_45_method_12_code 0 = .ok (.aload_n 0, 1) := by decide +kernel
theorem d_prog_45_method_12_code_1 : decode prog_45_method_12_code 1 = .ok (.getfield 60, 3) := by decide +kernel
theorem d_prog_45_method_12_code_4 : decode prog_45_method_12_code 4 = .ok (.ifnonnull 34, 3) := by decide +kernel
theorem d_prog_45_method_12_code_7 : decode prog_45_method_12_code 7 = .ok (.aload_n 0, 1) := by decide +kernel
theorem d_prog_45_method_12_code_8 : decode prog_45_method_12_code 8 = .ok (.new 64, 3) := by decide +kernel
theorem d_prog_45_method_12_code_11 : decode prog_45_method_12_code 11 = .ok (.dup, 1) := by decide +kernel
theorem d_prog_45_method_12_code_12 : decode prog_45_method_12_code 12 = .ok (.aload_n 0, 1) := by decide +kernel
theorem d_prog_45_method_12_code_13 : decode prog_45_method_12_code 13 = .ok (.getfield 21, 3) := by decide +kernel
theorem d_prog_45_method_12_code_16 : decode prog_45_method_12_code 16 = .ok (.aload_n 0, 1) := by decide +kernel
theorem d_prog_45_method_12_code_17 : decode prog_45_method_12_code 17 = .ok (.getfield 25, 3) := by decide +kernel
theorem d_prog_45_method_12_code_20 : decode prog_45_method_12_code 20 = .ok (.aload_n 0, 1) := by decide +kernel
theorem d_prog_45_method_12_code_21 : decode prog_45_method_12_code 21 = .ok (.getfield 25, 3) := by decide +kernel
theorem d_prog_45_method_12_code_24 : decode prog_45_method_12_code 24 = .ok (.aload_n 0, 1) := by decide +kernel
theorem d_prog_45_method_12_code_25 : decode prog_45_method_12_code 25 = .ok (.getfield 28, 3) := by decide +kernel
theorem d_prog_45_method_12_code_28 : decode prog_45_method_12_code 28 = .ok (.iadd, 1) := by decide +kernel
theorem d_prog_45_method_12_code_29 : decode prog_45_method_12_code 29 = .ok (.invokespecial 66, 3) := by decide +kernel
theorem pd___BII_V : parseMethodDescriptor "([BII)V" = some ⟨[(.array .byte), .int, .int], none⟩ := by decide +kernel
theorem d_prog_45_method_12_code_32 : decode prog_45_method_12_code 32 = .ok (.putfield 60, 3) := by decide +kernel
theorem d_prog_45_method_12_code_35 : decode prog_45_method_12_code 35 = .ok (.goto 27, 3) := by decide +kernel
theorem d_prog_45_method_12_code_62 : decode prog_45_method_12_code 62 = .ok (.aload_n 0, 1) := by decide +kernel
theorem d_prog_45_method_12_code_63 : decode prog_45_method_12_code 63 = .ok (.getfield 60, 3) := by decide +kernel
theorem d_prog_45_method_12_code_66 : decode prog_45_method_12_code 66 = .ok (.areturn, 1) := by decide +kernel
theorem ef_rm_reader_10 (m : MethodId) (x0 : Addr) : entryFrame m #[(.ref x0)] 1 = mkF m 0 #[.val (.ref x0)] [] := by first | (simp [entryFrame, mkF, argsToLocals, Value.category]; done) | rfl
def Q_rm_reader_10 (Z : State) (x0 : Addr) (x1 : Addr) (y0 : Int32) (x2 : Addr) (y1 : Int32) (y2 : Int32) (y3 : Int32) (kc0 : ClassId) (h0 : Heap) (n0 : Nat) (v : Option Value) (h : Heap) (L : List Loc) : Prop := ∃ (b47 : Addr) (b52_a54 : Addr), v = some (.ref b47) ∧ Fr n0 L ∧ Keep h0 h [x0] ∧ Exa Z h x0 "com/example/octets_to_session/octetstosession/core/Packet" ∧ Fld Z h x0 "com/example/octets_to_session/octetstosession/core/Packet" "type" "Lcom/example/octets_to_session/octetstosession/core/PacketType;" (.ref x1) ∧ Fld Z h x0 "com/example/octets_to_session/octetstosession/core/Packet" "flags" "I" (.int y0) ∧ Fld Z h x0 "com/example/octets_to_session/octetstosession/core/Packet" "octets" "[B" (.ref x2) ∧ Fld Z h x0 "com/example/octets_to_session/octetstosession/core/Packet" "start" "I" (.int y2) ∧ Fld Z h x0 "com/example/octets_to_session/octetstosession/core/Packet" "length" "I" (.int y3) ∧ Fld Z h x0 "com/example/octets_to_session/octetstosession/core/Packet" "reader" "Lcom/example/octets_to_session/octetstosession/core/PacketReader;" (.ref b47) ∧ Exa Z h b47 "com/example/octets_to_session/octetstosession/core/PacketReader" ∧ Fld Z h b47 "com/example/octets_to_session/octetstosession/core/PacketReader" "body" "[B" (.ref x2) ∧ Fld Z h b47 "com/example/octets_to_session/octetstosession/core/PacketReader" "at" "I" (.int y2) ∧ Fld Z h b47 "com/example/octets_to_session/octetstosession/core/PacketReader" "end" "I" (.int (y2 + y3)) ∧ Fld Z h b47 "com/example/octets_to_session/octetstosession/core/PacketReader" "container" "Ljava/lang/String;" (.ref b52_a54) ∧ n0 ≤ b47 ∧ h0.size ≤ b47
set_option maxRecDepth 65536 in
set_option maxHeartbeats 40000000 in
theorem rm_reader_10 (l : Launch) (Z : State) (a0 : Array Value) (hw : ∀ d ∈ tables_1, d.before a0 Z = true) (ws : List Jvm.Cond) (x0 : Addr) (x1 : Addr) (y0 : Int32) (x2 : Addr) (y1 : Int32) (y2 : Int32) (y3 : Int32) (kc0 : ClassId) (h0 : Heap) (n0 : Nat) (O0 : Old Z n0 h0) (E_x0 : Exa Z h0 x0 "com/example/octets_to_session/octetstosession/core/Packet") (F_x0_type : Fld Z h0 x0 "com/example/octets_to_session/octetstosession/core/Packet" "type" "Lcom/example/octets_to_session/octetstosession/core/PacketType;" (.ref x1)) (F_x0_flags : Fld Z h0 x0 "com/example/octets_to_session/octetstosession/core/Packet" "flags" "I" (.int y0)) (F_x0_octets : Fld Z h0 x0 "com/example/octets_to_session/octetstosession/core/Packet" "octets" "[B" (.ref x2)) (F_x0_start : Fld Z h0 x0 "com/example/octets_to_session/octetstosession/core/Packet" "start" "I" (.int y2)) (F_x0_length : Fld Z h0 x0 "com/example/octets_to_session/octetstosession/core/Packet" "length" "I" (.int y3)) (F_x0_reader : Fld Z h0 x0 "com/example/octets_to_session/octetstosession/core/Packet" "reader" "Lcom/example/octets_to_session/octetstosession/core/PacketReader;" .null) (ge_x0 : n0 ≤ x0) (V_x2 : Arv Z h0 x2 kc0 .byte y1 [] (.int (0 : Int32))) (ge_x2 : n0 ≤ x2) (ne_x0_x2 : x0 ≠ x2) (hp0 : y3 = (0 : Int32)) (hp1 : y2 = (y2 + y3))  :
    MetFree l (⟨"com/example/octets_to_session/octetstosession/core/Packet", "reader", "()Lcom/example/octets_to_session/octetstosession/core/PacketReader;"⟩ : MethodName) (head1 (Jvm.Cond.code (⟨"com/example/octets_to_session/octetstosession/core/Packet", "reader", "()Lcom/example/octets_to_session/octetstosession/core/PacketReader;"⟩ : MethodName) prog_45_method_12_code 1 (some (.object "com/example/octets_to_session/octetstosession/core/PacketReader")) :: ws) ({ frames := 3, cells := 3, slots := 32, locals := 45 } : Room)) (fun a U => a = #[(.ref x0)] ∧ Z.Warmed39 U.vm ∧ U.heap = h0) (fun _ _ _ _ _ => True) (fun _ U o U' => ∃ v L, o = .returned v ∧ Q_rm_reader_10 Z x0 x1 y0 x2 y1 y2 y3 kc0 h0 n0 v U'.heap L ∧ ReturnedEndW U o U' L ({ frames := 3, cells := 3, slots := 32, locals := 45 } : Room).cells ({ frames := 3, cells := 3, slots := 32, locals := 45 } : Room).slots) := by
  refine MetFree.of_bodySF (plainFor_of_name pn_com_example_octets_to_session_octetstosession_core_Packet) hisR ?_
  intro p e s m args below meth c s₁ Bd hml0 hP hK
  obtain ⟨rfl, hZ, hh⟩ := hP
  have hx := Bd.exec
  have hby := Bd.bytes
  have hml : c.maxLocals = 1 := hml0
  have hown : s.vm.findClass "com/example/octets_to_session/octetstosession/core/Packet" = some m.cls := findClass_of_methodNamed Bd.named
  have hnm := (name_of_methodNamed Bd.named Bd.method).1
  have X0 : Stand p l e ({ frames := 3, cells := 3, slots := 32, locals := 45 } : Room) (s.setVm s.vm) m #[(.ref x0)] below meth c s₁ [] 0 0 := Stand.of_body Bd
  have e0 : s₁.heap = h0 := by rw [← hh, Bd.state]; rfl
  have N0 := Fr.nil n0
  have pre0 : ∀ t, Steps p.tables e below (s₁.setTop (mkF m 0 #[.val (.ref x0)] [])) t → Steps p.tables e below (s₁.setTop (entryFrame m #[(.ref x0)] 1)) t := fun t k => castTop (ef_rm_reader_10 m x0) k
  have hZ : Z.Warmed39 (s.setVm s.vm).vm := hZ
  have hown : (s.setVm s.vm).vm.findClass "com/example/octets_to_session/octetstosession/core/Packet" = some m.cls := hown
  have hS0 : s.Since s.vm 0 := (State.WarmedH.refl s).since 0
  have hk0 : 0 ≤ h0.size := Nat.zero_le _
  have K0 := Keep.refl h0 [x0]
  obtain ⟨T46, X46, e46, st46⟩ := getF X0 hx hZ hown (host := "") (Or.inl (hw _ (List.mem_of_getElem? (i := 64) rfl))) Via.refl e0 F_x0_reader (g := (mkF m 1 #[.val (.ref x0)] [(.ref x0)])) rfl rfl (hb hby d_prog_45_method_12_code_1)
  obtain ⟨T47, h47, X47, e47, E47, A47, D47, -, st47⟩ := newO X46 hx hZ hown (hw _ (List.mem_of_getElem? (i := 66) rfl)) (hw _ (List.mem_of_getElem? (i := 67) rfl)) (hw _ (List.mem_of_getElem? (i := 68) rfl)) e46 (g := (mkF m 8 #[.val (.ref x0)] [(.ref x0)])) rfl (hb hby d_prog_45_method_12_code_8) (by decide) (by decide)
  obtain ⟨b47, g47⟩ : ∃ z, z = h0.size := ⟨_, rfl⟩
  have ne_x0_b47 : x0 ≠ b47 := Nat.ne_of_lt (Nat.lt_of_lt_of_le E_x0.lt (Nat.le_of_eq g47.symm))
  have ne_x2_b47 : x2 ≠ b47 := Nat.ne_of_lt (Nat.lt_of_lt_of_le V_x2.lt (Nat.le_of_eq g47.symm))
  have ge_b47 : n0 ≤ b47 := Nat.le_trans (own_z O0) (Nat.le_of_eq g47.symm)
  have sz_b47 : h0.size ≤ b47 := Nat.le_trans K0.1 (Nat.le_of_eq g47.symm)
  rw [← g47] at A47 D47 st47
  have E_x0 := E_x0.ext E47
  have F_x0_type := F_x0_type.ext E47
  have F_x0_flags := F_x0_flags.ext E47
  have F_x0_octets := F_x0_octets.ext E47
  have F_x0_start := F_x0_start.ext E47
  have F_x0_length := F_x0_length.ext E47
  have F_x0_reader := F_x0_reader.ext E47
  have V_x2 := V_x2.ext E47
  have O47 := O0.ext E47
  have K47 := K0.ext E47
  have hk47 := Nat.le_trans hk0 E47.1
  have E_b47 := A47
  have F_body_b47 : Fld Z h47 b47 "com/example/octets_to_session/octetstosession/core/PacketReader" "body" "[B" .null := D47 (Or.inl (hw _ (List.mem_of_getElem? (i := 84) rfl))) (ty := (.array .byte)) (by decide)
  have F_at_b47 : Fld Z h47 b47 "com/example/octets_to_session/octetstosession/core/PacketReader" "at" "I" (.int (0 : Int32)) := D47 (Or.inl (hw _ (List.mem_of_getElem? (i := 86) rfl))) (ty := .int) (by decide)
  have F_end_b47 : Fld Z h47 b47 "com/example/octets_to_session/octetstosession/core/PacketReader" "end" "I" (.int (0 : Int32)) := D47 (Or.inl (hw _ (List.mem_of_getElem? (i := 88) rfl))) (ty := .int) (by decide)
  have F_container_b47 : Fld Z h47 b47 "com/example/octets_to_session/octetstosession/core/PacketReader" "container" "Ljava/lang/String;" .null := D47 (Or.inl (hw _ (List.mem_of_getElem? (i := 90) rfl))) (ty := (.object "java/lang/String")) (by decide)
  obtain ⟨T48, X48, e48, st48⟩ := getF X47 hx hZ hown (host := "") (Or.inl (hw _ (List.mem_of_getElem? (i := 28) rfl))) Via.refl e47 F_x0_octets (g := (mkF m 13 #[.val (.ref x0)] [(.ref x0), (.ref b47), (.ref b47), (.ref x0)])) rfl rfl (hb hby d_prog_45_method_12_code_13)
  obtain ⟨T49, X49, e49, st49⟩ := getF X48 hx hZ hown (host := "") (Or.inl (hw _ (List.mem_of_getElem? (i := 30) rfl))) Via.refl e48 F_x0_start (g := (mkF m 17 #[.val (.ref x0)] [(.ref x0), (.ref x2), (.ref b47), (.ref b47), (.ref x0)])) rfl rfl (hb hby d_prog_45_method_12_code_17)
  obtain ⟨T50, X50, e50, st50⟩ := getF X49 hx hZ hown (host := "") (Or.inl (hw _ (List.mem_of_getElem? (i := 30) rfl))) Via.refl e49 F_x0_start (g := (mkF m 21 #[.val (.ref x0)] [(.ref x0), (.int y2), (.ref x2), (.ref b47), (.ref b47), (.ref x0)])) rfl rfl (hb hby d_prog_45_method_12_code_21)
  obtain ⟨T51, X51, e51, st51⟩ := getF X50 hx hZ hown (host := "") (Or.inl (hw _ (List.mem_of_getElem? (i := 32) rfl))) Via.refl e50 F_x0_length (g := (mkF m 25 #[.val (.ref x0)] [(.ref x0), (.int y2), (.int y2), (.ref x2), (.ref b47), (.ref b47), (.ref x0)])) rfl rfl (hb hby d_prog_45_method_12_code_25)
  have pre63 : ∀ t, Steps p.tables e below (T51.setTop (mkF m 29 #[.val (.ref x0)] [(.int (y2 + y3)), (.int y2), (.ref x2), (.ref b47), (.ref b47), (.ref x0)])) t → Steps p.tables e below (s₁.setTop (entryFrame m #[(.ref x0)] 1)) t := by
    intro t kt
    refine pre0 t ?_
    show Steps p.tables e below (s₁.setTop (mkF m 0 #[.val (.ref x0)] [])) _
    refine XS.aloadN X0.here hx rfl (hb hby d_prog_45_method_12_code_0) rfl rfl ?_
    show Steps p.tables e below (s₁.setTop (mkF m 1 #[.val (.ref x0)] [(.ref x0)])) _
    refine st46 _ ?_
    show Steps p.tables e below (T46.setTop (mkF m 4 #[.val (.ref x0)] [.null])) _
    refine XS.ifnonnullNo X46.here hx rfl (hb hby d_prog_45_method_12_code_4) rfl ?_
    show Steps p.tables e below (T46.setTop (mkF m 7 #[.val (.ref x0)] [])) _
    refine XS.aloadN X46.here hx rfl (hb hby d_prog_45_method_12_code_7) rfl rfl ?_
    show Steps p.tables e below (T46.setTop (mkF m 8 #[.val (.ref x0)] [(.ref x0)])) _
    refine st47 _ ?_
    show Steps p.tables e below (T47.setTop (mkF m 11 #[.val (.ref x0)] [(.ref b47), (.ref x0)])) _
    refine XS.dup X47.here hx rfl (hb hby d_prog_45_method_12_code_11) rfl rfl ?_
    show Steps p.tables e below (T47.setTop (mkF m 12 #[.val (.ref x0)] [(.ref b47), (.ref b47), (.ref x0)])) _
    refine XS.aloadN X47.here hx rfl (hb hby d_prog_45_method_12_code_12) rfl rfl ?_
    show Steps p.tables e below (T47.setTop (mkF m 13 #[.val (.ref x0)] [(.ref x0), (.ref b47), (.ref b47), (.ref x0)])) _
    refine st48 _ ?_
    show Steps p.tables e below (T48.setTop (mkF m 16 #[.val (.ref x0)] [(.ref x2), (.ref b47), (.ref b47), (.ref x0)])) _
    refine XS.aloadN X48.here hx rfl (hb hby d_prog_45_method_12_code_16) rfl rfl ?_
    show Steps p.tables e below (T48.setTop (mkF m 17 #[.val (.ref x0)] [(.ref x0), (.ref x2), (.ref b47), (.ref b47), (.ref x0)])) _
    refine st49 _ ?_
    show Steps p.tables e below (T49.setTop (mkF m 20 #[.val (.ref x0)] [(.int y2), (.ref x2), (.ref b47), (.ref b47), (.ref x0)])) _
    refine XS.aloadN X49.here hx rfl (hb hby d_prog_45_method_12_code_20) rfl rfl ?_
    show Steps p.tables e below (T49.setTop (mkF m 21 #[.val (.ref x0)] [(.ref x0), (.int y2), (.ref x2), (.ref b47), (.ref b47), (.ref x0)])) _
    refine st50 _ ?_
    show Steps p.tables e below (T50.setTop (mkF m 24 #[.val (.ref x0)] [(.int y2), (.int y2), (.ref x2), (.ref b47), (.ref b47), (.ref x0)])) _
    refine XS.aloadN X50.here hx rfl (hb hby d_prog_45_method_12_code_24) rfl rfl ?_
    show Steps p.tables e below (T50.setTop (mkF m 25 #[.val (.ref x0)] [(.ref x0), (.int y2), (.int y2), (.ref x2), (.ref b47), (.ref b47), (.ref x0)])) _
    refine st51 _ ?_
    show Steps p.tables e below (T51.setTop (mkF m 28 #[.val (.ref x0)] [(.int y3), (.int y2), (.int y2), (.ref x2), (.ref b47), (.ref b47), (.ref x0)])) _
    refine XS.iadd X51.here hx rfl (hb hby d_prog_45_method_12_code_28) rfl ?_
    exact kt
  obtain ⟨_, _, ⟨T52, L52, k52, n52⟩, -, X52, hSc52, hge52, ⟨Lc52, hQ52, l52, y52, z52⟩, st52⟩ := X51.specialBackS hx (y := (⟨"com/example/octets_to_session/octetstosession/core/PacketReader", "<init>", "([BII)V"⟩ : MethodName)) rfl hown (mvT hZ (hw _ (List.mem_of_getElem? (i := 69) rfl))) (mvT hZ (hw _ (List.mem_of_getElem? (i := 70) rfl))) (mvT hZ (hw _ (List.mem_of_getElem? (i := 71) rfl))) (by decide) (backOfS (W := 2) (rm_init_11 l Z a0 hw [] b47 x2 y1 y2 (y2 + y3) kc0 h47 n0 O47 E_b47 F_body_b47 F_at_b47 F_end_b47 F_container_b47 ge_b47 V_x2 ge_x2 (Ne.symm ne_x2_b47) hp1 ) hZ (hw _ (List.mem_of_getElem? (i := 71) rfl)) (hw _ (List.mem_of_getElem? (i := 68) rfl)) (by decide) (by decide)) (g := (mkF m 29 #[.val (.ref x0)] [(.int (y2 + y3)), (.int y2), (.ref x2), (.ref b47), (.ref b47), (.ref x0)])) rfl (by rw [hml]; rfl) (Steps.refl _) (a := b47) (argsL := [(.ref x2), (.int y2), (.int (y2 + y3))]) (rest := [(.ref b47), (.ref x0)]) (lenOf pd___BII_V rfl) rfl (by show 2 * 0 + _ ≤ _; exact Nat.le_of_eq rfl) (hb hby d_prog_45_method_12_code_29) (fun _ _ => ⟨rfl, e51, (by decide : 1 + 2 ≤ _), (by decide : 4 + 28 ≤ _)⟩)
  dsimp only [Pt.U, Pt.locs, Pt.cells, Pt.slots] at X52 l52 y52 z52 st52 hQ52 hSc52 hge52
  subst l52 y52 z52
  obtain ⟨X52, hS52, hZ, hown⟩ := rebS hS0 (by rw [e51]; exact hk47) X52 hSc52 hge52 hZ hown
  obtain ⟨b52_a54, rfl, N52q, Kc52, u52_0, u52_1, u52_2, u52_3, u52_4⟩ := hQ52
  have N52 := Fr.app N0 N52q
  have E_x0 := E_x0.keep Kc52
  have F_x0_type := F_x0_type.keep Kc52 (ninS ne_x0_b47 nin0)
  have F_x0_flags := F_x0_flags.keep Kc52 (ninS ne_x0_b47 nin0)
  have F_x0_octets := F_x0_octets.keep Kc52 (ninS ne_x0_b47 nin0)
  have F_x0_start := F_x0_start.keep Kc52 (ninS ne_x0_b47 nin0)
  have F_x0_length := F_x0_length.keep Kc52 (ninS ne_x0_b47 nin0)
  have F_x0_reader := F_x0_reader.keep Kc52 (ninS ne_x0_b47 nin0)
  have V_x2 := V_x2.keep Kc52 (ninS ne_x2_b47 nin0)
  have O52 := O47.keep Kc52 (allS ge_b47 all0)
  have K52 := K47.trans Kc52 (allS (Or.inr sz_b47) all0)
  have hk52 : T52.heap.size ≤ T52.heap.size := Nat.le_refl _
  obtain ⟨T64, h64, X64, e64, W64, st64⟩ := putF X52 hx hZ hown (host := "") (Or.inl (hw _ (List.mem_of_getElem? (i := 64) rfl))) Via.refl rfl F_x0_reader E_x0 (Or.inl (hw _ (List.mem_of_getElem? (i := 65) rfl))) (hw _ (List.mem_of_getElem? (i := 1) rfl)) (ty := (.object "com/example/octets_to_session/octetstosession/core/PacketReader")) (by decide) rfl rfl (g := (mkF m 32 #[.val (.ref x0)] [(.ref b47), (.ref x0)])) rfl rfl (hb hby d_prog_45_method_12_code_32)
  have F_x0_reader := F_x0_reader.same W64
  have E_x0 := E_x0.wr W64
  have F_x0_type := F_x0_type.other W64 (Or.inr (slot_ne (Or.inl (hw _ (List.mem_of_getElem? (i := 25) rfl))) (Or.inl (hw _ (List.mem_of_getElem? (i := 65) rfl))) (by decide) (t := (.object "com/example/octets_to_session/octetstosession/core/PacketType")) (t' := (.object "com/example/octets_to_session/octetstosession/core/PacketReader")) (by decide) (by decide)))
  have F_x0_flags := F_x0_flags.other W64 (Or.inr (slot_ne (Or.inl (hw _ (List.mem_of_getElem? (i := 27) rfl))) (Or.inl (hw _ (List.mem_of_getElem? (i := 65) rfl))) (by decide) (t := .int) (t' := (.object "com/example/octets_to_session/octetstosession/core/PacketReader")) (by decide) (by decide)))
  have F_x0_octets := F_x0_octets.other W64 (Or.inr (slot_ne (Or.inl (hw _ (List.mem_of_getElem? (i := 29) rfl))) (Or.inl (hw _ (List.mem_of_getElem? (i := 65) rfl))) (by decide) (t := (.array .byte)) (t' := (.object "com/example/octets_to_session/octetstosession/core/PacketReader")) (by decide) (by decide)))
  have F_x0_start := F_x0_start.other W64 (Or.inr (slot_ne (Or.inl (hw _ (List.mem_of_getElem? (i := 31) rfl))) (Or.inl (hw _ (List.mem_of_getElem? (i := 65) rfl))) (by decide) (t := .int) (t' := (.object "com/example/octets_to_session/octetstosession/core/PacketReader")) (by decide) (by decide)))
  have F_x0_length := F_x0_length.other W64 (Or.inr (slot_ne (Or.inl (hw _ (List.mem_of_getElem? (i := 33) rfl))) (Or.inl (hw _ (List.mem_of_getElem? (i := 65) rfl))) (by decide) (t := .int) (t' := (.object "com/example/octets_to_session/octetstosession/core/PacketReader")) (by decide) (by decide)))
  have V_x2 := V_x2.other W64 (Ne.symm ne_x0_x2)
  have u52_0 := u52_0.wr W64
  have u52_1 := u52_1.other W64 (Or.inl (Ne.symm ne_x0_b47))
  have u52_2 := u52_2.other W64 (Or.inl (Ne.symm ne_x0_b47))
  have u52_3 := u52_3.other W64 (Or.inl (Ne.symm ne_x0_b47))
  have u52_4 := u52_4.other W64 (Or.inl (Ne.symm ne_x0_b47))
  have O64 := O52.wr W64 ge_x0
  have K64 := K52.wr W64 (Or.inl (List.mem_of_getElem? (i := 0) rfl))
  have N64 := Fr.snoc X64 N52 ge_x0
  have hk64 := Nat.le_trans hk52 (Keep.of_wr W64).1
  obtain ⟨T65, X65, e65, st65⟩ := getF X64 hx hZ hown (host := "") (Or.inl (hw _ (List.mem_of_getElem? (i := 64) rfl))) Via.refl e64 F_x0_reader (g := (mkF m 63 #[.val (.ref x0)] [(.ref x0)])) rfl rfl (hb hby d_prog_45_method_12_code_63)
  have pre66 : ∀ t, Steps p.tables e below (T65.setTop (mkF m 66 #[.val (.ref x0)] [(.ref b47)])) t → Steps p.tables e below (s₁.setTop (entryFrame m #[(.ref x0)] 1)) t := by
    intro t kt
    refine pre63 t ?_
    show Steps p.tables e below (T51.setTop (mkF m 29 #[.val (.ref x0)] [(.int (y2 + y3)), (.int y2), (.ref x2), (.ref b47), (.ref b47), (.ref x0)])) _
    refine st52.trans ?_
    show Steps p.tables e below (T52.setTop (mkF m 32 #[.val (.ref x0)] [(.ref b47), (.ref x0)])) _
    refine st64 _ ?_
    show Steps p.tables e below (T64.setTop (mkF m 35 #[.val (.ref x0)] [])) _
    refine XS.goto X64.here hx rfl (pc0 := 35) (pc' := 62) rfl (hb hby d_prog_45_method_12_code_35) (by decide) (by decide) ?_
    show Steps p.tables e below (T64.setTop (mkF m 62 #[.val (.ref x0)] [])) _
    refine XS.aloadN X64.here hx rfl (hb hby d_prog_45_method_12_code_62) rfl rfl ?_
    show Steps p.tables e below (T64.setTop (mkF m 63 #[.val (.ref x0)] [(.ref x0)])) _
    refine st65 _ ?_
    exact kt
  obtain ⟨fs, hr, hrun, hended, q1, q2, q3, q4⟩ := X65.leaveW hS52 (by rw [e65]; exact hk64) (v := some (.ref b47)) (fun h => by rw [Bd.returns] at h; cases h)
  refine ⟨_, _, pre66 _ ?_, hrun, hended, _, _, rfl, ?_, ⟨_, rfl⟩, q2, q3, q4.mono (by decide) (by decide)⟩
  · show Steps p.tables e below (T65.setTop (mkF m 66 #[.val (.ref x0)] [(.ref b47)])) _
    jvm_step X65.here [X65.here.top, hx, (hb hby d_prog_45_method_12_code_66), X65.method', Bd.returns, Value.isRef, FieldType.isReference]
    first | (intro acts; rw [hr _ acts rfl rfl rfl]) | rw [hr _ _ rfl rfl rfl]
    exact Steps.refl _
  · show Q_rm_reader_10 Z x0 x1 y0 x2 y1 y2 y3 kc0 h0 n0 _ T65.heap _
    rw [e65]
    exact ⟨b47, b52_a54, rfl, N64, K64, E_x0, F_x0_type, F_x0_flags, F_x0_octets, F_x0_start, F_x0_length, F_x0_reader, u52_0, u52_1, u52_2, u52_3, u52_4, ge_b47, sz_b47⟩
theorem d_prog_48_method_17_code_0 : decode prog_48_method_17_code 0 = .ok (.aload_n 0, 1) := by decide +kernel
theorem d_prog_48_method_17_code_1 : decode prog_48_method_17_code 1 = .ok (.getfield 18, 3) := by decide +kernel
theorem d_prog_48_method_17_code_4 : decode prog_48_method_17_code 4 = .ok (.aload_n 0, 1) := by decide +kernel
theorem d_prog_48_method_17_code_5 : decode prog_48_method_17_code 5 = .ok (.getfield 22, 3) := by decide +kernel
theorem d_prog_48_method_17_code_8 : decode prog_48_method_17_code 8 = .ok (.if_icmp .ne 7, 3) := by decide +kernel
theorem d_prog_48_method_17_code_11 : decode prog_48_method_17_code 11 = .ok (.iconst 1, 1) := by decide +kernel
theorem d_prog_48_method_17_code_12 : decode prog_48_method_17_code 12 = .ok (.goto 4, 3) := by decide +kernel
theorem d_prog_48_method_17_code_16 : decode prog_48_method_17_code 16 = .ok (.ireturn, 1) := by decide +kernel
theorem ef_rm_atEnd_13 (m : MethodId) (x0 : Addr) : entryFrame m #[(.ref x0)] 1 = mkF m 0 #[.val (.ref x0)] [] := by first | (simp [entryFrame, mkF, argsToLocals, Value.category]; done) | rfl
def Q_rm_atEnd_13 (Z : State) (x0 : Addr) (y1 : Int32) (y2 : Int32) (h0 : Heap) (n0 : Nat) (v : Option Value) (h : Heap) (L : List Loc) : Prop := v = some (.int (1 : Int32)) ∧ Fr n0 L ∧ h = h0
set_option maxRecDepth 65536 in
set_option maxHeartbeats 40000000 in
theorem rm_atEnd_13 (l : Launch) (Z : State) (a0 : Array Value) (hw : ∀ d ∈ tables_1, d.before a0 Z = true) (ws : List Jvm.Cond) (x0 : Addr) (y1 : Int32) (y2 : Int32) (h0 : Heap) (n0 : Nat) (O0 : Old Z n0 h0) (F_x0_at : Fld Z h0 x0 "com/example/octets_to_session/octetstosession/core/PacketReader" "at" "I" (.int y1)) (F_x0_end : Fld Z h0 x0 "com/example/octets_to_session/octetstosession/core/PacketReader" "end" "I" (.int y2)) (hp0 : y1 = y2)  :
    MetFree l (⟨"com/example/octets_to_session/octetstosession/core/PacketReader", "atEnd", "()Z"⟩ : MethodName) (head1 (Jvm.Cond.code (⟨"com/example/octets_to_session/octetstosession/core/PacketReader", "atEnd", "()Z"⟩ : MethodName) prog_48_method_17_code 1 (some .boolean) :: ws) ({ frames := 0, cells := 0, slots := 0, locals := 0 } : Room)) (fun a U => a = #[(.ref x0)] ∧ Z.Warmed39 U.vm ∧ U.heap = h0) (fun _ _ _ _ _ => True) (fun _ U o U' => ∃ v L, o = .returned v ∧ Q_rm_atEnd_13 Z x0 y1 y2 h0 n0 v U'.heap L ∧ FrameEnd U o U' L ({ frames := 0, cells := 0, slots := 0, locals := 0 } : Room).cells ({ frames := 0, cells := 0, slots := 0, locals := 0 } : Room).slots) := by
  refine MetFree.of_bodySF (plainFor_of_name pn_com_example_octets_to_session_octetstosession_core_PacketReader) hisR ?_
  intro p e s m args below meth c s₁ Bd hml0 hP hK
  obtain ⟨rfl, hZ, hh⟩ := hP
  have hx := Bd.exec
  have hby := Bd.bytes
  have hml : c.maxLocals = 1 := hml0
  have hown : s.vm.findClass "com/example/octets_to_session/octetstosession/core/PacketReader" = some m.cls := findClass_of_methodNamed Bd.named
  have hnm := (name_of_methodNamed Bd.named Bd.method).1
  have X0 : Stand p l e ({ frames := 0, cells := 0, slots := 0, locals := 0 } : Room) s m #[(.ref x0)] below meth c s₁ [] 0 0 := Stand.of_body Bd
  have e0 : s₁.heap = h0 := by rw [← hh, Bd.state]; rfl
  have N0 := Fr.nil n0
  have pre0 : ∀ t, Steps p.tables e below (s₁.setTop (mkF m 0 #[.val (.ref x0)] [])) t → Steps p.tables e below (s₁.setTop (entryFrame m #[(.ref x0)] 1)) t := fun t k => castTop (ef_rm_atEnd_13 m x0) k
  have K0 := Keep.refl h0 []
  obtain ⟨T68, X68, e68, st68⟩ := getF X0 hx hZ hown (host := "") (Or.inl (hw _ (List.mem_of_getElem? (i := 85) rfl))) Via.refl e0 F_x0_at (g := (mkF m 1 #[.val (.ref x0)] [(.ref x0)])) rfl rfl (hb hby d_prog_48_method_17_code_1)
  obtain ⟨T69, X69, e69, st69⟩ := getF X68 hx hZ hown (host := "") (Or.inl (hw _ (List.mem_of_getElem? (i := 87) rfl))) Via.refl e68 F_x0_end (g := (mkF m 5 #[.val (.ref x0)] [(.ref x0), (.int y1)])) rfl rfl (hb hby d_prog_48_method_17_code_5)
  have pre70 : ∀ t, Steps p.tables e below (T69.setTop (mkF m 16 #[.val (.ref x0)] [(.int (1 : Int32))])) t → Steps p.tables e below (s₁.setTop (entryFrame m #[(.ref x0)] 1)) t := by
    intro t kt
    refine pre0 t ?_
    show Steps p.tables e below (s₁.setTop (mkF m 0 #[.val (.ref x0)] [])) _
    refine XS.aloadN X0.here hx rfl (hb hby d_prog_48_method_17_code_0) rfl rfl ?_
    show Steps p.tables e below (s₁.setTop (mkF m 1 #[.val (.ref x0)] [(.ref x0)])) _
    refine st68 _ ?_
    show Steps p.tables e below (T68.setTop (mkF m 4 #[.val (.ref x0)] [(.int y1)])) _
    refine XS.aloadN X68.here hx rfl (hb hby d_prog_48_method_17_code_4) rfl rfl ?_
    show Steps p.tables e below (T68.setTop (mkF m 5 #[.val (.ref x0)] [(.ref x0), (.int y1)])) _
    refine st69 _ ?_
    show Steps p.tables e below (T69.setTop (mkF m 8 #[.val (.ref x0)] [(.int y2), (.int y1)])) _
    refine XS.icmpNo X69.here hx rfl (hb hby d_prog_48_method_17_code_8) rfl (teq hp0).2 ?_
    show Steps p.tables e below (T69.setTop (mkF m 11 #[.val (.ref x0)] [])) _
    refine XS.iconst X69.here hx rfl (hb hby d_prog_48_method_17_code_11) ?_
    show Steps p.tables e below (T69.setTop (mkF m 12 #[.val (.ref x0)] [(.int (1 : Int32))])) _
    refine XS.goto X69.here hx rfl (pc0 := 12) (pc' := 16) rfl (hb hby d_prog_48_method_17_code_12) (by decide) (by decide) ?_
    exact kt
  obtain ⟨fs, hr, hrun, hended, hW, hsame⟩ := X69.leave (v := some (.int (1 : Int32))) (fun h => by rw [Bd.returns] at h; cases h)
  refine ⟨_, _, pre70 _ ?_, hrun, hended, _, _, rfl, ?_, ⟨_, rfl⟩, hW, hsame.mono (by decide) (by decide)⟩
  · show Steps p.tables e below (T69.setTop (mkF m 16 #[.val (.ref x0)] [(.int (1 : Int32))])) _
    exact retN X69 hx (t := .boolean) Bd.returns (by simp) (hb hby d_prog_48_method_17_code_16) hr
  · show Q_rm_atEnd_13 Z x0 y1 y2 h0 n0 _ T69.heap _
    rw [e69]
    exact ⟨rfl, N0, rfl⟩
theorem ef_rm_init_16 (m : MethodId) (x0 : Addr) (x1 : Addr) (y1 : Int32) (y2 : Int32) (x2 : Addr) : entryFrame m #[(.ref x0), (.ref x1), (.int y1), (.int y2), (.ref x2)] 5 = mkF m 0 #[.val (.ref x0), .val (.ref x1), .val (.int y1), .val (.int y2), .val (.ref x2)] [] := by first | (simp [entryFrame, mkF, argsToLocals, Value.category]; done) | rfl
def Q_rm_init_16 (Z : State) (x0 : Addr) (x1 : Addr) (y0 : Int32) (y1 : Int32) (y2 : Int32) (x2 : Addr) (kc0 : ClassId) (h0 : Heap) (n0 : Nat) (v : Option Value) (h : Heap) (L : List Loc) : Prop := v = none ∧ Fr n0 L ∧ Keep h0 h [x0] ∧ Exa Z h x0 "com/example/octets_to_session/octetstosession/core/PacketReader" ∧ Fld Z h x0 "com/example/octets_to_session/octetstosession/core/PacketReader" "body" "[B" (.ref x1) ∧ Fld Z h x0 "com/example/octets_to_session/octetstosession/core/PacketReader" "at" "I" (.int y1) ∧ Fld Z h x0 "com/example/octets_to_session/octetstosession/core/PacketReader" "end" "I" (.int y2) ∧ Fld Z h x0 "com/example/octets_to_session/octetstosession/core/PacketReader" "container" "Ljava/lang/String;" (.ref x2)
set_option maxRecDepth 65536 in
set_option maxHeartbeats 40000000 in
theorem rm_init_16 (l : Launch) (Z : State) (a0 : Array Value) (hw : ∀ d ∈ tables_1, d.before a0 Z = true) (ws : List Jvm.Cond) (x0 : Addr) (x1 : Addr) (y0 : Int32) (y1 : Int32) (y2 : Int32) (x2 : Addr) (kc0 : ClassId) (h0 : Heap) (n0 : Nat) (O0 : Old Z n0 h0) (E_x0 : Exa Z h0 x0 "com/example/octets_to_session/octetstosession/core/PacketReader") (F_x0_body : Fld Z h0 x0 "com/example/octets_to_session/octetstosession/core/PacketReader" "body" "[B" .null) (F_x0_at : Fld Z h0 x0 "com/example/octets_to_session/octetstosession/core/PacketReader" "at" "I" (.int (0 : Int32))) (F_x0_end : Fld Z h0 x0 "com/example/octets_to_session/octetstosession/core/PacketReader" "end" "I" (.int (0 : Int32))) (F_x0_container : Fld Z h0 x0 "com/example/octets_to_session/octetstosession/core/PacketReader" "container" "Ljava/lang/String;" .null) (ge_x0 : n0 ≤ x0) (V_x1 : Arv Z h0 x1 kc0 .byte y0 [] (.int (0 : Int32))) (ge_x1 : n0 ≤ x1) (ne_x0_x1 : x0 ≠ x1) (hp0 : ¬ (y1 = y2))  :
    MetFree l (⟨"com/example/octets_to_session/octetstosession/core/PacketReader", "<init>", "([BIILjava/lang/String;)V"⟩ : MethodName) (head1 (Jvm.Cond.code (⟨"com/example/octets_to_session/octetstosession/core/PacketReader", "<init>", "([BIILjava/lang/String;)V"⟩ : MethodName) prog_48_method_3_code 5 none :: ws) ({ frames := 1, cells := 0, slots := 0, locals := 12 } : Room)) (fun a U => a = #[(.ref x0), (.ref x1), (.int y1), (.int y2), (.ref x2)] ∧ Z.Warmed39 U.vm ∧ U.heap = h0) (fun _ _ _ _ _ => True) (fun _ U o U' => ∃ v L, o = .returned v ∧ Q_rm_init_16 Z x0 x1 y0 y1 y2 x2 kc0 h0 n0 v U'.heap L ∧ FrameEnd U o U' L ({ frames := 1, cells := 0, slots := 0, locals := 12 } : Room).cells ({ frames := 1, cells := 0, slots := 0, locals := 12 } : Room).slots) := by
  refine MetFree.of_bodySF (plainFor_of_name pn_com_example_octets_to_session_octetstosession_core_PacketReader) hisR ?_
  intro p e s m args below meth c s₁ Bd hml0 hP hK
  obtain ⟨rfl, hZ, hh⟩ := hP
  have hx := Bd.exec
  have hby := Bd.bytes
  have hml : c.maxLocals = 5 := hml0
  have hown : s.vm.findClass "com/example/octets_to_session/octetstosession/core/PacketReader" = some m.cls := findClass_of_methodNamed Bd.named
  have hnm := (name_of_methodNamed Bd.named Bd.method).1
  have X0 : Stand p l e ({ frames := 1, cells := 0, slots := 0, locals := 12 } : Room) s m #[(.ref x0), (.ref x1), (.int y1), (.int y2), (.ref x2)] below meth c s₁ [] 0 0 := Stand.of_body Bd
  have e0 : s₁.heap = h0 := by rw [← hh, Bd.state]; rfl
  have N0 := Fr.nil n0
  have pre0 : ∀ t, Steps p.tables e below (s₁.setTop (mkF m 0 #[.val (.ref x0), .val (.ref x1), .val (.int y1), .val (.int y2), .val (.ref x2)] [])) t → Steps p.tables e below (s₁.setTop (entryFrame m #[(.ref x0), (.ref x1), (.int y1), (.int y2), (.ref x2)] 5)) t := fun t k => castTop (ef_rm_init_16 m x0 x1 y1 y2 x2) k
  have K0 := Keep.refl h0 [x0]
  obtain ⟨T87, X87, e87, st87⟩ := initO X0 hx hZ hown (hw _ (List.mem_of_getElem? (i := 82) rfl)) (hw _ (List.mem_of_getElem? (i := 7) rfl)) (hw _ (List.mem_of_getElem? (i := 8) rfl)) e0 (g := (mkF m 1 #[.val (.ref x0), .val (.ref x1), .val (.int y1), .val (.int y2), .val (.ref x2)] [(.ref x0)])) rfl (by rw [hml]; rfl) rfl (hb hby d_prog_48_method_3_code_1) (by decide) (W := 0) (by show 2 * 0 + _ ≤ _; exact Nat.le_of_eq rfl) (by decide)
  obtain ⟨T88, h88, X88, e88, W88, st88⟩ := putF X87 hx hZ hown (host := "") (Or.inl (hw _ (List.mem_of_getElem? (i := 83) rfl))) Via.refl e87 F_x0_body E_x0 (Or.inl (hw _ (List.mem_of_getElem? (i := 84) rfl))) (hw _ (List.mem_of_getElem? (i := 67) rfl)) (ty := (.array .byte)) (by decide) rfl rfl (g := (mkF m 6 #[.val (.ref x0), .val (.ref x1), .val (.int y1), .val (.int y2), .val (.ref x2)] [(.ref x1), (.ref x0)])) rfl rfl (hb hby d_prog_48_method_3_code_6)
  have F_x0_body := F_x0_body.same W88
  have E_x0 := E_x0.wr W88
  have F_x0_at := F_x0_at.other W88 (Or.inr (slot_ne (Or.inl (hw _ (List.mem_of_getElem? (i := 86) rfl))) (Or.inl (hw _ (List.mem_of_getElem? (i := 84) rfl))) (by decide) (t := .int) (t' := (.array .byte)) (by decide) (by decide)))
  have F_x0_end := F_x0_end.other W88 (Or.inr (slot_ne (Or.inl (hw _ (List.mem_of_getElem? (i := 88) rfl))) (Or.inl (hw _ (List.mem_of_getElem? (i := 84) rfl))) (by decide) (t := .int) (t' := (.array .byte)) (by decide) (by decide)))
  have F_x0_container := F_x0_container.other W88 (Or.inr (slot_ne (Or.inl (hw _ (List.mem_of_getElem? (i := 90) rfl))) (Or.inl (hw _ (List.mem_of_getElem? (i := 84) rfl))) (by decide) (t := (.object "java/lang/String")) (t' := (.array .byte)) (by decide) (by decide)))
  have V_x1 := V_x1.other W88 (Ne.symm ne_x0_x1)
  have O88 := O0.wr W88 ge_x0
  have K88 := K0.wr W88 (Or.inl (List.mem_of_getElem? (i := 0) rfl))
  have N88 := Fr.snoc X88 N0 ge_x0
  obtain ⟨T89, h89, X89, e89, W89, st89⟩ := putF X88 hx hZ hown (host := "") (Or.inl (hw _ (List.mem_of_getElem? (i := 85) rfl))) Via.refl e88 F_x0_at E_x0 (Or.inl (hw _ (List.mem_of_getElem? (i := 86) rfl))) (hw _ (List.mem_of_getElem? (i := 67) rfl)) (ty := .int) (by decide) rfl rfl (g := (mkF m 11 #[.val (.ref x0), .val (.ref x1), .val (.int y1), .val (.int y2), .val (.ref x2)] [(.int y1), (.ref x0)])) rfl rfl (hb hby d_prog_48_method_3_code_11)
  have F_x0_at := F_x0_at.same W89
  have E_x0 := E_x0.wr W89
  have F_x0_body := F_x0_body.other W89 (Or.inr (slot_ne (Or.inl (hw _ (List.mem_of_getElem? (i := 84) rfl))) (Or.inl (hw _ (List.mem_of_getElem? (i := 86) rfl))) (by decide) (t := (.array .byte)) (t' := .int) (by decide) (by decide)))
  have F_x0_end := F_x0_end.other W89 (Or.inr (slot_ne (Or.inl (hw _ (List.mem_of_getElem? (i := 88) rfl))) (Or.inl (hw _ (List.mem_of_getElem? (i := 86) rfl))) (by decide) (t := .int) (t' := .int) (by decide) (by decide)))
  have F_x0_container := F_x0_container.other W89 (Or.inr (slot_ne (Or.inl (hw _ (List.mem_of_getElem? (i := 90) rfl))) (Or.inl (hw _ (List.mem_of_getElem? (i := 86) rfl))) (by decide) (t := (.object "java/lang/String")) (t' := .int) (by decide) (by decide)))
  have V_x1 := V_x1.other W89 (Ne.symm ne_x0_x1)
  have O89 := O88.wr W89 ge_x0
  have K89 := K88.wr W89 (Or.inl (List.mem_of_getElem? (i := 0) rfl))
  have N89 := Fr.snoc X89 N88 ge_x0
  obtain ⟨T90, h90, X90, e90, W90, st90⟩ := putF X89 hx hZ hown (host := "") (Or.inl (hw _ (List.mem_of_getElem? (i := 87) rfl))) Via.refl e89 F_x0_end E_x0 (Or.inl (hw _ (List.mem_of_getElem? (i := 88) rfl))) (hw _ (List.mem_of_getElem? (i := 67) rfl)) (ty := .int) (by decide) rfl rfl (g := (mkF m 16 #[.val (.ref x0), .val (.ref x1), .val (.int y1), .val (.int y2), .val (.ref x2)] [(.int y2), (.ref x0)])) rfl rfl (hb hby d_prog_48_method_3_code_16)
  have F_x0_end := F_x0_end.same W90
  have E_x0 := E_x0.wr W90
  have F_x0_body := F_x0_body.other W90 (Or.inr (slot_ne (Or.inl (hw _ (List.mem_of_getElem? (i := 84) rfl))) (Or.inl (hw _ (List.mem_of_getElem? (i := 88) rfl))) (by decide) (t := (.array .byte)) (t' := .int) (by decide) (by decide)))
  have F_x0_at := F_x0_at.other W90 (Or.inr (slot_ne (Or.inl (hw _ (List.mem_of_getElem? (i := 86) rfl))) (Or.inl (hw _ (List.mem_of_getElem? (i := 88) rfl))) (by decide) (t := .int) (t' := .int) (by decide) (by decide)))
  have F_x0_container := F_x0_container.other W90 (Or.inr (slot_ne (Or.inl (hw _ (List.mem_of_getElem? (i := 90) rfl))) (Or.inl (hw _ (List.mem_of_getElem? (i := 88) rfl))) (by decide) (t := (.object "java/lang/String")) (t' := .int) (by decide) (by decide)))
  have V_x1 := V_x1.other W90 (Ne.symm ne_x0_x1)
  have O90 := O89.wr W90 ge_x0
  have K90 := K89.wr W90 (Or.inl (List.mem_of_getElem? (i := 0) rfl))
  have N90 := Fr.snoc X90 N89 ge_x0
  obtain ⟨T91, h91, X91, e91, W91, st91⟩ := putF X90 hx hZ hown (host := "") (Or.inl (hw _ (List.mem_of_getElem? (i := 89) rfl))) Via.refl e90 F_x0_container E_x0 (Or.inl (hw _ (List.mem_of_getElem? (i := 90) rfl))) (hw _ (List.mem_of_getElem? (i := 67) rfl)) (ty := (.object "java/lang/String")) (by decide) rfl rfl (g := (mkF m 22 #[.val (.ref x0), .val (.ref x1), .val (.int y1), .val (.int y2), .val (.ref x2)] [(.ref x2), (.ref x0)])) rfl rfl (hb hby d_prog_48_method_3_code_22)
  have F_x0_container := F_x0_container.same W91
  have E_x0 := E_x0.wr W91
  have F_x0_body := F_x0_body.other W91 (Or.inr (slot_ne (Or.inl (hw _ (List.mem_of_getElem? (i := 84) rfl))) (Or.inl (hw _ (List.mem_of_getElem? (i := 90) rfl))) (by decide) (t := (.array .byte)) (t' := (.object "java/lang/String")) (by decide) (by decide)))
  have F_x0_at := F_x0_at.other W91 (Or.inr (slot_ne (Or.inl (hw _ (List.mem_of_getElem? (i := 86) rfl))) (Or.inl (hw _ (List.mem_of_getElem? (i := 90) rfl))) (by decide) (t := .int) (t' := (.object "java/lang/String")) (by decide) (by decide)))
  have F_x0_end := F_x0_end.other W91 (Or.inr (slot_ne (Or.inl (hw _ (List.mem_of_getElem? (i := 88) rfl))) (Or.inl (hw _ (List.mem_of_getElem? (i := 90) rfl))) (by decide) (t := .int) (t' := (.object "java/lang/String")) (by decide) (by decide)))
  have V_x1 := V_x1.other W91 (Ne.symm ne_x0_x1)
  have O91 := O90.wr W91 ge_x0
  have K91 := K90.wr W91 (Or.inl (List.mem_of_getElem? (i := 0) rfl))
  have N91 := Fr.snoc X91 N90 ge_x0
  have pre92 : ∀ t, Steps p.tables e below (T91.setTop (mkF m 25 #[.val (.ref x0), .val (.ref x1), .val (.int y1), .val (.int y2), .val (.ref x2)] [])) t → Steps p.tables e below (s₁.setTop (entryFrame m #[(.ref x0), (.ref x1), (.int y1), (.int y2), (.ref x2)] 5)) t := by
    intro t kt
    refine pre0 t ?_
    show Steps p.tables e below (s₁.setTop (mkF m 0 #[.val (.ref x0), .val (.ref x1), .val (.int y1), .val (.int y2), .val (.ref x2)] [])) _
    refine XS.aloadN X0.here hx rfl (hb hby d_prog_48_method_3_code_0) rfl rfl ?_
    show Steps p.tables e below (s₁.setTop (mkF m 1 #[.val (.ref x0), .val (.ref x1), .val (.int y1), .val (.int y2), .val (.ref x2)] [(.ref x0)])) _
    refine st87 _ ?_
    show Steps p.tables e below (T87.setTop (mkF m 4 #[.val (.ref x0), .val (.ref x1), .val (.int y1), .val (.int y2), .val (.ref x2)] [])) _
    refine XS.aloadN X87.here hx rfl (hb hby d_prog_48_method_3_code_4) rfl rfl ?_
    show Steps p.tables e below (T87.setTop (mkF m 5 #[.val (.ref x0), .val (.ref x1), .val (.int y1), .val (.int y2), .val (.ref x2)] [(.ref x0)])) _
    refine XS.aloadN X87.here hx rfl (hb hby d_prog_48_method_3_code_5) rfl rfl ?_
    show Steps p.tables e below (T87.setTop (mkF m 6 #[.val (.ref x0), .val (.ref x1), .val (.int y1), .val (.int y2), .val (.ref x2)] [(.ref x1), (.ref x0)])) _
    refine st88 _ ?_
    show Steps p.tables e below (T88.setTop (mkF m 9 #[.val (.ref x0), .val (.ref x1), .val (.int y1), .val (.int y2), .val (.ref x2)] [])) _
    refine XS.aloadN X88.here hx rfl (hb hby d_prog_48_method_3_code_9) rfl rfl ?_
    show Steps p.tables e below (T88.setTop (mkF m 10 #[.val (.ref x0), .val (.ref x1), .val (.int y1), .val (.int y2), .val (.ref x2)] [(.ref x0)])) _
    refine XS.iloadN X88.here hx rfl (hb hby d_prog_48_method_3_code_10) rfl ?_
    show Steps p.tables e below (T88.setTop (mkF m 11 #[.val (.ref x0), .val (.ref x1), .val (.int y1), .val (.int y2), .val (.ref x2)] [(.int y1), (.ref x0)])) _
    refine st89 _ ?_
    show Steps p.tables e below (T89.setTop (mkF m 14 #[.val (.ref x0), .val (.ref x1), .val (.int y1), .val (.int y2), .val (.ref x2)] [])) _
    refine XS.aloadN X89.here hx rfl (hb hby d_prog_48_method_3_code_14) rfl rfl ?_
    show Steps p.tables e below (T89.setTop (mkF m 15 #[.val (.ref x0), .val (.ref x1), .val (.int y1), .val (.int y2), .val (.ref x2)] [(.ref x0)])) _
    refine XS.iloadN X89.here hx rfl (hb hby d_prog_48_method_3_code_15) rfl ?_
    show Steps p.tables e below (T89.setTop (mkF m 16 #[.val (.ref x0), .val (.ref x1), .val (.int y1), .val (.int y2), .val (.ref x2)] [(.int y2), (.ref x0)])) _
    refine st90 _ ?_
    show Steps p.tables e below (T90.setTop (mkF m 19 #[.val (.ref x0), .val (.ref x1), .val (.int y1), .val (.int y2), .val (.ref x2)] [])) _
    refine XS.aloadN X90.here hx rfl (hb hby d_prog_48_method_3_code_19) rfl rfl ?_
    show Steps p.tables e below (T90.setTop (mkF m 20 #[.val (.ref x0), .val (.ref x1), .val (.int y1), .val (.int y2), .val (.ref x2)] [(.ref x0)])) _
    refine XS.aload X90.here hx rfl (hb hby d_prog_48_method_3_code_20) rfl rfl ?_
    show Steps p.tables e below (T90.setTop (mkF m 22 #[.val (.ref x0), .val (.ref x1), .val (.int y1), .val (.int y2), .val (.ref x2)] [(.ref x2), (.ref x0)])) _
    refine st91 _ ?_
    exact kt
  obtain ⟨fs, hr, hrun, hended, hW, hsame⟩ := X91.leave (v := none) (fun _ => rfl)
  refine ⟨_, _, pre92 _ ?_, hrun, hended, _, _, rfl, ?_, ⟨_, rfl⟩, hW, hsame.mono (by decide) (by decide)⟩
  · show Steps p.tables e below (T91.setTop (mkF m 25 #[.val (.ref x0), .val (.ref x1), .val (.int y1), .val (.int y2), .val (.ref x2)] [])) _
    exact X91.returnOut hx Bd.returns (hb hby d_prog_48_method_3_code_25) hr
  · show Q_rm_init_16 Z x0 x1 y0 y1 y2 x2 kc0 h0 n0 _ T91.heap _
    rw [e91]
    exact ⟨rfl, N91, K91, E_x0, F_x0_body, F_x0_at, F_x0_end, F_x0_container⟩
theorem ef_rm_init_15 (m : MethodId) (x0 : Addr) (x1 : Addr) (y1 : Int32) (y2 : Int32) : entryFrame m #[(.ref x0), (.ref x1), (.int y1), (.int y2)] 4 = mkF m 0 #[.val (.ref x0), .val (.ref x1), .val (.int y1), .val (.int y2)] [] := by first | (simp [entryFrame, mkF, argsToLocals, Value.category]; done) | rfl
def Q_rm_init_15 (Z : State) (x0 : Addr) (x1 : Addr) (y0 : Int32) (y1 : Int32) (y2 : Int32) (kc0 : ClassId) (h0 : Heap) (n0 : Nat) (v : Option Value) (h : Heap) (L : List Loc) : Prop := ∃ (a85 : Addr), v = none ∧ Fr n0 L ∧ Keep h0 h [x0] ∧ Exa Z h x0 "com/example/octets_to_session/octetstosession/core/PacketReader" ∧ Fld Z h x0 "com/example/octets_to_session/octetstosession/core/PacketReader" "body" "[B" (.ref x1) ∧ Fld Z h x0 "com/example/octets_to_session/octetstosession/core/PacketReader" "at" "I" (.int y1) ∧ Fld Z h x0 "com/example/octets_to_session/octetstosession/core/PacketReader" "end" "I" (.int y2) ∧ Fld Z h x0 "com/example/octets_to_session/octetstosession/core/PacketReader" "container" "Ljava/lang/String;" (.ref a85)
set_option maxRecDepth 65536 in
set_option maxHeartbeats 40000000 in
theorem rm_init_15 (l : Launch) (Z : State) (a0 : Array Value) (hw : ∀ d ∈ tables_1, d.before a0 Z = true) (ws : List Jvm.Cond) (x0 : Addr) (x1 : Addr) (y0 : Int32) (y1 : Int32) (y2 : Int32) (kc0 : ClassId) (h0 : Heap) (n0 : Nat) (O0 : Old Z n0 h0) (E_x0 : Exa Z h0 x0 "com/example/octets_to_session/octetstosession/core/PacketReader") (F_x0_body : Fld Z h0 x0 "com/example/octets_to_session/octetstosession/core/PacketReader" "body" "[B" .null) (F_x0_at : Fld Z h0 x0 "com/example/octets_to_session/octetstosession/core/PacketReader" "at" "I" (.int (0 : Int32))) (F_x0_end : Fld Z h0 x0 "com/example/octets_to_session/octetstosession/core/PacketReader" "end" "I" (.int (0 : Int32))) (F_x0_container : Fld Z h0 x0 "com/example/octets_to_session/octetstosession/core/PacketReader" "container" "Ljava/lang/String;" .null) (ge_x0 : n0 ≤ x0) (V_x1 : Arv Z h0 x1 kc0 .byte y0 [] (.int (0 : Int32))) (ge_x1 : n0 ≤ x1) (ne_x0_x1 : x0 ≠ x1) (hp0 : ¬ (y1 = y2))  :
    MetFree l (⟨"com/example/octets_to_session/octetstosession/core/PacketReader", "<init>", "([BII)V"⟩ : MethodName) (head1 (Jvm.Cond.code (⟨"com/example/octets_to_session/octetstosession/core/PacketReader", "<init>", "([BII)V"⟩ : MethodName) prog_48_method_2_code 4 none :: ws) ({ frames := 2, cells := 2, slots := 28, locals := 28 } : Room)) (fun a U => a = #[(.ref x0), (.ref x1), (.int y1), (.int y2)] ∧ Z.Warmed39 U.vm ∧ U.heap = h0) (fun _ _ _ _ _ => True) (fun _ U o U' => ∃ v L, o = .returned v ∧ Q_rm_init_15 Z x0 x1 y0 y1 y2 kc0 h0 n0 v U'.heap L ∧ ReturnedEndW U o U' L ({ frames := 2, cells := 2, slots := 28, locals := 28 } : Room).cells ({ frames := 2, cells := 2, slots := 28, locals := 28 } : Room).slots) := by
  refine MetFree.of_bodySF (plainFor_of_name pn_com_example_octets_to_session_octetstosession_core_PacketReader) hisR ?_
  intro p e s m args below meth c s₁ Bd hml0 hP hK
  obtain ⟨rfl, hZ, hh⟩ := hP
  have hx := Bd.exec
  have hby := Bd.bytes
  have hml : c.maxLocals = 4 := hml0
  have hown : s.vm.findClass "com/example/octets_to_session/octetstosession/core/PacketReader" = some m.cls := findClass_of_methodNamed Bd.named
  have hnm := (name_of_methodNamed Bd.named Bd.method).1
  have X0 : Stand p l e ({ frames := 2, cells := 2, slots := 28, locals := 28 } : Room) (s.setVm s.vm) m #[(.ref x0), (.ref x1), (.int y1), (.int y2)] below meth c s₁ [] 0 0 := Stand.of_body Bd
  have e0 : s₁.heap = h0 := by rw [← hh, Bd.state]; rfl
  have N0 := Fr.nil n0
  have pre0 : ∀ t, Steps p.tables e below (s₁.setTop (mkF m 0 #[.val (.ref x0), .val (.ref x1), .val (.int y1), .val (.int y2)] [])) t → Steps p.tables e below (s₁.setTop (entryFrame m #[(.ref x0), (.ref x1), (.int y1), (.int y2)] 4)) t := fun t k => castTop (ef_rm_init_15 m x0 x1 y1 y2) k
  have hZ : Z.Warmed39 (s.setVm s.vm).vm := hZ
  have hown : (s.setVm s.vm).vm.findClass "com/example/octets_to_session/octetstosession/core/PacketReader" = some m.cls := hown
  have hS0 : s.Since s.vm 0 := (State.WarmedH.refl s).since 0
  have hk0 : 0 ≤ h0.size := Nat.zero_le _
  have K0 := Keep.refl h0 [x0]
  have pre84 : ∀ t, Steps p.tables e below (s₁.setTop (mkF m 4 #[.val (.ref x0), .val (.ref x1), .val (.int y1), .val (.int y2)] [(.int y2), (.int y1), (.ref x1), (.ref x0)])) t → Steps p.tables e below (s₁.setTop (entryFrame m #[(.ref x0), (.ref x1), (.int y1), (.int y2)] 4)) t := by
    intro t kt
    refine pre0 t ?_
    show Steps p.tables e below (s₁.setTop (mkF m 0 #[.val (.ref x0), .val (.ref x1), .val (.int y1), .val (.int y2)] [])) _
    refine XS.aloadN X0.here hx rfl (hb hby d_prog_48_method_2_code_0) rfl rfl ?_
    show Steps p.tables e below (s₁.setTop (mkF m 1 #[.val (.ref x0), .val (.ref x1), .val (.int y1), .val (.int y2)] [(.ref x0)])) _
    refine XS.aloadN X0.here hx rfl (hb hby d_prog_48_method_2_code_1) rfl rfl ?_
    show Steps p.tables e below (s₁.setTop (mkF m 2 #[.val (.ref x0), .val (.ref x1), .val (.int y1), .val (.int y2)] [(.ref x1), (.ref x0)])) _
    refine XS.iloadN X0.here hx rfl (hb hby d_prog_48_method_2_code_2) rfl ?_
    show Steps p.tables e below (s₁.setTop (mkF m 3 #[.val (.ref x0), .val (.ref x1), .val (.int y1), .val (.int y2)] [(.int y1), (.ref x1), (.ref x0)])) _
    refine XS.iloadN X0.here hx rfl (hb hby d_prog_48_method_2_code_3) rfl ?_
    exact kt
  obtain ⟨a85, T85, h85, k85, X85, e85, E85, hS85, hk85c, hZ, hown, st85⟩ := ldcS X0 hx hZ hown (hw _ (List.mem_of_getElem? (i := 72) rfl)) (own_str hw) e0 hS0 hk0 (g := (mkF m 4 #[.val (.ref x0), .val (.ref x1), .val (.int y1), .val (.int y2)] [(.int y2), (.int y1), (.ref x1), (.ref x0)])) rfl (hb hby d_prog_48_method_2_code_4) (n := 24) (by decide) (by decide) (by decide) (by decide)
  have E_x0 := E_x0.ext E85
  have F_x0_body := F_x0_body.ext E85
  have F_x0_at := F_x0_at.ext E85
  have F_x0_end := F_x0_end.ext E85
  have F_x0_container := F_x0_container.ext E85
  have V_x1 := V_x1.ext E85
  have O85 := O0.ext E85
  have K85 := K0.ext E85
  obtain ⟨_, _, ⟨T86, L86, k86, n86⟩, -, X86, ⟨Lc86, hQ86, l86, y86, z86⟩, st86⟩ := X85.specialBack hx (y := (⟨"com/example/octets_to_session/octetstosession/core/PacketReader", "<init>", "([BIILjava/lang/String;)V"⟩ : MethodName)) rfl hown (mvT hZ (hw _ (List.mem_of_getElem? (i := 79) rfl))) (mvT hZ (hw _ (List.mem_of_getElem? (i := 80) rfl))) (mvT hZ (hw _ (List.mem_of_getElem? (i := 81) rfl))) (by decide) (backOf (W := 0) (rm_init_16 l Z a0 hw [] x0 x1 y0 y1 y2 a85 kc0 h85 n0 O85 E_x0 F_x0_body F_x0_at F_x0_end F_x0_container ge_x0 V_x1 ge_x1 ne_x0_x1 hp0 ) hZ (hw _ (List.mem_of_getElem? (i := 81) rfl)) (hw _ (List.mem_of_getElem? (i := 68) rfl)) (by decide) (by decide)) (g := (mkF m 6 #[.val (.ref x0), .val (.ref x1), .val (.int y1), .val (.int y2)] [(.ref a85), (.int y2), (.int y1), (.ref x1), (.ref x0)])) rfl (by rw [hml]; rfl) (Steps.refl _) (a := x0) (argsL := [(.ref x1), (.int y1), (.int y2), (.ref a85)]) (rest := []) (lenOf pd___BIILjava_lang_String__V rfl) rfl (by show 2 * 0 + _ ≤ _; exact Nat.le_of_eq rfl) (hb hby d_prog_48_method_2_code_6) (fun _ _ => ⟨rfl, e85, (by decide : 2 + 0 ≤ _), (by decide : 28 + 0 ≤ _)⟩)
  dsimp only [Pt.U, Pt.locs, Pt.cells, Pt.slots] at X86 l86 y86 z86 st86 hQ86
  subst l86 y86 z86
  obtain ⟨rfl, N86q, Kc86, u86_0, u86_1, u86_2, u86_3, u86_4⟩ := hQ86
  have N86 := Fr.app N0 N86q
  have V_x1 := V_x1.keep Kc86 (ninS (Ne.symm ne_x0_x1) nin0)
  have O86 := O85.keep Kc86 (allS ge_x0 all0)
  have K86 := K85.trans Kc86 (allS (Or.inl (List.mem_of_getElem? (i := 0) rfl)) all0)
  have hk86 := Nat.le_trans hk85c Kc86.1
  have pre93 : ∀ t, Steps p.tables e below (T86.setTop (mkF m 9 #[.val (.ref x0), .val (.ref x1), .val (.int y1), .val (.int y2)] [])) t → Steps p.tables e below (s₁.setTop (entryFrame m #[(.ref x0), (.ref x1), (.int y1), (.int y2)] 4)) t := by
    intro t kt
    refine pre84 t ?_
    show Steps p.tables e below (s₁.setTop (mkF m 4 #[.val (.ref x0), .val (.ref x1), .val (.int y1), .val (.int y2)] [(.int y2), (.int y1), (.ref x1), (.ref x0)])) _
    refine st85 _ ?_
    show Steps p.tables e below (T85.setTop (mkF m 6 #[.val (.ref x0), .val (.ref x1), .val (.int y1), .val (.int y2)] [(.ref a85), (.int y2), (.int y1), (.ref x1), (.ref x0)])) _
    refine st86.trans ?_
    exact kt
  obtain ⟨fs, hr, hrun, hended, q1, q2, q3, q4⟩ := X86.leaveW hS85 hk86 (v := none) (fun _ => rfl)
  refine ⟨_, _, pre93 _ ?_, hrun, hended, _, _, rfl, ?_, ⟨_, rfl⟩, q2, q3, q4.mono (by decide) (by decide)⟩
  · show Steps p.tables e below (T86.setTop (mkF m 9 #[.val (.ref x0), .val (.ref x1), .val (.int y1), .val (.int y2)] [])) _
    exact X86.returnOut hx Bd.returns (hb hby d_prog_48_method_2_code_9) hr
  · show Q_rm_init_15 Z x0 x1 y0 y1 y2 kc0 h0 n0 _ T86.heap _
    exact ⟨a85, rfl, N86, K86, u86_0, u86_1, u86_2, u86_3, u86_4⟩
theorem ef_rm_reader_14 (m : MethodId) (x0 : Addr) : entryFrame m #[(.ref x0)] 1 = mkF m 0 #[.val (.ref x0)] [] := by first | (simp [entryFrame, mkF, argsToLocals, Value.category]; done) | rfl
def Q_rm_reader_14 (Z : State) (x0 : Addr) (x1 : Addr) (y0 : Int32) (x2 : Addr) (y1 : Int32) (y2 : Int32) (y3 : Int32) (kc0 : ClassId) (h0 : Heap) (n0 : Nat) (v : Option Value) (h : Heap) (L : List Loc) : Prop := ∃ (b78 : Addr) (b83_a85 : Addr), v = some (.ref b78) ∧ Fr n0 L ∧ Keep h0 h [x0] ∧ Exa Z h x0 "com/example/octets_to_session/octetstosession/core/Packet" ∧ Fld Z h x0 "com/example/octets_to_session/octetstosession/core/Packet" "type" "Lcom/example/octets_to_session/octetstosession/core/PacketType;" (.ref x1) ∧ Fld Z h x0 "com/example/octets_to_session/octetstosession/core/Packet" "flags" "I" (.int y0) ∧ Fld Z h x0 "com/example/octets_to_session/octetstosession/core/Packet" "octets" "[B" (.ref x2) ∧ Fld Z h x0 "com/example/octets_to_session/octetstosession/core/Packet" "start" "I" (.int y2) ∧ Fld Z h x0 "com/example/octets_to_session/octetstosession/core/Packet" "length" "I" (.int y3) ∧ Fld Z h x0 "com/example/octets_to_session/octetstosession/core/Packet" "reader" "Lcom/example/octets_to_session/octetstosession/core/PacketReader;" (.ref b78) ∧ Exa Z h b78 "com/example/octets_to_session/octetstosession/core/PacketReader" ∧ Fld Z h b78 "com/example/octets_to_session/octetstosession/core/PacketReader" "body" "[B" (.ref x2) ∧ Fld Z h b78 "com/example/octets_to_session/octetstosession/core/PacketReader" "at" "I" (.int y2) ∧ Fld Z h b78 "com/example/octets_to_session/octetstosession/core/PacketReader" "end" "I" (.int (y2 + y3)) ∧ Fld Z h b78 "com/example/octets_to_session/octetstosession/core/PacketReader" "container" "Ljava/lang/String;" (.ref b83_a85) ∧ n0 ≤ b78 ∧ h0.size ≤ b78
set_option maxRecDepth 65536 in
set_option maxHeartbeats 40000000 in
theorem rm_reader_14 (l : Launch) (Z : State) (a0 : Array Value) (hw : ∀ d ∈ tables_1, d.before a0 Z = true) (ws : List Jvm.Cond) (x0 : Addr) (x1 : Addr) (y0 : Int32) (x2 : Addr) (y1 : Int32) (y2 : Int32) (y3 : Int32) (kc0 : ClassId) (h0 : Heap) (n0 : Nat) (O0 : Old Z n0 h0) (E_x0 : Exa Z h0 x0 "com/example/octets_to_session/octetstosession/core/Packet") (F_x0_type : Fld Z h0 x0 "com/example/octets_to_session/octetstosession/core/Packet" "type" "Lcom/example/octets_to_session/octetstosession/core/PacketType;" (.ref x1)) (F_x0_flags : Fld Z h0 x0 "com/example/octets_to_session/octetstosession/core/Packet" "flags" "I" (.int y0)) (F_x0_octets : Fld Z h0 x0 "com/example/octets_to_session/octetstosession/core/Packet" "octets" "[B" (.ref x2)) (F_x0_start : Fld Z h0 x0 "com/example/octets_to_session/octetstosession/core/Packet" "start" "I" (.int y2)) (F_x0_length : Fld Z h0 x0 "com/example/octets_to_session/octetstosession/core/Packet" "length" "I" (.int y3)) (F_x0_reader : Fld Z h0 x0 "com/example/octets_to_session/octetstosession/core/Packet" "reader" "Lcom/example/octets_to_session/octetstosession/core/PacketReader;" .null) (ge_x0 : n0 ≤ x0) (V_x2 : Arv Z h0 x2 kc0 .byte y1 [] (.int (0 : Int32))) (ge_x2 : n0 ≤ x2) (ne_x0_x2 : x0 ≠ x2) (hp0 : ¬ (y3 = (0 : Int32))) (hp1 : ¬ (y2 = (y2 + y3)))  :
    MetFree l (⟨"com/example/octets_to_session/octetstosession/core/Packet", "reader", "()Lcom/example/octets_to_session/octetstosession/core/PacketReader;"⟩ : MethodName) (head1 (Jvm.Cond.code (⟨"com/example/octets_to_session/octetstosession/core/Packet", "reader", "()Lcom/example/octets_to_session/octetstosession/core/PacketReader;"⟩ : MethodName) prog_45_method_12_code 1 (some (.object "com/example/octets_to_session/octetstosession/core/PacketReader")) :: ws) ({ frames := 3, cells := 3, slots := 32, locals := 45 } : Room)) (fun a U => a = #[(.ref x0)] ∧ Z.Warmed39 U.vm ∧ U.heap = h0) (fun _ _ _ _ _ => True) (fun _ U o U' => ∃ v L, o = .returned v ∧ Q_rm_reader_14 Z x0 x1 y0 x2 y1 y2 y3 kc0 h0 n0 v U'.heap L ∧ ReturnedEndW U o U' L ({ frames := 3, cells := 3, slots := 32, locals := 45 } : Room).cells ({ frames := 3, cells := 3, slots := 32, locals := 45 } : Room).slots) := by
  refine MetFree.of_bodySF (plainFor_of_name pn_com_example_octets_to_session_octetstosession_core_Packet) hisR ?_
  intro p e s m args below meth c s₁ Bd hml0 hP hK
  obtain ⟨rfl, hZ, hh⟩ := hP
  have hx := Bd.exec
  have hby := Bd.bytes
  have hml : c.maxLocals = 1 := hml0
  have hown : s.vm.findClass "com/example/octets_to_session/octetstosession/core/Packet" = some m.cls := findClass_of_methodNamed Bd.named
  have hnm := (name_of_methodNamed Bd.named Bd.method).1
  have X0 : Stand p l e ({ frames := 3, cells := 3, slots := 32, locals := 45 } : Room) (s.setVm s.vm) m #[(.ref x0)] below meth c s₁ [] 0 0 := Stand.of_body Bd
  have e0 : s₁.heap = h0 := by rw [← hh, Bd.state]; rfl
  have N0 := Fr.nil n0
  have pre0 : ∀ t, Steps p.tables e below (s₁.setTop (mkF m 0 #[.val (.ref x0)] [])) t → Steps p.tables e below (s₁.setTop (entryFrame m #[(.ref x0)] 1)) t := fun t k => castTop (ef_rm_reader_14 m x0) k
  have hZ : Z.Warmed39 (s.setVm s.vm).vm := hZ
  have hown : (s.setVm s.vm).vm.findClass "com/example/octets_to_session/octetstosession/core/Packet" = some m.cls := hown
  have hS0 : s.Since s.vm 0 := (State.WarmedH.refl s).since 0
  have hk0 : 0 ≤ h0.size := Nat.zero_le _
  have K0 := Keep.refl h0 [x0]
  obtain ⟨T77, X77, e77, st77⟩ := getF X0 hx hZ hown (host := "") (Or.inl (hw _ (List.mem_of_getElem? (i := 64) rfl))) Via.refl e0 F_x0_reader (g := (mkF m 1 #[.val (.ref x0)] [(.ref x0)])) rfl rfl (hb hby d_prog_45_method_12_code_1)
  obtain ⟨T78, h78, X78, e78, E78, A78, D78, -, st78⟩ := newO X77 hx hZ hown (hw _ (List.mem_of_getElem? (i := 66) rfl)) (hw _ (List.mem_of_getElem? (i := 67) rfl)) (hw _ (List.mem_of_getElem? (i := 68) rfl)) e77 (g := (mkF m 8 #[.val (.ref x0)] [(.ref x0)])) rfl (hb hby d_prog_45_method_12_code_8) (by decide) (by decide)
  obtain ⟨b78, g78⟩ : ∃ z, z = h0.size := ⟨_, rfl⟩
  have ne_x0_b78 : x0 ≠ b78 := Nat.ne_of_lt (Nat.lt_of_lt_of_le E_x0.lt (Nat.le_of_eq g78.symm))
  have ne_x2_b78 : x2 ≠ b78 := Nat.ne_of_lt (Nat.lt_of_lt_of_le V_x2.lt (Nat.le_of_eq g78.symm))
  have ge_b78 : n0 ≤ b78 := Nat.le_trans (own_z O0) (Nat.le_of_eq g78.symm)
  have sz_b78 : h0.size ≤ b78 := Nat.le_trans K0.1 (Nat.le_of_eq g78.symm)
  rw [← g78] at A78 D78 st78
  have E_x0 := E_x0.ext E78
  have F_x0_type := F_x0_type.ext E78
  have F_x0_flags := F_x0_flags.ext E78
  have F_x0_octets := F_x0_octets.ext E78
  have F_x0_start := F_x0_start.ext E78
  have F_x0_length := F_x0_length.ext E78
  have F_x0_reader := F_x0_reader.ext E78
  have V_x2 := V_x2.ext E78
  have O78 := O0.ext E78
  have K78 := K0.ext E78
  have hk78 := Nat.le_trans hk0 E78.1
  have E_b78 := A78
  have F_body_b78 : Fld Z h78 b78 "com/example/octets_to_session/octetstosession/core/PacketReader" "body" "[B" .null := D78 (Or.inl (hw _ (List.mem_of_getElem? (i := 84) rfl))) (ty := (.array .byte)) (by decide)
  have F_at_b78 : Fld Z h78 b78 "com/example/octets_to_session/octetstosession/core/PacketReader" "at" "I" (.int (0 : Int32)) := D78 (Or.inl (hw _ (List.mem_of_getElem? (i := 86) rfl))) (ty := .int) (by decide)
  have F_end_b78 : Fld Z h78 b78 "com/example/octets_to_session/octetstosession/core/PacketReader" "end" "I" (.int (0 : Int32)) := D78 (Or.inl (hw _ (List.mem_of_getElem? (i := 88) rfl))) (ty := .int) (by decide)
  have F_container_b78 : Fld Z h78 b78 "com/example/octets_to_session/octetstosession/core/PacketReader" "container" "Ljava/lang/String;" .null := D78 (Or.inl (hw _ (List.mem_of_getElem? (i := 90) rfl))) (ty := (.object "java/lang/String")) (by decide)
  obtain ⟨T79, X79, e79, st79⟩ := getF X78 hx hZ hown (host := "") (Or.inl (hw _ (List.mem_of_getElem? (i := 28) rfl))) Via.refl e78 F_x0_octets (g := (mkF m 13 #[.val (.ref x0)] [(.ref x0), (.ref b78), (.ref b78), (.ref x0)])) rfl rfl (hb hby d_prog_45_method_12_code_13)
  obtain ⟨T80, X80, e80, st80⟩ := getF X79 hx hZ hown (host := "") (Or.inl (hw _ (List.mem_of_getElem? (i := 30) rfl))) Via.refl e79 F_x0_start (g := (mkF m 17 #[.val (.ref x0)] [(.ref x0), (.ref x2), (.ref b78), (.ref b78), (.ref x0)])) rfl rfl (hb hby d_prog_45_method_12_code_17)
  obtain ⟨T81, X81, e81, st81⟩ := getF X80 hx hZ hown (host := "") (Or.inl (hw _ (List.mem_of_getElem? (i := 30) rfl))) Via.refl e80 F_x0_start (g := (mkF m 21 #[.val (.ref x0)] [(.ref x0), (.int y2), (.ref x2), (.ref b78), (.ref b78), (.ref x0)])) rfl rfl (hb hby d_prog_45_method_12_code_21)
  obtain ⟨T82, X82, e82, st82⟩ := getF X81 hx hZ hown (host := "") (Or.inl (hw _ (List.mem_of_getElem? (i := 32) rfl))) Via.refl e81 F_x0_length (g := (mkF m 25 #[.val (.ref x0)] [(.ref x0), (.int y2), (.int y2), (.ref x2), (.ref b78), (.ref b78), (.ref x0)])) rfl rfl (hb hby d_prog_45_method_12_code_25)
  have pre94 : ∀ t, Steps p.tables e below (T82.setTop (mkF m 29 #[.val (.ref x0)] [(.int (y2 + y3)), (.int y2), (.ref x2), (.ref b78), (.ref b78), (.ref x0)])) t → Steps p.tables e below (s₁.setTop (entryFrame m #[(.ref x0)] 1)) t := by
    intro t kt
    refine pre0 t ?_
    show Steps p.tables e below (s₁.setTop (mkF m 0 #[.val (.ref x0)] [])) _
    refine XS.aloadN X0.here hx rfl (hb hby d_prog_45_method_12_code_0) rfl rfl ?_
    show Steps p.tables e below (s₁.setTop (mkF m 1 #[.val (.ref x0)] [(.ref x0)])) _
    refine st77 _ ?_
    show Steps p.tables e below (T77.setTop (mkF m 4 #[.val (.ref x0)] [.null])) _
    refine XS.ifnonnullNo X77.here hx rfl (hb hby d_prog_45_method_12_code_4) rfl ?_
    show Steps p.tables e below (T77.setTop (mkF m 7 #[.val (.ref x0)] [])) _
    refine XS.aloadN X77.here hx rfl (hb hby d_prog_45_method_12_code_7) rfl rfl ?_
    show Steps p.tables e below (T77.setTop (mkF m 8 #[.val (.ref x0)] [(.ref x0)])) _
    refine st78 _ ?_
    show Steps p.tables e below (T78.setTop (mkF m 11 #[.val (.ref x0)] [(.ref b78), (.ref x0)])) _
    refine XS.dup X78.here hx rfl (hb hby d_prog_45_method_12_code_11) rfl rfl ?_
    show Steps p.tables e below (T78.setTop (mkF m 12 #[.val (.ref x0)] [(.ref b78), (.ref b78), (.ref x0)])) _
    refine XS.aloadN X78.here hx rfl (hb hby d_prog_45_method_12_code_12) rfl rfl ?_
    show Steps p.tables e below (T78.setTop (mkF m 13 #[.val (.ref x0)] [(.ref x0), (.ref b78), (.ref b78), (.ref x0)])) _
    refine st79 _ ?_
    show Steps p.tables e below (T79.setTop (mkF m 16 #[.val (.ref x0)] [(.ref x2), (.ref b78), (.ref b78), (.ref x0)])) _
    refine XS.aloadN X79.here hx rfl (hb hby d_prog_45_method_12_code_16) rfl rfl ?_
    show Steps p.tables e below (T79.setTop (mkF m 17 #[.val (.ref x0)] [(.ref x0), (.ref x2), (.ref b78), (.ref b78), (.ref x0)])) _
    refine st80 _ ?_
    show Steps p.tables e below (T80.setTop (mkF m 20 #[.val (.ref x0)] [(.int y2), (.ref x2), (.ref b78), (.ref b78), (.ref x0)])) _
    refine XS.aloadN X80.here hx rfl (hb hby d_prog_45_method_12_code_20) rfl rfl ?_
    show Steps p.tables e below (T80.setTop (mkF m 21 #[.val (.ref x0)] [(.ref x0), (.int y2), (.ref x2), (.ref b78), (.ref b78), (.ref x0)])) _
    refine st81 _ ?_
    show Steps p.tables e below (T81.setTop (mkF m 24 #[.val (.ref x0)] [(.int y2), (.int y2), (.ref x2), (.ref b78), (.ref b78), (.ref x0)])) _
    refine XS.aloadN X81.here hx rfl (hb hby d_prog_45_method_12_code_24) rfl rfl ?_
    show Steps p.tables e below (T81.setTop (mkF m 25 #[.val (.ref x0)] [(.ref x0), (.int y2), (.int y2), (.ref x2), (.ref b78), (.ref b78), (.ref x0)])) _
    refine st82 _ ?_
    show Steps p.tables e below (T82.setTop (mkF m 28 #[.val (.ref x0)] [(.int y3), (.int y2), (.int y2), (.ref x2), (.ref b78), (.ref b78), (.ref x0)])) _
    refine XS.iadd X82.here hx rfl (hb hby d_prog_45_method_12_code_28) rfl ?_
    exact kt
  obtain ⟨_, _, ⟨T83, L83, k83, n83⟩, -, X83, hSc83, hge83, ⟨Lc83, hQ83, l83, y83, z83⟩, st83⟩ := X82.specialBackS hx (y := (⟨"com/example/octets_to_session/octetstosession/core/PacketReader", "<init>", "([BII)V"⟩ : MethodName)) rfl hown (mvT hZ (hw _ (List.mem_of_getElem? (i := 69) rfl))) (mvT hZ (hw _ (List.mem_of_getElem? (i := 70) rfl))) (mvT hZ (hw _ (List.mem_of_getElem? (i := 71) rfl))) (by decide) (backOfS (W := 2) (rm_init_15 l Z a0 hw [] b78 x2 y1 y2 (y2 + y3) kc0 h78 n0 O78 E_b78 F_body_b78 F_at_b78 F_end_b78 F_container_b78 ge_b78 V_x2 ge_x2 (Ne.symm ne_x2_b78) hp1 ) hZ (hw _ (List.mem_of_getElem? (i := 71) rfl)) (hw _ (List.mem_of_getElem? (i := 68) rfl)) (by decide) (by decide)) (g := (mkF m 29 #[.val (.ref x0)] [(.int (y2 + y3)), (.int y2), (.ref x2), (.ref b78), (.ref b78), (.ref x0)])) rfl (by rw [hml]; rfl) (Steps.refl _) (a := b78) (argsL := [(.ref x2), (.int y2), (.int (y2 + y3))]) (rest := [(.ref b78), (.ref x0)]) (lenOf pd___BII_V rfl) rfl (by show 2 * 0 + _ ≤ _; exact Nat.le_of_eq rfl) (hb hby d_prog_45_method_12_code_29) (fun _ _ => ⟨rfl, e82, (by decide : 1 + 2 ≤ _), (by decide : 4 + 28 ≤ _)⟩)
  dsimp only [Pt.U, Pt.locs, Pt.cells, Pt.slots] at X83 l83 y83 z83 st83 hQ83 hSc83 hge83
  subst l83 y83 z83
  obtain ⟨X83, hS83, hZ, hown⟩ := rebS hS0 (by rw [e82]; exact hk78) X83 hSc83 hge83 hZ hown
  obtain ⟨b83_a85, rfl, N83q, Kc83, u83_0, u83_1, u83_2, u83_3, u83_4⟩ := hQ83
  have N83 := Fr.app N0 N83q
  have E_x0 := E_x0.keep Kc83
  have F_x0_type := F_x0_type.keep Kc83 (ninS ne_x0_b78 nin0)
  have F_x0_flags := F_x0_flags.keep Kc83 (ninS ne_x0_b78 nin0)
  have F_x0_octets := F_x0_octets.keep Kc83 (ninS ne_x0_b78 nin0)
  have F_x0_start := F_x0_start.keep Kc83 (ninS ne_x0_b78 nin0)
  have F_x0_length := F_x0_length.keep Kc83 (ninS ne_x0_b78 nin0)
  have F_x0_reader := F_x0_reader.keep Kc83 (ninS ne_x0_b78 nin0)
  have V_x2 := V_x2.keep Kc83 (ninS ne_x2_b78 nin0)
  have O83 := O78.keep Kc83 (allS ge_b78 all0)
  have K83 := K78.trans Kc83 (allS (Or.inr sz_b78) all0)
  have hk83 : T83.heap.size ≤ T83.heap.size := Nat.le_refl _
  obtain ⟨T95, h95, X95, e95, W95, st95⟩ := putF X83 hx hZ hown (host := "") (Or.inl (hw _ (List.mem_of_getElem? (i := 64) rfl))) Via.refl rfl F_x0_reader E_x0 (Or.inl (hw _ (List.mem_of_getElem? (i := 65) rfl))) (hw _ (List.mem_of_getElem? (i := 1) rfl)) (ty := (.object "com/example/octets_to_session/octetstosession/core/PacketReader")) (by decide) rfl rfl (g := (mkF m 32 #[.val (.ref x0)] [(.ref b78), (.ref x0)])) rfl rfl (hb hby d_prog_45_method_12_code_32)
  have F_x0_reader := F_x0_reader.same W95
  have E_x0 := E_x0.wr W95
  have F_x0_type := F_x0_type.other W95 (Or.inr (slot_ne (Or.inl (hw _ (List.mem_of_getElem? (i := 25) rfl))) (Or.inl (hw _ (List.mem_of_getElem? (i := 65) rfl))) (by decide) (t := (.object "com/example/octets_to_session/octetstosession/core/PacketType")) (t' := (.object "com/example/octets_to_session/octetstosession/core/PacketReader")) (by decide) (by decide)))
  have F_x0_flags := F_x0_flags.other W95 (Or.inr (slot_ne (Or.inl (hw _ (List.mem_of_getElem? (i := 27) rfl))) (Or.inl (hw _ (List.mem_of_getElem? (i := 65) rfl))) (by decide) (t := .int) (t' := (.object "com/example/octets_to_session/octetstosession/core/PacketReader")) (by decide) (by decide)))
  have F_x0_octets := F_x0_octets.other W95 (Or.inr (slot_ne (Or.inl (hw _ (List.mem_of_getElem? (i := 29) rfl))) (Or.inl (hw _ (List.mem_of_getElem? (i := 65) rfl))) (by decide) (t := (.array .byte)) (t' := (.object "com/example/octets_to_session/octetstosession/core/PacketReader")) (by decide) (by decide)))
  have F_x0_start := F_x0_start.other W95 (Or.inr (slot_ne (Or.inl (hw _ (List.mem_of_getElem? (i := 31) rfl))) (Or.inl (hw _ (List.mem_of_getElem? (i := 65) rfl))) (by decide) (t := .int) (t' := (.object "com/example/octets_to_session/octetstosession/core/PacketReader")) (by decide) (by decide)))
  have F_x0_length := F_x0_length.other W95 (Or.inr (slot_ne (Or.inl (hw _ (List.mem_of_getElem? (i := 33) rfl))) (Or.inl (hw _ (List.mem_of_getElem? (i := 65) rfl))) (by decide) (t := .int) (t' := (.object "com/example/octets_to_session/octetstosession/core/PacketReader")) (by decide) (by decide)))
  have V_x2 := V_x2.other W95 (Ne.symm ne_x0_x2)
  have u83_0 := u83_0.wr W95
  have u83_1 := u83_1.other W95 (Or.inl (Ne.symm ne_x0_b78))
  have u83_2 := u83_2.other W95 (Or.inl (Ne.symm ne_x0_b78))
  have u83_3 := u83_3.other W95 (Or.inl (Ne.symm ne_x0_b78))
  have u83_4 := u83_4.other W95 (Or.inl (Ne.symm ne_x0_b78))
  have O95 := O83.wr W95 ge_x0
  have K95 := K83.wr W95 (Or.inl (List.mem_of_getElem? (i := 0) rfl))
  have N95 := Fr.snoc X95 N83 ge_x0
  have hk95 := Nat.le_trans hk83 (Keep.of_wr W95).1
  obtain ⟨T96, X96, e96, st96⟩ := getF X95 hx hZ hown (host := "") (Or.inl (hw _ (List.mem_of_getElem? (i := 64) rfl))) Via.refl e95 F_x0_reader (g := (mkF m 63 #[.val (.ref x0)] [(.ref x0)])) rfl rfl (hb hby d_prog_45_method_12_code_63)
  have pre97 : ∀ t, Steps p.tables e below (T96.setTop (mkF m 66 #[.val (.ref x0)] [(.ref b78)])) t → Steps p.tables e below (s₁.setTop (entryFrame m #[(.ref x0)] 1)) t := by
    intro t kt
    refine pre94 t ?_
    show Steps p.tables e below (T82.setTop (mkF m 29 #[.val (.ref x0)] [(.int (y2 + y3)), (.int y2), (.ref x2), (.ref b78), (.ref b78), (.ref x0)])) _
    refine st83.trans ?_
    show Steps p.tables e below (T83.setTop (mkF m 32 #[.val (.ref x0)] [(.ref b78), (.ref x0)])) _
    refine st95 _ ?_
    show Steps p.tables e below (T95.setTop (mkF m 35 #[.val (.ref x0)] [])) _
    refine XS.goto X95.here hx rfl (pc0 := 35) (pc' := 62) rfl (hb hby d_prog_45_method_12_code_35) (by decide) (by decide) ?_
    show Steps p.tables e below (T95.setTop (mkF m 62 #[.val (.ref x0)] [])) _
    refine XS.aloadN X95.here hx rfl (hb hby d_prog_45_method_12_code_62) rfl rfl ?_
    show Steps p.tables e below (T95.setTop (mkF m 63 #[.val (.ref x0)] [(.ref x0)])) _
    refine st96 _ ?_
    exact kt
  obtain ⟨fs, hr, hrun, hended, q1, q2, q3, q4⟩ := X96.leaveW hS83 (by rw [e96]; exact hk95) (v := some (.ref b78)) (fun h => by rw [Bd.returns] at h; cases h)
  refine ⟨_, _, pre97 _ ?_, hrun, hended, _, _, rfl, ?_, ⟨_, rfl⟩, q2, q3, q4.mono (by decide) (by decide)⟩
  · show Steps p.tables e below (T96.setTop (mkF m 66 #[.val (.ref x0)] [(.ref b78)])) _
    jvm_step X96.here [X96.here.top, hx, (hb hby d_prog_45_method_12_code_66), X96.method', Bd.returns, Value.isRef, FieldType.isReference]
    first | (intro acts; rw [hr _ acts rfl rfl rfl]) | rw [hr _ _ rfl rfl rfl]
    exact Steps.refl _
  · show Q_rm_reader_14 Z x0 x1 y0 x2 y1 y2 y3 kc0 h0 n0 _ T96.heap _
    rw [e96]
    exact ⟨b78, b83_a85, rfl, N95, K95, E_x0, F_x0_type, F_x0_flags, F_x0_octets, F_x0_start, F_x0_length, F_x0_reader, u83_0, u83_1, u83_2, u83_3, u83_4, ge_b78, sz_b78⟩
theorem d_prog_48_method_17_code_15 : decode prog_48_method_17_code 15 = .ok (.iconst 0, 1) := by decide +kernel
theorem ef_rm_atEnd_17 (m : MethodId) (x0 : Addr) : entryFrame m #[(.ref x0)] 1 = mkF m 0 #[.val (.ref x0)] [] := by first | (simp [entryFrame, mkF, argsToLocals, Value.category]; done) | rfl
def Q_rm_atEnd_17 (Z : State) (x0 : Addr) (y1 : Int32) (y2 : Int32) (h0 : Heap) (n0 : Nat) (v : Option Value) (h : Heap) (L : List Loc) : Prop := v = some (.int (0 : Int32)) ∧ Fr n0 L ∧ h = h0
set_option maxRecDepth 65536 in
set_option maxHeartbeats 40000000 in
theorem rm_atEnd_17 (l : Launch) (Z : State) (a0 : Array Value) (hw : ∀ d ∈ tables_1, d.before a0 Z = true) (ws : List Jvm.Cond) (x0 : Addr) (y1 : Int32) (y2 : Int32) (h0 : Heap) (n0 : Nat) (O0 : Old Z n0 h0) (F_x0_at : Fld Z h0 x0 "com/example/octets_to_session/octetstosession/core/PacketReader" "at" "I" (.int y1)) (F_x0_end : Fld Z h0 x0 "com/example/octets_to_session/octetstosession/core/PacketReader" "end" "I" (.int y2)) (hp0 : ¬ (y1 = y2))  :
    MetFree l (⟨"com/example/octets_to_session/octetstosession/core/PacketReader", "atEnd", "()Z"⟩ : MethodName) (head1 (Jvm.Cond.code (⟨"com/example/octets_to_session/octetstosession/core/PacketReader", "atEnd", "()Z"⟩ : MethodName) prog_48_method_17_code 1 (some .boolean) :: ws) ({ frames := 0, cells := 0, slots := 0, locals := 0 } : Room)) (fun a U => a = #[(.ref x0)] ∧ Z.Warmed39 U.vm ∧ U.heap = h0) (fun _ _ _ _ _ => True) (fun _ U o U' => ∃ v L, o = .returned v ∧ Q_rm_atEnd_17 Z x0 y1 y2 h0 n0 v U'.heap L ∧ FrameEnd U o U' L ({ frames := 0, cells := 0, slots := 0, locals := 0 } : Room).cells ({ frames := 0, cells := 0, slots := 0, locals := 0 } : Room).slots) := by
  refine MetFree.of_bodySF (plainFor_of_name pn_com_example_octets_to_session_octetstosession_core_PacketReader) hisR ?_
  intro p e s m args below meth c s₁ Bd hml0 hP hK
  obtain ⟨rfl, hZ, hh⟩ := hP
  have hx := Bd.exec
  have hby := Bd.bytes
  have hml : c.maxLocals = 1 := hml0
  have hown : s.vm.findClass "com/example/octets_to_session/octetstosession/core/PacketReader" = some m.cls := findClass_of_methodNamed Bd.named
  have hnm := (name_of_methodNamed Bd.named Bd.method).1
  have X0 : Stand p l e ({ frames := 0, cells := 0, slots := 0, locals := 0 } : Room) s m #[(.ref x0)] below meth c s₁ [] 0 0 := Stand.of_body Bd
  have e0 : s₁.heap = h0 := by rw [← hh, Bd.state]; rfl
  have N0 := Fr.nil n0
  have pre0 : ∀ t, Steps p.tables e below (s₁.setTop (mkF m 0 #[.val (.ref x0)] [])) t → Steps p.tables e below (s₁.setTop (entryFrame m #[(.ref x0)] 1)) t := fun t k => castTop (ef_rm_atEnd_17 m x0) k
  have K0 := Keep.refl h0 []
  obtain ⟨T99, X99, e99, st99⟩ := getF X0 hx hZ hown (host := "") (Or.inl (hw _ (List.mem_of_getElem? (i := 85) rfl))) Via.refl e0 F_x0_at (g := (mkF m 1 #[.val (.ref x0)] [(.ref x0)])) rfl rfl (hb hby d_prog_48_method_17_code_1)
  obtain ⟨T100, X100, e100, st100⟩ := getF X99 hx hZ hown (host := "") (Or.inl (hw _ (List.mem_of_getElem? (i := 87) rfl))) Via.refl e99 F_x0_end (g := (mkF m 5 #[.val (.ref x0)] [(.ref x0), (.int y1)])) rfl rfl (hb hby d_prog_48_method_17_code_5)
  have pre101 : ∀ t, Steps p.tables e below (T100.setTop (mkF m 16 #[.val (.ref x0)] [(.int (0 : Int32))])) t → Steps p.tables e below (s₁.setTop (entryFrame m #[(.ref x0)] 1)) t := by
    intro t kt
    refine pre0 t ?_
    show Steps p.tables e below (s₁.setTop (mkF m 0 #[.val (.ref x0)] [])) _
    refine XS.aloadN X0.here hx rfl (hb hby d_prog_48_method_17_code_0) rfl rfl ?_
    show Steps p.tables e below (s₁.setTop (mkF m 1 #[.val (.ref x0)] [(.ref x0)])) _
    refine st99 _ ?_
    show Steps p.tables e below (T99.setTop (mkF m 4 #[.val (.ref x0)] [(.int y1)])) _
    refine XS.aloadN X99.here hx rfl (hb hby d_prog_48_method_17_code_4) rfl rfl ?_
    show Steps p.tables e below (T99.setTop (mkF m 5 #[.val (.ref x0)] [(.ref x0), (.int y1)])) _
    refine st100 _ ?_
    show Steps p.tables e below (T100.setTop (mkF m 8 #[.val (.ref x0)] [(.int y2), (.int y1)])) _
    refine XS.icmpYes X100.here hx rfl (pc0 := 8) (pc' := 15) rfl (hb hby d_prog_48_method_17_code_8) rfl (feq hp0).2 (by decide) (by decide) ?_
    show Steps p.tables e below (T100.setTop (mkF m 15 #[.val (.ref x0)] [])) _
    refine XS.iconst X100.here hx rfl (hb hby d_prog_48_method_17_code_15) ?_
    exact kt
  obtain ⟨fs, hr, hrun, hended, hW, hsame⟩ := X100.leave (v := some (.int (0 : Int32))) (fun h => by rw [Bd.returns] at h; cases h)
  refine ⟨_, _, pre101 _ ?_, hrun, hended, _, _, rfl, ?_, ⟨_, rfl⟩, hW, hsame.mono (by decide) (by decide)⟩
  · show Steps p.tables e below (T100.setTop (mkF m 16 #[.val (.ref x0)] [(.int (0 : Int32))])) _
    exact retN X100 hx (t := .boolean) Bd.returns (by simp) (hb hby d_prog_48_method_17_code_16) hr
  · show Q_rm_atEnd_17 Z x0 y1 y2 h0 n0 _ T100.heap _
    rw [e100]
    exact ⟨rfl, N0, rfl⟩
theorem pd___V : parseMethodDescriptor "()V" = some ⟨[], none⟩ := by decide +kernel
theorem pd__I_Lcom_example_octets_to_session_octetstosession_core_PacketType_ : parseMethodDescriptor "(I)Lcom/example/octets_to_session/octetstosession/core/PacketType;" = some ⟨[.int], some (.object "com/example/octets_to_session/octetstosession/core/PacketType")⟩ := by decide +kernel
theorem pd__Lcom_example_octets_to_session_octetstosession_core_PacketType_I_BII_Lcom_example_octets_to_session_octetstosession_core_Packet_ : parseMethodDescriptor "(Lcom/example/octets_to_session/octetstosession/core/PacketType;I[BII)Lcom/example/octets_to_session/octetstosession/core/Packet;" = some ⟨[(.object "com/example/octets_to_session/octetstosession/core/PacketType"), .int, (.array .byte), .int, .int], some (.object "com/example/octets_to_session/octetstosession/core/Packet")⟩ := by decide +kernel
theorem pd___Lcom_example_octets_to_session_octetstosession_core_PacketType_ : parseMethodDescriptor "()Lcom/example/octets_to_session/octetstosession/core/PacketType;" = some ⟨[], some (.object "com/example/octets_to_session/octetstosession/core/PacketType")⟩ := by decide +kernel
theorem pd___I : parseMethodDescriptor "()I" = some ⟨[], some .int⟩ := by decide +kernel
theorem pd____B : parseMethodDescriptor "()[B" = some ⟨[], some (.array .byte)⟩ := by decide +kernel
theorem pd___Lcom_example_octets_to_session_octetstosession_core_PacketReader_ : parseMethodDescriptor "()Lcom/example/octets_to_session/octetstosession/core/PacketReader;" = some ⟨[], some (.object "com/example/octets_to_session/octetstosession/core/PacketReader")⟩ := by decide +kernel
theorem pd___Z : parseMethodDescriptor "()Z" = some ⟨[], some .boolean⟩ := by decide +kernel
theorem pn_com_example_octets_to_session_octetstosession_core_PacketSetPinLaw : plainName "com/example/octets_to_session/octetstosession/core/PacketSetPinLaw" = true := by first | (simp [plainName, overriddenIn]; done) | decide +kernel
theorem ef_rm0 (m : MethodId) (p0 : Int32) (p1 : Int32) (p2 : Int32) (p3 : Int32) (p4 : Int32) (q5 : Int64) : entryFrame m #[(.int p0), (.int p1), (.int p2), (.int p3), (.int p4), (.long q5)] maxLocals = mkF m 0 #[.val (.int p0), .val (.int p1), .val (.int p2), .val (.int p3), .val (.int p4), .val (.long q5), .second, .unset, .unset, .unset, .unset, .unset, .unset, .unset, .unset, .unset, .unset, .unset] [] := by first | (simp [entryFrame, mkF, argsToLocals, Value.category, maxLocals]; done) | rfl
def Q_rm0 (Z : State) (p0 : Int32) (p1 : Int32) (p2 : Int32) (p3 : Int32) (p4 : Int32) (q5 : Int64) (w_BY_CODE : Addr) (w_PUBREL : Addr) (w_SUBSCRIBE : Addr) (w_CONNECT : Addr) (k_BY_CODE : ClassId) (w_PUBCOMP : Addr) (w_SUBACK : Addr) (w_UNSUBSCRIBE : Addr) (w_AUTH : Addr) (w_PUBACK : Addr) (w_DISCONNECT : Addr) (w_PUBLISH : Addr) (w_PINGREQ : Addr) (w_PINGRESP : Addr) (w_PUBREC : Addr) (w_UNSUBACK : Addr) (w_RESERVED : Addr) (w_CONNACK : Addr) (h0 : Heap) (n0 : Nat) (v : Option Value) (h : Heap) (L : List Loc) : Prop := v = some (.int 1) ∧ Fr n0 L
set_option maxRecDepth 65536 in
set_option maxHeartbeats 40000000 in
theorem rm0 (l : Launch) (Z : State) (a0 : Array Value) (hw : ∀ d ∈ tables_1, d.before a0 Z = true) (ws : List Jvm.Cond) (p0 : Int32) (p1 : Int32) (p2 : Int32) (p3 : Int32) (p4 : Int32) (q5 : Int64) (w_BY_CODE : Addr) (w_PUBREL : Addr) (w_SUBSCRIBE : Addr) (w_CONNECT : Addr) (k_BY_CODE : ClassId) (w_PUBCOMP : Addr) (w_SUBACK : Addr) (w_UNSUBSCRIBE : Addr) (w_AUTH : Addr) (w_PUBACK : Addr) (w_DISCONNECT : Addr) (w_PUBLISH : Addr) (w_PINGREQ : Addr) (w_PINGRESP : Addr) (w_PUBREC : Addr) (w_UNSUBACK : Addr) (w_RESERVED : Addr) (w_CONNACK : Addr) (h0 : Heap) (n0 : Nat) (O0 : Old Z n0 h0) (S_BY_CODE : Sta Z Z.heap "com/example/octets_to_session/octetstosession/core/PacketType" "BY_CODE" "[Lcom/example/octets_to_session/octetstosession/core/PacketType;" (.ref w_BY_CODE)) (V_BY_CODE : Arv Z Z.heap w_BY_CODE k_BY_CODE (.object "com/example/octets_to_session/octetstosession/core/PacketType") (16 : Int32) [(.ref w_RESERVED), (.ref w_CONNECT), (.ref w_CONNACK), (.ref w_PUBLISH), (.ref w_PUBACK), (.ref w_PUBREC), (.ref w_PUBREL), (.ref w_PUBCOMP), (.ref w_SUBSCRIBE), (.ref w_SUBACK), (.ref w_UNSUBSCRIBE), (.ref w_UNSUBACK), (.ref w_PINGREQ), (.ref w_PINGRESP), (.ref w_DISCONNECT), (.ref w_AUTH)] .null) (S_PUBLISH : Sta Z Z.heap "com/example/octets_to_session/octetstosession/core/PacketType" "PUBLISH" "Lcom/example/octets_to_session/octetstosession/core/PacketType;" (.ref w_PUBLISH)) :
    MetFree l x (head1 (Jvm.Cond.code x code maxLocals ret :: ws) room_1) (fun a U => a = #[(.int p0), (.int p1), (.int p2), (.int p3), (.int p4), (.long q5)] ∧ Z.Warmed39 U.vm ∧ U.heap = h0) (fun _ _ _ _ _ => True) (fun _ U o U' => ∃ v L, o = .returned v ∧ Q_rm0 Z p0 p1 p2 p3 p4 q5 w_BY_CODE w_PUBREL w_SUBSCRIBE w_CONNECT k_BY_CODE w_PUBCOMP w_SUBACK w_UNSUBSCRIBE w_AUTH w_PUBACK w_DISCONNECT w_PUBLISH w_PINGREQ w_PINGRESP w_PUBREC w_UNSUBACK w_RESERVED w_CONNACK h0 n0 v U'.heap L ∧ ReturnedEndW U o U' L room_1.cells room_1.slots) := by
  refine MetFree.of_bodySF (plainFor_of_name pn_com_example_octets_to_session_octetstosession_core_PacketSetPinLaw) hisR ?_
  intro p e s m args below meth c s₁ Bd hml0 hP hK
  obtain ⟨rfl, hZ, hh⟩ := hP
  have hx := Bd.exec
  have hby := Bd.bytes
  have hml : c.maxLocals = 18 := hml0
  have hown : s.vm.findClass "com/example/octets_to_session/octetstosession/core/PacketSetPinLaw" = some m.cls := findClass_of_methodNamed Bd.named
  have hnm := (name_of_methodNamed Bd.named Bd.method).1
  have X0 : Stand p l e room_1 (s.setVm s.vm) m #[(.int p0), (.int p1), (.int p2), (.int p3), (.int p4), (.long q5)] below meth c s₁ [] 0 0 := Stand.of_body Bd
  have e0 : s₁.heap = h0 := by rw [← hh, Bd.state]; rfl
  have N0 := Fr.nil n0
  have pre0 : ∀ t, Steps p.tables e below (s₁.setTop (mkF m 0 #[.val (.int p0), .val (.int p1), .val (.int p2), .val (.int p3), .val (.int p4), .val (.long q5), .second, .unset, .unset, .unset, .unset, .unset, .unset, .unset, .unset, .unset, .unset, .unset] [])) t → Steps p.tables e below (s₁.setTop (entryFrame m #[(.int p0), (.int p1), (.int p2), (.int p3), (.int p4), (.long q5)] maxLocals)) t := fun t k => castTop (ef_rm0 m p0 p1 p2 p3 p4 q5) k
  have hZ : Z.Warmed39 (s.setVm s.vm).vm := hZ
  have hown : (s.setVm s.vm).vm.findClass "com/example/octets_to_session/octetstosession/core/PacketSetPinLaw" = some m.cls := hown
  have hS0 : s.Since s.vm 0 := (State.WarmedH.refl s).since 0
  have hk0 : 0 ≤ h0.size := Nat.zero_le _
  obtain ⟨T1, h1, X1, e1, E1, A1, D1, -, st1⟩ := newO X0 hx hZ hown (hw _ (List.mem_of_getElem? (i := 0) rfl)) (hw _ (List.mem_of_getElem? (i := 1) rfl)) (hw _ (List.mem_of_getElem? (i := 2) rfl)) e0 (g := (mkF m 0 #[.val (.int p0), .val (.int p1), .val (.int p2), .val (.int p3), .val (.int p4), .val (.long q5), .second, .unset, .unset, .unset, .unset, .unset, .unset, .unset, .unset, .unset, .unset, .unset] [])) rfl (hb hby at_0) (by decide) (by decide)
  obtain ⟨b1, g1⟩ : ∃ z, z = h0.size := ⟨_, rfl⟩
  have ge_b1 : n0 ≤ b1 := Nat.le_trans (own_z O0) (Nat.le_of_eq g1.symm)
  rw [← g1] at A1 D1 st1
  have O1 := O0.ext E1
  have hk1 := Nat.le_trans hk0 E1.1
  have E_b1 := A1
  have F_type_b1 : Fld Z h1 b1 "com/example/octets_to_session/octetstosession/core/Packet" "type" "Lcom/example/octets_to_session/octetstosession/core/PacketType;" .null := D1 (Or.inl (hw _ (List.mem_of_getElem? (i := 25) rfl))) (ty := (.object "com/example/octets_to_session/octetstosession/core/PacketType")) (by decide)
  have F_flags_b1 : Fld Z h1 b1 "com/example/octets_to_session/octetstosession/core/Packet" "flags" "I" (.int (0 : Int32)) := D1 (Or.inl (hw _ (List.mem_of_getElem? (i := 27) rfl))) (ty := .int) (by decide)
  have F_octets_b1 : Fld Z h1 b1 "com/example/octets_to_session/octetstosession/core/Packet" "octets" "[B" .null := D1 (Or.inl (hw _ (List.mem_of_getElem? (i := 29) rfl))) (ty := (.array .byte)) (by decide)
  have F_start_b1 : Fld Z h1 b1 "com/example/octets_to_session/octetstosession/core/Packet" "start" "I" (.int (0 : Int32)) := D1 (Or.inl (hw _ (List.mem_of_getElem? (i := 31) rfl))) (ty := .int) (by decide)
  have F_length_b1 : Fld Z h1 b1 "com/example/octets_to_session/octetstosession/core/Packet" "length" "I" (.int (0 : Int32)) := D1 (Or.inl (hw _ (List.mem_of_getElem? (i := 33) rfl))) (ty := .int) (by decide)
  have F_reader_b1 : Fld Z h1 b1 "com/example/octets_to_session/octetstosession/core/Packet" "reader" "Lcom/example/octets_to_session/octetstosession/core/PacketReader;" .null := D1 (Or.inl (hw _ (List.mem_of_getElem? (i := 65) rfl))) (ty := (.object "com/example/octets_to_session/octetstosession/core/PacketReader")) (by decide)
  obtain ⟨_, _, ⟨T2, L2, k2, n2⟩, -, X2, ⟨Lc2, hQ2, l2, y2, z2⟩, st2⟩ := X1.specialBack hx (y := (⟨"com/example/octets_to_session/octetstosession/core/Packet", "<init>", "()V"⟩ : MethodName)) rfl hown (mvT hZ (hw _ (List.mem_of_getElem? (i := 3) rfl))) (mvT hZ (hw _ (List.mem_of_getElem? (i := 4) rfl))) (mvT hZ (hw _ (List.mem_of_getElem? (i := 5) rfl))) (by decide) (backOf (W := 1) (rm_init_1 l Z a0 hw [] b1 h1 n0 O1  ) hZ (hw _ (List.mem_of_getElem? (i := 5) rfl)) (hw _ (List.mem_of_getElem? (i := 2) rfl)) (by decide) (by decide)) (g := (mkF m 4 #[.val (.int p0), .val (.int p1), .val (.int p2), .val (.int p3), .val (.int p4), .val (.long q5), .second, .unset, .unset, .unset, .unset, .unset, .unset, .unset, .unset, .unset, .unset, .unset] [(.ref b1), (.ref b1)])) rfl (by rw [hml]; rfl) (Steps.refl _) (a := b1) (argsL := []) (rest := [(.ref b1)]) (lenOf pd___V rfl) rfl (by show 2 * 0 + _ ≤ _; exact Nat.le_of_eq rfl) (hb hby at_4) (fun _ _ => ⟨rfl, e1, (by decide : 1 + 0 ≤ _), (by decide : 7 + 0 ≤ _)⟩)
  dsimp only [Pt.U, Pt.locs, Pt.cells, Pt.slots] at X2 l2 y2 z2 st2 hQ2
  subst l2 y2 z2
  obtain ⟨rfl, N2q, e2⟩ := hQ2
  have N2 := Fr.app N0 N2q
  obtain ⟨_, _, ⟨T5, L5, k5, n5⟩, -, X5, ⟨Lc5, hQ5, l5, y5, z5⟩, st5⟩ := Jvm.LawKit.callS X2 hx (y := (⟨"com/example/octets_to_session/octetstosession/core/PacketType", "of", "(I)Lcom/example/octets_to_session/octetstosession/core/PacketType;"⟩ : MethodName)) hown (mvT hZ (hw _ (List.mem_of_getElem? (i := 9) rfl))) (mvT hZ (hw _ (List.mem_of_getElem? (i := 10) rfl))) (mvT hZ (hw _ (List.mem_of_getElem? (i := 11) rfl))) (mvT hZ (hw _ (List.mem_of_getElem? (i := 12) rfl))) (by decide) (backOf (W := 0) (rm_of_2 l Z a0 hw [] ((p0 &&& (15 : Int32)) <<< ((4 : Int32) &&& 31)) w_BY_CODE w_PUBREL w_SUBSCRIBE w_CONNECT k_BY_CODE w_PUBCOMP w_SUBACK w_UNSUBSCRIBE w_AUTH w_PUBACK w_DISCONNECT w_PUBLISH w_PINGREQ w_PINGRESP w_PUBREC w_UNSUBACK w_RESERVED w_CONNACK h1 n0 O1  S_BY_CODE V_BY_CODE) hZ (hw _ (List.mem_of_getElem? (i := 12) rfl)) (hw _ (List.mem_of_getElem? (i := 11) rfl)) (by decide) (by decide)) (g := (mkF m 15 #[.val (.int p0), .val (.int p1), .val (.int p2), .val (.int p3), .val (.int p4), .val (.long q5), .second, .val (.ref b1), .unset, .unset, .unset, .unset, .unset, .unset, .unset, .unset, .unset, .unset] [(.int ((p0 &&& (15 : Int32)) <<< ((4 : Int32) &&& 31)))])) rfl (by rw [hml]; rfl) (argsL := [(.int ((p0 &&& (15 : Int32)) <<< ((4 : Int32) &&& 31)))]) (rest := []) (lenOf pd__I_Lcom_example_octets_to_session_octetstosession_core_PacketType_ rfl) rfl (by show 2 * 0 + _ ≤ _; exact Nat.le_of_eq rfl) (hb hby at_15) (fun _ _ => ⟨rfl, e2, (by decide : 1 + 0 ≤ _), (by decide : 7 + 0 ≤ _)⟩)
  dsimp only [Pt.U, Pt.locs, Pt.cells, Pt.slots] at X5 l5 y5 z5 st5 hQ5
  subst l5 y5 z5
  obtain ⟨b5_wt7, rfl, N5q, e5⟩ := hQ5
  have N5 := Fr.app N2 N5q
  obtain ⟨T9, h9, k9, X9, e9, E9, A9, st9⟩ := newP X5 hx hZ (hw _ (List.mem_of_getElem? (i := 16) rfl)) e5 (g := (mkF m 25 #[.val (.int p0), .val (.int p1), .val (.int p2), .val (.int p3), .val (.int p4), .val (.long q5), .second, .val (.ref b1), .val (.ref b5_wt7), .unset, .unset, .unset, .unset, .unset, .unset, .unset, .unset, .unset] [(.int (p4 &&& (7 : Int32)))])) rfl (hb hby at_25) rfl (own_cap p4).1 (cap := 7) (own_cap p4).2 (by decide) (by decide) (by decide)
  obtain ⟨b9, g9⟩ : ∃ z, z = h1.size := ⟨_, rfl⟩
  have ne_b1_b9 : b1 ≠ b9 := Nat.ne_of_lt (Nat.lt_of_lt_of_le E_b1.lt (Nat.le_of_eq g9.symm))
  have ge_b9 : n0 ≤ b9 := Nat.le_trans (own_z O1) (Nat.le_of_eq g9.symm)
  rw [← g9] at A9 st9
  have E_b1 := E_b1.ext E9
  have F_type_b1 := F_type_b1.ext E9
  have F_flags_b1 := F_flags_b1.ext E9
  have F_octets_b1 := F_octets_b1.ext E9
  have F_start_b1 := F_start_b1.ext E9
  have F_length_b1 := F_length_b1.ext E9
  have F_reader_b1 := F_reader_b1.ext E9
  have O9 := O1.ext E9
  have hk9 := Nat.le_trans hk1 E9.1
  have V_b9 : Arv Z h9 b9 k9 .byte (p4 &&& (7 : Int32)) [] (.int (0 : Int32)) := Arv.new A9 (own_cap p4).1
  obtain ⟨T10, h10, k10, X10, e10, E10, A10, st10⟩ := newP X9 hx hZ (hw _ (List.mem_of_getElem? (i := 16) rfl)) e9 (g := (mkF m 36 #[.val (.int p0), .val (.int p1), .val (.int p2), .val (.int p3), .val (.int p4), .val (.long q5), .second, .val (.ref b1), .val (.ref b5_wt7), .val (.ref b9), .unset, .unset, .unset, .unset, .unset, .unset, .unset, .unset] [(.int (((p4.toUInt32 >>> ((3 : Int32) &&& 31).toUInt32).toInt32) &&& (7 : Int32)))])) rfl (hb hby at_36) rfl (own_cap ((p4.toUInt32 >>> ((3 : Int32) &&& 31).toUInt32).toInt32)).1 (cap := 7) (own_cap ((p4.toUInt32 >>> ((3 : Int32) &&& 31).toUInt32).toInt32)).2 (by decide) (by decide) (by decide)
  obtain ⟨b10, g10⟩ : ∃ z, z = h9.size := ⟨_, rfl⟩
  have ne_b1_b10 : b1 ≠ b10 := Nat.ne_of_lt (Nat.lt_of_lt_of_le E_b1.lt (Nat.le_of_eq g10.symm))
  have ne_b9_b10 : b9 ≠ b10 := Nat.ne_of_lt (Nat.lt_of_lt_of_le V_b9.lt (Nat.le_of_eq g10.symm))
  have ge_b10 : n0 ≤ b10 := Nat.le_trans (own_z O9) (Nat.le_of_eq g10.symm)
  rw [← g10] at A10 st10
  have E_b1 := E_b1.ext E10
  have F_type_b1 := F_type_b1.ext E10
  have F_flags_b1 := F_flags_b1.ext E10
  have F_octets_b1 := F_octets_b1.ext E10
  have F_start_b1 := F_start_b1.ext E10
  have F_length_b1 := F_length_b1.ext E10
  have F_reader_b1 := F_reader_b1.ext E10
  have V_b9 := V_b9.ext E10
  have O10 := O9.ext E10
  have hk10 := Nat.le_trans hk9 E10.1
  have V_b10 : Arv Z h10 b10 k10 .byte (((p4.toUInt32 >>> ((3 : Int32) &&& 31).toUInt32).toInt32) &&& (7 : Int32)) [] (.int (0 : Int32)) := Arv.new A10 (own_cap ((p4.toUInt32 >>> ((3 : Int32) &&& 31).toUInt32).toInt32)).1
  obtain ⟨T11, X11, e11, st11⟩ := getS2 X10 hx hZ hown (host := "") (Or.inl (hw _ (List.mem_of_getElem? (i := 17) rfl))) Via.refl e10 (S_PUBLISH.ext O10.2) (g := (mkF m 55 #[.val (.int p0), .val (.int p1), .val (.int p2), .val (.int p3), .val (.int p4), .val (.long q5), .second, .val (.ref b1), .val (.ref b5_wt7), .val (.ref b9), .val (.ref b10), .val (.int (q5.toInt32)), .val (.int (((q5.toUInt64 >>> ((32 : Int32) &&& 0x3f).toInt64.toUInt64).toInt64).toInt32)), .unset, .unset, .unset, .unset, .unset] [(.ref b1)])) rfl (hb hby at_55)
  obtain ⟨cq12, kq12, q12a, q12b, q12c⟩ := isOf hZ e11 E_b1
  obtain ⟨_, _, ⟨T12, L12, k12, n12⟩, -, X12, ⟨Lc12, hQ12, l12, y12, z12⟩, st12⟩ := X11.virtualBack hx (y := (⟨"com/example/octets_to_session/octetstosession/core/Packet", "set", "(Lcom/example/octets_to_session/octetstosession/core/PacketType;I[BII)Lcom/example/octets_to_session/octetstosession/core/Packet;"⟩ : MethodName)) (z := (⟨"com/example/octets_to_session/octetstosession/core/Packet", "set", "(Lcom/example/octets_to_session/octetstosession/core/PacketType;I[BII)Lcom/example/octets_to_session/octetstosession/core/Packet;"⟩ : MethodName)) hown (mvT hZ (hw _ (List.mem_of_getElem? (i := 19) rfl))) (mvT hZ (hw _ (List.mem_of_getElem? (i := 20) rfl))) (notFace_of_selects (args := #[]) (mvT hZ (hw _ (List.mem_of_getElem? (i := 22) rfl)))) (mvT hZ (hw _ (List.mem_of_getElem? (i := 22) rfl))) (mvT hZ (hw _ (List.mem_of_getElem? (i := 21) rfl))) (by decide) (backOf (W := 0) (rm_set_3 l Z a0 hw [] b1 (q5.toInt32) b10 (((p4.toUInt32 >>> ((3 : Int32) &&& 31).toUInt32).toInt32) &&& (7 : Int32)) (((q5.toUInt64 >>> ((32 : Int32) &&& 0x3f).toInt64.toUInt64).toInt64).toInt32) (p3 ^^^ (-1 : Int32)) k10 w_PUBLISH h10 n0 O10 E_b1 F_type_b1 F_flags_b1 F_octets_b1 F_start_b1 F_length_b1 F_reader_b1 ge_b1 V_b10 ge_b10 ne_b1_b10 ) hZ (hw _ (List.mem_of_getElem? (i := 23) rfl)) (hw _ (List.mem_of_getElem? (i := 2) rfl)) (by decide) (by decide)) q12a q12c (g := (mkF m 67 #[.val (.int p0), .val (.int p1), .val (.int p2), .val (.int p3), .val (.int p4), .val (.long q5), .second, .val (.ref b1), .val (.ref b5_wt7), .val (.ref b9), .val (.ref b10), .val (.int (q5.toInt32)), .val (.int (((q5.toUInt64 >>> ((32 : Int32) &&& 0x3f).toInt64.toUInt64).toInt64).toInt32)), .unset, .unset, .unset, .unset, .unset] [(.int (p3 ^^^ (-1 : Int32))), (.int (((q5.toUInt64 >>> ((32 : Int32) &&& 0x3f).toInt64.toUInt64).toInt64).toInt32)), (.ref b10), (.int (q5.toInt32)), (.ref w_PUBLISH), (.ref b1)])) rfl (by rw [hml]; rfl) (Steps.refl _) (argsL := [(.ref w_PUBLISH), (.int (q5.toInt32)), (.ref b10), (.int (((q5.toUInt64 >>> ((32 : Int32) &&& 0x3f).toInt64.toUInt64).toInt64).toInt32)), (.int (p3 ^^^ (-1 : Int32)))]) (rest := []) (lenOf pd__Lcom_example_octets_to_session_octetstosession_core_PacketType_I_BII_Lcom_example_octets_to_session_octetstosession_core_Packet_ rfl) rfl (by show 2 * 0 + _ ≤ _; exact Nat.le_of_eq rfl) (hb hby at_67) (fun _ _ => ⟨rfl, e11, (by decide : 3 + 0 ≤ _), (by decide : 21 + 0 ≤ _)⟩)
  dsimp only [Pt.U, Pt.locs, Pt.cells, Pt.slots] at X12 l12 y12 z12 st12 hQ12
  subst l12 y12 z12
  obtain ⟨rfl, N12q, Kc12, u12_0, u12_1, u12_2, u12_3, u12_4, u12_5, u12_6⟩ := hQ12
  have N12 := Fr.app N5 N12q
  have V_b9 := V_b9.keep Kc12 (ninS (Ne.symm ne_b1_b9) nin0)
  have V_b10 := V_b10.keep Kc12 (ninS (Ne.symm ne_b1_b10) nin0)
  have O12 := O10.keep Kc12 (allS ge_b1 all0)
  have hk12 := Nat.le_trans hk10 Kc12.1
  obtain ⟨cq19, kq19, q19a, q19b, q19c⟩ := isOf hZ rfl u12_0
  obtain ⟨_, _, ⟨T19, L19, k19, n19⟩, -, X19, ⟨Lc19, hQ19, l19, y19, z19⟩, st19⟩ := X12.virtualBack hx (y := (⟨"com/example/octets_to_session/octetstosession/core/Packet", "set", "(Lcom/example/octets_to_session/octetstosession/core/PacketType;I[BII)Lcom/example/octets_to_session/octetstosession/core/Packet;"⟩ : MethodName)) (z := (⟨"com/example/octets_to_session/octetstosession/core/Packet", "set", "(Lcom/example/octets_to_session/octetstosession/core/PacketType;I[BII)Lcom/example/octets_to_session/octetstosession/core/Packet;"⟩ : MethodName)) hown (mvT hZ (hw _ (List.mem_of_getElem? (i := 19) rfl))) (mvT hZ (hw _ (List.mem_of_getElem? (i := 20) rfl))) (notFace_of_selects (args := #[]) (mvT hZ (hw _ (List.mem_of_getElem? (i := 22) rfl)))) (mvT hZ (hw _ (List.mem_of_getElem? (i := 22) rfl))) (mvT hZ (hw _ (List.mem_of_getElem? (i := 21) rfl))) (by decide) (backOf (W := 0) (rm_set_4 l Z a0 hw [] b1 (q5.toInt32) b10 (((p4.toUInt32 >>> ((3 : Int32) &&& 31).toUInt32).toInt32) &&& (7 : Int32)) (((q5.toUInt64 >>> ((32 : Int32) &&& 0x3f).toInt64.toUInt64).toInt64).toInt32) (p3 ^^^ (-1 : Int32)) b5_wt7 p1 b9 (p4 &&& (7 : Int32)) p2 p3 k10 k9 w_PUBLISH T12.heap n0 O12 u12_0 u12_1 u12_2 u12_3 u12_4 u12_5 u12_6 ge_b1 V_b10 ge_b10 V_b9 ge_b9 ne_b1_b10 ne_b1_b9 (Ne.symm ne_b9_b10) ) hZ (hw _ (List.mem_of_getElem? (i := 23) rfl)) (hw _ (List.mem_of_getElem? (i := 2) rfl)) (by decide) (by decide)) q19a q19c (g := (mkF m 95 #[.val (.int p0), .val (.int p1), .val (.int p2), .val (.int p3), .val (.int p4), .val (.long q5), .second, .val (.ref b1), .val (.ref b5_wt7), .val (.ref b9), .val (.ref b10), .val (.int (q5.toInt32)), .val (.int (((q5.toUInt64 >>> ((32 : Int32) &&& 0x3f).toInt64.toUInt64).toInt64).toInt32)), .val (.ref b1), .val (.int (1 : Int32)), .unset, .unset, .unset] [(.int p3), (.int p2), (.ref b9), (.int p1), (.ref b5_wt7), (.ref b1)])) rfl (by rw [hml]; rfl) (Steps.refl _) (argsL := [(.ref b5_wt7), (.int p1), (.ref b9), (.int p2), (.int p3)]) (rest := []) (lenOf pd__Lcom_example_octets_to_session_octetstosession_core_PacketType_I_BII_Lcom_example_octets_to_session_octetstosession_core_Packet_ rfl) rfl (by show 2 * 0 + _ ≤ _; exact Nat.le_of_eq rfl) (hb hby at_95) (fun _ _ => ⟨rfl, rfl, (by decide : 3 + 0 ≤ _), (by decide : 21 + 0 ≤ _)⟩)
  dsimp only [Pt.U, Pt.locs, Pt.cells, Pt.slots] at X19 l19 y19 z19 st19 hQ19
  subst l19 y19 z19
  obtain ⟨rfl, N19q, Kc19, u19_0, u19_1, u19_2, u19_3, u19_4, u19_5, u19_6⟩ := hQ19
  have N19 := Fr.app N12 N19q
  have V_b9 := V_b9.keep Kc19 (ninS (Ne.symm ne_b1_b9) nin0)
  have V_b10 := V_b10.keep Kc19 (ninS (Ne.symm ne_b1_b10) nin0)
  have O19 := O12.keep Kc19 (allS ge_b1 all0)
  have hk19 := Nat.le_trans hk12 Kc19.1
  obtain ⟨cq26, kq26, q26a, q26b, q26c⟩ := isOf hZ rfl u19_0
  obtain ⟨_, _, ⟨T26, L26, k26, n26⟩, -, X26, ⟨Lc26, hQ26, l26, y26, z26⟩, st26⟩ := X19.virtualBack hx (y := (⟨"com/example/octets_to_session/octetstosession/core/Packet", "type", "()Lcom/example/octets_to_session/octetstosession/core/PacketType;"⟩ : MethodName)) (z := (⟨"com/example/octets_to_session/octetstosession/core/Packet", "type", "()Lcom/example/octets_to_session/octetstosession/core/PacketType;"⟩ : MethodName)) hown (mvT hZ (hw _ (List.mem_of_getElem? (i := 34) rfl))) (mvT hZ (hw _ (List.mem_of_getElem? (i := 35) rfl))) (notFace_of_selects (args := #[]) (mvT hZ (hw _ (List.mem_of_getElem? (i := 37) rfl)))) (mvT hZ (hw _ (List.mem_of_getElem? (i := 37) rfl))) (mvT hZ (hw _ (List.mem_of_getElem? (i := 36) rfl))) (by decide) (backOf (W := 0) (rm_type_5 l Z a0 hw [] b1 b5_wt7 T19.heap n0 O19 u19_1 ) hZ (hw _ (List.mem_of_getElem? (i := 38) rfl)) (hw _ (List.mem_of_getElem? (i := 2) rfl)) (by decide) (by decide)) q26a q26c (g := (mkF m 109 #[.val (.int p0), .val (.int p1), .val (.int p2), .val (.int p3), .val (.int p4), .val (.long q5), .second, .val (.ref b1), .val (.ref b5_wt7), .val (.ref b9), .val (.ref b10), .val (.int (q5.toInt32)), .val (.int (((q5.toUInt64 >>> ((32 : Int32) &&& 0x3f).toInt64.toUInt64).toInt64).toInt32)), .val (.ref b1), .val (.int (1 : Int32)), .val (.ref b1), .unset, .unset] [(.ref b1)])) rfl (by rw [hml]; rfl) (Steps.refl _) (argsL := []) (rest := []) (lenOf pd___Lcom_example_octets_to_session_octetstosession_core_PacketType_ rfl) rfl (by show 2 * 0 + _ ≤ _; exact Nat.le_of_eq rfl) (hb hby at_109) (fun _ _ => ⟨rfl, rfl, (by decide : 3 + 0 ≤ _), (by decide : 21 + 0 ≤ _)⟩)
  dsimp only [Pt.U, Pt.locs, Pt.cells, Pt.slots] at X26 l26 y26 z26 st26 hQ26
  subst l26 y26 z26
  obtain ⟨rfl, N26q, e26⟩ := hQ26
  have N26 := Fr.app N19 N26q
  obtain ⟨cq29, kq29, q29a, q29b, q29c⟩ := isOf hZ e26 u19_0
  obtain ⟨_, _, ⟨T29, L29, k29, n29⟩, -, X29, ⟨Lc29, hQ29, l29, y29, z29⟩, st29⟩ := X26.virtualBack hx (y := (⟨"com/example/octets_to_session/octetstosession/core/Packet", "flags", "()I"⟩ : MethodName)) (z := (⟨"com/example/octets_to_session/octetstosession/core/Packet", "flags", "()I"⟩ : MethodName)) hown (mvT hZ (hw _ (List.mem_of_getElem? (i := 39) rfl))) (mvT hZ (hw _ (List.mem_of_getElem? (i := 40) rfl))) (notFace_of_selects (args := #[]) (mvT hZ (hw _ (List.mem_of_getElem? (i := 42) rfl)))) (mvT hZ (hw _ (List.mem_of_getElem? (i := 42) rfl))) (mvT hZ (hw _ (List.mem_of_getElem? (i := 41) rfl))) (by decide) (backOf (W := 0) (rm_flags_6 l Z a0 hw [] b1 p1 T19.heap n0 O19 u19_2 ) hZ (hw _ (List.mem_of_getElem? (i := 43) rfl)) (hw _ (List.mem_of_getElem? (i := 2) rfl)) (by decide) (by decide)) q29a q29c (g := (mkF m 119 #[.val (.int p0), .val (.int p1), .val (.int p2), .val (.int p3), .val (.int p4), .val (.long q5), .second, .val (.ref b1), .val (.ref b5_wt7), .val (.ref b9), .val (.ref b10), .val (.int (q5.toInt32)), .val (.int (((q5.toUInt64 >>> ((32 : Int32) &&& 0x3f).toInt64.toUInt64).toInt64).toInt32)), .val (.ref b1), .val (.int (1 : Int32)), .val (.ref b1), .unset, .unset] [(.ref b1)])) rfl (by rw [hml]; rfl) (Steps.refl _) (argsL := []) (rest := []) (lenOf pd___I rfl) rfl (by show 2 * 0 + _ ≤ _; exact Nat.le_of_eq rfl) (hb hby at_119) (fun _ _ => ⟨rfl, e26, (by decide : 3 + 0 ≤ _), (by decide : 21 + 0 ≤ _)⟩)
  dsimp only [Pt.U, Pt.locs, Pt.cells, Pt.slots] at X29 l29 y29 z29 st29 hQ29
  subst l29 y29 z29
  obtain ⟨rfl, N29q, e29⟩ := hQ29
  have N29 := Fr.app N26 N29q
  obtain ⟨cq33, kq33, q33a, q33b, q33c⟩ := isOf hZ e29 u19_0
  obtain ⟨_, _, ⟨T33, L33, k33, n33⟩, -, X33, ⟨Lc33, hQ33, l33, y33, z33⟩, st33⟩ := X29.virtualBack hx (y := (⟨"com/example/octets_to_session/octetstosession/core/Packet", "octets", "()[B"⟩ : MethodName)) (z := (⟨"com/example/octets_to_session/octetstosession/core/Packet", "octets", "()[B"⟩ : MethodName)) hown (mvT hZ (hw _ (List.mem_of_getElem? (i := 44) rfl))) (mvT hZ (hw _ (List.mem_of_getElem? (i := 45) rfl))) (notFace_of_selects (args := #[]) (mvT hZ (hw _ (List.mem_of_getElem? (i := 47) rfl)))) (mvT hZ (hw _ (List.mem_of_getElem? (i := 47) rfl))) (mvT hZ (hw _ (List.mem_of_getElem? (i := 46) rfl))) (by decide) (backOf (W := 0) (rm_octets_7 l Z a0 hw [] b1 b9 T19.heap n0 O19 u19_3 ) hZ (hw _ (List.mem_of_getElem? (i := 48) rfl)) (hw _ (List.mem_of_getElem? (i := 2) rfl)) (by decide) (by decide)) q33a q33c (g := (mkF m 128 #[.val (.int p0), .val (.int p1), .val (.int p2), .val (.int p3), .val (.int p4), .val (.long q5), .second, .val (.ref b1), .val (.ref b5_wt7), .val (.ref b9), .val (.ref b10), .val (.int (q5.toInt32)), .val (.int (((q5.toUInt64 >>> ((32 : Int32) &&& 0x3f).toInt64.toUInt64).toInt64).toInt32)), .val (.ref b1), .val (.int (1 : Int32)), .val (.ref b1), .unset, .unset] [(.ref b1)])) rfl (by rw [hml]; rfl) (Steps.refl _) (argsL := []) (rest := []) (lenOf pd____B rfl) rfl (by show 2 * 0 + _ ≤ _; exact Nat.le_of_eq rfl) (hb hby at_128) (fun _ _ => ⟨rfl, e29, (by decide : 3 + 0 ≤ _), (by decide : 21 + 0 ≤ _)⟩)
  dsimp only [Pt.U, Pt.locs, Pt.cells, Pt.slots] at X33 l33 y33 z33 st33 hQ33
  subst l33 y33 z33
  obtain ⟨rfl, N33q, e33⟩ := hQ33
  have N33 := Fr.app N29 N33q
  obtain ⟨cq36, kq36, q36a, q36b, q36c⟩ := isOf hZ e33 u19_0
  obtain ⟨_, _, ⟨T36, L36, k36, n36⟩, -, X36, ⟨Lc36, hQ36, l36, y36, z36⟩, st36⟩ := X33.virtualBack hx (y := (⟨"com/example/octets_to_session/octetstosession/core/Packet", "start", "()I"⟩ : MethodName)) (z := (⟨"com/example/octets_to_session/octetstosession/core/Packet", "start", "()I"⟩ : MethodName)) hown (mvT hZ (hw _ (List.mem_of_getElem? (i := 49) rfl))) (mvT hZ (hw _ (List.mem_of_getElem? (i := 50) rfl))) (notFace_of_selects (args := #[]) (mvT hZ (hw _ (List.mem_of_getElem? (i := 52) rfl)))) (mvT hZ (hw _ (List.mem_of_getElem? (i := 52) rfl))) (mvT hZ (hw _ (List.mem_of_getElem? (i := 51) rfl))) (by decide) (backOf (W := 0) (rm_start_8 l Z a0 hw [] b1 p2 T19.heap n0 O19 u19_4 ) hZ (hw _ (List.mem_of_getElem? (i := 53) rfl)) (hw _ (List.mem_of_getElem? (i := 2) rfl)) (by decide) (by decide)) q36a q36c (g := (mkF m 138 #[.val (.int p0), .val (.int p1), .val (.int p2), .val (.int p3), .val (.int p4), .val (.long q5), .second, .val (.ref b1), .val (.ref b5_wt7), .val (.ref b9), .val (.ref b10), .val (.int (q5.toInt32)), .val (.int (((q5.toUInt64 >>> ((32 : Int32) &&& 0x3f).toInt64.toUInt64).toInt64).toInt32)), .val (.ref b1), .val (.int (1 : Int32)), .val (.ref b1), .unset, .unset] [(.ref b1)])) rfl (by rw [hml]; rfl) (Steps.refl _) (argsL := []) (rest := []) (lenOf pd___I rfl) rfl (by show 2 * 0 + _ ≤ _; exact Nat.le_of_eq rfl) (hb hby at_138) (fun _ _ => ⟨rfl, e33, (by decide : 3 + 0 ≤ _), (by decide : 21 + 0 ≤ _)⟩)
  dsimp only [Pt.U, Pt.locs, Pt.cells, Pt.slots] at X36 l36 y36 z36 st36 hQ36
  subst l36 y36 z36
  obtain ⟨rfl, N36q, e36⟩ := hQ36
  have N36 := Fr.app N33 N36q
  obtain ⟨cq40, kq40, q40a, q40b, q40c⟩ := isOf hZ e36 u19_0
  obtain ⟨_, _, ⟨T40, L40, k40, n40⟩, -, X40, ⟨Lc40, hQ40, l40, y40, z40⟩, st40⟩ := X36.virtualBack hx (y := (⟨"com/example/octets_to_session/octetstosession/core/Packet", "length", "()I"⟩ : MethodName)) (z := (⟨"com/example/octets_to_session/octetstosession/core/Packet", "length", "()I"⟩ : MethodName)) hown (mvT hZ (hw _ (List.mem_of_getElem? (i := 54) rfl))) (mvT hZ (hw _ (List.mem_of_getElem? (i := 55) rfl))) (notFace_of_selects (args := #[]) (mvT hZ (hw _ (List.mem_of_getElem? (i := 57) rfl)))) (mvT hZ (hw _ (List.mem_of_getElem? (i := 57) rfl))) (mvT hZ (hw _ (List.mem_of_getElem? (i := 56) rfl))) (by decide) (backOf (W := 0) (rm_length_9 l Z a0 hw [] b1 p3 T19.heap n0 O19 u19_5 ) hZ (hw _ (List.mem_of_getElem? (i := 58) rfl)) (hw _ (List.mem_of_getElem? (i := 2) rfl)) (by decide) (by decide)) q40a q40c (g := (mkF m 147 #[.val (.int p0), .val (.int p1), .val (.int p2), .val (.int p3), .val (.int p4), .val (.long q5), .second, .val (.ref b1), .val (.ref b5_wt7), .val (.ref b9), .val (.ref b10), .val (.int (q5.toInt32)), .val (.int (((q5.toUInt64 >>> ((32 : Int32) &&& 0x3f).toInt64.toUInt64).toInt64).toInt32)), .val (.ref b1), .val (.int (1 : Int32)), .val (.ref b1), .unset, .unset] [(.ref b1)])) rfl (by rw [hml]; rfl) (Steps.refl _) (argsL := []) (rest := []) (lenOf pd___I rfl) rfl (by show 2 * 0 + _ ≤ _; exact Nat.le_of_eq rfl) (hb hby at_147) (fun _ _ => ⟨rfl, e36, (by decide : 3 + 0 ≤ _), (by decide : 21 + 0 ≤ _)⟩)
  dsimp only [Pt.U, Pt.locs, Pt.cells, Pt.slots] at X40 l40 y40 z40 st40 hQ40
  subst l40 y40 z40
  obtain ⟨rfl, N40q, e40⟩ := hQ40
  have N40 := Fr.app N36 N40q
  have pre44 : ∀ t, Steps p.tables e below (T40.setTop (mkF m 163 #[.val (.int p0), .val (.int p1), .val (.int p2), .val (.int p3), .val (.int p4), .val (.long q5), .second, .val (.ref b1), .val (.ref b5_wt7), .val (.ref b9), .val (.ref b10), .val (.int (q5.toInt32)), .val (.int (((q5.toUInt64 >>> ((32 : Int32) &&& 0x3f).toInt64.toUInt64).toInt64).toInt32)), .val (.ref b1), .val (.int (1 : Int32)), .val (.ref b1), .val (.int (1 : Int32)), .unset] [(.ref b1)])) t → Steps p.tables e below (s₁.setTop (entryFrame m #[(.int p0), (.int p1), (.int p2), (.int p3), (.int p4), (.long q5)] maxLocals)) t := by
    intro t kt
    refine pre0 t ?_
    show Steps p.tables e below (s₁.setTop (mkF m 0 #[.val (.int p0), .val (.int p1), .val (.int p2), .val (.int p3), .val (.int p4), .val (.long q5), .second, .unset, .unset, .unset, .unset, .unset, .unset, .unset, .unset, .unset, .unset, .unset] [])) _
    refine st1 _ ?_
    show Steps p.tables e below (T1.setTop (mkF m 3 #[.val (.int p0), .val (.int p1), .val (.int p2), .val (.int p3), .val (.int p4), .val (.long q5), .second, .unset, .unset, .unset, .unset, .unset, .unset, .unset, .unset, .unset, .unset, .unset] [(.ref b1)])) _
    refine XS.dup X1.here hx rfl (hb hby at_3) rfl rfl ?_
    show Steps p.tables e below (T1.setTop (mkF m 4 #[.val (.int p0), .val (.int p1), .val (.int p2), .val (.int p3), .val (.int p4), .val (.long q5), .second, .unset, .unset, .unset, .unset, .unset, .unset, .unset, .unset, .unset, .unset, .unset] [(.ref b1), (.ref b1)])) _
    refine st2.trans ?_
    show Steps p.tables e below (T2.setTop (mkF m 7 #[.val (.int p0), .val (.int p1), .val (.int p2), .val (.int p3), .val (.int p4), .val (.long q5), .second, .unset, .unset, .unset, .unset, .unset, .unset, .unset, .unset, .unset, .unset, .unset] [(.ref b1)])) _
    refine XS.astore X2.here hx rfl (hb hby at_7) rfl rfl (l' := #[.val (.int p0), .val (.int p1), .val (.int p2), .val (.int p3), .val (.int p4), .val (.long q5), .second, .val (.ref b1), .unset, .unset, .unset, .unset, .unset, .unset, .unset, .unset, .unset, .unset]) rfl ?_
    show Steps p.tables e below (T2.setTop (mkF m 9 #[.val (.int p0), .val (.int p1), .val (.int p2), .val (.int p3), .val (.int p4), .val (.long q5), .second, .val (.ref b1), .unset, .unset, .unset, .unset, .unset, .unset, .unset, .unset, .unset, .unset] [])) _
    refine XS.iloadN X2.here hx rfl (hb hby at_9) rfl ?_
    show Steps p.tables e below (T2.setTop (mkF m 10 #[.val (.int p0), .val (.int p1), .val (.int p2), .val (.int p3), .val (.int p4), .val (.long q5), .second, .val (.ref b1), .unset, .unset, .unset, .unset, .unset, .unset, .unset, .unset, .unset, .unset] [(.int p0)])) _
    refine XS.bipush X2.here hx rfl (hb hby at_10) ?_
    show Steps p.tables e below (T2.setTop (mkF m 12 #[.val (.int p0), .val (.int p1), .val (.int p2), .val (.int p3), .val (.int p4), .val (.long q5), .second, .val (.ref b1), .unset, .unset, .unset, .unset, .unset, .unset, .unset, .unset, .unset, .unset] [(.int (15 : Int32)), (.int p0)])) _
    refine XS.iand X2.here hx rfl (hb hby at_12) rfl ?_
    show Steps p.tables e below (T2.setTop (mkF m 13 #[.val (.int p0), .val (.int p1), .val (.int p2), .val (.int p3), .val (.int p4), .val (.long q5), .second, .val (.ref b1), .unset, .unset, .unset, .unset, .unset, .unset, .unset, .unset, .unset, .unset] [(.int (p0 &&& (15 : Int32)))])) _
    refine XS.iconst X2.here hx rfl (hb hby at_13) ?_
    show Steps p.tables e below (T2.setTop (mkF m 14 #[.val (.int p0), .val (.int p1), .val (.int p2), .val (.int p3), .val (.int p4), .val (.long q5), .second, .val (.ref b1), .unset, .unset, .unset, .unset, .unset, .unset, .unset, .unset, .unset, .unset] [(.int (4 : Int32)), (.int (p0 &&& (15 : Int32)))])) _
    refine XS.ishl X2.here hx rfl (hb hby at_14) rfl ?_
    show Steps p.tables e below (T2.setTop (mkF m 15 #[.val (.int p0), .val (.int p1), .val (.int p2), .val (.int p3), .val (.int p4), .val (.long q5), .second, .val (.ref b1), .unset, .unset, .unset, .unset, .unset, .unset, .unset, .unset, .unset, .unset] [(.int ((p0 &&& (15 : Int32)) <<< ((4 : Int32) &&& 31)))])) _
    refine st5 _ ?_
    show Steps p.tables e below (T5.setTop (mkF m 18 #[.val (.int p0), .val (.int p1), .val (.int p2), .val (.int p3), .val (.int p4), .val (.long q5), .second, .val (.ref b1), .unset, .unset, .unset, .unset, .unset, .unset, .unset, .unset, .unset, .unset] [(.ref b5_wt7)])) _
    refine XS.astore X5.here hx rfl (hb hby at_18) rfl rfl (l' := #[.val (.int p0), .val (.int p1), .val (.int p2), .val (.int p3), .val (.int p4), .val (.long q5), .second, .val (.ref b1), .val (.ref b5_wt7), .unset, .unset, .unset, .unset, .unset, .unset, .unset, .unset, .unset]) rfl ?_
    show Steps p.tables e below (T5.setTop (mkF m 20 #[.val (.int p0), .val (.int p1), .val (.int p2), .val (.int p3), .val (.int p4), .val (.long q5), .second, .val (.ref b1), .val (.ref b5_wt7), .unset, .unset, .unset, .unset, .unset, .unset, .unset, .unset, .unset] [])) _
    refine XS.iload X5.here hx rfl (hb hby at_20) rfl ?_
    show Steps p.tables e below (T5.setTop (mkF m 22 #[.val (.int p0), .val (.int p1), .val (.int p2), .val (.int p3), .val (.int p4), .val (.long q5), .second, .val (.ref b1), .val (.ref b5_wt7), .unset, .unset, .unset, .unset, .unset, .unset, .unset, .unset, .unset] [(.int p4)])) _
    refine XS.bipush X5.here hx rfl (hb hby at_22) ?_
    show Steps p.tables e below (T5.setTop (mkF m 24 #[.val (.int p0), .val (.int p1), .val (.int p2), .val (.int p3), .val (.int p4), .val (.long q5), .second, .val (.ref b1), .val (.ref b5_wt7), .unset, .unset, .unset, .unset, .unset, .unset, .unset, .unset, .unset] [(.int (7 : Int32)), (.int p4)])) _
    refine XS.iand X5.here hx rfl (hb hby at_24) rfl ?_
    show Steps p.tables e below (T5.setTop (mkF m 25 #[.val (.int p0), .val (.int p1), .val (.int p2), .val (.int p3), .val (.int p4), .val (.long q5), .second, .val (.ref b1), .val (.ref b5_wt7), .unset, .unset, .unset, .unset, .unset, .unset, .unset, .unset, .unset] [(.int (p4 &&& (7 : Int32)))])) _
    refine st9 _ ?_
    show Steps p.tables e below (T9.setTop (mkF m 27 #[.val (.int p0), .val (.int p1), .val (.int p2), .val (.int p3), .val (.int p4), .val (.long q5), .second, .val (.ref b1), .val (.ref b5_wt7), .unset, .unset, .unset, .unset, .unset, .unset, .unset, .unset, .unset] [(.ref b9)])) _
    refine XS.astore X9.here hx rfl (hb hby at_27) rfl rfl (l' := #[.val (.int p0), .val (.int p1), .val (.int p2), .val (.int p3), .val (.int p4), .val (.long q5), .second, .val (.ref b1), .val (.ref b5_wt7), .val (.ref b9), .unset, .unset, .unset, .unset, .unset, .unset, .unset, .unset]) rfl ?_
    show Steps p.tables e below (T9.setTop (mkF m 29 #[.val (.int p0), .val (.int p1), .val (.int p2), .val (.int p3), .val (.int p4), .val (.long q5), .second, .val (.ref b1), .val (.ref b5_wt7), .val (.ref b9), .unset, .unset, .unset, .unset, .unset, .unset, .unset, .unset] [])) _
    refine XS.iload X9.here hx rfl (hb hby at_29) rfl ?_
    show Steps p.tables e below (T9.setTop (mkF m 31 #[.val (.int p0), .val (.int p1), .val (.int p2), .val (.int p3), .val (.int p4), .val (.long q5), .second, .val (.ref b1), .val (.ref b5_wt7), .val (.ref b9), .unset, .unset, .unset, .unset, .unset, .unset, .unset, .unset] [(.int p4)])) _
    refine XS.iconst X9.here hx rfl (hb hby at_31) ?_
    show Steps p.tables e below (T9.setTop (mkF m 32 #[.val (.int p0), .val (.int p1), .val (.int p2), .val (.int p3), .val (.int p4), .val (.long q5), .second, .val (.ref b1), .val (.ref b5_wt7), .val (.ref b9), .unset, .unset, .unset, .unset, .unset, .unset, .unset, .unset] [(.int (3 : Int32)), (.int p4)])) _
    refine XS.iushr X9.here hx rfl (hb hby at_32) rfl ?_
    show Steps p.tables e below (T9.setTop (mkF m 33 #[.val (.int p0), .val (.int p1), .val (.int p2), .val (.int p3), .val (.int p4), .val (.long q5), .second, .val (.ref b1), .val (.ref b5_wt7), .val (.ref b9), .unset, .unset, .unset, .unset, .unset, .unset, .unset, .unset] [(.int ((p4.toUInt32 >>> ((3 : Int32) &&& 31).toUInt32).toInt32))])) _
    refine XS.bipush X9.here hx rfl (hb hby at_33) ?_
    show Steps p.tables e below (T9.setTop (mkF m 35 #[.val (.int p0), .val (.int p1), .val (.int p2), .val (.int p3), .val (.int p4), .val (.long q5), .second, .val (.ref b1), .val (.ref b5_wt7), .val (.ref b9), .unset, .unset, .unset, .unset, .unset, .unset, .unset, .unset] [(.int (7 : Int32)), (.int ((p4.toUInt32 >>> ((3 : Int32) &&& 31).toUInt32).toInt32))])) _
    refine XS.iand X9.here hx rfl (hb hby at_35) rfl ?_
    show Steps p.tables e below (T9.setTop (mkF m 36 #[.val (.int p0), .val (.int p1), .val (.int p2), .val (.int p3), .val (.int p4), .val (.long q5), .second, .val (.ref b1), .val (.ref b5_wt7), .val (.ref b9), .unset, .unset, .unset, .unset, .unset, .unset, .unset, .unset] [(.int (((p4.toUInt32 >>> ((3 : Int32) &&& 31).toUInt32).toInt32) &&& (7 : Int32)))])) _
    refine st10 _ ?_
    show Steps p.tables e below (T10.setTop (mkF m 38 #[.val (.int p0), .val (.int p1), .val (.int p2), .val (.int p3), .val (.int p4), .val (.long q5), .second, .val (.ref b1), .val (.ref b5_wt7), .val (.ref b9), .unset, .unset, .unset, .unset, .unset, .unset, .unset, .unset] [(.ref b10)])) _
    refine XS.astore X10.here hx rfl (hb hby at_38) rfl rfl (l' := #[.val (.int p0), .val (.int p1), .val (.int p2), .val (.int p3), .val (.int p4), .val (.long q5), .second, .val (.ref b1), .val (.ref b5_wt7), .val (.ref b9), .val (.ref b10), .unset, .unset, .unset, .unset, .unset, .unset, .unset]) rfl ?_
    show Steps p.tables e below (T10.setTop (mkF m 40 #[.val (.int p0), .val (.int p1), .val (.int p2), .val (.int p3), .val (.int p4), .val (.long q5), .second, .val (.ref b1), .val (.ref b5_wt7), .val (.ref b9), .val (.ref b10), .unset, .unset, .unset, .unset, .unset, .unset, .unset] [])) _
    refine XS.lload X10.here hx rfl (hb hby at_40) rfl ?_
    show Steps p.tables e below (T10.setTop (mkF m 42 #[.val (.int p0), .val (.int p1), .val (.int p2), .val (.int p3), .val (.int p4), .val (.long q5), .second, .val (.ref b1), .val (.ref b5_wt7), .val (.ref b9), .val (.ref b10), .unset, .unset, .unset, .unset, .unset, .unset, .unset] [(.long q5)])) _
    refine XS.l2i X10.here hx rfl (hb hby at_42) rfl ?_
    show Steps p.tables e below (T10.setTop (mkF m 43 #[.val (.int p0), .val (.int p1), .val (.int p2), .val (.int p3), .val (.int p4), .val (.long q5), .second, .val (.ref b1), .val (.ref b5_wt7), .val (.ref b9), .val (.ref b10), .unset, .unset, .unset, .unset, .unset, .unset, .unset] [(.int (q5.toInt32))])) _
    refine XS.istore X10.here hx rfl (hb hby at_43) rfl (l' := #[.val (.int p0), .val (.int p1), .val (.int p2), .val (.int p3), .val (.int p4), .val (.long q5), .second, .val (.ref b1), .val (.ref b5_wt7), .val (.ref b9), .val (.ref b10), .val (.int (q5.toInt32)), .unset, .unset, .unset, .unset, .unset, .unset]) rfl ?_
    show Steps p.tables e below (T10.setTop (mkF m 45 #[.val (.int p0), .val (.int p1), .val (.int p2), .val (.int p3), .val (.int p4), .val (.long q5), .second, .val (.ref b1), .val (.ref b5_wt7), .val (.ref b9), .val (.ref b10), .val (.int (q5.toInt32)), .unset, .unset, .unset, .unset, .unset, .unset] [])) _
    refine XS.lload X10.here hx rfl (hb hby at_45) rfl ?_
    show Steps p.tables e below (T10.setTop (mkF m 47 #[.val (.int p0), .val (.int p1), .val (.int p2), .val (.int p3), .val (.int p4), .val (.long q5), .second, .val (.ref b1), .val (.ref b5_wt7), .val (.ref b9), .val (.ref b10), .val (.int (q5.toInt32)), .unset, .unset, .unset, .unset, .unset, .unset] [(.long q5)])) _
    refine XS.bipush X10.here hx rfl (hb hby at_47) ?_
    show Steps p.tables e below (T10.setTop (mkF m 49 #[.val (.int p0), .val (.int p1), .val (.int p2), .val (.int p3), .val (.int p4), .val (.long q5), .second, .val (.ref b1), .val (.ref b5_wt7), .val (.ref b9), .val (.ref b10), .val (.int (q5.toInt32)), .unset, .unset, .unset, .unset, .unset, .unset] [(.int (32 : Int32)), (.long q5)])) _
    refine XS.lushr X10.here hx rfl (hb hby at_49) rfl ?_
    show Steps p.tables e below (T10.setTop (mkF m 50 #[.val (.int p0), .val (.int p1), .val (.int p2), .val (.int p3), .val (.int p4), .val (.long q5), .second, .val (.ref b1), .val (.ref b5_wt7), .val (.ref b9), .val (.ref b10), .val (.int (q5.toInt32)), .unset, .unset, .unset, .unset, .unset, .unset] [(.long ((q5.toUInt64 >>> ((32 : Int32) &&& 0x3f).toInt64.toUInt64).toInt64))])) _
    refine XS.l2i X10.here hx rfl (hb hby at_50) rfl ?_
    show Steps p.tables e below (T10.setTop (mkF m 51 #[.val (.int p0), .val (.int p1), .val (.int p2), .val (.int p3), .val (.int p4), .val (.long q5), .second, .val (.ref b1), .val (.ref b5_wt7), .val (.ref b9), .val (.ref b10), .val (.int (q5.toInt32)), .unset, .unset, .unset, .unset, .unset, .unset] [(.int (((q5.toUInt64 >>> ((32 : Int32) &&& 0x3f).toInt64.toUInt64).toInt64).toInt32))])) _
    refine XS.istore X10.here hx rfl (hb hby at_51) rfl (l' := #[.val (.int p0), .val (.int p1), .val (.int p2), .val (.int p3), .val (.int p4), .val (.long q5), .second, .val (.ref b1), .val (.ref b5_wt7), .val (.ref b9), .val (.ref b10), .val (.int (q5.toInt32)), .val (.int (((q5.toUInt64 >>> ((32 : Int32) &&& 0x3f).toInt64.toUInt64).toInt64).toInt32)), .unset, .unset, .unset, .unset, .unset]) rfl ?_
    show Steps p.tables e below (T10.setTop (mkF m 53 #[.val (.int p0), .val (.int p1), .val (.int p2), .val (.int p3), .val (.int p4), .val (.long q5), .second, .val (.ref b1), .val (.ref b5_wt7), .val (.ref b9), .val (.ref b10), .val (.int (q5.toInt32)), .val (.int (((q5.toUInt64 >>> ((32 : Int32) &&& 0x3f).toInt64.toUInt64).toInt64).toInt32)), .unset, .unset, .unset, .unset, .unset] [])) _
    refine XS.aload X10.here hx rfl (hb hby at_53) rfl rfl ?_
    show Steps p.tables e below (T10.setTop (mkF m 55 #[.val (.int p0), .val (.int p1), .val (.int p2), .val (.int p3), .val (.int p4), .val (.long q5), .second, .val (.ref b1), .val (.ref b5_wt7), .val (.ref b9), .val (.ref b10), .val (.int (q5.toInt32)), .val (.int (((q5.toUInt64 >>> ((32 : Int32) &&& 0x3f).toInt64.toUInt64).toInt64).toInt32)), .unset, .unset, .unset, .unset, .unset] [(.ref b1)])) _
    refine st11 _ ?_
    show Steps p.tables e below (T11.setTop (mkF m 58 #[.val (.int p0), .val (.int p1), .val (.int p2), .val (.int p3), .val (.int p4), .val (.long q5), .second, .val (.ref b1), .val (.ref b5_wt7), .val (.ref b9), .val (.ref b10), .val (.int (q5.toInt32)), .val (.int (((q5.toUInt64 >>> ((32 : Int32) &&& 0x3f).toInt64.toUInt64).toInt64).toInt32)), .unset, .unset, .unset, .unset, .unset] [(.ref w_PUBLISH), (.ref b1)])) _
    refine XS.iload X11.here hx rfl (hb hby at_58) rfl ?_
    show Steps p.tables e below (T11.setTop (mkF m 60 #[.val (.int p0), .val (.int p1), .val (.int p2), .val (.int p3), .val (.int p4), .val (.long q5), .second, .val (.ref b1), .val (.ref b5_wt7), .val (.ref b9), .val (.ref b10), .val (.int (q5.toInt32)), .val (.int (((q5.toUInt64 >>> ((32 : Int32) &&& 0x3f).toInt64.toUInt64).toInt64).toInt32)), .unset, .unset, .unset, .unset, .unset] [(.int (q5.toInt32)), (.ref w_PUBLISH), (.ref b1)])) _
    refine XS.aload X11.here hx rfl (hb hby at_60) rfl rfl ?_
    show Steps p.tables e below (T11.setTop (mkF m 62 #[.val (.int p0), .val (.int p1), .val (.int p2), .val (.int p3), .val (.int p4), .val (.long q5), .second, .val (.ref b1), .val (.ref b5_wt7), .val (.ref b9), .val (.ref b10), .val (.int (q5.toInt32)), .val (.int (((q5.toUInt64 >>> ((32 : Int32) &&& 0x3f).toInt64.toUInt64).toInt64).toInt32)), .unset, .unset, .unset, .unset, .unset] [(.ref b10), (.int (q5.toInt32)), (.ref w_PUBLISH), (.ref b1)])) _
    refine XS.iload X11.here hx rfl (hb hby at_62) rfl ?_
    show Steps p.tables e below (T11.setTop (mkF m 64 #[.val (.int p0), .val (.int p1), .val (.int p2), .val (.int p3), .val (.int p4), .val (.long q5), .second, .val (.ref b1), .val (.ref b5_wt7), .val (.ref b9), .val (.ref b10), .val (.int (q5.toInt32)), .val (.int (((q5.toUInt64 >>> ((32 : Int32) &&& 0x3f).toInt64.toUInt64).toInt64).toInt32)), .unset, .unset, .unset, .unset, .unset] [(.int (((q5.toUInt64 >>> ((32 : Int32) &&& 0x3f).toInt64.toUInt64).toInt64).toInt32)), (.ref b10), (.int (q5.toInt32)), (.ref w_PUBLISH), (.ref b1)])) _
    refine XS.iloadN X11.here hx rfl (hb hby at_64) rfl ?_
    show Steps p.tables e below (T11.setTop (mkF m 65 #[.val (.int p0), .val (.int p1), .val (.int p2), .val (.int p3), .val (.int p4), .val (.long q5), .second, .val (.ref b1), .val (.ref b5_wt7), .val (.ref b9), .val (.ref b10), .val (.int (q5.toInt32)), .val (.int (((q5.toUInt64 >>> ((32 : Int32) &&& 0x3f).toInt64.toUInt64).toInt64).toInt32)), .unset, .unset, .unset, .unset, .unset] [(.int p3), (.int (((q5.toUInt64 >>> ((32 : Int32) &&& 0x3f).toInt64.toUInt64).toInt64).toInt32)), (.ref b10), (.int (q5.toInt32)), (.ref w_PUBLISH), (.ref b1)])) _
    refine XS.iconst X11.here hx rfl (hb hby at_65) ?_
    show Steps p.tables e below (T11.setTop (mkF m 66 #[.val (.int p0), .val (.int p1), .val (.int p2), .val (.int p3), .val (.int p4), .val (.long q5), .second, .val (.ref b1), .val (.ref b5_wt7), .val (.ref b9), .val (.ref b10), .val (.int (q5.toInt32)), .val (.int (((q5.toUInt64 >>> ((32 : Int32) &&& 0x3f).toInt64.toUInt64).toInt64).toInt32)), .unset, .unset, .unset, .unset, .unset] [(.int (-1 : Int32)), (.int p3), (.int (((q5.toUInt64 >>> ((32 : Int32) &&& 0x3f).toInt64.toUInt64).toInt64).toInt32)), (.ref b10), (.int (q5.toInt32)), (.ref w_PUBLISH), (.ref b1)])) _
    refine XS.ixor X11.here hx rfl (hb hby at_66) rfl ?_
    show Steps p.tables e below (T11.setTop (mkF m 67 #[.val (.int p0), .val (.int p1), .val (.int p2), .val (.int p3), .val (.int p4), .val (.long q5), .second, .val (.ref b1), .val (.ref b5_wt7), .val (.ref b9), .val (.ref b10), .val (.int (q5.toInt32)), .val (.int (((q5.toUInt64 >>> ((32 : Int32) &&& 0x3f).toInt64.toUInt64).toInt64).toInt32)), .unset, .unset, .unset, .unset, .unset] [(.int (p3 ^^^ (-1 : Int32))), (.int (((q5.toUInt64 >>> ((32 : Int32) &&& 0x3f).toInt64.toUInt64).toInt64).toInt32)), (.ref b10), (.int (q5.toInt32)), (.ref w_PUBLISH), (.ref b1)])) _
    refine st12.trans ?_
    show Steps p.tables e below (T12.setTop (mkF m 70 #[.val (.int p0), .val (.int p1), .val (.int p2), .val (.int p3), .val (.int p4), .val (.long q5), .second, .val (.ref b1), .val (.ref b5_wt7), .val (.ref b9), .val (.ref b10), .val (.int (q5.toInt32)), .val (.int (((q5.toUInt64 >>> ((32 : Int32) &&& 0x3f).toInt64.toUInt64).toInt64).toInt32)), .unset, .unset, .unset, .unset, .unset] [(.ref b1)])) _
    refine XS.astore X12.here hx rfl (hb hby at_70) rfl rfl (l' := #[.val (.int p0), .val (.int p1), .val (.int p2), .val (.int p3), .val (.int p4), .val (.long q5), .second, .val (.ref b1), .val (.ref b5_wt7), .val (.ref b9), .val (.ref b10), .val (.int (q5.toInt32)), .val (.int (((q5.toUInt64 >>> ((32 : Int32) &&& 0x3f).toInt64.toUInt64).toInt64).toInt32)), .val (.ref b1), .unset, .unset, .unset, .unset]) rfl ?_
    show Steps p.tables e below (T12.setTop (mkF m 72 #[.val (.int p0), .val (.int p1), .val (.int p2), .val (.int p3), .val (.int p4), .val (.long q5), .second, .val (.ref b1), .val (.ref b5_wt7), .val (.ref b9), .val (.ref b10), .val (.int (q5.toInt32)), .val (.int (((q5.toUInt64 >>> ((32 : Int32) &&& 0x3f).toInt64.toUInt64).toInt64).toInt32)), .val (.ref b1), .unset, .unset, .unset, .unset] [])) _
    refine XS.aload X12.here hx rfl (hb hby at_72) rfl rfl ?_
    show Steps p.tables e below (T12.setTop (mkF m 74 #[.val (.int p0), .val (.int p1), .val (.int p2), .val (.int p3), .val (.int p4), .val (.long q5), .second, .val (.ref b1), .val (.ref b5_wt7), .val (.ref b9), .val (.ref b10), .val (.int (q5.toInt32)), .val (.int (((q5.toUInt64 >>> ((32 : Int32) &&& 0x3f).toInt64.toUInt64).toInt64).toInt32)), .val (.ref b1), .unset, .unset, .unset, .unset] [(.ref b1)])) _
    refine XS.aload X12.here hx rfl (hb hby at_74) rfl rfl ?_
    show Steps p.tables e below (T12.setTop (mkF m 76 #[.val (.int p0), .val (.int p1), .val (.int p2), .val (.int p3), .val (.int p4), .val (.long q5), .second, .val (.ref b1), .val (.ref b5_wt7), .val (.ref b9), .val (.ref b10), .val (.int (q5.toInt32)), .val (.int (((q5.toUInt64 >>> ((32 : Int32) &&& 0x3f).toInt64.toUInt64).toInt64).toInt32)), .val (.ref b1), .unset, .unset, .unset, .unset] [(.ref b1), (.ref b1)])) _
    refine Jvm.RoadKit.acmp (g := (mkF m 76 #[.val (.int p0), .val (.int p1), .val (.int p2), .val (.int p3), .val (.int p4), .val (.long q5), .second, .val (.ref b1), .val (.ref b5_wt7), .val (.ref b9), .val (.ref b10), .val (.int (q5.toInt32)), .val (.int (((q5.toUInt64 >>> ((32 : Int32) &&& 0x3f).toInt64.toUInt64).toInt64).toInt32)), .val (.ref b1), .unset, .unset, .unset, .unset] [(.ref b1), (.ref b1)])) X12 hx rfl rfl rfl (pc0 := 76) (pc' := 79) (same := true) rfl (hb hby at_76) rfl (decide_eq_true rfl) (by decide) (by decide) ?_
    show Steps p.tables e below (T12.setTop (mkF m 79 #[.val (.int p0), .val (.int p1), .val (.int p2), .val (.int p3), .val (.int p4), .val (.long q5), .second, .val (.ref b1), .val (.ref b5_wt7), .val (.ref b9), .val (.ref b10), .val (.int (q5.toInt32)), .val (.int (((q5.toUInt64 >>> ((32 : Int32) &&& 0x3f).toInt64.toUInt64).toInt64).toInt32)), .val (.ref b1), .unset, .unset, .unset, .unset] [])) _
    refine XS.iconst X12.here hx rfl (hb hby at_79) ?_
    show Steps p.tables e below (T12.setTop (mkF m 80 #[.val (.int p0), .val (.int p1), .val (.int p2), .val (.int p3), .val (.int p4), .val (.long q5), .second, .val (.ref b1), .val (.ref b5_wt7), .val (.ref b9), .val (.ref b10), .val (.int (q5.toInt32)), .val (.int (((q5.toUInt64 >>> ((32 : Int32) &&& 0x3f).toInt64.toUInt64).toInt64).toInt32)), .val (.ref b1), .unset, .unset, .unset, .unset] [(.int (1 : Int32))])) _
    refine XS.goto X12.here hx rfl (pc0 := 80) (pc' := 84) rfl (hb hby at_80) (by decide) (by decide) ?_
    show Steps p.tables e below (T12.setTop (mkF m 84 #[.val (.int p0), .val (.int p1), .val (.int p2), .val (.int p3), .val (.int p4), .val (.long q5), .second, .val (.ref b1), .val (.ref b5_wt7), .val (.ref b9), .val (.ref b10), .val (.int (q5.toInt32)), .val (.int (((q5.toUInt64 >>> ((32 : Int32) &&& 0x3f).toInt64.toUInt64).toInt64).toInt32)), .val (.ref b1), .unset, .unset, .unset, .unset] [(.int (1 : Int32))])) _
    refine XS.istore X12.here hx rfl (hb hby at_84) rfl (l' := #[.val (.int p0), .val (.int p1), .val (.int p2), .val (.int p3), .val (.int p4), .val (.long q5), .second, .val (.ref b1), .val (.ref b5_wt7), .val (.ref b9), .val (.ref b10), .val (.int (q5.toInt32)), .val (.int (((q5.toUInt64 >>> ((32 : Int32) &&& 0x3f).toInt64.toUInt64).toInt64).toInt32)), .val (.ref b1), .val (.int (1 : Int32)), .unset, .unset, .unset]) rfl ?_
    show Steps p.tables e below (T12.setTop (mkF m 86 #[.val (.int p0), .val (.int p1), .val (.int p2), .val (.int p3), .val (.int p4), .val (.long q5), .second, .val (.ref b1), .val (.ref b5_wt7), .val (.ref b9), .val (.ref b10), .val (.int (q5.toInt32)), .val (.int (((q5.toUInt64 >>> ((32 : Int32) &&& 0x3f).toInt64.toUInt64).toInt64).toInt32)), .val (.ref b1), .val (.int (1 : Int32)), .unset, .unset, .unset] [])) _
    refine XS.aload X12.here hx rfl (hb hby at_86) rfl rfl ?_
    show Steps p.tables e below (T12.setTop (mkF m 88 #[.val (.int p0), .val (.int p1), .val (.int p2), .val (.int p3), .val (.int p4), .val (.long q5), .second, .val (.ref b1), .val (.ref b5_wt7), .val (.ref b9), .val (.ref b10), .val (.int (q5.toInt32)), .val (.int (((q5.toUInt64 >>> ((32 : Int32) &&& 0x3f).toInt64.toUInt64).toInt64).toInt32)), .val (.ref b1), .val (.int (1 : Int32)), .unset, .unset, .unset] [(.ref b1)])) _
    refine XS.aload X12.here hx rfl (hb hby at_88) rfl rfl ?_
    show Steps p.tables e below (T12.setTop (mkF m 90 #[.val (.int p0), .val (.int p1), .val (.int p2), .val (.int p3), .val (.int p4), .val (.long q5), .second, .val (.ref b1), .val (.ref b5_wt7), .val (.ref b9), .val (.ref b10), .val (.int (q5.toInt32)), .val (.int (((q5.toUInt64 >>> ((32 : Int32) &&& 0x3f).toInt64.toUInt64).toInt64).toInt32)), .val (.ref b1), .val (.int (1 : Int32)), .unset, .unset, .unset] [(.ref b5_wt7), (.ref b1)])) _
    refine XS.iloadN X12.here hx rfl (hb hby at_90) rfl ?_
    show Steps p.tables e below (T12.setTop (mkF m 91 #[.val (.int p0), .val (.int p1), .val (.int p2), .val (.int p3), .val (.int p4), .val (.long q5), .second, .val (.ref b1), .val (.ref b5_wt7), .val (.ref b9), .val (.ref b10), .val (.int (q5.toInt32)), .val (.int (((q5.toUInt64 >>> ((32 : Int32) &&& 0x3f).toInt64.toUInt64).toInt64).toInt32)), .val (.ref b1), .val (.int (1 : Int32)), .unset, .unset, .unset] [(.int p1), (.ref b5_wt7), (.ref b1)])) _
    refine XS.aload X12.here hx rfl (hb hby at_91) rfl rfl ?_
    show Steps p.tables e below (T12.setTop (mkF m 93 #[.val (.int p0), .val (.int p1), .val (.int p2), .val (.int p3), .val (.int p4), .val (.long q5), .second, .val (.ref b1), .val (.ref b5_wt7), .val (.ref b9), .val (.ref b10), .val (.int (q5.toInt32)), .val (.int (((q5.toUInt64 >>> ((32 : Int32) &&& 0x3f).toInt64.toUInt64).toInt64).toInt32)), .val (.ref b1), .val (.int (1 : Int32)), .unset, .unset, .unset] [(.ref b9), (.int p1), (.ref b5_wt7), (.ref b1)])) _
    refine XS.iloadN X12.here hx rfl (hb hby at_93) rfl ?_
    show Steps p.tables e below (T12.setTop (mkF m 94 #[.val (.int p0), .val (.int p1), .val (.int p2), .val (.int p3), .val (.int p4), .val (.long q5), .second, .val (.ref b1), .val (.ref b5_wt7), .val (.ref b9), .val (.ref b10), .val (.int (q5.toInt32)), .val (.int (((q5.toUInt64 >>> ((32 : Int32) &&& 0x3f).toInt64.toUInt64).toInt64).toInt32)), .val (.ref b1), .val (.int (1 : Int32)), .unset, .unset, .unset] [(.int p2), (.ref b9), (.int p1), (.ref b5_wt7), (.ref b1)])) _
    refine XS.iloadN X12.here hx rfl (hb hby at_94) rfl ?_
    show Steps p.tables e below (T12.setTop (mkF m 95 #[.val (.int p0), .val (.int p1), .val (.int p2), .val (.int p3), .val (.int p4), .val (.long q5), .second, .val (.ref b1), .val (.ref b5_wt7), .val (.ref b9), .val (.ref b10), .val (.int (q5.toInt32)), .val (.int (((q5.toUInt64 >>> ((32 : Int32) &&& 0x3f).toInt64.toUInt64).toInt64).toInt32)), .val (.ref b1), .val (.int (1 : Int32)), .unset, .unset, .unset] [(.int p3), (.int p2), (.ref b9), (.int p1), (.ref b5_wt7), (.ref b1)])) _
    refine st19.trans ?_
    show Steps p.tables e below (T19.setTop (mkF m 98 #[.val (.int p0), .val (.int p1), .val (.int p2), .val (.int p3), .val (.int p4), .val (.long q5), .second, .val (.ref b1), .val (.ref b5_wt7), .val (.ref b9), .val (.ref b10), .val (.int (q5.toInt32)), .val (.int (((q5.toUInt64 >>> ((32 : Int32) &&& 0x3f).toInt64.toUInt64).toInt64).toInt32)), .val (.ref b1), .val (.int (1 : Int32)), .unset, .unset, .unset] [(.ref b1)])) _
    refine XS.astore X19.here hx rfl (hb hby at_98) rfl rfl (l' := #[.val (.int p0), .val (.int p1), .val (.int p2), .val (.int p3), .val (.int p4), .val (.long q5), .second, .val (.ref b1), .val (.ref b5_wt7), .val (.ref b9), .val (.ref b10), .val (.int (q5.toInt32)), .val (.int (((q5.toUInt64 >>> ((32 : Int32) &&& 0x3f).toInt64.toUInt64).toInt64).toInt32)), .val (.ref b1), .val (.int (1 : Int32)), .val (.ref b1), .unset, .unset]) rfl ?_
    show Steps p.tables e below (T19.setTop (mkF m 100 #[.val (.int p0), .val (.int p1), .val (.int p2), .val (.int p3), .val (.int p4), .val (.long q5), .second, .val (.ref b1), .val (.ref b5_wt7), .val (.ref b9), .val (.ref b10), .val (.int (q5.toInt32)), .val (.int (((q5.toUInt64 >>> ((32 : Int32) &&& 0x3f).toInt64.toUInt64).toInt64).toInt32)), .val (.ref b1), .val (.int (1 : Int32)), .val (.ref b1), .unset, .unset] [])) _
    refine XS.aload X19.here hx rfl (hb hby at_100) rfl rfl ?_
    show Steps p.tables e below (T19.setTop (mkF m 102 #[.val (.int p0), .val (.int p1), .val (.int p2), .val (.int p3), .val (.int p4), .val (.long q5), .second, .val (.ref b1), .val (.ref b5_wt7), .val (.ref b9), .val (.ref b10), .val (.int (q5.toInt32)), .val (.int (((q5.toUInt64 >>> ((32 : Int32) &&& 0x3f).toInt64.toUInt64).toInt64).toInt32)), .val (.ref b1), .val (.int (1 : Int32)), .val (.ref b1), .unset, .unset] [(.ref b1)])) _
    refine XS.aload X19.here hx rfl (hb hby at_102) rfl rfl ?_
    show Steps p.tables e below (T19.setTop (mkF m 104 #[.val (.int p0), .val (.int p1), .val (.int p2), .val (.int p3), .val (.int p4), .val (.long q5), .second, .val (.ref b1), .val (.ref b5_wt7), .val (.ref b9), .val (.ref b10), .val (.int (q5.toInt32)), .val (.int (((q5.toUInt64 >>> ((32 : Int32) &&& 0x3f).toInt64.toUInt64).toInt64).toInt32)), .val (.ref b1), .val (.int (1 : Int32)), .val (.ref b1), .unset, .unset] [(.ref b1), (.ref b1)])) _
    refine Jvm.RoadKit.acmp (g := (mkF m 104 #[.val (.int p0), .val (.int p1), .val (.int p2), .val (.int p3), .val (.int p4), .val (.long q5), .second, .val (.ref b1), .val (.ref b5_wt7), .val (.ref b9), .val (.ref b10), .val (.int (q5.toInt32)), .val (.int (((q5.toUInt64 >>> ((32 : Int32) &&& 0x3f).toInt64.toUInt64).toInt64).toInt32)), .val (.ref b1), .val (.int (1 : Int32)), .val (.ref b1), .unset, .unset] [(.ref b1), (.ref b1)])) X19 hx rfl rfl rfl (pc0 := 104) (pc' := 107) (same := true) rfl (hb hby at_104) rfl (decide_eq_true rfl) (by decide) (by decide) ?_
    show Steps p.tables e below (T19.setTop (mkF m 107 #[.val (.int p0), .val (.int p1), .val (.int p2), .val (.int p3), .val (.int p4), .val (.long q5), .second, .val (.ref b1), .val (.ref b5_wt7), .val (.ref b9), .val (.ref b10), .val (.int (q5.toInt32)), .val (.int (((q5.toUInt64 >>> ((32 : Int32) &&& 0x3f).toInt64.toUInt64).toInt64).toInt32)), .val (.ref b1), .val (.int (1 : Int32)), .val (.ref b1), .unset, .unset] [])) _
    refine XS.aload X19.here hx rfl (hb hby at_107) rfl rfl ?_
    show Steps p.tables e below (T19.setTop (mkF m 109 #[.val (.int p0), .val (.int p1), .val (.int p2), .val (.int p3), .val (.int p4), .val (.long q5), .second, .val (.ref b1), .val (.ref b5_wt7), .val (.ref b9), .val (.ref b10), .val (.int (q5.toInt32)), .val (.int (((q5.toUInt64 >>> ((32 : Int32) &&& 0x3f).toInt64.toUInt64).toInt64).toInt32)), .val (.ref b1), .val (.int (1 : Int32)), .val (.ref b1), .unset, .unset] [(.ref b1)])) _
    refine st26.trans ?_
    show Steps p.tables e below (T26.setTop (mkF m 112 #[.val (.int p0), .val (.int p1), .val (.int p2), .val (.int p3), .val (.int p4), .val (.long q5), .second, .val (.ref b1), .val (.ref b5_wt7), .val (.ref b9), .val (.ref b10), .val (.int (q5.toInt32)), .val (.int (((q5.toUInt64 >>> ((32 : Int32) &&& 0x3f).toInt64.toUInt64).toInt64).toInt32)), .val (.ref b1), .val (.int (1 : Int32)), .val (.ref b1), .unset, .unset] [(.ref b5_wt7)])) _
    refine XS.aload X26.here hx rfl (hb hby at_112) rfl rfl ?_
    show Steps p.tables e below (T26.setTop (mkF m 114 #[.val (.int p0), .val (.int p1), .val (.int p2), .val (.int p3), .val (.int p4), .val (.long q5), .second, .val (.ref b1), .val (.ref b5_wt7), .val (.ref b9), .val (.ref b10), .val (.int (q5.toInt32)), .val (.int (((q5.toUInt64 >>> ((32 : Int32) &&& 0x3f).toInt64.toUInt64).toInt64).toInt32)), .val (.ref b1), .val (.int (1 : Int32)), .val (.ref b1), .unset, .unset] [(.ref b5_wt7), (.ref b5_wt7)])) _
    refine Jvm.RoadKit.acmp (g := (mkF m 114 #[.val (.int p0), .val (.int p1), .val (.int p2), .val (.int p3), .val (.int p4), .val (.long q5), .second, .val (.ref b1), .val (.ref b5_wt7), .val (.ref b9), .val (.ref b10), .val (.int (q5.toInt32)), .val (.int (((q5.toUInt64 >>> ((32 : Int32) &&& 0x3f).toInt64.toUInt64).toInt64).toInt32)), .val (.ref b1), .val (.int (1 : Int32)), .val (.ref b1), .unset, .unset] [(.ref b5_wt7), (.ref b5_wt7)])) X26 hx rfl rfl rfl (pc0 := 114) (pc' := 117) (same := true) rfl (hb hby at_114) rfl (decide_eq_true rfl) (by decide) (by decide) ?_
    show Steps p.tables e below (T26.setTop (mkF m 117 #[.val (.int p0), .val (.int p1), .val (.int p2), .val (.int p3), .val (.int p4), .val (.long q5), .second, .val (.ref b1), .val (.ref b5_wt7), .val (.ref b9), .val (.ref b10), .val (.int (q5.toInt32)), .val (.int (((q5.toUInt64 >>> ((32 : Int32) &&& 0x3f).toInt64.toUInt64).toInt64).toInt32)), .val (.ref b1), .val (.int (1 : Int32)), .val (.ref b1), .unset, .unset] [])) _
    refine XS.aload X26.here hx rfl (hb hby at_117) rfl rfl ?_
    show Steps p.tables e below (T26.setTop (mkF m 119 #[.val (.int p0), .val (.int p1), .val (.int p2), .val (.int p3), .val (.int p4), .val (.long q5), .second, .val (.ref b1), .val (.ref b5_wt7), .val (.ref b9), .val (.ref b10), .val (.int (q5.toInt32)), .val (.int (((q5.toUInt64 >>> ((32 : Int32) &&& 0x3f).toInt64.toUInt64).toInt64).toInt32)), .val (.ref b1), .val (.int (1 : Int32)), .val (.ref b1), .unset, .unset] [(.ref b1)])) _
    refine st29.trans ?_
    show Steps p.tables e below (T29.setTop (mkF m 122 #[.val (.int p0), .val (.int p1), .val (.int p2), .val (.int p3), .val (.int p4), .val (.long q5), .second, .val (.ref b1), .val (.ref b5_wt7), .val (.ref b9), .val (.ref b10), .val (.int (q5.toInt32)), .val (.int (((q5.toUInt64 >>> ((32 : Int32) &&& 0x3f).toInt64.toUInt64).toInt64).toInt32)), .val (.ref b1), .val (.int (1 : Int32)), .val (.ref b1), .unset, .unset] [(.int p1)])) _
    refine XS.iloadN X29.here hx rfl (hb hby at_122) rfl ?_
    show Steps p.tables e below (T29.setTop (mkF m 123 #[.val (.int p0), .val (.int p1), .val (.int p2), .val (.int p3), .val (.int p4), .val (.long q5), .second, .val (.ref b1), .val (.ref b5_wt7), .val (.ref b9), .val (.ref b10), .val (.int (q5.toInt32)), .val (.int (((q5.toUInt64 >>> ((32 : Int32) &&& 0x3f).toInt64.toUInt64).toInt64).toInt32)), .val (.ref b1), .val (.int (1 : Int32)), .val (.ref b1), .unset, .unset] [(.int p1), (.int p1)])) _
    refine XS.icmpNo X29.here hx rfl (hb hby at_123) rfl (teq (rfl : p1 = p1)).2 ?_
    show Steps p.tables e below (T29.setTop (mkF m 126 #[.val (.int p0), .val (.int p1), .val (.int p2), .val (.int p3), .val (.int p4), .val (.long q5), .second, .val (.ref b1), .val (.ref b5_wt7), .val (.ref b9), .val (.ref b10), .val (.int (q5.toInt32)), .val (.int (((q5.toUInt64 >>> ((32 : Int32) &&& 0x3f).toInt64.toUInt64).toInt64).toInt32)), .val (.ref b1), .val (.int (1 : Int32)), .val (.ref b1), .unset, .unset] [])) _
    refine XS.aload X29.here hx rfl (hb hby at_126) rfl rfl ?_
    show Steps p.tables e below (T29.setTop (mkF m 128 #[.val (.int p0), .val (.int p1), .val (.int p2), .val (.int p3), .val (.int p4), .val (.long q5), .second, .val (.ref b1), .val (.ref b5_wt7), .val (.ref b9), .val (.ref b10), .val (.int (q5.toInt32)), .val (.int (((q5.toUInt64 >>> ((32 : Int32) &&& 0x3f).toInt64.toUInt64).toInt64).toInt32)), .val (.ref b1), .val (.int (1 : Int32)), .val (.ref b1), .unset, .unset] [(.ref b1)])) _
    refine st33.trans ?_
    show Steps p.tables e below (T33.setTop (mkF m 131 #[.val (.int p0), .val (.int p1), .val (.int p2), .val (.int p3), .val (.int p4), .val (.long q5), .second, .val (.ref b1), .val (.ref b5_wt7), .val (.ref b9), .val (.ref b10), .val (.int (q5.toInt32)), .val (.int (((q5.toUInt64 >>> ((32 : Int32) &&& 0x3f).toInt64.toUInt64).toInt64).toInt32)), .val (.ref b1), .val (.int (1 : Int32)), .val (.ref b1), .unset, .unset] [(.ref b9)])) _
    refine XS.aload X33.here hx rfl (hb hby at_131) rfl rfl ?_
    show Steps p.tables e below (T33.setTop (mkF m 133 #[.val (.int p0), .val (.int p1), .val (.int p2), .val (.int p3), .val (.int p4), .val (.long q5), .second, .val (.ref b1), .val (.ref b5_wt7), .val (.ref b9), .val (.ref b10), .val (.int (q5.toInt32)), .val (.int (((q5.toUInt64 >>> ((32 : Int32) &&& 0x3f).toInt64.toUInt64).toInt64).toInt32)), .val (.ref b1), .val (.int (1 : Int32)), .val (.ref b1), .unset, .unset] [(.ref b9), (.ref b9)])) _
    refine Jvm.RoadKit.acmp (g := (mkF m 133 #[.val (.int p0), .val (.int p1), .val (.int p2), .val (.int p3), .val (.int p4), .val (.long q5), .second, .val (.ref b1), .val (.ref b5_wt7), .val (.ref b9), .val (.ref b10), .val (.int (q5.toInt32)), .val (.int (((q5.toUInt64 >>> ((32 : Int32) &&& 0x3f).toInt64.toUInt64).toInt64).toInt32)), .val (.ref b1), .val (.int (1 : Int32)), .val (.ref b1), .unset, .unset] [(.ref b9), (.ref b9)])) X33 hx rfl rfl rfl (pc0 := 133) (pc' := 136) (same := true) rfl (hb hby at_133) rfl (decide_eq_true rfl) (by decide) (by decide) ?_
    show Steps p.tables e below (T33.setTop (mkF m 136 #[.val (.int p0), .val (.int p1), .val (.int p2), .val (.int p3), .val (.int p4), .val (.long q5), .second, .val (.ref b1), .val (.ref b5_wt7), .val (.ref b9), .val (.ref b10), .val (.int (q5.toInt32)), .val (.int (((q5.toUInt64 >>> ((32 : Int32) &&& 0x3f).toInt64.toUInt64).toInt64).toInt32)), .val (.ref b1), .val (.int (1 : Int32)), .val (.ref b1), .unset, .unset] [])) _
    refine XS.aload X33.here hx rfl (hb hby at_136) rfl rfl ?_
    show Steps p.tables e below (T33.setTop (mkF m 138 #[.val (.int p0), .val (.int p1), .val (.int p2), .val (.int p3), .val (.int p4), .val (.long q5), .second, .val (.ref b1), .val (.ref b5_wt7), .val (.ref b9), .val (.ref b10), .val (.int (q5.toInt32)), .val (.int (((q5.toUInt64 >>> ((32 : Int32) &&& 0x3f).toInt64.toUInt64).toInt64).toInt32)), .val (.ref b1), .val (.int (1 : Int32)), .val (.ref b1), .unset, .unset] [(.ref b1)])) _
    refine st36.trans ?_
    show Steps p.tables e below (T36.setTop (mkF m 141 #[.val (.int p0), .val (.int p1), .val (.int p2), .val (.int p3), .val (.int p4), .val (.long q5), .second, .val (.ref b1), .val (.ref b5_wt7), .val (.ref b9), .val (.ref b10), .val (.int (q5.toInt32)), .val (.int (((q5.toUInt64 >>> ((32 : Int32) &&& 0x3f).toInt64.toUInt64).toInt64).toInt32)), .val (.ref b1), .val (.int (1 : Int32)), .val (.ref b1), .unset, .unset] [(.int p2)])) _
    refine XS.iloadN X36.here hx rfl (hb hby at_141) rfl ?_
    show Steps p.tables e below (T36.setTop (mkF m 142 #[.val (.int p0), .val (.int p1), .val (.int p2), .val (.int p3), .val (.int p4), .val (.long q5), .second, .val (.ref b1), .val (.ref b5_wt7), .val (.ref b9), .val (.ref b10), .val (.int (q5.toInt32)), .val (.int (((q5.toUInt64 >>> ((32 : Int32) &&& 0x3f).toInt64.toUInt64).toInt64).toInt32)), .val (.ref b1), .val (.int (1 : Int32)), .val (.ref b1), .unset, .unset] [(.int p2), (.int p2)])) _
    refine XS.icmpNo X36.here hx rfl (hb hby at_142) rfl (teq (rfl : p2 = p2)).2 ?_
    show Steps p.tables e below (T36.setTop (mkF m 145 #[.val (.int p0), .val (.int p1), .val (.int p2), .val (.int p3), .val (.int p4), .val (.long q5), .second, .val (.ref b1), .val (.ref b5_wt7), .val (.ref b9), .val (.ref b10), .val (.int (q5.toInt32)), .val (.int (((q5.toUInt64 >>> ((32 : Int32) &&& 0x3f).toInt64.toUInt64).toInt64).toInt32)), .val (.ref b1), .val (.int (1 : Int32)), .val (.ref b1), .unset, .unset] [])) _
    refine XS.aload X36.here hx rfl (hb hby at_145) rfl rfl ?_
    show Steps p.tables e below (T36.setTop (mkF m 147 #[.val (.int p0), .val (.int p1), .val (.int p2), .val (.int p3), .val (.int p4), .val (.long q5), .second, .val (.ref b1), .val (.ref b5_wt7), .val (.ref b9), .val (.ref b10), .val (.int (q5.toInt32)), .val (.int (((q5.toUInt64 >>> ((32 : Int32) &&& 0x3f).toInt64.toUInt64).toInt64).toInt32)), .val (.ref b1), .val (.int (1 : Int32)), .val (.ref b1), .unset, .unset] [(.ref b1)])) _
    refine st40.trans ?_
    show Steps p.tables e below (T40.setTop (mkF m 150 #[.val (.int p0), .val (.int p1), .val (.int p2), .val (.int p3), .val (.int p4), .val (.long q5), .second, .val (.ref b1), .val (.ref b5_wt7), .val (.ref b9), .val (.ref b10), .val (.int (q5.toInt32)), .val (.int (((q5.toUInt64 >>> ((32 : Int32) &&& 0x3f).toInt64.toUInt64).toInt64).toInt32)), .val (.ref b1), .val (.int (1 : Int32)), .val (.ref b1), .unset, .unset] [(.int p3)])) _
    refine XS.iloadN X40.here hx rfl (hb hby at_150) rfl ?_
    show Steps p.tables e below (T40.setTop (mkF m 151 #[.val (.int p0), .val (.int p1), .val (.int p2), .val (.int p3), .val (.int p4), .val (.long q5), .second, .val (.ref b1), .val (.ref b5_wt7), .val (.ref b9), .val (.ref b10), .val (.int (q5.toInt32)), .val (.int (((q5.toUInt64 >>> ((32 : Int32) &&& 0x3f).toInt64.toUInt64).toInt64).toInt32)), .val (.ref b1), .val (.int (1 : Int32)), .val (.ref b1), .unset, .unset] [(.int p3), (.int p3)])) _
    refine XS.icmpNo X40.here hx rfl (hb hby at_151) rfl (teq (rfl : p3 = p3)).2 ?_
    show Steps p.tables e below (T40.setTop (mkF m 154 #[.val (.int p0), .val (.int p1), .val (.int p2), .val (.int p3), .val (.int p4), .val (.long q5), .second, .val (.ref b1), .val (.ref b5_wt7), .val (.ref b9), .val (.ref b10), .val (.int (q5.toInt32)), .val (.int (((q5.toUInt64 >>> ((32 : Int32) &&& 0x3f).toInt64.toUInt64).toInt64).toInt32)), .val (.ref b1), .val (.int (1 : Int32)), .val (.ref b1), .unset, .unset] [])) _
    refine XS.iconst X40.here hx rfl (hb hby at_154) ?_
    show Steps p.tables e below (T40.setTop (mkF m 155 #[.val (.int p0), .val (.int p1), .val (.int p2), .val (.int p3), .val (.int p4), .val (.long q5), .second, .val (.ref b1), .val (.ref b5_wt7), .val (.ref b9), .val (.ref b10), .val (.int (q5.toInt32)), .val (.int (((q5.toUInt64 >>> ((32 : Int32) &&& 0x3f).toInt64.toUInt64).toInt64).toInt32)), .val (.ref b1), .val (.int (1 : Int32)), .val (.ref b1), .unset, .unset] [(.int (1 : Int32))])) _
    refine XS.goto X40.here hx rfl (pc0 := 155) (pc' := 159) rfl (hb hby at_155) (by decide) (by decide) ?_
    show Steps p.tables e below (T40.setTop (mkF m 159 #[.val (.int p0), .val (.int p1), .val (.int p2), .val (.int p3), .val (.int p4), .val (.long q5), .second, .val (.ref b1), .val (.ref b5_wt7), .val (.ref b9), .val (.ref b10), .val (.int (q5.toInt32)), .val (.int (((q5.toUInt64 >>> ((32 : Int32) &&& 0x3f).toInt64.toUInt64).toInt64).toInt32)), .val (.ref b1), .val (.int (1 : Int32)), .val (.ref b1), .unset, .unset] [(.int (1 : Int32))])) _
    refine XS.istore X40.here hx rfl (hb hby at_159) rfl (l' := #[.val (.int p0), .val (.int p1), .val (.int p2), .val (.int p3), .val (.int p4), .val (.long q5), .second, .val (.ref b1), .val (.ref b5_wt7), .val (.ref b9), .val (.ref b10), .val (.int (q5.toInt32)), .val (.int (((q5.toUInt64 >>> ((32 : Int32) &&& 0x3f).toInt64.toUInt64).toInt64).toInt32)), .val (.ref b1), .val (.int (1 : Int32)), .val (.ref b1), .val (.int (1 : Int32)), .unset]) rfl ?_
    show Steps p.tables e below (T40.setTop (mkF m 161 #[.val (.int p0), .val (.int p1), .val (.int p2), .val (.int p3), .val (.int p4), .val (.long q5), .second, .val (.ref b1), .val (.ref b5_wt7), .val (.ref b9), .val (.ref b10), .val (.int (q5.toInt32)), .val (.int (((q5.toUInt64 >>> ((32 : Int32) &&& 0x3f).toInt64.toUInt64).toInt64).toInt32)), .val (.ref b1), .val (.int (1 : Int32)), .val (.ref b1), .val (.int (1 : Int32)), .unset] [])) _
    refine XS.aload X40.here hx rfl (hb hby at_161) rfl rfl ?_
    exact kt
  by_cases hz : p3 = (0 : Int32)
  · obtain ⟨cq45, kq45, q45a, q45b, q45c⟩ := isOf hZ e40 u19_0
    obtain ⟨_, _, ⟨T45, L45, k45, n45⟩, -, X45, hSc45, hge45, ⟨Lc45, hQ45, l45, y45, z45⟩, st45⟩ := X40.virtualBackS hx (y := (⟨"com/example/octets_to_session/octetstosession/core/Packet", "reader", "()Lcom/example/octets_to_session/octetstosession/core/PacketReader;"⟩ : MethodName)) (z := (⟨"com/example/octets_to_session/octetstosession/core/Packet", "reader", "()Lcom/example/octets_to_session/octetstosession/core/PacketReader;"⟩ : MethodName)) hown (mvT hZ (hw _ (List.mem_of_getElem? (i := 59) rfl))) (mvT hZ (hw _ (List.mem_of_getElem? (i := 60) rfl))) (notFace_of_selects (args := #[]) (mvT hZ (hw _ (List.mem_of_getElem? (i := 62) rfl)))) (mvT hZ (hw _ (List.mem_of_getElem? (i := 62) rfl))) (mvT hZ (hw _ (List.mem_of_getElem? (i := 61) rfl))) (by decide) (backOfS (W := 0) (rm_reader_10 l Z a0 hw [] b1 b5_wt7 p1 b9 (p4 &&& (7 : Int32)) p2 p3 k9 T19.heap n0 O19 u19_0 u19_1 u19_2 u19_3 u19_4 u19_5 u19_6 ge_b1 V_b9 ge_b9 ne_b1_b9 hz (own_zero hz) ) hZ (hw _ (List.mem_of_getElem? (i := 63) rfl)) (hw _ (List.mem_of_getElem? (i := 2) rfl)) (by decide) (by decide)) q45a q45c (g := (mkF m 163 #[.val (.int p0), .val (.int p1), .val (.int p2), .val (.int p3), .val (.int p4), .val (.long q5), .second, .val (.ref b1), .val (.ref b5_wt7), .val (.ref b9), .val (.ref b10), .val (.int (q5.toInt32)), .val (.int (((q5.toUInt64 >>> ((32 : Int32) &&& 0x3f).toInt64.toUInt64).toInt64).toInt32)), .val (.ref b1), .val (.int (1 : Int32)), .val (.ref b1), .val (.int (1 : Int32)), .unset] [(.ref b1)])) rfl (by rw [hml]; rfl) (Steps.refl _) (argsL := []) (rest := []) (lenOf pd___Lcom_example_octets_to_session_octetstosession_core_PacketReader_ rfl) rfl (by show 2 * 0 + _ ≤ _; exact Nat.le_of_eq rfl) (hb hby at_163) (fun _ _ => ⟨rfl, e40, (by decide : 3 + 3 ≤ _), (by decide : 21 + 32 ≤ _)⟩)
    dsimp only [Pt.U, Pt.locs, Pt.cells, Pt.slots] at X45 l45 y45 z45 st45 hQ45 hSc45 hge45
    subst l45 y45 z45
    obtain ⟨X45, hS45, hZ, hown⟩ := rebS hS0 (by rw [e40]; exact hk19) X45 hSc45 hge45 hZ hown
    obtain ⟨b45_b47, b45_b52_a54, rfl, N45q, Kc45, u45_0, u45_1, u45_2, u45_3, u45_4, u45_5, u45_6, u45_7, u45_8, u45_9, u45_10, u45_11, u45_12, u45_13⟩ := hQ45
    have N45 := Fr.app N40 N45q
    have ne_b1_b45_b47 : b1 ≠ b45_b47 := Nat.ne_of_lt (Nat.lt_of_lt_of_le u19_0.lt u45_13)
    have ne_b9_b45_b47 : b9 ≠ b45_b47 := Nat.ne_of_lt (Nat.lt_of_lt_of_le V_b9.lt u45_13)
    have ne_b10_b45_b47 : b10 ≠ b45_b47 := Nat.ne_of_lt (Nat.lt_of_lt_of_le V_b10.lt u45_13)
    have V_b9 := V_b9.keep Kc45 (ninS (Ne.symm ne_b1_b9) nin0)
    have V_b10 := V_b10.keep Kc45 (ninS (Ne.symm ne_b1_b10) nin0)
    have O45 := O19.keep Kc45 (allS ge_b1 all0)
    have hk45 : T45.heap.size ≤ T45.heap.size := Nat.le_refl _
    obtain ⟨cq67, kq67, q67a, q67b, q67c⟩ := isOf hZ rfl u45_7
    obtain ⟨_, _, ⟨T67, L67, k67, n67⟩, -, X67, ⟨Lc67, hQ67, l67, y67, z67⟩, st67⟩ := X45.virtualBack hx (y := (⟨"com/example/octets_to_session/octetstosession/core/PacketReader", "atEnd", "()Z"⟩ : MethodName)) (z := (⟨"com/example/octets_to_session/octetstosession/core/PacketReader", "atEnd", "()Z"⟩ : MethodName)) hown (mvT hZ (hw _ (List.mem_of_getElem? (i := 91) rfl))) (mvT hZ (hw _ (List.mem_of_getElem? (i := 92) rfl))) (notFace_of_selects (args := #[]) (mvT hZ (hw _ (List.mem_of_getElem? (i := 94) rfl)))) (mvT hZ (hw _ (List.mem_of_getElem? (i := 94) rfl))) (mvT hZ (hw _ (List.mem_of_getElem? (i := 93) rfl))) (by decide) (backOf (W := 0) (rm_atEnd_13 l Z a0 hw [] b45_b47 p2 (p2 + p3) T45.heap n0 O45 u45_9 u45_10 (own_zero hz) ) hZ (hw _ (List.mem_of_getElem? (i := 95) rfl)) (hw _ (List.mem_of_getElem? (i := 68) rfl)) (by decide) (by decide)) q67a q67c (g := (mkF m 166 #[.val (.int p0), .val (.int p1), .val (.int p2), .val (.int p3), .val (.int p4), .val (.long q5), .second, .val (.ref b1), .val (.ref b5_wt7), .val (.ref b9), .val (.ref b10), .val (.int (q5.toInt32)), .val (.int (((q5.toUInt64 >>> ((32 : Int32) &&& 0x3f).toInt64.toUInt64).toInt64).toInt32)), .val (.ref b1), .val (.int (1 : Int32)), .val (.ref b1), .val (.int (1 : Int32)), .unset] [(.ref b45_b47)])) rfl (by rw [hml]; rfl) (Steps.refl _) (argsL := []) (rest := []) (lenOf pd___Z rfl) rfl (by show 2 * 0 + _ ≤ _; exact Nat.le_of_eq rfl) (hb hby at_166) (fun _ _ => ⟨rfl, rfl, (by decide : 6 + 0 ≤ _), (by decide : 53 + 0 ≤ _)⟩)
    dsimp only [Pt.U, Pt.locs, Pt.cells, Pt.slots] at X67 l67 y67 z67 st67 hQ67
    subst l67 y67 z67
    obtain ⟨rfl, N67q, e67⟩ := hQ67
    have N67 := Fr.app N45 N67q
    have pre75 : ∀ t, Steps p.tables e below (T67.setTop (mkF m 208 #[.val (.int p0), .val (.int p1), .val (.int p2), .val (.int p3), .val (.int p4), .val (.long q5), .second, .val (.ref b1), .val (.ref b5_wt7), .val (.ref b9), .val (.ref b10), .val (.int (q5.toInt32)), .val (.int (((q5.toUInt64 >>> ((32 : Int32) &&& 0x3f).toInt64.toUInt64).toInt64).toInt32)), .val (.ref b1), .val (.int (1 : Int32)), .val (.ref b1), .val (.int (1 : Int32)), .val (.int (1 : Int32))] [(.int (1 : Int32))])) t → Steps p.tables e below (s₁.setTop (entryFrame m #[(.int p0), (.int p1), (.int p2), (.int p3), (.int p4), (.long q5)] maxLocals)) t := by
      intro t kt
      refine pre44 t ?_
      show Steps p.tables e below (T40.setTop (mkF m 163 #[.val (.int p0), .val (.int p1), .val (.int p2), .val (.int p3), .val (.int p4), .val (.long q5), .second, .val (.ref b1), .val (.ref b5_wt7), .val (.ref b9), .val (.ref b10), .val (.int (q5.toInt32)), .val (.int (((q5.toUInt64 >>> ((32 : Int32) &&& 0x3f).toInt64.toUInt64).toInt64).toInt32)), .val (.ref b1), .val (.int (1 : Int32)), .val (.ref b1), .val (.int (1 : Int32)), .unset] [(.ref b1)])) _
      refine st45.trans ?_
      show Steps p.tables e below (T45.setTop (mkF m 166 #[.val (.int p0), .val (.int p1), .val (.int p2), .val (.int p3), .val (.int p4), .val (.long q5), .second, .val (.ref b1), .val (.ref b5_wt7), .val (.ref b9), .val (.ref b10), .val (.int (q5.toInt32)), .val (.int (((q5.toUInt64 >>> ((32 : Int32) &&& 0x3f).toInt64.toUInt64).toInt64).toInt32)), .val (.ref b1), .val (.int (1 : Int32)), .val (.ref b1), .val (.int (1 : Int32)), .unset] [(.ref b45_b47)])) _
      refine st67.trans ?_
      show Steps p.tables e below (T67.setTop (mkF m 169 #[.val (.int p0), .val (.int p1), .val (.int p2), .val (.int p3), .val (.int p4), .val (.long q5), .second, .val (.ref b1), .val (.ref b5_wt7), .val (.ref b9), .val (.ref b10), .val (.int (q5.toInt32)), .val (.int (((q5.toUInt64 >>> ((32 : Int32) &&& 0x3f).toInt64.toUInt64).toInt64).toInt32)), .val (.ref b1), .val (.int (1 : Int32)), .val (.ref b1), .val (.int (1 : Int32)), .unset] [(.int (1 : Int32))])) _
      refine XS.iloadN X67.here hx rfl (hb hby at_169) rfl ?_
      show Steps p.tables e below (T67.setTop (mkF m 170 #[.val (.int p0), .val (.int p1), .val (.int p2), .val (.int p3), .val (.int p4), .val (.long q5), .second, .val (.ref b1), .val (.ref b5_wt7), .val (.ref b9), .val (.ref b10), .val (.int (q5.toInt32)), .val (.int (((q5.toUInt64 >>> ((32 : Int32) &&& 0x3f).toInt64.toUInt64).toInt64).toInt32)), .val (.ref b1), .val (.int (1 : Int32)), .val (.ref b1), .val (.int (1 : Int32)), .unset] [(.int p3), (.int (1 : Int32))])) _
      refine XS.ifNo X67.here hx rfl (hb hby at_170) rfl ((if0 _ _).trans (teq hz).2) ?_
      show Steps p.tables e below (T67.setTop (mkF m 173 #[.val (.int p0), .val (.int p1), .val (.int p2), .val (.int p3), .val (.int p4), .val (.long q5), .second, .val (.ref b1), .val (.ref b5_wt7), .val (.ref b9), .val (.ref b10), .val (.int (q5.toInt32)), .val (.int (((q5.toUInt64 >>> ((32 : Int32) &&& 0x3f).toInt64.toUInt64).toInt64).toInt32)), .val (.ref b1), .val (.int (1 : Int32)), .val (.ref b1), .val (.int (1 : Int32)), .unset] [(.int (1 : Int32))])) _
      refine XS.iconst X67.here hx rfl (hb hby at_173) ?_
      show Steps p.tables e below (T67.setTop (mkF m 174 #[.val (.int p0), .val (.int p1), .val (.int p2), .val (.int p3), .val (.int p4), .val (.long q5), .second, .val (.ref b1), .val (.ref b5_wt7), .val (.ref b9), .val (.ref b10), .val (.int (q5.toInt32)), .val (.int (((q5.toUInt64 >>> ((32 : Int32) &&& 0x3f).toInt64.toUInt64).toInt64).toInt32)), .val (.ref b1), .val (.int (1 : Int32)), .val (.ref b1), .val (.int (1 : Int32)), .unset] [(.int (1 : Int32)), (.int (1 : Int32))])) _
      refine XS.goto X67.here hx rfl (pc0 := 174) (pc' := 178) rfl (hb hby at_174) (by decide) (by decide) ?_
      show Steps p.tables e below (T67.setTop (mkF m 178 #[.val (.int p0), .val (.int p1), .val (.int p2), .val (.int p3), .val (.int p4), .val (.long q5), .second, .val (.ref b1), .val (.ref b5_wt7), .val (.ref b9), .val (.ref b10), .val (.int (q5.toInt32)), .val (.int (((q5.toUInt64 >>> ((32 : Int32) &&& 0x3f).toInt64.toUInt64).toInt64).toInt32)), .val (.ref b1), .val (.int (1 : Int32)), .val (.ref b1), .val (.int (1 : Int32)), .unset] [(.int (1 : Int32)), (.int (1 : Int32))])) _
      refine XS.icmpNo X67.here hx rfl (hb hby at_178) rfl (teq (by decide : (1 : Int32) = (1 : Int32))).2 ?_
      show Steps p.tables e below (T67.setTop (mkF m 181 #[.val (.int p0), .val (.int p1), .val (.int p2), .val (.int p3), .val (.int p4), .val (.long q5), .second, .val (.ref b1), .val (.ref b5_wt7), .val (.ref b9), .val (.ref b10), .val (.int (q5.toInt32)), .val (.int (((q5.toUInt64 >>> ((32 : Int32) &&& 0x3f).toInt64.toUInt64).toInt64).toInt32)), .val (.ref b1), .val (.int (1 : Int32)), .val (.ref b1), .val (.int (1 : Int32)), .unset] [])) _
      refine XS.iconst X67.here hx rfl (hb hby at_181) ?_
      show Steps p.tables e below (T67.setTop (mkF m 182 #[.val (.int p0), .val (.int p1), .val (.int p2), .val (.int p3), .val (.int p4), .val (.long q5), .second, .val (.ref b1), .val (.ref b5_wt7), .val (.ref b9), .val (.ref b10), .val (.int (q5.toInt32)), .val (.int (((q5.toUInt64 >>> ((32 : Int32) &&& 0x3f).toInt64.toUInt64).toInt64).toInt32)), .val (.ref b1), .val (.int (1 : Int32)), .val (.ref b1), .val (.int (1 : Int32)), .unset] [(.int (1 : Int32))])) _
      refine XS.goto X67.here hx rfl (pc0 := 182) (pc' := 186) rfl (hb hby at_182) (by decide) (by decide) ?_
      show Steps p.tables e below (T67.setTop (mkF m 186 #[.val (.int p0), .val (.int p1), .val (.int p2), .val (.int p3), .val (.int p4), .val (.long q5), .second, .val (.ref b1), .val (.ref b5_wt7), .val (.ref b9), .val (.ref b10), .val (.int (q5.toInt32)), .val (.int (((q5.toUInt64 >>> ((32 : Int32) &&& 0x3f).toInt64.toUInt64).toInt64).toInt32)), .val (.ref b1), .val (.int (1 : Int32)), .val (.ref b1), .val (.int (1 : Int32)), .unset] [(.int (1 : Int32))])) _
      refine XS.istore X67.here hx rfl (hb hby at_186) rfl (l' := #[.val (.int p0), .val (.int p1), .val (.int p2), .val (.int p3), .val (.int p4), .val (.long q5), .second, .val (.ref b1), .val (.ref b5_wt7), .val (.ref b9), .val (.ref b10), .val (.int (q5.toInt32)), .val (.int (((q5.toUInt64 >>> ((32 : Int32) &&& 0x3f).toInt64.toUInt64).toInt64).toInt32)), .val (.ref b1), .val (.int (1 : Int32)), .val (.ref b1), .val (.int (1 : Int32)), .val (.int (1 : Int32))]) rfl ?_
      show Steps p.tables e below (T67.setTop (mkF m 188 #[.val (.int p0), .val (.int p1), .val (.int p2), .val (.int p3), .val (.int p4), .val (.long q5), .second, .val (.ref b1), .val (.ref b5_wt7), .val (.ref b9), .val (.ref b10), .val (.int (q5.toInt32)), .val (.int (((q5.toUInt64 >>> ((32 : Int32) &&& 0x3f).toInt64.toUInt64).toInt64).toInt32)), .val (.ref b1), .val (.int (1 : Int32)), .val (.ref b1), .val (.int (1 : Int32)), .val (.int (1 : Int32))] [])) _
      refine XS.iload X67.here hx rfl (hb hby at_188) rfl ?_
      show Steps p.tables e below (T67.setTop (mkF m 190 #[.val (.int p0), .val (.int p1), .val (.int p2), .val (.int p3), .val (.int p4), .val (.long q5), .second, .val (.ref b1), .val (.ref b5_wt7), .val (.ref b9), .val (.ref b10), .val (.int (q5.toInt32)), .val (.int (((q5.toUInt64 >>> ((32 : Int32) &&& 0x3f).toInt64.toUInt64).toInt64).toInt32)), .val (.ref b1), .val (.int (1 : Int32)), .val (.ref b1), .val (.int (1 : Int32)), .val (.int (1 : Int32))] [(.int (1 : Int32))])) _
      refine XS.ifNo X67.here hx rfl (hb hby at_190) rfl ((if0 _ _).trans (feq (by decide : ¬ ((1 : Int32) = (0 : Int32)))).1) ?_
      show Steps p.tables e below (T67.setTop (mkF m 193 #[.val (.int p0), .val (.int p1), .val (.int p2), .val (.int p3), .val (.int p4), .val (.long q5), .second, .val (.ref b1), .val (.ref b5_wt7), .val (.ref b9), .val (.ref b10), .val (.int (q5.toInt32)), .val (.int (((q5.toUInt64 >>> ((32 : Int32) &&& 0x3f).toInt64.toUInt64).toInt64).toInt32)), .val (.ref b1), .val (.int (1 : Int32)), .val (.ref b1), .val (.int (1 : Int32)), .val (.int (1 : Int32))] [])) _
      refine XS.iload X67.here hx rfl (hb hby at_193) rfl ?_
      show Steps p.tables e below (T67.setTop (mkF m 195 #[.val (.int p0), .val (.int p1), .val (.int p2), .val (.int p3), .val (.int p4), .val (.long q5), .second, .val (.ref b1), .val (.ref b5_wt7), .val (.ref b9), .val (.ref b10), .val (.int (q5.toInt32)), .val (.int (((q5.toUInt64 >>> ((32 : Int32) &&& 0x3f).toInt64.toUInt64).toInt64).toInt32)), .val (.ref b1), .val (.int (1 : Int32)), .val (.ref b1), .val (.int (1 : Int32)), .val (.int (1 : Int32))] [(.int (1 : Int32))])) _
      refine XS.ifNo X67.here hx rfl (hb hby at_195) rfl ((if0 _ _).trans (feq (by decide : ¬ ((1 : Int32) = (0 : Int32)))).1) ?_
      show Steps p.tables e below (T67.setTop (mkF m 198 #[.val (.int p0), .val (.int p1), .val (.int p2), .val (.int p3), .val (.int p4), .val (.long q5), .second, .val (.ref b1), .val (.ref b5_wt7), .val (.ref b9), .val (.ref b10), .val (.int (q5.toInt32)), .val (.int (((q5.toUInt64 >>> ((32 : Int32) &&& 0x3f).toInt64.toUInt64).toInt64).toInt32)), .val (.ref b1), .val (.int (1 : Int32)), .val (.ref b1), .val (.int (1 : Int32)), .val (.int (1 : Int32))] [])) _
      refine XS.iload X67.here hx rfl (hb hby at_198) rfl ?_
      show Steps p.tables e below (T67.setTop (mkF m 200 #[.val (.int p0), .val (.int p1), .val (.int p2), .val (.int p3), .val (.int p4), .val (.long q5), .second, .val (.ref b1), .val (.ref b5_wt7), .val (.ref b9), .val (.ref b10), .val (.int (q5.toInt32)), .val (.int (((q5.toUInt64 >>> ((32 : Int32) &&& 0x3f).toInt64.toUInt64).toInt64).toInt32)), .val (.ref b1), .val (.int (1 : Int32)), .val (.ref b1), .val (.int (1 : Int32)), .val (.int (1 : Int32))] [(.int (1 : Int32))])) _
      refine XS.ifNo X67.here hx rfl (hb hby at_200) rfl ((if0 _ _).trans (feq (by decide : ¬ ((1 : Int32) = (0 : Int32)))).1) ?_
      show Steps p.tables e below (T67.setTop (mkF m 203 #[.val (.int p0), .val (.int p1), .val (.int p2), .val (.int p3), .val (.int p4), .val (.long q5), .second, .val (.ref b1), .val (.ref b5_wt7), .val (.ref b9), .val (.ref b10), .val (.int (q5.toInt32)), .val (.int (((q5.toUInt64 >>> ((32 : Int32) &&& 0x3f).toInt64.toUInt64).toInt64).toInt32)), .val (.ref b1), .val (.int (1 : Int32)), .val (.ref b1), .val (.int (1 : Int32)), .val (.int (1 : Int32))] [])) _
      refine XS.iconst X67.here hx rfl (hb hby at_203) ?_
      show Steps p.tables e below (T67.setTop (mkF m 204 #[.val (.int p0), .val (.int p1), .val (.int p2), .val (.int p3), .val (.int p4), .val (.long q5), .second, .val (.ref b1), .val (.ref b5_wt7), .val (.ref b9), .val (.ref b10), .val (.int (q5.toInt32)), .val (.int (((q5.toUInt64 >>> ((32 : Int32) &&& 0x3f).toInt64.toUInt64).toInt64).toInt32)), .val (.ref b1), .val (.int (1 : Int32)), .val (.ref b1), .val (.int (1 : Int32)), .val (.int (1 : Int32))] [(.int (1 : Int32))])) _
      refine XS.goto X67.here hx rfl (pc0 := 204) (pc' := 208) rfl (hb hby at_204) (by decide) (by decide) ?_
      exact kt
    obtain ⟨fs, hr, hrun, hended, q1, q2, q3, q4⟩ := X67.leaveW hS45 (by rw [e67]; exact hk45) (v := some (.int (1 : Int32))) (fun h => by rw [Bd.returns] at h; cases h)
    refine ⟨_, _, pre75 _ ?_, hrun, hended, _, _, rfl, ?_, ⟨_, rfl⟩, q2, q3, q4.mono (by decide) (by decide)⟩
    · show Steps p.tables e below (T67.setTop (mkF m 208 #[.val (.int p0), .val (.int p1), .val (.int p2), .val (.int p3), .val (.int p4), .val (.long q5), .second, .val (.ref b1), .val (.ref b5_wt7), .val (.ref b9), .val (.ref b10), .val (.int (q5.toInt32)), .val (.int (((q5.toUInt64 >>> ((32 : Int32) &&& 0x3f).toInt64.toUInt64).toInt64).toInt32)), .val (.ref b1), .val (.int (1 : Int32)), .val (.ref b1), .val (.int (1 : Int32)), .val (.int (1 : Int32))] [(.int (1 : Int32))])) _
      exact retN X67 hx (t := .boolean) Bd.returns (by simp) (hb hby at_208) hr
    · show Q_rm0 Z p0 p1 p2 p3 p4 q5 w_BY_CODE w_PUBREL w_SUBSCRIBE w_CONNECT k_BY_CODE w_PUBCOMP w_SUBACK w_UNSUBSCRIBE w_AUTH w_PUBACK w_DISCONNECT w_PUBLISH w_PINGREQ w_PINGRESP w_PUBREC w_UNSUBACK w_RESERVED w_CONNACK h0 n0 _ T67.heap _
      rw [e67]
      exact ⟨rfl, N67⟩
  · obtain ⟨cq76, kq76, q76a, q76b, q76c⟩ := isOf hZ e40 u19_0
    obtain ⟨_, _, ⟨T76, L76, k76, n76⟩, -, X76, hSc76, hge76, ⟨Lc76, hQ76, l76, y76, z76⟩, st76⟩ := X40.virtualBackS hx (y := (⟨"com/example/octets_to_session/octetstosession/core/Packet", "reader", "()Lcom/example/octets_to_session/octetstosession/core/PacketReader;"⟩ : MethodName)) (z := (⟨"com/example/octets_to_session/octetstosession/core/Packet", "reader", "()Lcom/example/octets_to_session/octetstosession/core/PacketReader;"⟩ : MethodName)) hown (mvT hZ (hw _ (List.mem_of_getElem? (i := 59) rfl))) (mvT hZ (hw _ (List.mem_of_getElem? (i := 60) rfl))) (notFace_of_selects (args := #[]) (mvT hZ (hw _ (List.mem_of_getElem? (i := 62) rfl)))) (mvT hZ (hw _ (List.mem_of_getElem? (i := 62) rfl))) (mvT hZ (hw _ (List.mem_of_getElem? (i := 61) rfl))) (by decide) (backOfS (W := 0) (rm_reader_14 l Z a0 hw [] b1 b5_wt7 p1 b9 (p4 &&& (7 : Int32)) p2 p3 k9 T19.heap n0 O19 u19_0 u19_1 u19_2 u19_3 u19_4 u19_5 u19_6 ge_b1 V_b9 ge_b9 ne_b1_b9 hz (own_nonzero hz) ) hZ (hw _ (List.mem_of_getElem? (i := 63) rfl)) (hw _ (List.mem_of_getElem? (i := 2) rfl)) (by decide) (by decide)) q76a q76c (g := (mkF m 163 #[.val (.int p0), .val (.int p1), .val (.int p2), .val (.int p3), .val (.int p4), .val (.long q5), .second, .val (.ref b1), .val (.ref b5_wt7), .val (.ref b9), .val (.ref b10), .val (.int (q5.toInt32)), .val (.int (((q5.toUInt64 >>> ((32 : Int32) &&& 0x3f).toInt64.toUInt64).toInt64).toInt32)), .val (.ref b1), .val (.int (1 : Int32)), .val (.ref b1), .val (.int (1 : Int32)), .unset] [(.ref b1)])) rfl (by rw [hml]; rfl) (Steps.refl _) (argsL := []) (rest := []) (lenOf pd___Lcom_example_octets_to_session_octetstosession_core_PacketReader_ rfl) rfl (by show 2 * 0 + _ ≤ _; exact Nat.le_of_eq rfl) (hb hby at_163) (fun _ _ => ⟨rfl, e40, (by decide : 3 + 3 ≤ _), (by decide : 21 + 32 ≤ _)⟩)
    dsimp only [Pt.U, Pt.locs, Pt.cells, Pt.slots] at X76 l76 y76 z76 st76 hQ76 hSc76 hge76
    subst l76 y76 z76
    obtain ⟨X76, hS76, hZ, hown⟩ := rebS hS0 (by rw [e40]; exact hk19) X76 hSc76 hge76 hZ hown
    obtain ⟨b76_b78, b76_b83_a85, rfl, N76q, Kc76, u76_0, u76_1, u76_2, u76_3, u76_4, u76_5, u76_6, u76_7, u76_8, u76_9, u76_10, u76_11, u76_12, u76_13⟩ := hQ76
    have N76 := Fr.app N40 N76q
    have ne_b1_b76_b78 : b1 ≠ b76_b78 := Nat.ne_of_lt (Nat.lt_of_lt_of_le u19_0.lt u76_13)
    have ne_b9_b76_b78 : b9 ≠ b76_b78 := Nat.ne_of_lt (Nat.lt_of_lt_of_le V_b9.lt u76_13)
    have ne_b10_b76_b78 : b10 ≠ b76_b78 := Nat.ne_of_lt (Nat.lt_of_lt_of_le V_b10.lt u76_13)
    have V_b9 := V_b9.keep Kc76 (ninS (Ne.symm ne_b1_b9) nin0)
    have V_b10 := V_b10.keep Kc76 (ninS (Ne.symm ne_b1_b10) nin0)
    have O76 := O19.keep Kc76 (allS ge_b1 all0)
    have hk76 : T76.heap.size ≤ T76.heap.size := Nat.le_refl _
    obtain ⟨cq98, kq98, q98a, q98b, q98c⟩ := isOf hZ rfl u76_7
    obtain ⟨_, _, ⟨T98, L98, k98, n98⟩, -, X98, ⟨Lc98, hQ98, l98, y98, z98⟩, st98⟩ := X76.virtualBack hx (y := (⟨"com/example/octets_to_session/octetstosession/core/PacketReader", "atEnd", "()Z"⟩ : MethodName)) (z := (⟨"com/example/octets_to_session/octetstosession/core/PacketReader", "atEnd", "()Z"⟩ : MethodName)) hown (mvT hZ (hw _ (List.mem_of_getElem? (i := 91) rfl))) (mvT hZ (hw _ (List.mem_of_getElem? (i := 92) rfl))) (notFace_of_selects (args := #[]) (mvT hZ (hw _ (List.mem_of_getElem? (i := 94) rfl)))) (mvT hZ (hw _ (List.mem_of_getElem? (i := 94) rfl))) (mvT hZ (hw _ (List.mem_of_getElem? (i := 93) rfl))) (by decide) (backOf (W := 0) (rm_atEnd_17 l Z a0 hw [] b76_b78 p2 (p2 + p3) T76.heap n0 O76 u76_9 u76_10 (own_nonzero hz) ) hZ (hw _ (List.mem_of_getElem? (i := 95) rfl)) (hw _ (List.mem_of_getElem? (i := 68) rfl)) (by decide) (by decide)) q98a q98c (g := (mkF m 166 #[.val (.int p0), .val (.int p1), .val (.int p2), .val (.int p3), .val (.int p4), .val (.long q5), .second, .val (.ref b1), .val (.ref b5_wt7), .val (.ref b9), .val (.ref b10), .val (.int (q5.toInt32)), .val (.int (((q5.toUInt64 >>> ((32 : Int32) &&& 0x3f).toInt64.toUInt64).toInt64).toInt32)), .val (.ref b1), .val (.int (1 : Int32)), .val (.ref b1), .val (.int (1 : Int32)), .unset] [(.ref b76_b78)])) rfl (by rw [hml]; rfl) (Steps.refl _) (argsL := []) (rest := []) (lenOf pd___Z rfl) rfl (by show 2 * 0 + _ ≤ _; exact Nat.le_of_eq rfl) (hb hby at_166) (fun _ _ => ⟨rfl, rfl, (by decide : 6 + 0 ≤ _), (by decide : 53 + 0 ≤ _)⟩)
    dsimp only [Pt.U, Pt.locs, Pt.cells, Pt.slots] at X98 l98 y98 z98 st98 hQ98
    subst l98 y98 z98
    obtain ⟨rfl, N98q, e98⟩ := hQ98
    have N98 := Fr.app N76 N98q
    have pre106 : ∀ t, Steps p.tables e below (T98.setTop (mkF m 208 #[.val (.int p0), .val (.int p1), .val (.int p2), .val (.int p3), .val (.int p4), .val (.long q5), .second, .val (.ref b1), .val (.ref b5_wt7), .val (.ref b9), .val (.ref b10), .val (.int (q5.toInt32)), .val (.int (((q5.toUInt64 >>> ((32 : Int32) &&& 0x3f).toInt64.toUInt64).toInt64).toInt32)), .val (.ref b1), .val (.int (1 : Int32)), .val (.ref b1), .val (.int (1 : Int32)), .val (.int (1 : Int32))] [(.int (1 : Int32))])) t → Steps p.tables e below (s₁.setTop (entryFrame m #[(.int p0), (.int p1), (.int p2), (.int p3), (.int p4), (.long q5)] maxLocals)) t := by
      intro t kt
      refine pre44 t ?_
      show Steps p.tables e below (T40.setTop (mkF m 163 #[.val (.int p0), .val (.int p1), .val (.int p2), .val (.int p3), .val (.int p4), .val (.long q5), .second, .val (.ref b1), .val (.ref b5_wt7), .val (.ref b9), .val (.ref b10), .val (.int (q5.toInt32)), .val (.int (((q5.toUInt64 >>> ((32 : Int32) &&& 0x3f).toInt64.toUInt64).toInt64).toInt32)), .val (.ref b1), .val (.int (1 : Int32)), .val (.ref b1), .val (.int (1 : Int32)), .unset] [(.ref b1)])) _
      refine st76.trans ?_
      show Steps p.tables e below (T76.setTop (mkF m 166 #[.val (.int p0), .val (.int p1), .val (.int p2), .val (.int p3), .val (.int p4), .val (.long q5), .second, .val (.ref b1), .val (.ref b5_wt7), .val (.ref b9), .val (.ref b10), .val (.int (q5.toInt32)), .val (.int (((q5.toUInt64 >>> ((32 : Int32) &&& 0x3f).toInt64.toUInt64).toInt64).toInt32)), .val (.ref b1), .val (.int (1 : Int32)), .val (.ref b1), .val (.int (1 : Int32)), .unset] [(.ref b76_b78)])) _
      refine st98.trans ?_
      show Steps p.tables e below (T98.setTop (mkF m 169 #[.val (.int p0), .val (.int p1), .val (.int p2), .val (.int p3), .val (.int p4), .val (.long q5), .second, .val (.ref b1), .val (.ref b5_wt7), .val (.ref b9), .val (.ref b10), .val (.int (q5.toInt32)), .val (.int (((q5.toUInt64 >>> ((32 : Int32) &&& 0x3f).toInt64.toUInt64).toInt64).toInt32)), .val (.ref b1), .val (.int (1 : Int32)), .val (.ref b1), .val (.int (1 : Int32)), .unset] [(.int (0 : Int32))])) _
      refine XS.iloadN X98.here hx rfl (hb hby at_169) rfl ?_
      show Steps p.tables e below (T98.setTop (mkF m 170 #[.val (.int p0), .val (.int p1), .val (.int p2), .val (.int p3), .val (.int p4), .val (.long q5), .second, .val (.ref b1), .val (.ref b5_wt7), .val (.ref b9), .val (.ref b10), .val (.int (q5.toInt32)), .val (.int (((q5.toUInt64 >>> ((32 : Int32) &&& 0x3f).toInt64.toUInt64).toInt64).toInt32)), .val (.ref b1), .val (.int (1 : Int32)), .val (.ref b1), .val (.int (1 : Int32)), .unset] [(.int p3), (.int (0 : Int32))])) _
      refine XS.ifYes X98.here hx rfl (pc0 := 170) (pc' := 177) rfl (hb hby at_170) rfl ((if0 _ _).trans (feq hz).2) (by decide) (by decide) ?_
      show Steps p.tables e below (T98.setTop (mkF m 177 #[.val (.int p0), .val (.int p1), .val (.int p2), .val (.int p3), .val (.int p4), .val (.long q5), .second, .val (.ref b1), .val (.ref b5_wt7), .val (.ref b9), .val (.ref b10), .val (.int (q5.toInt32)), .val (.int (((q5.toUInt64 >>> ((32 : Int32) &&& 0x3f).toInt64.toUInt64).toInt64).toInt32)), .val (.ref b1), .val (.int (1 : Int32)), .val (.ref b1), .val (.int (1 : Int32)), .unset] [(.int (0 : Int32))])) _
      refine XS.iconst X98.here hx rfl (hb hby at_177) ?_
      show Steps p.tables e below (T98.setTop (mkF m 178 #[.val (.int p0), .val (.int p1), .val (.int p2), .val (.int p3), .val (.int p4), .val (.long q5), .second, .val (.ref b1), .val (.ref b5_wt7), .val (.ref b9), .val (.ref b10), .val (.int (q5.toInt32)), .val (.int (((q5.toUInt64 >>> ((32 : Int32) &&& 0x3f).toInt64.toUInt64).toInt64).toInt32)), .val (.ref b1), .val (.int (1 : Int32)), .val (.ref b1), .val (.int (1 : Int32)), .unset] [(.int (0 : Int32)), (.int (0 : Int32))])) _
      refine XS.icmpNo X98.here hx rfl (hb hby at_178) rfl (teq (by decide : (0 : Int32) = (0 : Int32))).2 ?_
      show Steps p.tables e below (T98.setTop (mkF m 181 #[.val (.int p0), .val (.int p1), .val (.int p2), .val (.int p3), .val (.int p4), .val (.long q5), .second, .val (.ref b1), .val (.ref b5_wt7), .val (.ref b9), .val (.ref b10), .val (.int (q5.toInt32)), .val (.int (((q5.toUInt64 >>> ((32 : Int32) &&& 0x3f).toInt64.toUInt64).toInt64).toInt32)), .val (.ref b1), .val (.int (1 : Int32)), .val (.ref b1), .val (.int (1 : Int32)), .unset] [])) _
      refine XS.iconst X98.here hx rfl (hb hby at_181) ?_
      show Steps p.tables e below (T98.setTop (mkF m 182 #[.val (.int p0), .val (.int p1), .val (.int p2), .val (.int p3), .val (.int p4), .val (.long q5), .second, .val (.ref b1), .val (.ref b5_wt7), .val (.ref b9), .val (.ref b10), .val (.int (q5.toInt32)), .val (.int (((q5.toUInt64 >>> ((32 : Int32) &&& 0x3f).toInt64.toUInt64).toInt64).toInt32)), .val (.ref b1), .val (.int (1 : Int32)), .val (.ref b1), .val (.int (1 : Int32)), .unset] [(.int (1 : Int32))])) _
      refine XS.goto X98.here hx rfl (pc0 := 182) (pc' := 186) rfl (hb hby at_182) (by decide) (by decide) ?_
      show Steps p.tables e below (T98.setTop (mkF m 186 #[.val (.int p0), .val (.int p1), .val (.int p2), .val (.int p3), .val (.int p4), .val (.long q5), .second, .val (.ref b1), .val (.ref b5_wt7), .val (.ref b9), .val (.ref b10), .val (.int (q5.toInt32)), .val (.int (((q5.toUInt64 >>> ((32 : Int32) &&& 0x3f).toInt64.toUInt64).toInt64).toInt32)), .val (.ref b1), .val (.int (1 : Int32)), .val (.ref b1), .val (.int (1 : Int32)), .unset] [(.int (1 : Int32))])) _
      refine XS.istore X98.here hx rfl (hb hby at_186) rfl (l' := #[.val (.int p0), .val (.int p1), .val (.int p2), .val (.int p3), .val (.int p4), .val (.long q5), .second, .val (.ref b1), .val (.ref b5_wt7), .val (.ref b9), .val (.ref b10), .val (.int (q5.toInt32)), .val (.int (((q5.toUInt64 >>> ((32 : Int32) &&& 0x3f).toInt64.toUInt64).toInt64).toInt32)), .val (.ref b1), .val (.int (1 : Int32)), .val (.ref b1), .val (.int (1 : Int32)), .val (.int (1 : Int32))]) rfl ?_
      show Steps p.tables e below (T98.setTop (mkF m 188 #[.val (.int p0), .val (.int p1), .val (.int p2), .val (.int p3), .val (.int p4), .val (.long q5), .second, .val (.ref b1), .val (.ref b5_wt7), .val (.ref b9), .val (.ref b10), .val (.int (q5.toInt32)), .val (.int (((q5.toUInt64 >>> ((32 : Int32) &&& 0x3f).toInt64.toUInt64).toInt64).toInt32)), .val (.ref b1), .val (.int (1 : Int32)), .val (.ref b1), .val (.int (1 : Int32)), .val (.int (1 : Int32))] [])) _
      refine XS.iload X98.here hx rfl (hb hby at_188) rfl ?_
      show Steps p.tables e below (T98.setTop (mkF m 190 #[.val (.int p0), .val (.int p1), .val (.int p2), .val (.int p3), .val (.int p4), .val (.long q5), .second, .val (.ref b1), .val (.ref b5_wt7), .val (.ref b9), .val (.ref b10), .val (.int (q5.toInt32)), .val (.int (((q5.toUInt64 >>> ((32 : Int32) &&& 0x3f).toInt64.toUInt64).toInt64).toInt32)), .val (.ref b1), .val (.int (1 : Int32)), .val (.ref b1), .val (.int (1 : Int32)), .val (.int (1 : Int32))] [(.int (1 : Int32))])) _
      refine XS.ifNo X98.here hx rfl (hb hby at_190) rfl ((if0 _ _).trans (feq (by decide : ¬ ((1 : Int32) = (0 : Int32)))).1) ?_
      show Steps p.tables e below (T98.setTop (mkF m 193 #[.val (.int p0), .val (.int p1), .val (.int p2), .val (.int p3), .val (.int p4), .val (.long q5), .second, .val (.ref b1), .val (.ref b5_wt7), .val (.ref b9), .val (.ref b10), .val (.int (q5.toInt32)), .val (.int (((q5.toUInt64 >>> ((32 : Int32) &&& 0x3f).toInt64.toUInt64).toInt64).toInt32)), .val (.ref b1), .val (.int (1 : Int32)), .val (.ref b1), .val (.int (1 : Int32)), .val (.int (1 : Int32))] [])) _
      refine XS.iload X98.here hx rfl (hb hby at_193) rfl ?_
      show Steps p.tables e below (T98.setTop (mkF m 195 #[.val (.int p0), .val (.int p1), .val (.int p2), .val (.int p3), .val (.int p4), .val (.long q5), .second, .val (.ref b1), .val (.ref b5_wt7), .val (.ref b9), .val (.ref b10), .val (.int (q5.toInt32)), .val (.int (((q5.toUInt64 >>> ((32 : Int32) &&& 0x3f).toInt64.toUInt64).toInt64).toInt32)), .val (.ref b1), .val (.int (1 : Int32)), .val (.ref b1), .val (.int (1 : Int32)), .val (.int (1 : Int32))] [(.int (1 : Int32))])) _
      refine XS.ifNo X98.here hx rfl (hb hby at_195) rfl ((if0 _ _).trans (feq (by decide : ¬ ((1 : Int32) = (0 : Int32)))).1) ?_
      show Steps p.tables e below (T98.setTop (mkF m 198 #[.val (.int p0), .val (.int p1), .val (.int p2), .val (.int p3), .val (.int p4), .val (.long q5), .second, .val (.ref b1), .val (.ref b5_wt7), .val (.ref b9), .val (.ref b10), .val (.int (q5.toInt32)), .val (.int (((q5.toUInt64 >>> ((32 : Int32) &&& 0x3f).toInt64.toUInt64).toInt64).toInt32)), .val (.ref b1), .val (.int (1 : Int32)), .val (.ref b1), .val (.int (1 : Int32)), .val (.int (1 : Int32))] [])) _
      refine XS.iload X98.here hx rfl (hb hby at_198) rfl ?_
      show Steps p.tables e below (T98.setTop (mkF m 200 #[.val (.int p0), .val (.int p1), .val (.int p2), .val (.int p3), .val (.int p4), .val (.long q5), .second, .val (.ref b1), .val (.ref b5_wt7), .val (.ref b9), .val (.ref b10), .val (.int (q5.toInt32)), .val (.int (((q5.toUInt64 >>> ((32 : Int32) &&& 0x3f).toInt64.toUInt64).toInt64).toInt32)), .val (.ref b1), .val (.int (1 : Int32)), .val (.ref b1), .val (.int (1 : Int32)), .val (.int (1 : Int32))] [(.int (1 : Int32))])) _
      refine XS.ifNo X98.here hx rfl (hb hby at_200) rfl ((if0 _ _).trans (feq (by decide : ¬ ((1 : Int32) = (0 : Int32)))).1) ?_
      show Steps p.tables e below (T98.setTop (mkF m 203 #[.val (.int p0), .val (.int p1), .val (.int p2), .val (.int p3), .val (.int p4), .val (.long q5), .second, .val (.ref b1), .val (.ref b5_wt7), .val (.ref b9), .val (.ref b10), .val (.int (q5.toInt32)), .val (.int (((q5.toUInt64 >>> ((32 : Int32) &&& 0x3f).toInt64.toUInt64).toInt64).toInt32)), .val (.ref b1), .val (.int (1 : Int32)), .val (.ref b1), .val (.int (1 : Int32)), .val (.int (1 : Int32))] [])) _
      refine XS.iconst X98.here hx rfl (hb hby at_203) ?_
      show Steps p.tables e below (T98.setTop (mkF m 204 #[.val (.int p0), .val (.int p1), .val (.int p2), .val (.int p3), .val (.int p4), .val (.long q5), .second, .val (.ref b1), .val (.ref b5_wt7), .val (.ref b9), .val (.ref b10), .val (.int (q5.toInt32)), .val (.int (((q5.toUInt64 >>> ((32 : Int32) &&& 0x3f).toInt64.toUInt64).toInt64).toInt32)), .val (.ref b1), .val (.int (1 : Int32)), .val (.ref b1), .val (.int (1 : Int32)), .val (.int (1 : Int32))] [(.int (1 : Int32))])) _
      refine XS.goto X98.here hx rfl (pc0 := 204) (pc' := 208) rfl (hb hby at_204) (by decide) (by decide) ?_
      exact kt
    obtain ⟨fs, hr, hrun, hended, q1, q2, q3, q4⟩ := X98.leaveW hS76 (by rw [e98]; exact hk76) (v := some (.int (1 : Int32))) (fun h => by rw [Bd.returns] at h; cases h)
    refine ⟨_, _, pre106 _ ?_, hrun, hended, _, _, rfl, ?_, ⟨_, rfl⟩, q2, q3, q4.mono (by decide) (by decide)⟩
    · show Steps p.tables e below (T98.setTop (mkF m 208 #[.val (.int p0), .val (.int p1), .val (.int p2), .val (.int p3), .val (.int p4), .val (.long q5), .second, .val (.ref b1), .val (.ref b5_wt7), .val (.ref b9), .val (.ref b10), .val (.int (q5.toInt32)), .val (.int (((q5.toUInt64 >>> ((32 : Int32) &&& 0x3f).toInt64.toUInt64).toInt64).toInt32)), .val (.ref b1), .val (.int (1 : Int32)), .val (.ref b1), .val (.int (1 : Int32)), .val (.int (1 : Int32))] [(.int (1 : Int32))])) _
      exact retN X98 hx (t := .boolean) Bd.returns (by simp) (hb hby at_208) hr
    · show Q_rm0 Z p0 p1 p2 p3 p4 q5 w_BY_CODE w_PUBREL w_SUBSCRIBE w_CONNECT k_BY_CODE w_PUBCOMP w_SUBACK w_UNSUBSCRIBE w_AUTH w_PUBACK w_DISCONNECT w_PUBLISH w_PINGREQ w_PINGRESP w_PUBREC w_UNSUBACK w_RESERVED w_CONNACK h0 n0 _ T98.heap _
      rw [e98]
      exact ⟨rfl, N98⟩
set_option maxRecDepth 65536 in
set_option maxHeartbeats 40000000 in
theorem comes_1 {Post : Tables → Env → Array Value → State → Outcome → State → Prop} (hpost : ∀ tb e args s v u, (limb_1_1.after args s (.returned v) u = true ∧ limb_1_2.after args s (.returned v) u = true ∧ True) → ReturnedEndW s (.returned v) u (Jvm.fieldLocs frame_1_writes args s ++ Jvm.arrayLocs frame_1_arrays args s ++ Jvm.staticLocs frame_1_statics s) 24 1152 → Post tb e args s (.returned v) u) :
    ArmFor flags0 classFile x code maxLocals ret World_1 tables_1 room_1 Calls_1 rest_1 Pre_1 Post := by
  intro l hfl _ _ p e ha hc hk s m args below hf hA hF happ hP
  obtain ⟨hcalls, hrest, hpre⟩ := hP
  obtain ⟨-, -, -, hnamed, -, -, -, hat⟩ := (Spec.applies_iff hf).mp happ
  obtain ⟨hg, hn⟩ := and_e (Cond.before_iff.mp (show (Jvm.Cond.and given_1 narrow_1).before args s = true from hpre))
  have hw := fun d (hd : d ∈ tables_1) => atoms_spec (ws := Jvm.Cond.code x code maxLocals ret :: tables_1) hat d (List.mem_cons_of_mem _ hd)
  obtain ⟨g1, g2⟩ := and_e hg
  obtain ⟨g3, g4⟩ := and_e g2
  obtain ⟨g5, g6⟩ := and_e g4
  obtain ⟨g7, g8⟩ := and_e g6
  obtain ⟨g9, g10⟩ := and_e g8
  obtain ⟨g11, g12⟩ := and_e g10
  obtain ⟨g13, g14⟩ := and_e hn
  obtain ⟨g15, g16⟩ := and_e g14
  obtain ⟨g17, g18⟩ := and_e g16
  obtain ⟨g19, g20⟩ := and_e g18
  obtain ⟨g21, g22⟩ := and_e g20
  obtain ⟨g23, g24⟩ := and_e g22
  obtain ⟨g25, g26⟩ := and_e g24
  obtain ⟨g27, g28⟩ := and_e g26
  obtain ⟨g29, g30⟩ := and_e g28
  obtain ⟨g31, g32⟩ := and_e g30
  obtain ⟨g33, g34⟩ := and_e g32
  obtain ⟨g35, g36⟩ := and_e g34
  obtain ⟨g37, g38⟩ := and_e g36
  obtain ⟨g39, g40⟩ := and_e g38
  obtain ⟨g41, g42⟩ := and_e g40
  obtain ⟨g43, g44⟩ := and_e g42
  obtain ⟨g45, g46⟩ := and_e g44
  obtain ⟨g47, g48⟩ := and_e g46
  obtain ⟨g49, g50⟩ := and_e g48
  obtain ⟨g51, g52⟩ := and_e g50
  obtain ⟨g53, g54⟩ := and_e g52
  obtain ⟨g55, g56⟩ := and_e g54
  obtain ⟨g57, g58⟩ := and_e g56
  obtain ⟨g59, g60⟩ := and_e g58
  obtain ⟨g61, g62⟩ := and_e g60
  obtain ⟨g63, g64⟩ := and_e g62
  obtain ⟨g65, g66⟩ := and_e g64
  obtain ⟨g67, g68⟩ := and_e g66
  obtain ⟨g69, g70⟩ := and_e g68
  obtain ⟨g71, g72⟩ := and_e g70
  obtain ⟨g73, g74⟩ := and_e g72
  obtain ⟨g75, g76⟩ := and_e g74
  obtain ⟨g77, g78⟩ := and_e g76
  obtain ⟨w_BY_CODE, ev_BY_CODE⟩ := arr_v g13
  have S_BY_CODE : Sta s s.heap "com/example/octets_to_session/octetstosession/core/PacketType" "BY_CODE" "[Lcom/example/octets_to_session/octetstosession/core/PacketType;" (.ref w_BY_CODE) := Sta.start ev_BY_CODE (Or.inr ⟨(hw _ (List.mem_of_getElem? (i := 11) rfl)), (hw _ (List.mem_of_getElem? (i := 14) rfl))⟩)
  obtain ⟨cl_BY_CODE, Ar_BY_CODE⟩ := Arr.start ev_BY_CODE g13
  obtain ⟨w_RESERVED, ev_RESERVED⟩ := exa_v g17
  have S_RESERVED : Sta s s.heap "com/example/octets_to_session/octetstosession/core/PacketType" "RESERVED" "Lcom/example/octets_to_session/octetstosession/core/PacketType;" (.ref w_RESERVED) := Sta.start ev_RESERVED (Or.inr ⟨(hw _ (List.mem_of_getElem? (i := 11) rfl)), (hw _ (List.mem_of_getElem? (i := 15) rfl))⟩)
  have E_RESERVED := Exa.start ev_RESERVED g17
  obtain ⟨w_PUBLISH, ev_PUBLISH⟩ := exa_v g21
  have S_PUBLISH : Sta s s.heap "com/example/octets_to_session/octetstosession/core/PacketType" "PUBLISH" "Lcom/example/octets_to_session/octetstosession/core/PacketType;" (.ref w_PUBLISH) := Sta.start ev_PUBLISH (Or.inr ⟨(hw _ (List.mem_of_getElem? (i := 11) rfl)), (hw _ (List.mem_of_getElem? (i := 18) rfl))⟩)
  have E_PUBLISH := Exa.start ev_PUBLISH g21
  obtain ⟨w_UNSUBSCRIBE, ev_UNSUBSCRIBE⟩ := exa_v g23
  have S_UNSUBSCRIBE : Sta s s.heap "com/example/octets_to_session/octetstosession/core/PacketType" "UNSUBSCRIBE" "Lcom/example/octets_to_session/octetstosession/core/PacketType;" (.ref w_UNSUBSCRIBE) := Sta.start ev_UNSUBSCRIBE (Or.inr ⟨(hw _ (List.mem_of_getElem? (i := 11) rfl)), (hw _ (List.mem_of_getElem? (i := 96) rfl))⟩)
  have E_UNSUBSCRIBE := Exa.start ev_UNSUBSCRIBE g23
  obtain ⟨w_SUBACK, ev_SUBACK⟩ := exa_v g27
  have S_SUBACK : Sta s s.heap "com/example/octets_to_session/octetstosession/core/PacketType" "SUBACK" "Lcom/example/octets_to_session/octetstosession/core/PacketType;" (.ref w_SUBACK) := Sta.start ev_SUBACK (Or.inr ⟨(hw _ (List.mem_of_getElem? (i := 11) rfl)), (hw _ (List.mem_of_getElem? (i := 97) rfl))⟩)
  have E_SUBACK := Exa.start ev_SUBACK g27
  obtain ⟨w_UNSUBACK, ev_UNSUBACK⟩ := exa_v g31
  have S_UNSUBACK : Sta s s.heap "com/example/octets_to_session/octetstosession/core/PacketType" "UNSUBACK" "Lcom/example/octets_to_session/octetstosession/core/PacketType;" (.ref w_UNSUBACK) := Sta.start ev_UNSUBACK (Or.inr ⟨(hw _ (List.mem_of_getElem? (i := 11) rfl)), (hw _ (List.mem_of_getElem? (i := 98) rfl))⟩)
  have E_UNSUBACK := Exa.start ev_UNSUBACK g31
  obtain ⟨w_AUTH, ev_AUTH⟩ := exa_v g35
  have S_AUTH : Sta s s.heap "com/example/octets_to_session/octetstosession/core/PacketType" "AUTH" "Lcom/example/octets_to_session/octetstosession/core/PacketType;" (.ref w_AUTH) := Sta.start ev_AUTH (Or.inr ⟨(hw _ (List.mem_of_getElem? (i := 11) rfl)), (hw _ (List.mem_of_getElem? (i := 99) rfl))⟩)
  have E_AUTH := Exa.start ev_AUTH g35
  obtain ⟨w_CONNACK, ev_CONNACK⟩ := exa_v g39
  have S_CONNACK : Sta s s.heap "com/example/octets_to_session/octetstosession/core/PacketType" "CONNACK" "Lcom/example/octets_to_session/octetstosession/core/PacketType;" (.ref w_CONNACK) := Sta.start ev_CONNACK (Or.inr ⟨(hw _ (List.mem_of_getElem? (i := 11) rfl)), (hw _ (List.mem_of_getElem? (i := 100) rfl))⟩)
  have E_CONNACK := Exa.start ev_CONNACK g39
  obtain ⟨w_SUBSCRIBE, ev_SUBSCRIBE⟩ := exa_v g43
  have S_SUBSCRIBE : Sta s s.heap "com/example/octets_to_session/octetstosession/core/PacketType" "SUBSCRIBE" "Lcom/example/octets_to_session/octetstosession/core/PacketType;" (.ref w_SUBSCRIBE) := Sta.start ev_SUBSCRIBE (Or.inr ⟨(hw _ (List.mem_of_getElem? (i := 11) rfl)), (hw _ (List.mem_of_getElem? (i := 101) rfl))⟩)
  have E_SUBSCRIBE := Exa.start ev_SUBSCRIBE g43
  obtain ⟨w_DISCONNECT, ev_DISCONNECT⟩ := exa_v g47
  have S_DISCONNECT : Sta s s.heap "com/example/octets_to_session/octetstosession/core/PacketType" "DISCONNECT" "Lcom/example/octets_to_session/octetstosession/core/PacketType;" (.ref w_DISCONNECT) := Sta.start ev_DISCONNECT (Or.inr ⟨(hw _ (List.mem_of_getElem? (i := 11) rfl)), (hw _ (List.mem_of_getElem? (i := 102) rfl))⟩)
  have E_DISCONNECT := Exa.start ev_DISCONNECT g47
  obtain ⟨w_PUBCOMP, ev_PUBCOMP⟩ := exa_v g51
  have S_PUBCOMP : Sta s s.heap "com/example/octets_to_session/octetstosession/core/PacketType" "PUBCOMP" "Lcom/example/octets_to_session/octetstosession/core/PacketType;" (.ref w_PUBCOMP) := Sta.start ev_PUBCOMP (Or.inr ⟨(hw _ (List.mem_of_getElem? (i := 11) rfl)), (hw _ (List.mem_of_getElem? (i := 103) rfl))⟩)
  have E_PUBCOMP := Exa.start ev_PUBCOMP g51
  obtain ⟨w_CONNECT, ev_CONNECT⟩ := exa_v g55
  have S_CONNECT : Sta s s.heap "com/example/octets_to_session/octetstosession/core/PacketType" "CONNECT" "Lcom/example/octets_to_session/octetstosession/core/PacketType;" (.ref w_CONNECT) := Sta.start ev_CONNECT (Or.inr ⟨(hw _ (List.mem_of_getElem? (i := 11) rfl)), (hw _ (List.mem_of_getElem? (i := 104) rfl))⟩)
  have E_CONNECT := Exa.start ev_CONNECT g55
  obtain ⟨w_PUBREC, ev_PUBREC⟩ := exa_v g61
  have S_PUBREC : Sta s s.heap "com/example/octets_to_session/octetstosession/core/PacketType" "PUBREC" "Lcom/example/octets_to_session/octetstosession/core/PacketType;" (.ref w_PUBREC) := Sta.start ev_PUBREC (Or.inr ⟨(hw _ (List.mem_of_getElem? (i := 11) rfl)), (hw _ (List.mem_of_getElem? (i := 105) rfl))⟩)
  have E_PUBREC := Exa.start ev_PUBREC g61
  obtain ⟨w_PINGRESP, ev_PINGRESP⟩ := exa_v g65
  have S_PINGRESP : Sta s s.heap "com/example/octets_to_session/octetstosession/core/PacketType" "PINGRESP" "Lcom/example/octets_to_session/octetstosession/core/PacketType;" (.ref w_PINGRESP) := Sta.start ev_PINGRESP (Or.inr ⟨(hw _ (List.mem_of_getElem? (i := 11) rfl)), (hw _ (List.mem_of_getElem? (i := 106) rfl))⟩)
  have E_PINGRESP := Exa.start ev_PINGRESP g65
  obtain ⟨w_PUBREL, ev_PUBREL⟩ := exa_v g69
  have S_PUBREL : Sta s s.heap "com/example/octets_to_session/octetstosession/core/PacketType" "PUBREL" "Lcom/example/octets_to_session/octetstosession/core/PacketType;" (.ref w_PUBREL) := Sta.start ev_PUBREL (Or.inr ⟨(hw _ (List.mem_of_getElem? (i := 11) rfl)), (hw _ (List.mem_of_getElem? (i := 107) rfl))⟩)
  have E_PUBREL := Exa.start ev_PUBREL g69
  obtain ⟨w_PINGREQ, ev_PINGREQ⟩ := exa_v g73
  have S_PINGREQ : Sta s s.heap "com/example/octets_to_session/octetstosession/core/PacketType" "PINGREQ" "Lcom/example/octets_to_session/octetstosession/core/PacketType;" (.ref w_PINGREQ) := Sta.start ev_PINGREQ (Or.inr ⟨(hw _ (List.mem_of_getElem? (i := 11) rfl)), (hw _ (List.mem_of_getElem? (i := 108) rfl))⟩)
  have E_PINGREQ := Exa.start ev_PINGREQ g73
  obtain ⟨w_PUBACK, ev_PUBACK⟩ := exa_v g77
  have S_PUBACK : Sta s s.heap "com/example/octets_to_session/octetstosession/core/PacketType" "PUBACK" "Lcom/example/octets_to_session/octetstosession/core/PacketType;" (.ref w_PUBACK) := Sta.start ev_PUBACK (Or.inr ⟨(hw _ (List.mem_of_getElem? (i := 11) rfl)), (hw _ (List.mem_of_getElem? (i := 109) rfl))⟩)
  have E_PUBACK := Exa.start ev_PUBACK g77
  obtain ⟨v0, v1, v2, v3, v4, v5, rfl⟩ : ∃ v0 v1 v2 v3 v4 v5 : Value, args = #[v0, v1, v2, v3, v4, v5] := by
    have hs : args.size = 6 := by simpa [Cond.value, given_1] using g1
    obtain ⟨L⟩ := args
    match L, hs with
    | [v0, v1, v2, v3, v4, v5], _ => exact ⟨v0, v1, v2, v3, v4, v5, rfl⟩
  have hfit : Fit s := fun {y c} hc i hi => by
    obtain ⟨ha, rfl⟩ := Array.getElem?_eq_some_iff.mp hc
    have q := List.all_eq_true.mp ((Array.all_eq_true_iff_forall_mem.mp hF) _ (Array.getElem_mem ha)) i (List.mem_range.mpr hi)
    simpa [Array.getElem?_eq_getElem hi] using q
  obtain ⟨i0, ei0⟩ := is_v g3
  obtain rfl : v0 = (.int i0) := Option.some.inj ei0
  obtain ⟨i1, ei1⟩ := is_v g5
  obtain rfl : v1 = (.int i1) := Option.some.inj ei1
  obtain ⟨i2, ei2⟩ := is_v g7
  obtain rfl : v2 = (.int i2) := Option.some.inj ei2
  obtain ⟨i3, ei3⟩ := is_v g9
  obtain rfl : v3 = (.int i3) := Option.some.inj ei3
  obtain ⟨i4, ei4⟩ := is_v g11
  obtain rfl : v4 = (.int i4) := Option.some.inj ei4
  obtain ⟨i5, ei5⟩ := isL_v g12
  obtain rfl : v5 = (.long i5) := Option.some.inj ei5
  obtain ⟨hl_BY_CODE, hq_BY_CODE⟩ := own_len ev_BY_CODE Ar_BY_CODE (own_eq g15)
  obtain ⟨k_BY_CODE, V_BY_CODE⟩ : ∃ k, Arv s s.heap w_BY_CODE k (.object "com/example/octets_to_session/octetstosession/core/PacketType") (16 : Int32) [(.ref w_RESERVED), (.ref w_CONNECT), (.ref w_CONNACK), (.ref w_PUBLISH), (.ref w_PUBACK), (.ref w_PUBREC), (.ref w_PUBREL), (.ref w_PUBCOMP), (.ref w_SUBSCRIBE), (.ref w_SUBACK), (.ref w_UNSUBSCRIBE), (.ref w_UNSUBACK), (.ref w_PINGREQ), (.ref w_PINGRESP), (.ref w_DISCONNECT), (.ref w_AUTH)] .null := ⟨_, Arv.start hfit Ar_BY_CODE hq_BY_CODE hl_BY_CODE (by decide) rfl ⟨(elem_in ((own_eq g19).trans ev_RESERVED) ev_BY_CODE rfl Ar_BY_CODE.1).2, (elem_in ((own_eq g57).trans ev_CONNECT) ev_BY_CODE rfl Ar_BY_CODE.1).2, (elem_in ((own_eq g41).trans ev_CONNACK) ev_BY_CODE rfl Ar_BY_CODE.1).2, (elem_in ((own_eq g59).trans ev_PUBLISH) ev_BY_CODE rfl Ar_BY_CODE.1).2, (elem_in ((own_eq g78).trans ev_PUBACK) ev_BY_CODE rfl Ar_BY_CODE.1).2, (elem_in ((own_eq g63).trans ev_PUBREC) ev_BY_CODE rfl Ar_BY_CODE.1).2, (elem_in ((own_eq g71).trans ev_PUBREL) ev_BY_CODE rfl Ar_BY_CODE.1).2, (elem_in ((own_eq g53).trans ev_PUBCOMP) ev_BY_CODE rfl Ar_BY_CODE.1).2, (elem_in ((own_eq g45).trans ev_SUBSCRIBE) ev_BY_CODE rfl Ar_BY_CODE.1).2, (elem_in ((own_eq g29).trans ev_SUBACK) ev_BY_CODE rfl Ar_BY_CODE.1).2, (elem_in ((own_eq g25).trans ev_UNSUBSCRIBE) ev_BY_CODE rfl Ar_BY_CODE.1).2, (elem_in ((own_eq g33).trans ev_UNSUBACK) ev_BY_CODE rfl Ar_BY_CODE.1).2, (elem_in ((own_eq g75).trans ev_PINGREQ) ev_BY_CODE rfl Ar_BY_CODE.1).2, (elem_in ((own_eq g67).trans ev_PINGRESP) ev_BY_CODE rfl Ar_BY_CODE.1).2, (elem_in ((own_eq g49).trans ev_DISCONNECT) ev_BY_CODE rfl Ar_BY_CODE.1).2, (elem_in ((own_eq g37).trans ev_AUTH) ev_BY_CODE rfl Ar_BY_CODE.1).2, trivial⟩⟩
  obtain ⟨n, o, h1, h2, h3, _, L, rfl, ⟨rfl, N⟩, hq⟩ := rm0 l s _ hw tables_1 i0 i1 i2 i3 i4 i5 w_BY_CODE w_PUBREL w_SUBSCRIBE w_CONNECT k_BY_CODE w_PUBCOMP w_SUBACK w_UNSUBSCRIBE w_AUTH w_PUBACK w_DISCONNECT w_PUBLISH w_PINGREQ w_PINGRESP w_PUBREC w_UNSUBACK w_RESERVED w_CONNACK s.heap s.heap.size (Old.start s) S_BY_CODE V_BY_CODE S_PUBLISH p e ha hc hk s m _ below hf ((Spec.applies_iff_loose hf).mp happ).1 ⟨rfl, State.Warmed39.refl s, rfl⟩ trivial
  refine ⟨n, _, h1, h2, h3, hpost _ _ _ _ _ _ ⟨Cond.after_iff.mpr rfl, Cond.after_iff.mpr (eq_i res_at (Term.int_eval (1)) rfl), trivial⟩ ⟨hq.1, hq.2.1, hq.2.2.1, (hq.2.2.2.sift fun y hy => Or.inr (N y hy)).mono (by decide) (by decide)⟩⟩
theorem main_1_1 : Claimed_1_1 := comes_1 fun _ _ _ _ _ _ h hF => ⟨h.1, hF⟩
theorem main_1_2 : Claimed_1_2 := comes_1 fun _ _ _ _ _ _ h hF => ⟨h.2.1, hF⟩
end Jvm.Pilot.@@N@@
namespace Jvm.Pilot.@@N@@
open Jvm Jvm.ClassFile Sem Op Lib Jvm.Free Jvm.Stand Jvm.Pilot.@@N@@.Jvm.D
/-! MADE BY PROGRAM (witnessworld.py) out of the Statement's table words and the real class files: 18 classes; the members and pool entries that the words name. The judged class is class 1, her method 1. -/
namespace start1
open Jvm.ClassFile
def u (s : String) : CpInfo := .utf8 (stringToUtf16 s)
/-- a pool by its gaps: so many unusable entries, then the entry; so many at the end -/
def gap : Nat → List CpInfo → List CpInfo
  | 0, r => r
  | n + 1, r => .unusable :: gap n r
def poolList (es : List (Nat × CpInfo)) (last : Nat) : List CpInfo := es.foldr (fun e r => gap e.1 (e.2 :: r)) (gap last [])
def pool (es : List (Nat × CpInfo)) (last : Nat) : Array CpInfo := ⟨poolList es last⟩
def fileOf (pool : Array CpInfo) (this : Nat) (attrs : Array Attribute := #[]) (ms : Array MethodInfo := #[]) (fl : Nat := 33) (sup : Nat := 0) (ifs : Array Nat := #[]) (fds : Array FieldInfo := #[]) : ClassFile where
  minorVersion := 0
  majorVersion := 65
  constantPool := pool
  accessFlags := fl
  thisClass := this
  superClass := sup
  interfaces := ifs
  fields := fds
  methods := ms
  attributes := attrs
def plain (name : String) (sup : Option ClassId) : Class where
  name := name
  kind := .ordinary
  loader := none
  accessFlags := 33
  super := sup
  interfaces := #[]
  cf := none
  fields := #[]
  methods := #[]
  instanceTypes := #[]
  staticTypes := #[]
  resolved := #[]
  callSites := []
  init := .initialized
  statics := none
  mirror := none

def pool0 : Array CpInfo := pool [(5, u "<init>"), (0, u "()V"), (1, .class_ 10), (1, u "java/lang/Object")] 113

def k0c0 : Code := { maxStack := 0, maxLocals := 1, code := object_method_1_code, exceptionTable := #[], attributes := #[] }
def k0m0 : Method := { name := "<init>", desc := "()V", sig := { parameters := [], returnType := none }, accessFlags := 1, code := some k0c0 }
/-- java/lang/Object -/
def k0 : Class := { plain "java/lang/Object" none with
  accessFlags := 33
  interfaces := #[]
  cf := some (fileOf pool0 8 #[] #[{ accessFlags := 1, nameIndex := 5, descriptorIndex := 6, attributes := #[] }] 33 0 #[] #[])
  fields := #[]
  methods := #[k0m0]
  instanceTypes := #[]
  staticTypes := #[]
  resolved := Array.replicate 124 none
  statics := none }

def pool1 : Array CpInfo := pool [(2, .class_ 4), (0, .nameAndType 5 6), (0, u "java/lang/Object"), (0, u "<init>"), (0, u "()V"), (0, .class_ 8), (0, u "com/example/octets_to_session/octetstosession/core/Packet"), (0, .methodref 7 3), (0, .methodref 11 12), (0, .class_ 13), (0, .nameAndType 14 15), (0, u "com/example/octets_to_session/octetstosession/core/PacketType"), (0, u "of"), (0, u "(I)Lcom/example/octets_to_session/octetstosession/core/PacketType;"), (0, .fieldref 11 17), (0, .nameAndType 18 19), (0, u "PUBLISH"), (0, u "Lcom/example/octets_to_session/octetstosession/core/PacketType;"), (0, .methodref 7 21), (0, .nameAndType 22 23), (0, u "set"), (0, u "(Lcom/example/octets_to_session/octetstosession/core/PacketType;I[BII)Lcom/example/octets_to_session/octetstosession/core/Packet;"), (0, .methodref 7 25), (0, .nameAndType 26 27), (0, u "type"), (0, u "()Lcom/example/octets_to_session/octetstosession/core/PacketType;"), (0, .methodref 7 29), (0, .nameAndType 30 31), (0, u "flags"), (0, u "()I"), (0, .methodref 7 33), (0, .nameAndType 34 35), (0, u "octets"), (0, u "()[B"), (0, .methodref 7 37), (0, .nameAndType 38 31), (0, u "start"), (0, .methodref 7 40), (0, .nameAndType 41 31), (0, u "length"), (0, .methodref 7 43), (0, .nameAndType 44 45), (0, u "reader"), (0, u "()Lcom/example/octets_to_session/octetstosession/core/PacketReader;"), (0, .methodref 47 48), (0, .class_ 49), (0, .nameAndType 50 51), (0, u "com/example/octets_to_session/octetstosession/core/PacketReader"), (0, u "atEnd"), (0, u "()Z"), (0, .class_ 53), (0, u "com/example/octets_to_session/octetstosession/core/PacketSetPinLaw"), (2, u "law"), (0, u "(IIIIIJ)Z")] 5

def k1m0 : Method := { name := "<init>", desc := "()V", sig := { parameters := [], returnType := none }, accessFlags := 2, code := none }
def k1c1 : Code := { maxStack := 7, maxLocals := 18, code := code, exceptionTable := #[], attributes := #[] }
def k1m1 : Method := { name := "law", desc := "(IIIIIJ)Z", sig := { parameters := [.int, .int, .int, .int, .int, .long], returnType := some .boolean }, accessFlags := 9, code := some k1c1 }
/-- com/example/octets_to_session/octetstosession/core/PacketSetPinLaw -/
def k1 : Class := { plain "com/example/octets_to_session/octetstosession/core/PacketSetPinLaw" (some 0) with
  accessFlags := 49
  interfaces := #[]
  cf := some (fileOf pool1 52 #[] #[{ accessFlags := 2, nameIndex := 5, descriptorIndex := 6, attributes := #[] }, { accessFlags := 9, nameIndex := 56, descriptorIndex := 57, attributes := #[] }] 49 2 #[] #[])
  fields := #[]
  methods := #[k1m0, k1m1]
  instanceTypes := #[]
  staticTypes := #[]
  resolved := Array.replicate 63 none
  statics := none }

def pool2 : Array CpInfo := pool [(1, .methodref 2 3), (0, .class_ 4), (0, .nameAndType 5 6), (0, u "java/lang/Object"), (0, u "<init>"), (0, u "()V"), (1, .class_ 10), (1, u "com/example/octets_to_session/octetstosession/core/Packet"), (0, u "set"), (0, u "(Lcom/example/octets_to_session/octetstosession/core/PacketType;I[BII)Lcom/example/octets_to_session/octetstosession/core/Packet;"), (0, .fieldref 8 14), (0, .nameAndType 15 16), (0, u "type"), (0, u "Lcom/example/octets_to_session/octetstosession/core/PacketType;"), (0, .fieldref 8 18), (0, .nameAndType 19 20), (0, u "flags"), (0, u "I"), (0, .fieldref 8 22), (0, .nameAndType 23 24), (0, u "octets"), (0, u "[B"), (0, .fieldref 8 26), (0, .nameAndType 27 20), (0, u "start"), (0, .fieldref 8 29), (0, .nameAndType 30 20), (0, u "length"), (10, u "()I"), (18, .fieldref 8 61), (0, .nameAndType 62 63), (0, u "reader"), (0, u "Lcom/example/octets_to_session/octetstosession/core/PacketReader;"), (0, .class_ 65), (0, u "com/example/octets_to_session/octetstosession/core/PacketReader"), (0, .methodref 64 67), (0, .nameAndType 5 68), (0, u "([BII)V"), (5, u "connectReader"), (0, u "Lcom/example/octets_to_session/octetstosession/core/ConnectReader;"), (12, u "()[B"), (0, u "()Lcom/example/octets_to_session/octetstosession/core/PacketType;"), (3, u "()Lcom/example/octets_to_session/octetstosession/core/PacketReader;")] 4

def k2c0 : Code := { maxStack := 1, maxLocals := 1, code := prog_45_method_1_code, exceptionTable := #[], attributes := #[] }
def k2m0 : Method := { name := "<init>", desc := "()V", sig := { parameters := [], returnType := none }, accessFlags := 0, code := some k2c0 }
def k2c1 : Code := { maxStack := 2, maxLocals := 6, code := prog_45_method_3_code, exceptionTable := #[], attributes := #[] }
def k2m1 : Method := { name := "set", desc := "(Lcom/example/octets_to_session/octetstosession/core/PacketType;I[BII)Lcom/example/octets_to_session/octetstosession/core/Packet;", sig := { parameters := [(.object "com/example/octets_to_session/octetstosession/core/PacketType"), .int, (.array .byte), .int, .int], returnType := some (.object "com/example/octets_to_session/octetstosession/core/Packet") }, accessFlags := 0, code := some k2c1 }
def k2c2 : Code := { maxStack := 1, maxLocals := 1, code := prog_45_method_6_code, exceptionTable := #[], attributes := #[] }
def k2m2 : Method := { name := "type", desc := "()Lcom/example/octets_to_session/octetstosession/core/PacketType;", sig := { parameters := [], returnType := some (.object "com/example/octets_to_session/octetstosession/core/PacketType") }, accessFlags := 0, code := some k2c2 }
def k2c3 : Code := { maxStack := 1, maxLocals := 1, code := prog_45_method_7_code, exceptionTable := #[], attributes := #[] }
def k2m3 : Method := { name := "flags", desc := "()I", sig := { parameters := [], returnType := some .int }, accessFlags := 0, code := some k2c3 }
def k2c4 : Code := { maxStack := 1, maxLocals := 1, code := prog_45_method_9_code, exceptionTable := #[], attributes := #[] }
def k2m4 : Method := { name := "octets", desc := "()[B", sig := { parameters := [], returnType := some (.array .byte) }, accessFlags := 0, code := some k2c4 }
def k2c5 : Code := { maxStack := 1, maxLocals := 1, code := prog_45_method_10_code, exceptionTable := #[], attributes := #[] }
def k2m5 : Method := { name := "start", desc := "()I", sig := { parameters := [], returnType := some .int }, accessFlags := 0, code := some k2c5 }
def k2c6 : Code := { maxStack := 1, maxLocals := 1, code := prog_45_method_11_code, exceptionTable := #[], attributes := #[] }
def k2m6 : Method := { name := "length", desc := "()I", sig := { parameters := [], returnType := some .int }, accessFlags := 0, code := some k2c6 }
def k2c7 : Code := { maxStack := 7, maxLocals := 1, code := prog_45_method_12_code, exceptionTable := #[], attributes := #[] }
def k2m7 : Method := { name := "reader", desc := "()Lcom/example/octets_to_session/octetstosession/core/PacketReader;", sig := { parameters := [], returnType := some (.object "com/example/octets_to_session/octetstosession/core/PacketReader") }, accessFlags := 0, code := some k2c7 }
/-- com/example/octets_to_session/octetstosession/core/Packet -/
def k2 : Class := { plain "com/example/octets_to_session/octetstosession/core/Packet" (some 0) with
  accessFlags := 32
  interfaces := #[]
  cf := some (fileOf pool2 8 #[] #[{ accessFlags := 0, nameIndex := 5, descriptorIndex := 6, attributes := #[] }, { accessFlags := 0, nameIndex := 11, descriptorIndex := 12, attributes := #[] }, { accessFlags := 0, nameIndex := 15, descriptorIndex := 89, attributes := #[] }, { accessFlags := 0, nameIndex := 19, descriptorIndex := 41, attributes := #[] }, { accessFlags := 0, nameIndex := 23, descriptorIndex := 88, attributes := #[] }, { accessFlags := 0, nameIndex := 27, descriptorIndex := 41, attributes := #[] }, { accessFlags := 0, nameIndex := 30, descriptorIndex := 41, attributes := #[] }, { accessFlags := 0, nameIndex := 62, descriptorIndex := 93, attributes := #[] }] 32 2 #[] #[{ accessFlags := 2, nameIndex := 15, descriptorIndex := 16, attributes := #[] }, { accessFlags := 2, nameIndex := 19, descriptorIndex := 20, attributes := #[] }, { accessFlags := 2, nameIndex := 23, descriptorIndex := 24, attributes := #[] }, { accessFlags := 2, nameIndex := 27, descriptorIndex := 20, attributes := #[] }, { accessFlags := 2, nameIndex := 30, descriptorIndex := 20, attributes := #[] }, { accessFlags := 2, nameIndex := 62, descriptorIndex := 63, attributes := #[] }, { accessFlags := 2, nameIndex := 74, descriptorIndex := 75, attributes := #[] }])
  fields := #[{ name := "type", type := (.object "com/example/octets_to_session/octetstosession/core/PacketType"), accessFlags := 2, slot := 0, constantValue := 0 }, { name := "flags", type := .int, accessFlags := 2, slot := 1, constantValue := 0 }, { name := "octets", type := (.array .byte), accessFlags := 2, slot := 2, constantValue := 0 }, { name := "start", type := .int, accessFlags := 2, slot := 3, constantValue := 0 }, { name := "length", type := .int, accessFlags := 2, slot := 4, constantValue := 0 }, { name := "reader", type := (.object "com/example/octets_to_session/octetstosession/core/PacketReader"), accessFlags := 2, slot := 5, constantValue := 0 }, { name := "connectReader", type := (.object "com/example/octets_to_session/octetstosession/core/ConnectReader"), accessFlags := 2, slot := 6, constantValue := 0 }]
  methods := #[k2m0, k2m1, k2m2, k2m3, k2m4, k2m5, k2m6, k2m7]
  instanceTypes := #[(.object "com/example/octets_to_session/octetstosession/core/PacketType"), .int, (.array .byte), .int, .int, (.object "com/example/octets_to_session/octetstosession/core/PacketReader"), (.object "com/example/octets_to_session/octetstosession/core/ConnectReader")]
  staticTypes := #[]
  resolved := Array.replicate 98 none
  statics := none }

def pool3 : Array CpInfo := pool [(1, .class_ 2), (0, u "java/lang/constant/Constable"), (0, .class_ 4), (0, u "java/lang/Object")] 6

/-- java/lang/constant/Constable -/
def k3 : Class := { plain "java/lang/constant/Constable" (some 0) with
  accessFlags := 1537
  interfaces := #[]
  cf := some (fileOf pool3 1 #[] #[] 1537 3 #[] #[])
  fields := #[]
  methods := #[]
  instanceTypes := #[]
  staticTypes := #[]
  resolved := Array.replicate 11 none
  statics := none }

def pool4 : Array CpInfo := pool [(1, .class_ 2), (0, u "java/lang/Comparable"), (0, .class_ 4), (0, u "java/lang/Object")] 7

/-- java/lang/Comparable -/
def k4 : Class := { plain "java/lang/Comparable" (some 0) with
  accessFlags := 1537
  interfaces := #[]
  cf := some (fileOf pool4 1 #[] #[] 1537 3 #[] #[])
  fields := #[]
  methods := #[]
  instanceTypes := #[]
  staticTypes := #[]
  resolved := Array.replicate 12 none
  statics := none }

def pool5 : Array CpInfo := pool [(1, .class_ 2), (0, u "java/io/Serializable"), (0, .class_ 4), (0, u "java/lang/Object")] 2

/-- java/io/Serializable -/
def k5 : Class := { plain "java/io/Serializable" (some 0) with
  accessFlags := 1537
  interfaces := #[]
  cf := some (fileOf pool5 1 #[] #[] 1537 3 #[] #[])
  fields := #[]
  methods := #[]
  instanceTypes := #[]
  staticTypes := #[]
  resolved := Array.replicate 7 none
  statics := none }

def pool6 : Array CpInfo := pool [(2, .class_ 4), (1, u "java/lang/Enum"), (0, u "name"), (0, u "Ljava/lang/String;"), (2, u "ordinal"), (0, u "I"), (1, .class_ 14), (1, u "java/lang/Object"), (4, u "hash"), (86, .class_ 108), (1, u "java/lang/Enum$EnumDesc"), (2, .class_ 112), (0, u "java/lang/constant/Constable"), (0, .class_ 114), (0, u "java/lang/Comparable"), (0, .class_ 116), (0, u "java/io/Serializable")] 87

/-- java/lang/Enum -/
def k6 : Class := { plain "java/lang/Enum" (some 0) with
  accessFlags := 1057
  interfaces := #[3, 4, 5]
  cf := some (fileOf pool6 2 #[.nestMembers #[106]] #[] 1057 12 #[111, 113, 115] #[{ accessFlags := 18, nameIndex := 5, descriptorIndex := 6, attributes := #[] }, { accessFlags := 18, nameIndex := 9, descriptorIndex := 10, attributes := #[] }, { accessFlags := 2, nameIndex := 19, descriptorIndex := 10, attributes := #[] }])
  fields := #[{ name := "name", type := (.object "java/lang/String"), accessFlags := 18, slot := 0, constantValue := 0 }, { name := "ordinal", type := .int, accessFlags := 18, slot := 1, constantValue := 0 }, { name := "hash", type := .int, accessFlags := 2, slot := 2, constantValue := 0 }]
  methods := #[]
  instanceTypes := #[(.object "java/lang/String"), .int, .int]
  staticTypes := #[]
  resolved := Array.replicate 204 none
  statics := none }

def pool7 : Array CpInfo := pool [(1, .class_ 2), (0, u "com/example/octets_to_session/octetstosession/core/PacketType"), (2, u "RESERVED"), (0, u "Lcom/example/octets_to_session/octetstosession/core/PacketType;"), (2, u "CONNECT"), (2, u "CONNACK"), (2, u "PUBLISH"), (2, u "PUBACK"), (2, u "PUBREC"), (2, u "PUBREL"), (2, u "PUBCOMP"), (2, u "SUBSCRIBE"), (2, u "SUBACK"), (2, u "UNSUBSCRIBE"), (2, u "UNSUBACK"), (2, u "PINGREQ"), (2, u "PINGRESP"), (2, u "DISCONNECT"), (2, u "AUTH"), (2, u "$VALUES"), (0, u "[Lcom/example/octets_to_session/octetstosession/core/PacketType;"), (6, .class_ 64), (1, u "java/lang/Enum"), (8, u "flags"), (0, u "I"), (0, .fieldref 1 76), (0, .nameAndType 77 55), (0, u "BY_CODE"), (4, .class_ 83), (0, u "com/example/octets_to_session/octetstosession/core/PacketType$Flags"), (46, u "of"), (0, u "(I)Lcom/example/octets_to_session/octetstosession/core/PacketType;")] 26

def k7c0 : Code := { maxStack := 3, maxLocals := 1, code := prog_50_method_4_code, exceptionTable := #[], attributes := #[] }
def k7m0 : Method := { name := "of", desc := "(I)Lcom/example/octets_to_session/octetstosession/core/PacketType;", sig := { parameters := [.int], returnType := some (.object "com/example/octets_to_session/octetstosession/core/PacketType") }, accessFlags := 8, code := some k7c0 }
/-- com/example/octets_to_session/octetstosession/core/PacketType -/
def k7 : Class := { plain "com/example/octets_to_session/octetstosession/core/PacketType" (some 6) with
  accessFlags := 16433
  interfaces := #[]
  cf := some (fileOf pool7 1 #[.nestMembers #[82]] #[{ accessFlags := 8, nameIndex := 130, descriptorIndex := 131, attributes := #[] }] 16433 62 #[] #[{ accessFlags := 16409, nameIndex := 5, descriptorIndex := 6, attributes := #[] }, { accessFlags := 16409, nameIndex := 9, descriptorIndex := 6, attributes := #[] }, { accessFlags := 16409, nameIndex := 12, descriptorIndex := 6, attributes := #[] }, { accessFlags := 16409, nameIndex := 15, descriptorIndex := 6, attributes := #[] }, { accessFlags := 16409, nameIndex := 18, descriptorIndex := 6, attributes := #[] }, { accessFlags := 16409, nameIndex := 21, descriptorIndex := 6, attributes := #[] }, { accessFlags := 16409, nameIndex := 24, descriptorIndex := 6, attributes := #[] }, { accessFlags := 16409, nameIndex := 27, descriptorIndex := 6, attributes := #[] }, { accessFlags := 16409, nameIndex := 30, descriptorIndex := 6, attributes := #[] }, { accessFlags := 16409, nameIndex := 33, descriptorIndex := 6, attributes := #[] }, { accessFlags := 16409, nameIndex := 36, descriptorIndex := 6, attributes := #[] }, { accessFlags := 16409, nameIndex := 39, descriptorIndex := 6, attributes := #[] }, { accessFlags := 16409, nameIndex := 42, descriptorIndex := 6, attributes := #[] }, { accessFlags := 16409, nameIndex := 45, descriptorIndex := 6, attributes := #[] }, { accessFlags := 16409, nameIndex := 48, descriptorIndex := 6, attributes := #[] }, { accessFlags := 16409, nameIndex := 51, descriptorIndex := 6, attributes := #[] }, { accessFlags := 26, nameIndex := 77, descriptorIndex := 55, attributes := #[] }, { accessFlags := 18, nameIndex := 73, descriptorIndex := 74, attributes := #[] }, { accessFlags := 4122, nameIndex := 54, descriptorIndex := 55, attributes := #[] }])
  fields := #[{ name := "RESERVED", type := (.object "com/example/octets_to_session/octetstosession/core/PacketType"), accessFlags := 16409, slot := 0, constantValue := 0 }, { name := "CONNECT", type := (.object "com/example/octets_to_session/octetstosession/core/PacketType"), accessFlags := 16409, slot := 1, constantValue := 0 }, { name := "CONNACK", type := (.object "com/example/octets_to_session/octetstosession/core/PacketType"), accessFlags := 16409, slot := 2, constantValue := 0 }, { name := "PUBLISH", type := (.object "com/example/octets_to_session/octetstosession/core/PacketType"), accessFlags := 16409, slot := 3, constantValue := 0 }, { name := "PUBACK", type := (.object "com/example/octets_to_session/octetstosession/core/PacketType"), accessFlags := 16409, slot := 4, constantValue := 0 }, { name := "PUBREC", type := (.object "com/example/octets_to_session/octetstosession/core/PacketType"), accessFlags := 16409, slot := 5, constantValue := 0 }, { name := "PUBREL", type := (.object "com/example/octets_to_session/octetstosession/core/PacketType"), accessFlags := 16409, slot := 6, constantValue := 0 }, { name := "PUBCOMP", type := (.object "com/example/octets_to_session/octetstosession/core/PacketType"), accessFlags := 16409, slot := 7, constantValue := 0 }, { name := "SUBSCRIBE", type := (.object "com/example/octets_to_session/octetstosession/core/PacketType"), accessFlags := 16409, slot := 8, constantValue := 0 }, { name := "SUBACK", type := (.object "com/example/octets_to_session/octetstosession/core/PacketType"), accessFlags := 16409, slot := 9, constantValue := 0 }, { name := "UNSUBSCRIBE", type := (.object "com/example/octets_to_session/octetstosession/core/PacketType"), accessFlags := 16409, slot := 10, constantValue := 0 }, { name := "UNSUBACK", type := (.object "com/example/octets_to_session/octetstosession/core/PacketType"), accessFlags := 16409, slot := 11, constantValue := 0 }, { name := "PINGREQ", type := (.object "com/example/octets_to_session/octetstosession/core/PacketType"), accessFlags := 16409, slot := 12, constantValue := 0 }, { name := "PINGRESP", type := (.object "com/example/octets_to_session/octetstosession/core/PacketType"), accessFlags := 16409, slot := 13, constantValue := 0 }, { name := "DISCONNECT", type := (.object "com/example/octets_to_session/octetstosession/core/PacketType"), accessFlags := 16409, slot := 14, constantValue := 0 }, { name := "AUTH", type := (.object "com/example/octets_to_session/octetstosession/core/PacketType"), accessFlags := 16409, slot := 15, constantValue := 0 }, { name := "BY_CODE", type := (.array (.object "com/example/octets_to_session/octetstosession/core/PacketType")), accessFlags := 26, slot := 16, constantValue := 0 }, { name := "flags", type := .int, accessFlags := 18, slot := 3, constantValue := 0 }, { name := "$VALUES", type := (.array (.object "com/example/octets_to_session/octetstosession/core/PacketType")), accessFlags := 4122, slot := 17, constantValue := 0 }]
  methods := #[k7m0]
  instanceTypes := #[(.object "java/lang/String"), .int, .int, .int]
  staticTypes := #[(.object "com/example/octets_to_session/octetstosession/core/PacketType"), (.object "com/example/octets_to_session/octetstosession/core/PacketType"), (.object "com/example/octets_to_session/octetstosession/core/PacketType"), (.object "com/example/octets_to_session/octetstosession/core/PacketType"), (.object "com/example/octets_to_session/octetstosession/core/PacketType"), (.object "com/example/octets_to_session/octetstosession/core/PacketType"), (.object "com/example/octets_to_session/octetstosession/core/PacketType"), (.object "com/example/octets_to_session/octetstosession/core/PacketType"), (.object "com/example/octets_to_session/octetstosession/core/PacketType"), (.object "com/example/octets_to_session/octetstosession/core/PacketType"), (.object "com/example/octets_to_session/octetstosession/core/PacketType"), (.object "com/example/octets_to_session/octetstosession/core/PacketType"), (.object "com/example/octets_to_session/octetstosession/core/PacketType"), (.object "com/example/octets_to_session/octetstosession/core/PacketType"), (.object "com/example/octets_to_session/octetstosession/core/PacketType"), (.object "com/example/octets_to_session/octetstosession/core/PacketType"), (.array (.object "com/example/octets_to_session/octetstosession/core/PacketType")), (.array (.object "com/example/octets_to_session/octetstosession/core/PacketType"))]
  resolved := Array.replicate 158 none
  statics := some 0 }

def pool8 : Array CpInfo := pool [(1, .class_ 2), (0, u "com/example/octets_to_session/octetstosession/core/PacketReader"), (0, .string 4), (0, u "packet"), (0, .methodref 1 6), (0, .nameAndType 7 8), (0, u "<init>"), (0, u "([BIILjava/lang/String;)V"), (0, .methodref 10 11), (0, .class_ 12), (0, .nameAndType 7 13), (0, u "java/lang/Object"), (0, u "()V"), (0, .fieldref 1 15), (0, .nameAndType 16 17), (0, u "body"), (0, u "[B"), (0, .fieldref 1 19), (0, .nameAndType 20 21), (0, u "at"), (0, u "I"), (0, .fieldref 1 23), (0, .nameAndType 24 21), (0, u "end"), (0, .fieldref 1 26), (0, .nameAndType 27 28), (0, u "container"), (0, u "Ljava/lang/String;"), (129, u "WILDCARD_MULTI"), (2, u "WILDCARD_SINGLE"), (1, u "PACKET"), (3, u "([BII)V"), (16, u "atEnd"), (0, u "()Z")] 32

def k8c0 : Code := { maxStack := 5, maxLocals := 4, code := prog_48_method_2_code, exceptionTable := #[], attributes := #[] }
def k8m0 : Method := { name := "<init>", desc := "([BII)V", sig := { parameters := [(.array .byte), .int, .int], returnType := none }, accessFlags := 0, code := some k8c0 }
def k8c1 : Code := { maxStack := 2, maxLocals := 5, code := prog_48_method_3_code, exceptionTable := #[], attributes := #[] }
def k8m1 : Method := { name := "<init>", desc := "([BIILjava/lang/String;)V", sig := { parameters := [(.array .byte), .int, .int, (.object "java/lang/String")], returnType := none }, accessFlags := 2, code := some k8c1 }
def k8c2 : Code := { maxStack := 2, maxLocals := 1, code := prog_48_method_17_code, exceptionTable := #[], attributes := #[] }
def k8m2 : Method := { name := "atEnd", desc := "()Z", sig := { parameters := [], returnType := some .boolean }, accessFlags := 0, code := some k8c2 }
/-- com/example/octets_to_session/octetstosession/core/PacketReader -/
def k8 : Class := { plain "com/example/octets_to_session/octetstosession/core/PacketReader" (some 0) with
  accessFlags := 32
  interfaces := #[]
  cf := some (fileOf pool8 1 #[] #[{ accessFlags := 0, nameIndex := 7, descriptorIndex := 167, attributes := #[] }, { accessFlags := 2, nameIndex := 7, descriptorIndex := 8, attributes := #[] }, { accessFlags := 0, nameIndex := 184, descriptorIndex := 185, attributes := #[] }] 32 10 #[] #[{ accessFlags := 26, nameIndex := 158, descriptorIndex := 21, attributes := #[] }, { accessFlags := 26, nameIndex := 161, descriptorIndex := 21, attributes := #[] }, { accessFlags := 26, nameIndex := 163, descriptorIndex := 28, attributes := #[] }, { accessFlags := 2, nameIndex := 16, descriptorIndex := 17, attributes := #[] }, { accessFlags := 2, nameIndex := 24, descriptorIndex := 21, attributes := #[] }, { accessFlags := 2, nameIndex := 27, descriptorIndex := 28, attributes := #[] }, { accessFlags := 2, nameIndex := 20, descriptorIndex := 21, attributes := #[] }])
  fields := #[{ name := "WILDCARD_MULTI", type := .int, accessFlags := 26, slot := 0, constantValue := 0 }, { name := "WILDCARD_SINGLE", type := .int, accessFlags := 26, slot := 1, constantValue := 0 }, { name := "PACKET", type := (.object "java/lang/String"), accessFlags := 26, slot := 2, constantValue := 0 }, { name := "body", type := (.array .byte), accessFlags := 2, slot := 0, constantValue := 0 }, { name := "end", type := .int, accessFlags := 2, slot := 1, constantValue := 0 }, { name := "container", type := (.object "java/lang/String"), accessFlags := 2, slot := 2, constantValue := 0 }, { name := "at", type := .int, accessFlags := 2, slot := 3, constantValue := 0 }]
  methods := #[k8m0, k8m1, k8m2]
  instanceTypes := #[(.array .byte), .int, (.object "java/lang/String"), .int]
  staticTypes := #[.int, .int, (.object "java/lang/String")]
  resolved := Array.replicate 218 none
  statics := none }

def pool9 : Array CpInfo := pool [(2, .class_ 4), (1, u "java/lang/CharSequence"), (42, .class_ 48), (0, u "java/lang/CharSequence$1CodePointIterator"), (10, .class_ 60), (0, u "java/lang/CharSequence$1CharIterator"), (5, .class_ 67), (0, u "java/lang/Object")] 63

/-- java/lang/CharSequence -/
def k9 : Class := { plain "java/lang/CharSequence" (some 0) with
  accessFlags := 1537
  interfaces := #[]
  cf := some (fileOf pool9 2 #[.nestMembers #[47, 59]] #[] 1537 66 #[] #[])
  fields := #[]
  methods := #[]
  instanceTypes := #[]
  staticTypes := #[]
  resolved := Array.replicate 131 none
  statics := none }

def pool10 : Array CpInfo := pool [(1, .class_ 2), (0, u "java/lang/constant/ConstantDesc"), (0, .class_ 4), (0, u "java/lang/Object")] 32

/-- java/lang/constant/ConstantDesc -/
def k10 : Class := { plain "java/lang/constant/ConstantDesc" (some 0) with
  accessFlags := 1537
  interfaces := #[]
  cf := some (fileOf pool10 1 #[] #[] 1537 3 #[] #[])
  fields := #[]
  methods := #[]
  instanceTypes := #[]
  staticTypes := #[]
  resolved := Array.replicate 37 none
  statics := none }

def pool11 : Array CpInfo := pool [(2, .class_ 4), (1, u "java/lang/Object"), (0, u "<init>"), (0, u "()V"), (3, .class_ 12), (1, u "java/lang/String"), (0, u "value"), (0, u "[B"), (2, u "coder"), (0, u "B"), (2, u "hash"), (0, u "I"), (2, u "hashIsZero"), (0, u "Z"), (13, u "COMPACT_STRINGS"), (534, .class_ 576), (0, u "java/lang/CharSequence"), (22, u "CASE_INSENSITIVE_ORDER"), (0, u "Ljava/util/Comparator;"), (500, u "serialPersistentFields"), (0, u "[Ljava/io/ObjectStreamField;"), (0, .class_ 1104), (0, u "java/lang/String$CaseInsensitiveComparator"), (1, .class_ 1107), (0, u "java/io/Serializable"), (0, .class_ 1109), (0, u "java/lang/Comparable"), (0, .class_ 1111), (0, u "java/lang/constant/Constable"), (0, .class_ 1113), (0, u "java/lang/constant/ConstantDesc"), (2, u "serialVersionUID"), (0, u "J"), (3, u "REPL"), (0, u "C"), (2, u "LATIN1"), (1, u "UTF16")] 323

def k11m0 : Method := { name := "<init>", desc := "()V", sig := { parameters := [], returnType := none }, accessFlags := 1, code := none }
/-- java/lang/String -/
def k11 : Class := { plain "java/lang/String" (some 0) with
  accessFlags := 49
  interfaces := #[5, 4, 9, 3, 10]
  cf := some (fileOf pool11 10 #[.nestMembers #[1103]] #[{ accessFlags := 1, nameIndex := 5, descriptorIndex := 6, attributes := #[] }] 49 2 #[1106, 1108, 575, 1110, 1112] #[{ accessFlags := 18, nameIndex := 13, descriptorIndex := 14, attributes := #[] }, { accessFlags := 18, nameIndex := 17, descriptorIndex := 18, attributes := #[] }, { accessFlags := 2, nameIndex := 21, descriptorIndex := 22, attributes := #[] }, { accessFlags := 2, nameIndex := 25, descriptorIndex := 26, attributes := #[] }, { accessFlags := 26, nameIndex := 1116, descriptorIndex := 1117, attributes := #[] }, { accessFlags := 24, nameIndex := 40, descriptorIndex := 26, attributes := #[] }, { accessFlags := 26, nameIndex := 1101, descriptorIndex := 1102, attributes := #[] }, { accessFlags := 26, nameIndex := 1121, descriptorIndex := 1122, attributes := #[] }, { accessFlags := 25, nameIndex := 599, descriptorIndex := 600, attributes := #[] }, { accessFlags := 24, nameIndex := 1125, descriptorIndex := 18, attributes := #[] }, { accessFlags := 24, nameIndex := 1127, descriptorIndex := 18, attributes := #[] }])
  fields := #[{ name := "value", type := (.array .byte), accessFlags := 18, slot := 0, constantValue := 0 }, { name := "coder", type := .byte, accessFlags := 18, slot := 1, constantValue := 0 }, { name := "hash", type := .int, accessFlags := 2, slot := 2, constantValue := 0 }, { name := "hashIsZero", type := .boolean, accessFlags := 2, slot := 3, constantValue := 0 }, { name := "serialVersionUID", type := .long, accessFlags := 26, slot := 0, constantValue := 0 }, { name := "COMPACT_STRINGS", type := .boolean, accessFlags := 24, slot := 1, constantValue := 0 }, { name := "serialPersistentFields", type := (.array (.object "java/io/ObjectStreamField")), accessFlags := 26, slot := 2, constantValue := 0 }, { name := "REPL", type := .char, accessFlags := 26, slot := 3, constantValue := 0 }, { name := "CASE_INSENSITIVE_ORDER", type := (.object "java/util/Comparator"), accessFlags := 25, slot := 4, constantValue := 0 }, { name := "LATIN1", type := .byte, accessFlags := 24, slot := 5, constantValue := 0 }, { name := "UTF16", type := .byte, accessFlags := 24, slot := 6, constantValue := 0 }]
  methods := #[k11m0]
  instanceTypes := #[(.array .byte), .byte, .int, .boolean]
  staticTypes := #[.long, .boolean, (.array (.object "java/io/ObjectStreamField")), .char, (.object "java/util/Comparator"), .byte, .byte]
  resolved := Array.replicate 1451 none
  statics := none }

def pool12 : Array CpInfo := pool [(1, u "java/lang/Cloneable"), (0, .class_ 1), (0, u "java/lang/Object"), (0, .class_ 3)] 3

/-- java/lang/Cloneable -/
def k12 : Class := { plain "java/lang/Cloneable" (some 0) with
  accessFlags := 1537
  interfaces := #[]
  cf := some (fileOf pool12 2 #[] #[] 1537 4 #[] #[])
  fields := #[]
  methods := #[]
  instanceTypes := #[]
  staticTypes := #[]
  resolved := Array.replicate 8 none
  statics := none }

/-- the primitive byte -/
def k13 : Class := { plain "byte" none with kind := .primitive 'B', accessFlags := 0x411 }
/-- [B -/
def k14 : Class := { plain "[B" (some 0) with kind := .array 13 .byte, interfaces := #[12, 5], accessFlags := 1041 }

/-- the primitive int -/
def k15 : Class := { plain "int" none with kind := .primitive 'I', accessFlags := 0x411 }
/-- [I -/
def k16 : Class := { plain "[I" (some 0) with kind := .array 15 .int, interfaces := #[12, 5], accessFlags := 1041 }

/-- [Lcom/example/octets_to_session/octetstosession/core/PacketType; -/
def k17 : Class := { plain "[Lcom/example/octets_to_session/octetstosession/core/PacketType;" (some 0) with kind := .array 7 (.object "com/example/octets_to_session/octetstosession/core/PacketType"), interfaces := #[12, 5], accessFlags := 1041 }

def heap : Heap := #[{ cls := 7, slots := #[.ref 2, .ref 12, .ref 8, .ref 3, .ref 17, .ref 13, .ref 15, .ref 11, .ref 9, .ref 5, .ref 4, .ref 6, .ref 16, .ref 14, .ref 10, .ref 7, .ref 1, .null], vm := .statics 7 },
  { cls := 17, slots := #[.ref 2, .ref 12, .ref 8, .ref 3, .ref 17, .ref 13, .ref 15, .ref 11, .ref 9, .ref 5, .ref 4, .ref 6, .ref 16, .ref 14, .ref 10, .ref 7], vm := .none },
  { cls := 7, slots := #[.null, .int 0, .int 0, .int 0], vm := .none },
  { cls := 7, slots := #[.null, .int 0, .int 0, .int 0], vm := .none },
  { cls := 7, slots := #[.null, .int 0, .int 0, .int 0], vm := .none },
  { cls := 7, slots := #[.null, .int 0, .int 0, .int 0], vm := .none },
  { cls := 7, slots := #[.null, .int 0, .int 0, .int 0], vm := .none },
  { cls := 7, slots := #[.null, .int 0, .int 0, .int 0], vm := .none },
  { cls := 7, slots := #[.null, .int 0, .int 0, .int 0], vm := .none },
  { cls := 7, slots := #[.null, .int 0, .int 0, .int 0], vm := .none },
  { cls := 7, slots := #[.null, .int 0, .int 0, .int 0], vm := .none },
  { cls := 7, slots := #[.null, .int 0, .int 0, .int 0], vm := .none },
  { cls := 7, slots := #[.null, .int 0, .int 0, .int 0], vm := .none },
  { cls := 7, slots := #[.null, .int 0, .int 0, .int 0], vm := .none },
  { cls := 7, slots := #[.null, .int 0, .int 0, .int 0], vm := .none },
  { cls := 7, slots := #[.null, .int 0, .int 0, .int 0], vm := .none },
  { cls := 7, slots := #[.null, .int 0, .int 0, .int 0], vm := .none },
  { cls := 7, slots := #[.null, .int 0, .int 0, .int 0], vm := .none }]
def classes : Array Class := #[k0, k1, k2, k3, k4, k5, k6, k7, k8, k9, k10, k11, k12, k13, k14, k15, k16, k17]
def interned : List (Array UInt16 × Addr) := []
def slotsUsed : Nat := 98
def theMethod : MethodId := ⟨1, 1⟩
def args0 : Array Value := #[.int 5, .int 6, .int 7, .int 8, .int 9, .long 7]
def aboutOver (below : List Frame) : State where
  vm := { classes := classes, interned := interned.toArray }
  heap := heap
  slotsUsed := slotsUsed
  threads := #[{ frames := .invoking theMethod args0 :: below }]
def below0 : List Frame := [.native { method := ⟨0, 0⟩, args := #[] }]
def about1 : State := aboutOver below0
def p0 : Program := .bare "" "" ""
def e0 : Env := launch0.env 0 0 0
theorem w_frames : about1.frames = Frame.invoking theMethod args0 :: below0 := rfl
set_option maxRecDepth 65536 in
theorem w_args : argsFit about1.vm theMethod args0 = true := by decide +kernel
set_option maxRecDepth 65536 in
theorem w_heap : heapFits about1 = true := by decide +kernel
set_option maxRecDepth 65536 in
theorem w_runnable : about1.curStatus? = some .runnable := by decide +kernel
set_option maxRecDepth 65536 in
theorem w_alone : about1.alone = true := by decide +kernel
set_option maxRecDepth 65536 in
theorem w_named : about1.methodNamed? x = some theMethod := by decide +kernel
set_option maxRecDepth 65536 in
theorem w_hears : about1.hears theMethod below0 = true := by decide +kernel
set_option maxRecDepth 65536 in
theorem w_ripe : about1.ripe theMethod args0 below0 = true := by decide +kernel
theorem w_running : about1.status = .running := rfl
set_option maxRecDepth 65536 in
theorem w_room : about1.hasRoom e0.platform room_1 = true :=
  launch0.hasRoom_least _ room_1 (by decide +kernel) (by decide +kernel) (by decide +kernel) (by decide +kernel) (by decide +kernel) (by decide +kernel)
theorem allAtoms_all (ts : List Jvm.Cond) (a : Array Jvm.Value) (st : Jvm.State) : (allAtoms ts).before a st = ts.all (fun c => c.before a st) := by
  induction ts with
  | nil => rfl
  | cons c t ih =>
    show (Jvm.Cond.and c (allAtoms t)).before a st = _
    rw [Jvm.Cond.before_and, ih, List.all_cons]
def words1 : List Jvm.Cond := Jvm.Cond.code x code maxLocals ret :: tables_1
/-- a 'code' word, met by the world's own term for the bytes: nothing is compared byte by byte -/
theorem code_word {y : MethodName} {bytes : ByteArray} {mx : Nat} {rt : Option FieldType} {a : Array Value} {s : State} {m : MethodId} {meth : Method} {c : Code} (h1 : s.methodNamed? y = some m) (h2 : s.vm.method? m = some meth) (h3 : meth.code = some c) (h4 : c.code = bytes)
    (h5 : (c.maxLocals == mx && c.exceptionTable.isEmpty && decide (c.maxStack ≤ mostOperands) && decide (meth.sig.returnType = rt) && !meth.locks && decide (parseMethodDescriptor y.desc = some meth.sig)) = true) : (Jvm.Cond.code y bytes mx rt).before a s = true := by
  simp only [Bool.and_eq_true, beq_iff_eq, Bool.not_eq_true', decide_eq_true_eq] at h5
  obtain ⟨⟨⟨⟨⟨g1, g2⟩, g3⟩, g4⟩, g5⟩, g6⟩ := h5
  simp [Cond.before, Cond.holds, Cond.value, h1, h2, h3, h4, g1, g2, g3, g4, g5, g6]
def isCode : Jvm.Cond → Bool
  | .code _ _ _ _ => true
  | _ => false
theorem all_split {L : List Jvm.Cond} {P : Jvm.Cond → Bool} (h1 : L.all (fun c => isCode c || P c) = true) (h2 : ∀ c ∈ L.filter isCode, P c = true) : L.all P = true := by
  refine List.all_eq_true.mpr fun c hc => ?_
  have h := List.all_eq_true.mp h1 c hc
  rcases Bool.eq_false_or_eq_true (isCode c) with hi | hi
  · exact h2 c (List.mem_filter.mpr ⟨hc, hi⟩)
  · simpa [hi] using h
set_option maxRecDepth 65536 in
theorem w_c0 : (Jvm.Cond.code x code maxLocals ret).before args0 about1 = true := code_word (m := ⟨1, 1⟩) (meth := k1m1) (c := k1c1) (by decide +kernel) rfl rfl rfl (by decide +kernel)
set_option maxRecDepth 65536 in
theorem w_c1 : (Jvm.Cond.code ({ cls := "com/example/octets_to_session/octetstosession/core/Packet", name := "<init>", desc := "()V" } : Jvm.MethodName) prog_45_method_1_code (1 : Nat) (Option.none : Option Jvm.ClassFile.FieldType)).before args0 about1 = true := code_word (m := ⟨2, 0⟩) (meth := k2m0) (c := k2c0) (by decide +kernel) rfl rfl rfl (by decide +kernel)
set_option maxRecDepth 65536 in
theorem w_c2 : (Jvm.Cond.code ({ cls := "java/lang/Object", name := "<init>", desc := "()V" } : Jvm.MethodName) object_method_1_code (1 : Nat) (Option.none : Option Jvm.ClassFile.FieldType)).before args0 about1 = true := code_word (m := ⟨0, 0⟩) (meth := k0m0) (c := k0c0) (by decide +kernel) rfl rfl rfl (by decide +kernel)
set_option maxRecDepth 65536 in
theorem w_c3 : (Jvm.Cond.code ({ cls := "com/example/octets_to_session/octetstosession/core/PacketType", name := "of", desc := "(I)Lcom/example/octets_to_session/octetstosession/core/PacketType;" } : Jvm.MethodName) prog_50_method_4_code (1 : Nat) (Option.some (Jvm.ClassFile.FieldType.object "com/example/octets_to_session/octetstosession/core/PacketType"))).before args0 about1 = true := code_word (m := ⟨7, 0⟩) (meth := k7m0) (c := k7c0) (by decide +kernel) rfl rfl rfl (by decide +kernel)
set_option maxRecDepth 65536 in
theorem w_c4 : (Jvm.Cond.code ({ cls := "com/example/octets_to_session/octetstosession/core/Packet", name := "set", desc := "(Lcom/example/octets_to_session/octetstosession/core/PacketType;I[BII)Lcom/example/octets_to_session/octetstosession/core/Packet;" } : Jvm.MethodName) prog_45_method_3_code (6 : Nat) (Option.some (Jvm.ClassFile.FieldType.object "com/example/octets_to_session/octetstosession/core/Packet"))).before args0 about1 = true := code_word (m := ⟨2, 1⟩) (meth := k2m1) (c := k2c1) (by decide +kernel) rfl rfl rfl (by decide +kernel)
set_option maxRecDepth 65536 in
theorem w_c5 : (Jvm.Cond.code ({ cls := "com/example/octets_to_session/octetstosession/core/Packet", name := "type", desc := "()Lcom/example/octets_to_session/octetstosession/core/PacketType;" } : Jvm.MethodName) prog_45_method_6_code (1 : Nat) (Option.some (Jvm.ClassFile.FieldType.object "com/example/octets_to_session/octetstosession/core/PacketType"))).before args0 about1 = true := code_word (m := ⟨2, 2⟩) (meth := k2m2) (c := k2c2) (by decide +kernel) rfl rfl rfl (by decide +kernel)
set_option maxRecDepth 65536 in
theorem w_c6 : (Jvm.Cond.code ({ cls := "com/example/octets_to_session/octetstosession/core/Packet", name := "flags", desc := "()I" } : Jvm.MethodName) prog_45_method_7_code (1 : Nat) (Option.some Jvm.ClassFile.FieldType.int)).before args0 about1 = true := code_word (m := ⟨2, 3⟩) (meth := k2m3) (c := k2c3) (by decide +kernel) rfl rfl rfl (by decide +kernel)
set_option maxRecDepth 65536 in
theorem w_c7 : (Jvm.Cond.code ({ cls := "com/example/octets_to_session/octetstosession/core/Packet", name := "octets", desc := "()[B" } : Jvm.MethodName) prog_45_method_9_code (1 : Nat) (Option.some (Jvm.ClassFile.FieldType.array Jvm.ClassFile.FieldType.byte))).before args0 about1 = true := code_word (m := ⟨2, 4⟩) (meth := k2m4) (c := k2c4) (by decide +kernel) rfl rfl rfl (by decide +kernel)
set_option maxRecDepth 65536 in
theorem w_c8 : (Jvm.Cond.code ({ cls := "com/example/octets_to_session/octetstosession/core/Packet", name := "start", desc := "()I" } : Jvm.MethodName) prog_45_method_10_code (1 : Nat) (Option.some Jvm.ClassFile.FieldType.int)).before args0 about1 = true := code_word (m := ⟨2, 5⟩) (meth := k2m5) (c := k2c5) (by decide +kernel) rfl rfl rfl (by decide +kernel)
set_option maxRecDepth 65536 in
theorem w_c9 : (Jvm.Cond.code ({ cls := "com/example/octets_to_session/octetstosession/core/Packet", name := "length", desc := "()I" } : Jvm.MethodName) prog_45_method_11_code (1 : Nat) (Option.some Jvm.ClassFile.FieldType.int)).before args0 about1 = true := code_word (m := ⟨2, 6⟩) (meth := k2m6) (c := k2c6) (by decide +kernel) rfl rfl rfl (by decide +kernel)
set_option maxRecDepth 65536 in
theorem w_c10 : (Jvm.Cond.code ({ cls := "com/example/octets_to_session/octetstosession/core/Packet", name := "reader", desc := "()Lcom/example/octets_to_session/octetstosession/core/PacketReader;" } : Jvm.MethodName) prog_45_method_12_code (1 : Nat) (Option.some (Jvm.ClassFile.FieldType.object "com/example/octets_to_session/octetstosession/core/PacketReader"))).before args0 about1 = true := code_word (m := ⟨2, 7⟩) (meth := k2m7) (c := k2c7) (by decide +kernel) rfl rfl rfl (by decide +kernel)
set_option maxRecDepth 65536 in
theorem w_c11 : (Jvm.Cond.code ({ cls := "com/example/octets_to_session/octetstosession/core/PacketReader", name := "<init>", desc := "([BII)V" } : Jvm.MethodName) prog_48_method_2_code (4 : Nat) (Option.none : Option Jvm.ClassFile.FieldType)).before args0 about1 = true := code_word (m := ⟨8, 0⟩) (meth := k8m0) (c := k8c0) (by decide +kernel) rfl rfl rfl (by decide +kernel)
set_option maxRecDepth 65536 in
theorem w_c12 : (Jvm.Cond.code ({ cls := "com/example/octets_to_session/octetstosession/core/PacketReader", name := "<init>", desc := "([BIILjava/lang/String;)V" } : Jvm.MethodName) prog_48_method_3_code (5 : Nat) (Option.none : Option Jvm.ClassFile.FieldType)).before args0 about1 = true := code_word (m := ⟨8, 1⟩) (meth := k8m1) (c := k8c1) (by decide +kernel) rfl rfl rfl (by decide +kernel)
set_option maxRecDepth 65536 in
theorem w_c13 : (Jvm.Cond.code ({ cls := "com/example/octets_to_session/octetstosession/core/PacketReader", name := "atEnd", desc := "()Z" } : Jvm.MethodName) prog_48_method_17_code (1 : Nat) (Option.some Jvm.ClassFile.FieldType.boolean)).before args0 about1 = true := code_word (m := ⟨8, 2⟩) (meth := k8m2) (c := k8c2) (by decide +kernel) rfl rfl rfl (by decide +kernel)
def codes1 : List Jvm.Cond := [Jvm.Cond.code x code maxLocals ret, Jvm.Cond.code ({ cls := "com/example/octets_to_session/octetstosession/core/Packet", name := "<init>", desc := "()V" } : Jvm.MethodName) prog_45_method_1_code (1 : Nat) (Option.none : Option Jvm.ClassFile.FieldType), Jvm.Cond.code ({ cls := "java/lang/Object", name := "<init>", desc := "()V" } : Jvm.MethodName) object_method_1_code (1 : Nat) (Option.none : Option Jvm.ClassFile.FieldType), Jvm.Cond.code ({ cls := "com/example/octets_to_session/octetstosession/core/PacketType", name := "of", desc := "(I)Lcom/example/octets_to_session/octetstosession/core/PacketType;" } : Jvm.MethodName) prog_50_method_4_code (1 : Nat) (Option.some (Jvm.ClassFile.FieldType.object "com/example/octets_to_session/octetstosession/core/PacketType")), Jvm.Cond.code ({ cls := "com/example/octets_to_session/octetstosession/core/Packet", name := "set", desc := "(Lcom/example/octets_to_session/octetstosession/core/PacketType;I[BII)Lcom/example/octets_to_session/octetstosession/core/Packet;" } : Jvm.MethodName) prog_45_method_3_code (6 : Nat) (Option.some (Jvm.ClassFile.FieldType.object "com/example/octets_to_session/octetstosession/core/Packet")), Jvm.Cond.code ({ cls := "com/example/octets_to_session/octetstosession/core/Packet", name := "type", desc := "()Lcom/example/octets_to_session/octetstosession/core/PacketType;" } : Jvm.MethodName) prog_45_method_6_code (1 : Nat) (Option.some (Jvm.ClassFile.FieldType.object "com/example/octets_to_session/octetstosession/core/PacketType")), Jvm.Cond.code ({ cls := "com/example/octets_to_session/octetstosession/core/Packet", name := "flags", desc := "()I" } : Jvm.MethodName) prog_45_method_7_code (1 : Nat) (Option.some Jvm.ClassFile.FieldType.int), Jvm.Cond.code ({ cls := "com/example/octets_to_session/octetstosession/core/Packet", name := "octets", desc := "()[B" } : Jvm.MethodName) prog_45_method_9_code (1 : Nat) (Option.some (Jvm.ClassFile.FieldType.array Jvm.ClassFile.FieldType.byte)), Jvm.Cond.code ({ cls := "com/example/octets_to_session/octetstosession/core/Packet", name := "start", desc := "()I" } : Jvm.MethodName) prog_45_method_10_code (1 : Nat) (Option.some Jvm.ClassFile.FieldType.int), Jvm.Cond.code ({ cls := "com/example/octets_to_session/octetstosession/core/Packet", name := "length", desc := "()I" } : Jvm.MethodName) prog_45_method_11_code (1 : Nat) (Option.some Jvm.ClassFile.FieldType.int), Jvm.Cond.code ({ cls := "com/example/octets_to_session/octetstosession/core/Packet", name := "reader", desc := "()Lcom/example/octets_to_session/octetstosession/core/PacketReader;" } : Jvm.MethodName) prog_45_method_12_code (1 : Nat) (Option.some (Jvm.ClassFile.FieldType.object "com/example/octets_to_session/octetstosession/core/PacketReader")), Jvm.Cond.code ({ cls := "com/example/octets_to_session/octetstosession/core/PacketReader", name := "<init>", desc := "([BII)V" } : Jvm.MethodName) prog_48_method_2_code (4 : Nat) (Option.none : Option Jvm.ClassFile.FieldType), Jvm.Cond.code ({ cls := "com/example/octets_to_session/octetstosession/core/PacketReader", name := "<init>", desc := "([BIILjava/lang/String;)V" } : Jvm.MethodName) prog_48_method_3_code (5 : Nat) (Option.none : Option Jvm.ClassFile.FieldType), Jvm.Cond.code ({ cls := "com/example/octets_to_session/octetstosession/core/PacketReader", name := "atEnd", desc := "()Z" } : Jvm.MethodName) prog_48_method_17_code (1 : Nat) (Option.some Jvm.ClassFile.FieldType.boolean)]
set_option maxRecDepth 65536 in
theorem codes_eq : words1.filter isCode = codes1 := rfl
theorem w_codes : ∀ c ∈ words1.filter isCode, c.before args0 about1 = true := by
  rw [codes_eq]
  intro c hc
  simp only [codes1, List.mem_cons, List.not_mem_nil, or_false] at hc
  rcases hc with rfl | rfl | rfl | rfl | rfl | rfl | rfl | rfl | rfl | rfl | rfl | rfl | rfl | rfl
  · exact w_c0
  · exact w_c1
  · exact w_c2
  · exact w_c3
  · exact w_c4
  · exact w_c5
  · exact w_c6
  · exact w_c7
  · exact w_c8
  · exact w_c9
  · exact w_c10
  · exact w_c11
  · exact w_c12
  · exact w_c13
set_option maxRecDepth 65536 in
theorem w_t1 : (words1.take 24).all (fun c => isCode c || c.before args0 about1) = true := by decide +kernel
set_option maxRecDepth 65536 in
theorem w_t2 : ((words1.drop 24).take 24).all (fun c => isCode c || c.before args0 about1) = true := by decide +kernel
set_option maxRecDepth 65536 in
theorem w_t3 : (((words1.drop 24).drop 24).take 24).all (fun c => isCode c || c.before args0 about1) = true := by decide +kernel
set_option maxRecDepth 65536 in
theorem w_t4 : ((((words1.drop 24).drop 24).drop 24).take 24).all (fun c => isCode c || c.before args0 about1) = true := by decide +kernel
set_option maxRecDepth 65536 in
theorem w_t5 : ((((words1.drop 24).drop 24).drop 24).drop 24).all (fun c => isCode c || c.before args0 about1) = true := by decide +kernel
theorem w_tables : (allAtoms (Jvm.Cond.code x code maxLocals ret :: tables_1)).before args0 about1 = true := by
  rw [allAtoms_all]
  show words1.all (fun c => c.before args0 about1) = true
  refine all_split ?_ w_codes
  rw [← List.take_append_drop 24 words1, List.all_append, w_t1, ← List.take_append_drop 24 (words1.drop 24), List.all_append, w_t2, ← List.take_append_drop 24 ((words1.drop 24).drop 24), List.all_append, w_t3, ← List.take_append_drop 24 (((words1.drop 24).drop 24).drop 24), List.all_append, w_t4, w_t5]
  rfl
set_option maxRecDepth 65536 in
theorem w_case : (Jvm.Cond.and given_1 narrow_1).before args0 about1 = true := by decide +kernel
theorem w_applies : (headSpec (Jvm.Cond.code x code maxLocals ret :: tables_1) room_1).applies x e0.platform about1 = true :=
  (Spec.applies_iff w_frames).mpr ⟨w_running, w_runnable, w_alone, w_named, w_hears, w_ripe, w_room, w_tables⟩
theorem atStart : AtStart classFile x code maxLocals ret World_1 tables_1 room_1 Calls_1 rest_1 Pre_1 launch0 p0 e0 about1 theMethod args0 below0 :=
  ⟨lists_1, trivial, launch0.admits_env _ _ _, launch0.least_env, fairChoices_fair.cas, fairChoices_fair.clock, w_frames, w_args, w_heap, w_applies, trivial, trivial, w_case⟩
end start1
theorem witness_1 : WitnessClaimed_1 := ⟨start1.p0, start1.e0, start1.about1, start1.theMethod, start1.args0, start1.below0, start1.atStart⟩
end Jvm.Pilot.@@N@@
