import JvmDerived
import JvmDerived.Pilot.@@N@@Statement
import JvmDerived.Pilot.@@N@@Code
set_option linter.unusedVariables false
set_option linter.unusedSimpArgs false
namespace Jvm.RoadKit
open Sem ClassFile Op Lib Jvm.Stand Jvm.Free Jvm.LawKit
section New
variable {p : Program} {l : Launch} {e : Env} {R : Room} {s : State} {m : MethodId} {args : Array Value} {below : List Frame} {meth : Method} {c : Code} {T : State} {locs : List Loc} {cells slots : Nat}
theorem retI (X : Stand p l e R s m args below meth c T locs cells slots) (hx : p.tables.exec = Jvm.exec) {pc : Nat} {Ls : Array Slot} {z : Int32} {rest : List Value} (hret : meth.sig.returnType = some .int) (hd : decode c.code pc = .ok (.ireturn, 1)) {fs : List Frame}
    (hl : ∀ (f : JFrame) (acts : List Action), f.method = m → f.locked = none → f.entered = [] → (doReturn e (T.setTop f) acts (some (.int z))).1 = T.setFrames fs) : Steps p.tables e below (T.setTop (mkF m pc Ls (.int z :: rest))) (T.setFrames fs) := by
  have hm' : T.vm.method? m = some meth := X.method'
  have hn : narrow .int (.int z) = .int z := rfl
  show Steps p.tables e below (T.setTop { method := m, pc := pc, locals := Ls, stack := _ :: rest, locked := none }) _
  jvm_step X.here [X.here.top, hx, hd, hm', hret, hn]
  first | (intro acts; rw [hl _ acts rfl rfl rfl]) | rw [hl _ _ rfl rfl rfl]
  exact Steps.refl _
end New
end Jvm.RoadKit
namespace Jvm.Pilot.@@N@@
open Jvm Jvm.ClassFile Sem Op Lib Jvm.Free Jvm.Stand Jvm.LawKit Jvm.RoadKit Bundle Jvm.Pilot.@@N@@.Jvm.D
theorem own_eq {args : Array Value} {first s : State} {o : Option Outcome} {idx : List Nat} {a b : Term} (h : (Jvm.Cond.eq a b).value args first o s idx = some true) : a.eval args first o idx s = b.eval args first o idx s := by
  obtain ⟨x, y, h1, h2, k1, k2⟩ := cmp_v (Or.inl h)
  rw [h1, h2]
  simp only [Jvm.Cond.value, h1, h2] at h
  cases x <;> cases y <;> simp_all
theorem own_fld {args : Array Value} {s : State} {t u : Term} {a : Addr} {C n d : String} {v : Value} (ev : t.eval args s none [] s = some (.ref a)) (eu : u.eval args s none [] s = some v) (h : (Jvm.Cond.eq (.field t C n d) u).value args s none s [] = some true) : Fld s s.heap a C n d v :=
  Fld.start ((fld_at ev).symm.trans ((own_eq h).trans eu))
theorem own_pack {p : Program} {l : Launch} {e : Env} {R : Room} {s : State} {m : MethodId} {args : Array Value} {below : List Frame} {meth : Method} {c : ClassFile.Code} {T : State} {locs : List Loc} {cells slots k : Nat} (X : Stand p l e R s m args below meth c T locs cells slots) (N : Fr k locs) : ∃ lc, Stand p l e R s m args below meth c T lc cells slots ∧ Fr k lc := ⟨_, X, N⟩
theorem own_z {Z : State} {n0 : Nat} {h : Heap} (O : Old Z n0 h) : n0 ≤ h.size := O.1 ▸ O.2.1
theorem own_in {cl : Cell} {j : Int32} {v : Value} (h : cl.slots[j.toNatClampNeg]? = some v) (q : ¬ j < 0) : ¬ (j < 0 ∨ cl.slots.size ≤ j.toNatClampNeg) := fun x => x.elim q (fun y => absurd (Array.getElem?_eq_some_iff.mp h).1 (Nat.not_lt.mpr y))
theorem own_priv {Z s : State} {a0 args : Array Value} {y : MethodName} {k : Nat} (hZ : Z.Warmed39 s.vm) (w1 : (Jvm.Cond.instanceMethod y).before a0 Z = true) (w2 : (Jvm.Cond.privateMethod y).before a0 Z = true) (w3 : (Jvm.Cond.instantiable y.cls k).before a0 Z = true)
    (hy : y.cls ≠ "java/lang/invoke/MethodHandle" ∧ y.cls ≠ "java/lang/invoke/VarHandle") : (Jvm.Cond.selects y.cls y y).before args s = true := by
  obtain ⟨c, kk, h1, h2, -, h4, -⟩ := Cond.instantiable_spec (mv (args := args) hZ w3)
  exact selects_self_of_private h1 h2 (by simp at h4; exact h4.1) (Cond.privateMethod_at (mvP (args := args) hZ w2)) (mv hZ w1) hy
theorem own_mask3 (x : Int32) : 0 ≤ (x &&& (3 : Int32)).toInt ∧ (x &&& (3 : Int32)).toInt < 4 := by
  have h1 := c_mask x (3 : Int32) 2 (by decide) (by decide)
  omega
theorem own_cases4 {z : Int32} (h0 : 0 ≤ z.toInt) (h1 : z.toInt < 4) : z = (0 : Int32) ∨ z = (1 : Int32) ∨ z = (2 : Int32) ∨ z = (3 : Int32) := by
  rcases (by omega : z.toInt = 0 ∨ 1 ≤ z.toInt) with h | h0
  · exact Or.inl (Int32.toInt_inj.mp (h.trans (by decide)))
  rcases (by omega : z.toInt = 1 ∨ 2 ≤ z.toInt) with h | h0
  · exact Or.inr (Or.inl (Int32.toInt_inj.mp (h.trans (by decide))))
  rcases (by omega : z.toInt = 2 ∨ 3 ≤ z.toInt) with h | h0
  · exact Or.inr (Or.inr (Or.inl (Int32.toInt_inj.mp (h.trans (by decide)))))
  have h : z.toInt = 3 := by omega
  exact Or.inr (Or.inr (Or.inr ((Int32.toInt_inj.mp (h.trans (by decide))))))
theorem own_cnt (x : Int32) : (((x &&& (3 : Int32)) % (3 : Int32)) + (1 : Int32)) = (1 : Int32) ∨ (((x &&& (3 : Int32)) % (3 : Int32)) + (1 : Int32)) = (2 : Int32) ∨ (((x &&& (3 : Int32)) % (3 : Int32)) + (1 : Int32)) = (3 : Int32) := by
  rcases own_cases4 (own_mask3 x).1 (own_mask3 x).2 with h | h | h | h <;> rw [h] <;> decide
theorem own_ge1 (x : Int32) (h0 : ¬ ((x &&& (3 : Int32)) = (0 : Int32))) : ¬ ((x &&& (3 : Int32)) < (1 : Int32)) := by
  rcases own_cases4 (own_mask3 x).1 (own_mask3 x).2 with h | h | h | h
  · exact absurd h h0
  all_goals (rw [h]; decide)
theorem own_ge2 (x : Int32) (h0 : ¬ ((x &&& (3 : Int32)) = (0 : Int32))) (h1 : ¬ ((x &&& (3 : Int32)) = (1 : Int32))) : ¬ ((x &&& (3 : Int32)) < (2 : Int32)) := by
  rcases own_cases4 (own_mask3 x).1 (own_mask3 x).2 with h | h | h | h
  · exact absurd h h0
  · exact absurd h h1
  all_goals (rw [h]; decide)
theorem own_ge3 (x : Int32) (h0 : ¬ ((x &&& (3 : Int32)) = (0 : Int32))) (h1 : ¬ ((x &&& (3 : Int32)) = (1 : Int32))) (h2 : ¬ ((x &&& (3 : Int32)) = (2 : Int32))) : ¬ ((x &&& (3 : Int32)) < (3 : Int32)) := by
  rcases own_cases4 (own_mask3 x).1 (own_mask3 x).2 with h | h | h | h
  · exact absurd h h0
  · exact absurd h h1
  · exact absurd h h2
  rw [h]; decide
theorem own_sub {Z : State} {args : Array Value} {j : Int32} (hj : ¬ j < 0) : (Term.sub (.index 0) (.int 128)).eval args Z none [j.toNatClampNeg] Z = some (.int (j - (128 : Int32))) := by
  have h : (Term.index 0).eval args Z none [j.toNatClampNeg] Z = some (.int j) := idx_at hj
  simp only [Term.eval] at h ⊢
  rw [h]
  rfl
theorem own_minr {e c : Int32} (h : ¬ (e < c)) : (if c < e then c else e) = c := by
  split
  · rfl
  · rename_i q
    rw [Int32.lt_iff_toInt_lt] at h q
    exact Int32.toInt_inj.mp (by omega)
theorem own_len {args : Array Value} {s : State} {t : Term} {a : Addr} {cl : Cell} {ty : FieldType} {n : Int32} (ev : t.eval args s none [] s = some (.ref a)) (A : Arr s s.heap a cl ty) (h : (Term.length t).eval args s none [] s = some (.int n)) : cl.slots.size.toInt32 = n ∧ cl.slots.size < 2 ^ 31 := by
  have hA : s.arrayAt? a = some cl := A.fin (Vm.Alike.refl _)
  simp only [Term.eval, ev, hA, Option.bind_eq_bind, Option.bind_some] at h
  split at h
  · rename_i q
    simp only [Option.pure_def, Option.some.injEq, Value.int.injEq] at h
    exact ⟨h, q⟩
  · cases h
abbrev oy0 : MethodName := ⟨"java/lang/Math", "min", "(II)I"⟩
abbrev oy1 : MethodName := ⟨"com/example/wend/wend/Slots", "<init>", "(I)V"⟩
abbrev oy2 : MethodName := ⟨"com/example/wend/wend/Slots", "hasFree", "()Z"⟩
abbrev oy3 : MethodName := ⟨"java/lang/Integer", "valueOf", "(I)Ljava/lang/Integer;"⟩
abbrev oy4 : MethodName := ⟨"com/example/wend/wend/Slots", "take", "(Ljava/lang/Object;)J"⟩
abbrev oy5 : MethodName := ⟨"com/example/wend/wend/Slots", "release", "(J)Ljava/lang/Object;"⟩
abbrev oy6 : MethodName := ⟨"com/example/wend/wend/Slots", "get", "(J)Ljava/lang/Object;"⟩
abbrev oy7 : MethodName := ⟨"com/example/wend/wend/Slots", "free", "(I)V"⟩
abbrev oc8 : String := "com/example/wend/wend/Slots"
abbrev oc9 : String := "java/lang/Object"
abbrev oc10 : String := "java/lang/Integer"
abbrev oL0 (v0 : Addr) : Array Slot := #[rv v0, .val (.long 1048576), .second, iv 0, .val (.long 1), .second, .unset]
abbrev oL1 (v0 : Addr) : Array Slot := #[rv v0, .val (.long 1048576), .second, .unset, .unset, .unset, .unset]
abbrev oL2 (v0 : Addr) (v1 : Addr) : Array Slot := #[rv v0, .val (.long 1048576), .second, rv v1]
abbrev oL3 (v0 : Addr) : Array Slot := #[rv v0, .val (.long 1048576), .second, .unset]
abbrev oL4 (v0 : Addr) : Array Slot := #[rv v0, .val (.long 1048576), .second, iv 0, .unset, .unset, .unset]
abbrev oL5 (v0 : Addr) : Array Slot := #[rv v0, .val (.long 1048576), .second, iv 0, .val (.long 1), .second, iv 1]
abbrev oL6 (v0 : Int32) (v1 : Int32) (v2 : Int32) (v3 : Addr) : Array Slot := #[iv v0, iv v1, iv v2, iv 1, iv 1, rv v3, iv 1, iv 1, .val (.long 1048576), .second, iv 0, iv 0, .unset]
abbrev oL7 (v0 : Int32) (v1 : Int32) (v2 : Int32) (v3 : Addr) : Array Slot := #[iv v0, iv v1, iv v2, iv 2, iv 1, rv v3, iv 1, iv 1, .val (.long 1048576), .second, iv 1, iv 0, .unset]
abbrev oL8 (v0 : Int32) (v1 : Int32) (v2 : Int32) (v3 : Addr) : Array Slot := #[iv v0, iv v1, iv v2, iv 2, iv 2, rv v3, iv 1, iv 1, .val (.long 1048576), .second, iv 0, iv 1, .unset]
abbrev oL9 (v0 : Int32) (v1 : Int32) (v2 : Int32) (v3 : Addr) : Array Slot := #[iv v0, iv v1, iv v2, iv 3, iv 1, rv v3, iv 1, iv 1, .val (.long 1048576), .second, iv 1, iv 0, .unset]
abbrev oL10 (v0 : Int32) (v1 : Int32) (v2 : Int32) (v3 : Addr) : Array Slot := #[iv v0, iv v1, iv v2, iv 3, iv 2, rv v3, iv 1, iv 1, .val (.long 1048576), .second, iv 1, iv 1, .unset]
abbrev oL11 (v0 : Int32) (v1 : Int32) (v2 : Int32) (v3 : Addr) : Array Slot := #[iv v0, iv v1, iv v2, iv 3, iv 3, rv v3, iv 1, iv 1, .val (.long 1048576), .second, iv 0, iv 2, .unset]
abbrev oL12 (v0 : Addr) : Array Slot := #[rv v0, .val (.long 1048576), .second, iv 0, .val (.long 1), .second, iv 0]
abbrev oL13 (v0 : Addr) : Array Slot := #[rv v0, .val (.long 1048576), .second, .val .null]
abbrev oL14 (v0 : Int32) (v1 : Int32) (v2 : Int32) (v3 : Addr) : Array Slot := #[iv v0, iv v1, iv v2, iv 2, iv 1, rv v3, iv 1, iv 1, .val (.long 1048576), .second, iv 1, iv 1, iv 1]
abbrev oL15 (v0 : Int32) (v1 : Int32) (v2 : Int32) (v3 : Addr) : Array Slot := #[iv v0, iv v1, iv v2, iv 3, iv 1, rv v3, iv 1, iv 1, .val (.long 1048576), .second, iv 1, iv 1, iv 1]
abbrev oL16 (v0 : Int32) (v1 : Int32) (v2 : Int32) (v3 : Addr) : Array Slot := #[iv v0, iv v1, iv v2, iv 3, iv 2, rv v3, iv 1, iv 1, .val (.long 1048576), .second, iv 1, iv 2, iv 1]
abbrev oL17 (v0 : Int32) (v1 : Int32) (v2 : Int32) (v3 : Addr) : Array Slot := #[iv v0, iv v1, iv v2, iv 1, iv 1, rv v3, iv 1, iv 1, .val (.long 1048576), .second, iv 0, iv 1, iv 0]
abbrev oL18 (v0 : Int32) (v1 : Int32) (v2 : Int32) (v3 : Addr) : Array Slot := #[iv v0, iv v1, iv v2, iv 2, iv 2, rv v3, iv 1, iv 1, .val (.long 1048576), .second, iv 0, iv 2, iv 0]
abbrev oL19 (v0 : Int32) (v1 : Int32) (v2 : Int32) (v3 : Addr) : Array Slot := #[iv v0, iv v1, iv v2, iv 3, iv 3, rv v3, iv 1, iv 1, .val (.long 1048576), .second, iv 0, iv 3, iv 0]
abbrev oL20 (v0 : Int32) (v1 : Int32) (v2 : Int32) (v3 : Addr) : Array Slot := #[iv v0, iv v1, iv v2, iv 1, iv 1, rv v3, iv 1, iv 1, .val (.long 1048576), .second, iv 0, iv 1, .unset]
abbrev oL21 (v0 : Int32) (v1 : Int32) (v2 : Int32) (v3 : Addr) : Array Slot := #[iv v0, iv v1, iv v2, iv 2, iv 1, rv v3, iv 1, iv 1, .val (.long 1048576), .second, iv 1, iv 1, .unset]
abbrev oL22 (v0 : Int32) (v1 : Int32) (v2 : Int32) (v3 : Addr) : Array Slot := #[iv v0, iv v1, iv v2, iv 2, iv 2, rv v3, iv 1, iv 1, .val (.long 1048576), .second, iv 0, iv 2, .unset]
abbrev oL23 (v0 : Int32) (v1 : Int32) (v2 : Int32) (v3 : Addr) : Array Slot := #[iv v0, iv v1, iv v2, iv 3, iv 1, rv v3, iv 1, iv 1, .val (.long 1048576), .second, iv 1, iv 1, .unset]
abbrev oL24 (v0 : Int32) (v1 : Int32) (v2 : Int32) (v3 : Addr) : Array Slot := #[iv v0, iv v1, iv v2, iv 3, iv 2, rv v3, iv 1, iv 1, .val (.long 1048576), .second, iv 1, iv 2, .unset]
abbrev oL25 (v0 : Int32) (v1 : Int32) (v2 : Int32) (v3 : Addr) : Array Slot := #[iv v0, iv v1, iv v2, iv 3, iv 3, rv v3, iv 1, iv 1, .val (.long 1048576), .second, iv 0, iv 3, .unset]
abbrev oL26 (v0 : Int32) (v1 : Int32) (v2 : Int32) (v3 : Addr) : Array Slot := #[iv v0, iv v1, iv v2, iv 3, iv 3, rv v3, iv 1, iv 1, .val (.long 1048576), .second, .unset, .unset, .unset]
abbrev oL27 (v0 : Int32) (v1 : Int32) (v2 : Int32) (v3 : Addr) : Array Slot := #[iv v0, iv v1, iv v2, iv 1, iv 0, rv v3, iv 1, iv 1, .val (.long 0), .second, iv 1, iv 0, iv 1]
abbrev oL28 (v0 : Int32) (v1 : Int32) (v2 : Int32) (v3 : Addr) : Array Slot := #[iv v0, iv v1, iv v2, iv 1, iv 1, rv v3, iv 1, iv 1, .val (.long 1048576), .second, iv 0, iv 0, iv 1]
abbrev oL29 (v0 : Int32) (v1 : Int32) (v2 : Int32) (v3 : Addr) : Array Slot := #[iv v0, iv v1, iv v2, iv 2, iv 0, rv v3, iv 1, iv 1, .val (.long 0), .second, iv 1, iv 0, iv 1]
abbrev oL30 (v0 : Int32) (v1 : Int32) (v2 : Int32) (v3 : Addr) : Array Slot := #[iv v0, iv v1, iv v2, iv 2, iv 1, rv v3, iv 1, iv 1, .val (.long 1048576), .second, iv 1, iv 0, iv 1]
abbrev oL31 (v0 : Int32) (v1 : Int32) (v2 : Int32) (v3 : Addr) : Array Slot := #[iv v0, iv v1, iv v2, iv 2, iv 2, rv v3, iv 1, iv 1, .val (.long 1048576), .second, .unset, .unset, .unset]
abbrev oL32 (v0 : Int32) (v1 : Int32) (v2 : Int32) (v3 : Addr) : Array Slot := #[iv v0, iv v1, iv v2, iv 2, iv 2, rv v3, iv 1, iv 1, .val (.long 1048576), .second, iv 0, iv 1, iv 1]
abbrev oL33 (v0 : Int32) (v1 : Int32) (v2 : Int32) : Array Slot := #[iv v0, iv v1, iv v2, iv 3, .unset, .unset, .unset, .unset, .unset, .unset, .unset, .unset, .unset]
abbrev oL34 (v0 : Int32) (v1 : Int32) (v2 : Int32) (v3 : Addr) : Array Slot := #[iv v0, iv v1, iv v2, iv 3, iv 0, rv v3, iv 1, iv 1, .val (.long 0), .second, iv 1, iv 0, iv 1]
abbrev oL35 (v0 : Int32) (v1 : Int32) (v2 : Int32) (v3 : Addr) : Array Slot := #[iv v0, iv v1, iv v2, iv 3, iv 1, rv v3, iv 1, iv 1, .val (.long 1048576), .second, iv 1, iv 0, iv 1]
abbrev oL36 (v0 : Int32) (v1 : Int32) (v2 : Int32) (v3 : Addr) : Array Slot := #[iv v0, iv v1, iv v2, iv 3, iv 2, rv v3, iv 1, iv 1, .val (.long 1048576), .second, .unset, .unset, .unset]
abbrev oL37 (v0 : Int32) (v1 : Int32) (v2 : Int32) (v3 : Addr) : Array Slot := #[iv v0, iv v1, iv v2, iv 3, iv 2, rv v3, iv 1, iv 1, .val (.long 1048576), .second, iv 1, iv 1, iv 1]
abbrev oL38 (v0 : Int32) (v1 : Int32) (v2 : Int32) (v3 : Addr) : Array Slot := #[iv v0, iv v1, iv v2, iv 3, iv 3, rv v3, iv 1, iv 1, .val (.long 1048576), .second, iv 0, iv 2, iv 1]
abbrev oL39 (v0 : Int32) (v1 : Int32) (v2 : Int32) (v3 : Addr) : Array Slot := #[iv v0, iv v1, iv v2, iv 1, iv 0, rv v3, iv 1, iv 1, .val (.long 0), .second, iv 1, .unset, .unset]
abbrev oL40 (v0 : Int32) (v1 : Int32) (v2 : Int32) (v3 : Addr) : Array Slot := #[iv v0, iv v1, iv v2, iv 2, iv 0, rv v3, iv 1, iv 1, .val (.long 0), .second, iv 1, .unset, .unset]
abbrev oL41 (v0 : Int32) (v1 : Int32) (v2 : Int32) (v3 : Addr) : Array Slot := #[iv v0, iv v1, iv v2, iv 2, iv 1, rv v3, iv 1, iv 1, .val (.long 1048576), .second, iv 1, .unset, .unset]
abbrev oL42 (v0 : Int32) (v1 : Int32) (v2 : Int32) (v3 : Addr) : Array Slot := #[iv v0, iv v1, iv v2, iv 3, iv 0, rv v3, iv 1, iv 1, .val (.long 0), .second, iv 1, .unset, .unset]
abbrev oL43 (v0 : Int32) (v1 : Int32) (v2 : Int32) (v3 : Addr) : Array Slot := #[iv v0, iv v1, iv v2, iv 3, iv 1, rv v3, iv 1, iv 1, .val (.long 1048576), .second, iv 1, .unset, .unset]
abbrev oL44 (v0 : Int32) (v1 : Int32) (v2 : Int32) (v3 : Addr) : Array Slot := #[iv v0, iv v1, iv v2, iv 3, iv 2, rv v3, iv 1, iv 1, .val (.long 1048576), .second, iv 1, .unset, .unset]
abbrev oL45 (v0 : Int32) (v1 : Int32) (v2 : Int32) (v3 : Addr) : Array Slot := #[iv v0, iv v1, iv v2, iv 1, iv 1, rv v3, iv 1, iv 1, .val (.long 1048576), .second, iv 0, .unset, .unset]
abbrev oL46 (v0 : Int32) (v1 : Int32) (v2 : Int32) (v3 : Addr) : Array Slot := #[iv v0, iv v1, iv v2, iv 2, iv 2, rv v3, iv 1, iv 1, .val (.long 1048576), .second, iv 0, .unset, .unset]
abbrev oL47 (v0 : Int32) (v1 : Int32) (v2 : Int32) (v3 : Addr) : Array Slot := #[iv v0, iv v1, iv v2, iv 3, iv 3, rv v3, iv 1, iv 1, .val (.long 1048576), .second, iv 0, .unset, .unset]
abbrev oL48 (v0 : Int32) (v1 : Int32) (v2 : Int32) : Array Slot := #[iv v0, iv v1, iv v2, iv 2, .unset, .unset, .unset, .unset, .unset, .unset, .unset, .unset, .unset]
abbrev oL49 (v0 : Int32) (v1 : Int32) (v2 : Int32) (v3 : Addr) : Array Slot := #[iv v0, iv v1, iv v2, iv 1, iv 0, rv v3, iv 1, iv 1, .val (.long 0), .second, .unset, .unset, .unset]
abbrev oL50 (v0 : Int32) (v1 : Int32) (v2 : Int32) (v3 : Addr) : Array Slot := #[iv v0, iv v1, iv v2, iv 2, iv 0, rv v3, iv 1, iv 1, .val (.long 0), .second, .unset, .unset, .unset]
abbrev oL51 (v0 : Int32) (v1 : Int32) (v2 : Int32) (v3 : Addr) : Array Slot := #[iv v0, iv v1, iv v2, iv 3, iv 0, rv v3, iv 1, iv 1, .val (.long 0), .second, .unset, .unset, .unset]
abbrev oL52 (v0 : Int32) (v1 : Int32) (v2 : Int32) : Array Slot := #[iv v0, iv v1, iv v2, .unset, .unset, .unset, .unset, .unset, .unset, .unset, .unset, .unset, .unset]
abbrev oL53 (v0 : Int32) (v1 : Int32) (v2 : Int32) : Array Slot := #[iv v0, iv v1, iv v2, iv 1, .unset, .unset, .unset, .unset, .unset, .unset, .unset, .unset, .unset]
abbrev oL54 (v0 : Int32) (v1 : Int32) (v2 : Int32) (v3 : Addr) : Array Slot := #[iv v0, iv v1, iv v2, iv 1, iv 1, rv v3, iv 1, iv 1, .val (.long 0), .second, .unset, .unset, .unset]
abbrev oL55 (v0 : Int32) (v1 : Int32) (v2 : Int32) (v3 : Addr) : Array Slot := #[iv v0, iv v1, iv v2, iv 1, iv 1, rv v3, iv 1, iv 1, .val (.long 1048576), .second, .unset, .unset, .unset]
abbrev oL56 (v0 : Int32) (v1 : Int32) (v2 : Int32) (v3 : Addr) : Array Slot := #[iv v0, iv v1, iv v2, iv 2, iv 1, rv v3, iv 1, iv 1, .val (.long 0), .second, .unset, .unset, .unset]
abbrev oL57 (v0 : Int32) (v1 : Int32) (v2 : Int32) (v3 : Addr) : Array Slot := #[iv v0, iv v1, iv v2, iv 2, iv 1, rv v3, iv 1, iv 1, .val (.long 1048576), .second, .unset, .unset, .unset]
abbrev oL58 (v0 : Int32) (v1 : Int32) (v2 : Int32) (v3 : Addr) : Array Slot := #[iv v0, iv v1, iv v2, iv 2, iv 2, rv v3, iv 1, iv 1, .val (.long 0), .second, .unset, .unset, .unset]
abbrev oL59 (v0 : Int32) (v1 : Int32) (v2 : Int32) (v3 : Addr) : Array Slot := #[iv v0, iv v1, iv v2, iv 3, iv 1, rv v3, iv 1, iv 1, .val (.long 0), .second, .unset, .unset, .unset]
abbrev oL60 (v0 : Int32) (v1 : Int32) (v2 : Int32) (v3 : Addr) : Array Slot := #[iv v0, iv v1, iv v2, iv 3, iv 1, rv v3, iv 1, iv 1, .val (.long 1048576), .second, .unset, .unset, .unset]
abbrev oL61 (v0 : Int32) (v1 : Int32) (v2 : Int32) (v3 : Addr) : Array Slot := #[iv v0, iv v1, iv v2, iv 3, iv 2, rv v3, iv 1, iv 1, .val (.long 0), .second, .unset, .unset, .unset]
abbrev oL62 (v0 : Int32) (v1 : Int32) (v2 : Int32) (v3 : Addr) : Array Slot := #[iv v0, iv v1, iv v2, iv 3, iv 3, rv v3, iv 1, iv 1, .val (.long 0), .second, .unset, .unset, .unset]
abbrev oL63 (v0 : Int32) (v1 : Int32) (v2 : Int32) : Array Slot := #[iv v0, iv v1, iv v2, iv 1, iv 0, .unset, .unset, .unset, .unset, .unset, .unset, .unset, .unset]
abbrev oL64 (v0 : Int32) (v1 : Int32) (v2 : Int32) (v3 : Addr) : Array Slot := #[iv v0, iv v1, iv v2, iv 1, iv 0, rv v3, iv 1, iv 1, .val (.long 0), .second, iv 1, iv 0, .unset]
abbrev oL65 (v0 : Int32) (v1 : Int32) (v2 : Int32) : Array Slot := #[iv v0, iv v1, iv v2, iv 1, iv 1, .unset, .unset, .unset, .unset, .unset, .unset, .unset, .unset]
abbrev oL66 (v0 : Int32) (v1 : Int32) (v2 : Int32) : Array Slot := #[iv v0, iv v1, iv v2, iv 2, iv 0, .unset, .unset, .unset, .unset, .unset, .unset, .unset, .unset]
abbrev oL67 (v0 : Int32) (v1 : Int32) (v2 : Int32) (v3 : Addr) : Array Slot := #[iv v0, iv v1, iv v2, iv 2, iv 0, rv v3, iv 1, iv 1, .val (.long 0), .second, iv 1, iv 0, .unset]
abbrev oL68 (v0 : Int32) (v1 : Int32) (v2 : Int32) : Array Slot := #[iv v0, iv v1, iv v2, iv 2, iv 1, .unset, .unset, .unset, .unset, .unset, .unset, .unset, .unset]
abbrev oL69 (v0 : Int32) (v1 : Int32) (v2 : Int32) : Array Slot := #[iv v0, iv v1, iv v2, iv 2, iv 2, .unset, .unset, .unset, .unset, .unset, .unset, .unset, .unset]
abbrev oL70 (v0 : Int32) (v1 : Int32) (v2 : Int32) : Array Slot := #[iv v0, iv v1, iv v2, iv 3, iv 0, .unset, .unset, .unset, .unset, .unset, .unset, .unset, .unset]
abbrev oL71 (v0 : Int32) (v1 : Int32) (v2 : Int32) (v3 : Addr) : Array Slot := #[iv v0, iv v1, iv v2, iv 3, iv 0, rv v3, iv 1, iv 1, .val (.long 0), .second, iv 1, iv 0, .unset]
abbrev oL72 (v0 : Int32) (v1 : Int32) (v2 : Int32) : Array Slot := #[iv v0, iv v1, iv v2, iv 3, iv 1, .unset, .unset, .unset, .unset, .unset, .unset, .unset, .unset]
abbrev oL73 (v0 : Int32) (v1 : Int32) (v2 : Int32) : Array Slot := #[iv v0, iv v1, iv v2, iv 3, iv 2, .unset, .unset, .unset, .unset, .unset, .unset, .unset, .unset]
abbrev oL74 (v0 : Int32) (v1 : Int32) (v2 : Int32) : Array Slot := #[iv v0, iv v1, iv v2, iv 3, iv 3, .unset, .unset, .unset, .unset, .unset, .unset, .unset, .unset]
abbrev oS (p : Program) (e : Env) (below : List Frame) (m : MethodId) (T : State) (pc : Nat) (L : Array Slot) (S : List Value) (t : State) : Prop := Steps p.tables e below (T.setTop (mkF m pc L S)) t
abbrev oT (p : Program) (e : Env) (below : List Frame) (T : State) (g : JFrame) (t : State) : Prop := Steps p.tables e below (T.setTop g) t
abbrev oM (l : Launch) (y : MethodName) (b : ByteArray) (k : Nat) (r : Option FieldType) (ws : List Jvm.Cond) (R : Room) (Z : State) (A : Array Value) (h0 : Heap) (Q : Option Value → Heap → List Loc → Prop) : Prop := MetFree l y (head1 (Jvm.Cond.code y b k r :: ws) R) (fun a U => a = A ∧ Z.Warmed39 U.vm ∧ U.heap = h0) (fun _ _ _ _ _ => True) (fun _ U o U' => ∃ v L, o = .returned v ∧ Q v U'.heap L ∧ FrameEnd U o U' L R.cells R.slots)
theorem own_w {Z : State} {a0 : Array Value} (hw : ∀ d ∈ tables_1, d.before a0 Z = true) {d : Jvm.Cond} (i : Nat) (h : tables_1[i]? = some d) : d.before a0 Z = true := hw _ (List.mem_of_getElem? h)
theorem da_0 : decode jdk_29_method_69_code 0 = .ok (.iload_n 0, 1) := by decide +kernel
theorem da_1 : decode jdk_29_method_69_code 1 = .ok (.iload_n 1, 1) := by decide +kernel
theorem da_2 : decode jdk_29_method_69_code 2 = .ok (.if_icmp .gt 7, 3) := by decide +kernel
theorem da_9 : decode jdk_29_method_69_code 9 = .ok (.iload_n 1, 1) := by decide +kernel
theorem da_10 : decode jdk_29_method_69_code 10 = .ok (.ireturn, 1) := by decide +kernel
theorem da_5 : decode jdk_29_method_69_code 5 = .ok (.iload_n 0, 1) := by decide +kernel
theorem da_6 : decode jdk_29_method_69_code 6 = .ok (.goto 4, 3) := by decide +kernel
theorem pd__II_I : parseMethodDescriptor "(II)I" = some ⟨[.int, .int], some .int⟩ := by decide +kernel
theorem dc_0 : decode prog_29_method_1_code 0 = .ok (.aload_n 0, 1) := by decide +kernel
theorem dc_1 : decode prog_29_method_1_code 1 = .ok (.invokespecial 3, 3) := by decide +kernel
theorem dc_4 : decode prog_29_method_1_code 4 = .ok (.iload_n 1, 1) := by decide +kernel
theorem dc_5 : decode prog_29_method_1_code 5 = .ok (.iconst 1, 1) := by decide +kernel
theorem dc_6 : decode prog_29_method_1_code 6 = .ok (.if_icmp .lt 9, 3) := by decide +kernel
theorem dc_9 : decode prog_29_method_1_code 9 = .ok (.iload_n 1, 1) := by decide +kernel
theorem dc_10 : decode prog_29_method_1_code 10 = .ok (.ldc 9, 2) := by decide +kernel
theorem dc_12 : decode prog_29_method_1_code 12 = .ok (.if_icmp .le 17, 3) := by decide +kernel
theorem dc_29 : decode prog_29_method_1_code 29 = .ok (.aload_n 0, 1) := by decide +kernel
theorem dc_30 : decode prog_29_method_1_code 30 = .ok (.iload_n 1, 1) := by decide +kernel
theorem dc_31 : decode prog_29_method_1_code 31 = .ok (.anewarray 4, 3) := by decide +kernel
theorem dc_34 : decode prog_29_method_1_code 34 = .ok (.putfield 19, 3) := by decide +kernel
theorem osn_Slots_sequences_requests {Z : State} {a0 : Array Value} (hw : ∀ d ∈ tables_1, d.before a0 Z = true) : Jvm.RoadKit.slotOf Z oc8 "sequences" "[J" ≠ Jvm.RoadKit.slotOf Z oc8 "requests" "[Ljava/lang/Object;" := slot_ne (Or.inr (own_w hw 20 rfl)) (Or.inr (own_w hw 17 rfl)) (by decide) (t := (.array .long)) (t' := (.array (.object oc9))) (by decide) (by decide)
theorem osn_Slots_free_requests {Z : State} {a0 : Array Value} (hw : ∀ d ∈ tables_1, d.before a0 Z = true) : Jvm.RoadKit.slotOf Z oc8 "free" "[I" ≠ Jvm.RoadKit.slotOf Z oc8 "requests" "[Ljava/lang/Object;" := slot_ne (Or.inr (own_w hw 23 rfl)) (Or.inr (own_w hw 17 rfl)) (by decide) (t := (.array .int)) (t' := (.array (.object oc9))) (by decide) (by decide)
theorem osn_Slots_freeCount_requests {Z : State} {a0 : Array Value} (hw : ∀ d ∈ tables_1, d.before a0 Z = true) : Jvm.RoadKit.slotOf Z oc8 "freeCount" "I" ≠ Jvm.RoadKit.slotOf Z oc8 "requests" "[Ljava/lang/Object;" := slot_ne (Or.inl (own_w hw 25 rfl)) (Or.inr (own_w hw 17 rfl)) (by decide) (t := .int) (t' := (.array (.object oc9))) (by decide) (by decide)
theorem osn_Slots_lastSequence_requests {Z : State} {a0 : Array Value} (hw : ∀ d ∈ tables_1, d.before a0 Z = true) : Jvm.RoadKit.slotOf Z oc8 "lastSequence" "J" ≠ Jvm.RoadKit.slotOf Z oc8 "requests" "[Ljava/lang/Object;" := slot_ne (Or.inl (own_w hw 44 rfl)) (Or.inr (own_w hw 17 rfl)) (by decide) (t := .long) (t' := (.array (.object oc9))) (by decide) (by decide)
theorem dc_37 : decode prog_29_method_1_code 37 = .ok (.aload_n 0, 1) := by decide +kernel
theorem dc_38 : decode prog_29_method_1_code 38 = .ok (.iload_n 1, 1) := by decide +kernel
theorem dc_39 : decode prog_29_method_1_code 39 = .ok (.newarray .long, 2) := by decide +kernel
theorem dc_41 : decode prog_29_method_1_code 41 = .ok (.putfield 23, 3) := by decide +kernel
theorem osn_Slots_requests_sequences {Z : State} {a0 : Array Value} (hw : ∀ d ∈ tables_1, d.before a0 Z = true) : Jvm.RoadKit.slotOf Z oc8 "requests" "[Ljava/lang/Object;" ≠ Jvm.RoadKit.slotOf Z oc8 "sequences" "[J" := slot_ne (Or.inr (own_w hw 17 rfl)) (Or.inr (own_w hw 20 rfl)) (by decide) (t := (.array (.object oc9))) (t' := (.array .long)) (by decide) (by decide)
theorem osn_Slots_free_sequences {Z : State} {a0 : Array Value} (hw : ∀ d ∈ tables_1, d.before a0 Z = true) : Jvm.RoadKit.slotOf Z oc8 "free" "[I" ≠ Jvm.RoadKit.slotOf Z oc8 "sequences" "[J" := slot_ne (Or.inr (own_w hw 23 rfl)) (Or.inr (own_w hw 20 rfl)) (by decide) (t := (.array .int)) (t' := (.array .long)) (by decide) (by decide)
theorem osn_Slots_freeCount_sequences {Z : State} {a0 : Array Value} (hw : ∀ d ∈ tables_1, d.before a0 Z = true) : Jvm.RoadKit.slotOf Z oc8 "freeCount" "I" ≠ Jvm.RoadKit.slotOf Z oc8 "sequences" "[J" := slot_ne (Or.inl (own_w hw 25 rfl)) (Or.inr (own_w hw 20 rfl)) (by decide) (t := .int) (t' := (.array .long)) (by decide) (by decide)
theorem osn_Slots_lastSequence_sequences {Z : State} {a0 : Array Value} (hw : ∀ d ∈ tables_1, d.before a0 Z = true) : Jvm.RoadKit.slotOf Z oc8 "lastSequence" "J" ≠ Jvm.RoadKit.slotOf Z oc8 "sequences" "[J" := slot_ne (Or.inl (own_w hw 44 rfl)) (Or.inr (own_w hw 20 rfl)) (by decide) (t := .long) (t' := (.array .long)) (by decide) (by decide)
theorem dc_44 : decode prog_29_method_1_code 44 = .ok (.aload_n 0, 1) := by decide +kernel
theorem dc_45 : decode prog_29_method_1_code 45 = .ok (.iload_n 1, 1) := by decide +kernel
theorem dc_46 : decode prog_29_method_1_code 46 = .ok (.newarray .int, 2) := by decide +kernel
theorem dc_48 : decode prog_29_method_1_code 48 = .ok (.putfield 27, 3) := by decide +kernel
theorem osn_Slots_requests_free {Z : State} {a0 : Array Value} (hw : ∀ d ∈ tables_1, d.before a0 Z = true) : Jvm.RoadKit.slotOf Z oc8 "requests" "[Ljava/lang/Object;" ≠ Jvm.RoadKit.slotOf Z oc8 "free" "[I" := slot_ne (Or.inr (own_w hw 17 rfl)) (Or.inr (own_w hw 23 rfl)) (by decide) (t := (.array (.object oc9))) (t' := (.array .int)) (by decide) (by decide)
theorem osn_Slots_sequences_free {Z : State} {a0 : Array Value} (hw : ∀ d ∈ tables_1, d.before a0 Z = true) : Jvm.RoadKit.slotOf Z oc8 "sequences" "[J" ≠ Jvm.RoadKit.slotOf Z oc8 "free" "[I" := slot_ne (Or.inr (own_w hw 20 rfl)) (Or.inr (own_w hw 23 rfl)) (by decide) (t := (.array .long)) (t' := (.array .int)) (by decide) (by decide)
theorem osn_Slots_freeCount_free {Z : State} {a0 : Array Value} (hw : ∀ d ∈ tables_1, d.before a0 Z = true) : Jvm.RoadKit.slotOf Z oc8 "freeCount" "I" ≠ Jvm.RoadKit.slotOf Z oc8 "free" "[I" := slot_ne (Or.inl (own_w hw 25 rfl)) (Or.inr (own_w hw 23 rfl)) (by decide) (t := .int) (t' := (.array .int)) (by decide) (by decide)
theorem osn_Slots_lastSequence_free {Z : State} {a0 : Array Value} (hw : ∀ d ∈ tables_1, d.before a0 Z = true) : Jvm.RoadKit.slotOf Z oc8 "lastSequence" "J" ≠ Jvm.RoadKit.slotOf Z oc8 "free" "[I" := slot_ne (Or.inl (own_w hw 44 rfl)) (Or.inr (own_w hw 23 rfl)) (by decide) (t := .long) (t' := (.array .int)) (by decide) (by decide)
theorem dc_51 : decode prog_29_method_1_code 51 = .ok (.iconst 0, 1) := by decide +kernel
theorem dc_52 : decode prog_29_method_1_code 52 = .ok (.istore_n 2, 1) := by decide +kernel
theorem dc_53 : decode prog_29_method_1_code 53 = .ok (.iload_n 2, 1) := by decide +kernel
theorem dc_54 : decode prog_29_method_1_code 54 = .ok (.iload_n 1, 1) := by decide +kernel
theorem dc_55 : decode prog_29_method_1_code 55 = .ok (.if_icmp .ge 20, 3) := by decide +kernel
theorem dc_58 : decode prog_29_method_1_code 58 = .ok (.aload_n 0, 1) := by decide +kernel
theorem dc_59 : decode prog_29_method_1_code 59 = .ok (.getfield 27, 3) := by decide +kernel
theorem dc_62 : decode prog_29_method_1_code 62 = .ok (.iload_n 1, 1) := by decide +kernel
theorem dc_63 : decode prog_29_method_1_code 63 = .ok (.iconst 1, 1) := by decide +kernel
theorem dc_64 : decode prog_29_method_1_code 64 = .ok (.isub, 1) := by decide +kernel
theorem dc_65 : decode prog_29_method_1_code 65 = .ok (.iload_n 2, 1) := by decide +kernel
theorem dc_66 : decode prog_29_method_1_code 66 = .ok (.isub, 1) := by decide +kernel
theorem dc_67 : decode prog_29_method_1_code 67 = .ok (.iload_n 2, 1) := by decide +kernel
theorem dc_68 : decode prog_29_method_1_code 68 = .ok (.iastore, 1) := by decide +kernel
theorem dc_69 : decode prog_29_method_1_code 69 = .ok (.iinc 2 1, 3) := by decide +kernel
theorem dc_72 : decode prog_29_method_1_code 72 = .ok (.goto (-19), 3) := by decide +kernel
theorem dc_75 : decode prog_29_method_1_code 75 = .ok (.aload_n 0, 1) := by decide +kernel
theorem dc_76 : decode prog_29_method_1_code 76 = .ok (.iload_n 1, 1) := by decide +kernel
theorem dc_77 : decode prog_29_method_1_code 77 = .ok (.putfield 31, 3) := by decide +kernel
theorem osn_Slots_requests_freeCount {Z : State} {a0 : Array Value} (hw : ∀ d ∈ tables_1, d.before a0 Z = true) : Jvm.RoadKit.slotOf Z oc8 "requests" "[Ljava/lang/Object;" ≠ Jvm.RoadKit.slotOf Z oc8 "freeCount" "I" := slot_ne (Or.inr (own_w hw 17 rfl)) (Or.inl (own_w hw 25 rfl)) (by decide) (t := (.array (.object oc9))) (t' := .int) (by decide) (by decide)
theorem osn_Slots_sequences_freeCount {Z : State} {a0 : Array Value} (hw : ∀ d ∈ tables_1, d.before a0 Z = true) : Jvm.RoadKit.slotOf Z oc8 "sequences" "[J" ≠ Jvm.RoadKit.slotOf Z oc8 "freeCount" "I" := slot_ne (Or.inr (own_w hw 20 rfl)) (Or.inl (own_w hw 25 rfl)) (by decide) (t := (.array .long)) (t' := .int) (by decide) (by decide)
theorem osn_Slots_free_freeCount {Z : State} {a0 : Array Value} (hw : ∀ d ∈ tables_1, d.before a0 Z = true) : Jvm.RoadKit.slotOf Z oc8 "free" "[I" ≠ Jvm.RoadKit.slotOf Z oc8 "freeCount" "I" := slot_ne (Or.inr (own_w hw 23 rfl)) (Or.inl (own_w hw 25 rfl)) (by decide) (t := (.array .int)) (t' := .int) (by decide) (by decide)
theorem osn_Slots_lastSequence_freeCount {Z : State} {a0 : Array Value} (hw : ∀ d ∈ tables_1, d.before a0 Z = true) : Jvm.RoadKit.slotOf Z oc8 "lastSequence" "J" ≠ Jvm.RoadKit.slotOf Z oc8 "freeCount" "I" := slot_ne (Or.inl (own_w hw 44 rfl)) (Or.inl (own_w hw 25 rfl)) (by decide) (t := .long) (t' := .int) (by decide) (by decide)
theorem dc_80 : decode prog_29_method_1_code 80 = .ok (.return_, 1) := by decide +kernel
theorem pn_com_example_wend_wend_Slots : plainName oc8 = true := by first | (simp [plainName, overriddenIn]; done) | decide +kernel
theorem pd__I_V : parseMethodDescriptor "(I)V" = some ⟨[.int], none⟩ := by decide +kernel
theorem dd_0 : decode prog_29_method_3_code 0 = .ok (.aload_n 0, 1) := by decide +kernel
theorem dd_1 : decode prog_29_method_3_code 1 = .ok (.getfield 31, 3) := by decide +kernel
theorem dd_4 : decode prog_29_method_3_code 4 = .ok (.ifCond .le 7, 3) := by decide +kernel
theorem dd_7 : decode prog_29_method_3_code 7 = .ok (.iconst 1, 1) := by decide +kernel
theorem dd_8 : decode prog_29_method_3_code 8 = .ok (.goto 4, 3) := by decide +kernel
theorem dd_12 : decode prog_29_method_3_code 12 = .ok (.ireturn, 1) := by decide +kernel
theorem pd___Z : parseMethodDescriptor "()Z" = some ⟨[], some .boolean⟩ := by decide +kernel
theorem db_0 : decode jdk_33_method_22_code 0 = .ok (.iload_n 0, 1) := by decide +kernel
theorem db_1 : decode jdk_33_method_22_code 1 = .ok (.bipush (-128), 2) := by decide +kernel
theorem db_3 : decode jdk_33_method_22_code 3 = .ok (.if_icmp .lt 20, 3) := by decide +kernel
theorem db_6 : decode jdk_33_method_22_code 6 = .ok (.iload_n 0, 1) := by decide +kernel
theorem db_7 : decode jdk_33_method_22_code 7 = .ok (.getstatic 191, 3) := by decide +kernel
theorem db_10 : decode jdk_33_method_22_code 10 = .ok (.if_icmp .gt 13, 3) := by decide +kernel
theorem db_13 : decode jdk_33_method_22_code 13 = .ok (.getstatic 195, 3) := by decide +kernel
theorem db_16 : decode jdk_33_method_22_code 16 = .ok (.iload_n 0, 1) := by decide +kernel
theorem db_17 : decode jdk_33_method_22_code 17 = .ok (.sipush 128, 3) := by decide +kernel
theorem db_20 : decode jdk_33_method_22_code 20 = .ok (.iadd, 1) := by decide +kernel
theorem db_21 : decode jdk_33_method_22_code 21 = .ok (.aaload, 1) := by decide +kernel
theorem db_22 : decode jdk_33_method_22_code 22 = .ok (.areturn, 1) := by decide +kernel
theorem pn_java_lang_Integer : plainName oc10 = true := by first | (simp [plainName, overriddenIn]; done) | decide +kernel
theorem pd__I_Ljava_lang_Integer_ : parseMethodDescriptor "(I)Ljava/lang/Integer;" = some ⟨[.int], some (.object oc10)⟩ := by decide +kernel
theorem de_0 : decode prog_29_method_4_code 0 = .ok (.aload_n 0, 1) := by decide +kernel
theorem de_1 : decode prog_29_method_4_code 1 = .ok (.getfield 31, 3) := by decide +kernel
theorem de_4 : decode prog_29_method_4_code 4 = .ok (.ifCond .ne 13, 3) := by decide +kernel
theorem de_17 : decode prog_29_method_4_code 17 = .ok (.aload_n 0, 1) := by decide +kernel
theorem de_18 : decode prog_29_method_4_code 18 = .ok (.getfield 27, 3) := by decide +kernel
theorem de_21 : decode prog_29_method_4_code 21 = .ok (.aload_n 0, 1) := by decide +kernel
theorem de_22 : decode prog_29_method_4_code 22 = .ok (.dup, 1) := by decide +kernel
theorem de_23 : decode prog_29_method_4_code 23 = .ok (.getfield 31, 3) := by decide +kernel
theorem de_26 : decode prog_29_method_4_code 26 = .ok (.iconst 1, 1) := by decide +kernel
theorem de_27 : decode prog_29_method_4_code 27 = .ok (.isub, 1) := by decide +kernel
theorem de_28 : decode prog_29_method_4_code 28 = .ok (.dup_x1, 1) := by decide +kernel
theorem de_29 : decode prog_29_method_4_code 29 = .ok (.putfield 31, 3) := by decide +kernel
theorem de_32 : decode prog_29_method_4_code 32 = .ok (.iaload, 1) := by decide +kernel
theorem de_33 : decode prog_29_method_4_code 33 = .ok (.istore_n 2, 1) := by decide +kernel
theorem de_34 : decode prog_29_method_4_code 34 = .ok (.aload_n 0, 1) := by decide +kernel
theorem de_35 : decode prog_29_method_4_code 35 = .ok (.aload_n 0, 1) := by decide +kernel
theorem de_36 : decode prog_29_method_4_code 36 = .ok (.getfield 40, 3) := by decide +kernel
theorem de_39 : decode prog_29_method_4_code 39 = .ok (.ldc2_w 44, 3) := by decide +kernel
theorem de_42 : decode prog_29_method_4_code 42 = .ok (.lcmp, 1) := by decide +kernel
theorem de_43 : decode prog_29_method_4_code 43 = .ok (.ifCond .ne 7, 3) := by decide +kernel
theorem de_50 : decode prog_29_method_4_code 50 = .ok (.aload_n 0, 1) := by decide +kernel
theorem de_51 : decode prog_29_method_4_code 51 = .ok (.getfield 40, 3) := by decide +kernel
theorem de_54 : decode prog_29_method_4_code 54 = .ok (.lconst 1, 1) := by decide +kernel
theorem de_55 : decode prog_29_method_4_code 55 = .ok (.ladd, 1) := by decide +kernel
theorem de_56 : decode prog_29_method_4_code 56 = .ok (.putfield 40, 3) := by decide +kernel
theorem osn_Slots_requests_lastSequence {Z : State} {a0 : Array Value} (hw : ∀ d ∈ tables_1, d.before a0 Z = true) : Jvm.RoadKit.slotOf Z oc8 "requests" "[Ljava/lang/Object;" ≠ Jvm.RoadKit.slotOf Z oc8 "lastSequence" "J" := slot_ne (Or.inr (own_w hw 17 rfl)) (Or.inl (own_w hw 44 rfl)) (by decide) (t := (.array (.object oc9))) (t' := .long) (by decide) (by decide)
theorem osn_Slots_sequences_lastSequence {Z : State} {a0 : Array Value} (hw : ∀ d ∈ tables_1, d.before a0 Z = true) : Jvm.RoadKit.slotOf Z oc8 "sequences" "[J" ≠ Jvm.RoadKit.slotOf Z oc8 "lastSequence" "J" := slot_ne (Or.inr (own_w hw 20 rfl)) (Or.inl (own_w hw 44 rfl)) (by decide) (t := (.array .long)) (t' := .long) (by decide) (by decide)
theorem osn_Slots_free_lastSequence {Z : State} {a0 : Array Value} (hw : ∀ d ∈ tables_1, d.before a0 Z = true) : Jvm.RoadKit.slotOf Z oc8 "free" "[I" ≠ Jvm.RoadKit.slotOf Z oc8 "lastSequence" "J" := slot_ne (Or.inr (own_w hw 23 rfl)) (Or.inl (own_w hw 44 rfl)) (by decide) (t := (.array .int)) (t' := .long) (by decide) (by decide)
theorem osn_Slots_freeCount_lastSequence {Z : State} {a0 : Array Value} (hw : ∀ d ∈ tables_1, d.before a0 Z = true) : Jvm.RoadKit.slotOf Z oc8 "freeCount" "I" ≠ Jvm.RoadKit.slotOf Z oc8 "lastSequence" "J" := slot_ne (Or.inl (own_w hw 25 rfl)) (Or.inl (own_w hw 44 rfl)) (by decide) (t := .int) (t' := .long) (by decide) (by decide)
theorem de_59 : decode prog_29_method_4_code 59 = .ok (.aload_n 0, 1) := by decide +kernel
theorem de_60 : decode prog_29_method_4_code 60 = .ok (.getfield 19, 3) := by decide +kernel
theorem de_63 : decode prog_29_method_4_code 63 = .ok (.iload_n 2, 1) := by decide +kernel
theorem de_64 : decode prog_29_method_4_code 64 = .ok (.aload_n 1, 1) := by decide +kernel
theorem de_65 : decode prog_29_method_4_code 65 = .ok (.aastore, 1) := by decide +kernel
theorem de_66 : decode prog_29_method_4_code 66 = .ok (.aload_n 0, 1) := by decide +kernel
theorem de_67 : decode prog_29_method_4_code 67 = .ok (.getfield 23, 3) := by decide +kernel
theorem de_70 : decode prog_29_method_4_code 70 = .ok (.iload_n 2, 1) := by decide +kernel
theorem de_71 : decode prog_29_method_4_code 71 = .ok (.aload_n 0, 1) := by decide +kernel
theorem de_72 : decode prog_29_method_4_code 72 = .ok (.getfield 40, 3) := by decide +kernel
theorem de_75 : decode prog_29_method_4_code 75 = .ok (.lastore, 1) := by decide +kernel
theorem de_76 : decode prog_29_method_4_code 76 = .ok (.aload_n 0, 1) := by decide +kernel
theorem de_77 : decode prog_29_method_4_code 77 = .ok (.getfield 40, 3) := by decide +kernel
theorem de_80 : decode prog_29_method_4_code 80 = .ok (.bipush 20, 2) := by decide +kernel
theorem de_82 : decode prog_29_method_4_code 82 = .ok (.lshl, 1) := by decide +kernel
theorem de_83 : decode prog_29_method_4_code 83 = .ok (.iload_n 2, 1) := by decide +kernel
theorem de_84 : decode prog_29_method_4_code 84 = .ok (.i2l, 1) := by decide +kernel
theorem de_85 : decode prog_29_method_4_code 85 = .ok (.lor, 1) := by decide +kernel
theorem de_86 : decode prog_29_method_4_code 86 = .ok (.lreturn, 1) := by decide +kernel
theorem pd__Ljava_lang_Object__J : parseMethodDescriptor "(Ljava/lang/Object;)J" = some ⟨[(.object oc9)], some .long⟩ := by decide +kernel
theorem dd_11 : decode prog_29_method_3_code 11 = .ok (.iconst 0, 1) := by decide +kernel
theorem dg_0 : decode prog_29_method_6_code 0 = .ok (.aload_n 0, 1) := by decide +kernel
theorem dg_1 : decode prog_29_method_6_code 1 = .ok (.lload_n 1, 1) := by decide +kernel
theorem dg_2 : decode prog_29_method_6_code 2 = .ok (.invokevirtual 48, 3) := by decide +kernel
theorem df_0 : decode prog_29_method_5_code 0 = .ok (.lload_n 1, 1) := by decide +kernel
theorem df_1 : decode prog_29_method_5_code 1 = .ok (.ldc2_w 46, 3) := by decide +kernel
theorem df_4 : decode prog_29_method_5_code 4 = .ok (.land, 1) := by decide +kernel
theorem df_5 : decode prog_29_method_5_code 5 = .ok (.l2i, 1) := by decide +kernel
theorem df_6 : decode prog_29_method_5_code 6 = .ok (.istore_n 3, 1) := by decide +kernel
theorem df_7 : decode prog_29_method_5_code 7 = .ok (.lload_n 1, 1) := by decide +kernel
theorem df_8 : decode prog_29_method_5_code 8 = .ok (.bipush 20, 2) := by decide +kernel
theorem df_10 : decode prog_29_method_5_code 10 = .ok (.lushr, 1) := by decide +kernel
theorem df_11 : decode prog_29_method_5_code 11 = .ok (.lstore 4, 2) := by decide +kernel
theorem df_13 : decode prog_29_method_5_code 13 = .ok (.iload_n 3, 1) := by decide +kernel
theorem df_14 : decode prog_29_method_5_code 14 = .ok (.aload_n 0, 1) := by decide +kernel
theorem df_15 : decode prog_29_method_5_code 15 = .ok (.getfield 19, 3) := by decide +kernel
theorem df_18 : decode prog_29_method_5_code 18 = .ok (.arraylength, 1) := by decide +kernel
theorem df_19 : decode prog_29_method_5_code 19 = .ok (.if_icmp .ge 19, 3) := by decide +kernel
theorem df_22 : decode prog_29_method_5_code 22 = .ok (.aload_n 0, 1) := by decide +kernel
theorem df_23 : decode prog_29_method_5_code 23 = .ok (.getfield 23, 3) := by decide +kernel
theorem df_26 : decode prog_29_method_5_code 26 = .ok (.iload_n 3, 1) := by decide +kernel
theorem df_27 : decode prog_29_method_5_code 27 = .ok (.laload, 1) := by decide +kernel
theorem df_28 : decode prog_29_method_5_code 28 = .ok (.lload 4, 2) := by decide +kernel
theorem df_30 : decode prog_29_method_5_code 30 = .ok (.lcmp, 1) := by decide +kernel
theorem df_31 : decode prog_29_method_5_code 31 = .ok (.ifCond .ne 7, 3) := by decide +kernel
theorem df_34 : decode prog_29_method_5_code 34 = .ok (.iconst 1, 1) := by decide +kernel
theorem df_35 : decode prog_29_method_5_code 35 = .ok (.goto 4, 3) := by decide +kernel
theorem df_39 : decode prog_29_method_5_code 39 = .ok (.istore 6, 2) := by decide +kernel
theorem df_41 : decode prog_29_method_5_code 41 = .ok (.iload 6, 2) := by decide +kernel
theorem df_43 : decode prog_29_method_5_code 43 = .ok (.ifCond .eq 12, 3) := by decide +kernel
theorem df_46 : decode prog_29_method_5_code 46 = .ok (.aload_n 0, 1) := by decide +kernel
theorem df_47 : decode prog_29_method_5_code 47 = .ok (.getfield 19, 3) := by decide +kernel
theorem df_50 : decode prog_29_method_5_code 50 = .ok (.iload_n 3, 1) := by decide +kernel
theorem df_51 : decode prog_29_method_5_code 51 = .ok (.aaload, 1) := by decide +kernel
theorem df_52 : decode prog_29_method_5_code 52 = .ok (.goto 4, 3) := by decide +kernel
theorem df_56 : decode prog_29_method_5_code 56 = .ok (.areturn, 1) := by decide +kernel
theorem pd__J_Ljava_lang_Object_ : parseMethodDescriptor "(J)Ljava/lang/Object;" = some ⟨[.long], some (.object oc9)⟩ := by decide +kernel
theorem dg_5 : decode prog_29_method_6_code 5 = .ok (.astore_n 3, 1) := by decide +kernel
theorem dg_6 : decode prog_29_method_6_code 6 = .ok (.aload_n 3, 1) := by decide +kernel
theorem dg_7 : decode prog_29_method_6_code 7 = .ok (.ifnull 13, 3) := by decide +kernel
theorem dg_10 : decode prog_29_method_6_code 10 = .ok (.aload_n 0, 1) := by decide +kernel
theorem dg_11 : decode prog_29_method_6_code 11 = .ok (.lload_n 1, 1) := by decide +kernel
theorem dg_12 : decode prog_29_method_6_code 12 = .ok (.ldc2_w 46, 3) := by decide +kernel
theorem dg_15 : decode prog_29_method_6_code 15 = .ok (.land, 1) := by decide +kernel
theorem dg_16 : decode prog_29_method_6_code 16 = .ok (.l2i, 1) := by decide +kernel
theorem dg_17 : decode prog_29_method_6_code 17 = .ok (.invokevirtual 52, 3) := by decide +kernel
theorem dh_0 : decode prog_29_method_8_code 0 = .ok (.aload_n 0, 1) := by decide +kernel
theorem dh_1 : decode prog_29_method_8_code 1 = .ok (.getfield 19, 3) := by decide +kernel
theorem dh_4 : decode prog_29_method_8_code 4 = .ok (.iload_n 1, 1) := by decide +kernel
theorem dh_5 : decode prog_29_method_8_code 5 = .ok (.aconst_null, 1) := by decide +kernel
theorem dh_6 : decode prog_29_method_8_code 6 = .ok (.aastore, 1) := by decide +kernel
theorem dh_7 : decode prog_29_method_8_code 7 = .ok (.aload_n 0, 1) := by decide +kernel
theorem dh_8 : decode prog_29_method_8_code 8 = .ok (.getfield 23, 3) := by decide +kernel
theorem dh_11 : decode prog_29_method_8_code 11 = .ok (.iload_n 1, 1) := by decide +kernel
theorem dh_12 : decode prog_29_method_8_code 12 = .ok (.lconst 0, 1) := by decide +kernel
theorem dh_13 : decode prog_29_method_8_code 13 = .ok (.lastore, 1) := by decide +kernel
theorem dh_14 : decode prog_29_method_8_code 14 = .ok (.aload_n 0, 1) := by decide +kernel
theorem dh_15 : decode prog_29_method_8_code 15 = .ok (.getfield 27, 3) := by decide +kernel
theorem dh_18 : decode prog_29_method_8_code 18 = .ok (.aload_n 0, 1) := by decide +kernel
theorem dh_19 : decode prog_29_method_8_code 19 = .ok (.dup, 1) := by decide +kernel
theorem dh_20 : decode prog_29_method_8_code 20 = .ok (.getfield 31, 3) := by decide +kernel
theorem dh_23 : decode prog_29_method_8_code 23 = .ok (.dup_x1, 1) := by decide +kernel
theorem dh_24 : decode prog_29_method_8_code 24 = .ok (.iconst 1, 1) := by decide +kernel
theorem dh_25 : decode prog_29_method_8_code 25 = .ok (.iadd, 1) := by decide +kernel
theorem dh_26 : decode prog_29_method_8_code 26 = .ok (.putfield 31, 3) := by decide +kernel
theorem dh_29 : decode prog_29_method_8_code 29 = .ok (.iload_n 1, 1) := by decide +kernel
theorem dh_30 : decode prog_29_method_8_code 30 = .ok (.iastore, 1) := by decide +kernel
theorem dh_31 : decode prog_29_method_8_code 31 = .ok (.return_, 1) := by decide +kernel
theorem dg_20 : decode prog_29_method_6_code 20 = .ok (.aload_n 3, 1) := by decide +kernel
theorem dg_21 : decode prog_29_method_6_code 21 = .ok (.areturn, 1) := by decide +kernel
theorem df_38 : decode prog_29_method_5_code 38 = .ok (.iconst 0, 1) := by decide +kernel
theorem df_55 : decode prog_29_method_5_code 55 = .ok (.aconst_null, 1) := by decide +kernel
theorem pn_com_example_wend_wend_SlotsHasFreePinLaw : plainName "com/example/wend/wend/SlotsHasFreePinLaw" = true := by first | (simp [plainName, overriddenIn]; done) | decide +kernel
theorem ef_rm_min (m : MethodId) (p0 : Int32) (p1 : Int32) : entryFrame m #[(.int p0), (.int p1)] 2 = mkF m 0 #[iv p0, iv p1] [] := by first | (simp [entryFrame, mkF, argsToLocals, Value.category]; done) | rfl
def Q_rm_min (Z : State) (p0 : Int32) (p1 : Int32) (r : Int32) (h0 : Heap) (n0 : Nat) (v : Option Value) (h : Heap) (L : List Loc) : Prop := v = some (.int r) ∧ Fr n0 L ∧ h = h0
set_option maxRecDepth 65536 in
set_option maxHeartbeats 40000000 in
theorem rm_min (l : Launch) (Z : State) (a0 : Array Value) (hw : ∀ d ∈ tables_1, d.before a0 Z = true) (ws : List Jvm.Cond) (p0 : Int32) (p1 : Int32) (r : Int32) (h0 : Heap) (n0 : Nat) (Z0 : n0 ≤ h0.size) (hres : (if p1 < p0 then p1 else p0) = r) :
    oM l oy0 jdk_29_method_69_code 2 (some .int) ws ({ frames := 0, cells := 0, slots := 0, locals := 0 } : Room) Z #[(.int p0), (.int p1)] h0 (Q_rm_min Z p0 p1 r h0 n0) := by
  refine MetFree.of_bodySF (Jvm.Free.JP.mathPlain rfl (by decide +kernel)) hisR ?_
  intro p e s m args below meth c s₁ Bd hml0 hP hK
  obtain ⟨rfl, hZ, hh⟩ := hP
  have hx := Bd.exec
  have hby := Bd.bytes
  have hml : c.maxLocals = 2 := hml0
  have hown : s.vm.findClass "java/lang/Math" = some m.cls := findClass_of_methodNamed Bd.named
  have hnm := (name_of_methodNamed Bd.named Bd.method).1
  have X0 : Stand p l e ({ frames := 0, cells := 0, slots := 0, locals := 0 } : Room) s m #[(.int p0), (.int p1)] below meth c s₁ [] 0 0 := Stand.of_body Bd
  have e0 : s₁.heap = h0 := by rw [← hh, Bd.state]; rfl
  have N0 := Fr.nil n0
  have pre0 : ∀ t, oS p e below m s₁ 0 #[iv p0, iv p1] [] t → oT p e below s₁ (entryFrame m #[(.int p0), (.int p1)] 2) t := fun t k => castTop (ef_rm_min m p0 p1) k
  have pre2 : ∀ t, oS p e below m s₁ 2 #[iv p0, iv p1] [(.int p1), (.int p0)] t → oT p e below s₁ (entryFrame m #[(.int p0), (.int p1)] 2) t := by
    intro t kt
    refine pre0 t ?_
    show oS p e below m s₁ 0 #[iv p0, iv p1] [] _
    refine XS.iloadN X0.here hx rfl (hb hby da_0) rfl ?_
    refine XS.iloadN X0.here hx rfl (hb hby da_1) rfl ?_
    exact kt
  by_cases hc2_1 : p1 < p0
  · have pre3 : ∀ t, oS p e below m s₁ 10 #[iv p0, iv p1] [(.int p1)] t → oT p e below s₁ (entryFrame m #[(.int p0), (.int p1)] 2) t := by
      intro t kt
      refine pre2 t ?_
      show oS p e below m s₁ 2 #[iv p0, iv p1] [(.int p1), (.int p0)] _
      refine XS.icmpYes X0.here hx rfl (pc0 := 2) (pc' := 9) rfl (hb hby da_2) rfl (tlt hc2_1).2.2.1 (by decide) (by decide) ?_
      refine XS.iloadN X0.here hx rfl (hb hby da_9) rfl ?_
      exact kt
    obtain ⟨fs, hr, hrun, hended, hW, hsame⟩ := X0.leave (v := some (.int p1)) (fun h => by rw [Bd.returns] at h; cases h)
    refine ⟨_, _, pre3 _ ?_, hrun, hended, _, _, rfl, ?_, ⟨_, rfl⟩, hW, hsame.mono (by decide) (by decide)⟩
    · show oS p e below m s₁ 10 #[iv p0, iv p1] [(.int p1)] _
      exact retI X0 hx Bd.returns (hb hby da_10) hr
    · show Q_rm_min Z p0 p1 r h0 n0 _ s₁.heap _
      rw [e0]
      exact ⟨by rw [← hres]; simp [hc2_1], N0, rfl⟩
  · have pre4 : ∀ t, oS p e below m s₁ 10 #[iv p0, iv p1] [(.int p0)] t → oT p e below s₁ (entryFrame m #[(.int p0), (.int p1)] 2) t := by
      intro t kt
      refine pre2 t ?_
      show oS p e below m s₁ 2 #[iv p0, iv p1] [(.int p1), (.int p0)] _
      refine XS.icmpNo X0.here hx rfl (hb hby da_2) rfl (flt hc2_1).2.2.1 ?_
      refine XS.iloadN X0.here hx rfl (hb hby da_5) rfl ?_
      show oS p e below m s₁ 6 #[iv p0, iv p1] [(.int p0)] _
      refine XS.goto X0.here hx rfl (pc0 := 6) (pc' := 10) rfl (hb hby da_6) (by decide) (by decide) ?_
      exact kt
    obtain ⟨fs, hr, hrun, hended, hW, hsame⟩ := X0.leave (v := some (.int p0)) (fun h => by rw [Bd.returns] at h; cases h)
    refine ⟨_, _, pre4 _ ?_, hrun, hended, _, _, rfl, ?_, ⟨_, rfl⟩, hW, hsame.mono (by decide) (by decide)⟩
    · show oS p e below m s₁ 10 #[iv p0, iv p1] [(.int p0)] _
      exact retI X0 hx Bd.returns (hb hby da_10) hr
    · show Q_rm_min Z p0 p1 r h0 n0 _ s₁.heap _
      rw [e0]
      exact ⟨by rw [← hres]; simp [hc2_1], N0, rfl⟩
theorem ef_rm_init_1 (m : MethodId) (x0 : Addr) : entryFrame m #[(.ref x0), (.int 1)] 3 = mkF m 0 #[rv x0, iv 1, .unset] [] := by first | (simp [entryFrame, mkF, argsToLocals, Value.category]; done) | rfl
def Q_rm_init_1 (Z : State) (x0 : Addr) (h0 : Heap) (n0 : Nat) (v : Option Value) (h : Heap) (L : List Loc) : Prop := ∃ (b13 : Addr) (b15 : Addr) (b17 : Addr) (k13 : ClassId) (k15 : ClassId) (k17 : ClassId), v = none ∧ Fr n0 L ∧ Keep h0 h [x0] ∧ Exa Z h x0 oc8 ∧ Fld Z h x0 oc8 "requests" "[Ljava/lang/Object;" (.ref b13) ∧ Fld Z h x0 oc8 "sequences" "[J" (.ref b15) ∧ Fld Z h x0 oc8 "free" "[I" (.ref b17) ∧ Fld Z h x0 oc8 "freeCount" "I" (.int 1) ∧ Fld Z h x0 oc8 "lastSequence" "J" (.long 0) ∧ Arv Z h b13 k13 (.object oc9) (1 : Int32) [.null] .null ∧ Ovr Z k13 oc9 ∧ n0 ≤ b13 ∧ h0.size ≤ b13 ∧ Arv Z h b15 k15 .long (1 : Int32) [(.long 0)] (.long 0) ∧ n0 ≤ b15 ∧ h0.size ≤ b15 ∧ Arv Z h b17 k17 .int (1 : Int32) [(.int 0)] (.int 0) ∧ n0 ≤ b17 ∧ h0.size ≤ b17 ∧ b13 ≠ b15 ∧ b13 ≠ b17 ∧ b15 ≠ b17
set_option maxRecDepth 65536 in
set_option maxHeartbeats 40000000 in
theorem rm_init_1 (l : Launch) (Z : State) (a0 : Array Value) (hw : ∀ d ∈ tables_1, d.before a0 Z = true) (ws : List Jvm.Cond) (x0 : Addr) (h0 : Heap) (n0 : Nat) (O0 : Old Z n0 h0) (E_x0 : Exa Z h0 x0 oc8) (F_x0_requests : Fld Z h0 x0 oc8 "requests" "[Ljava/lang/Object;" .null) (F_x0_sequences : Fld Z h0 x0 oc8 "sequences" "[J" .null) (F_x0_free : Fld Z h0 x0 oc8 "free" "[I" .null) (F_x0_freeCount : Fld Z h0 x0 oc8 "freeCount" "I" (.int 0)) (F_x0_lastSequence : Fld Z h0 x0 oc8 "lastSequence" "J" (.long 0)) (ge_x0 : n0 ≤ x0)  :
    oM l oy1 prog_29_method_1_code 3 none ws ({ frames := 1, cells := 3, slots := 3, locals := 12 } : Room) Z #[(.ref x0), (.int 1)] h0 (Q_rm_init_1 Z x0 h0 n0) := by
  refine MetFree.of_bodySF (plainFor_of_name pn_com_example_wend_wend_Slots) hisR ?_
  intro p e s m args below meth c s₁ Bd hml0 hP hK
  obtain ⟨rfl, hZ, hh⟩ := hP
  have hx := Bd.exec
  have hby := Bd.bytes
  have hml : c.maxLocals = 3 := hml0
  have hown : s.vm.findClass oc8 = some m.cls := findClass_of_methodNamed Bd.named
  have hnm := (name_of_methodNamed Bd.named Bd.method).1
  have X0 : Stand p l e ({ frames := 1, cells := 3, slots := 3, locals := 12 } : Room) s m #[(.ref x0), (.int 1)] below meth c s₁ [] 0 0 := Stand.of_body Bd
  have e0 : s₁.heap = h0 := by rw [← hh, Bd.state]; rfl
  have N0 := Fr.nil n0
  have pre0 : ∀ t, oS p e below m s₁ 0 #[rv x0, iv 1, .unset] [] t → oT p e below s₁ (entryFrame m #[(.ref x0), (.int 1)] 3) t := fun t k => castTop (ef_rm_init_1 m x0) k
  have K0 := Keep.refl h0 [x0]
  obtain ⟨T10, X10, e10, st10⟩ := initO X0 hx hZ hown (own_w hw 10 rfl) (own_w hw 11 rfl) (own_w hw 12 rfl) e0 (g := (mkF m 1 #[rv x0, iv 1, .unset] [(.ref x0)])) rfl (by rw [hml]; rfl) rfl (hb hby dc_1) (by decide) (W := 0) (by show 2 * 0 + _ ≤ _; exact Nat.le_of_eq rfl) (by decide)
  obtain ⟨T13, h13, k13, X13, e13, E13, A13, Ov13, st13⟩ := newR X10 hx hZ hown (own_w hw 14 rfl) (own_w hw 15 rfl) e10 (g := (mkF m 31 #[rv x0, iv 1, .unset] [(.int 1), (.ref x0)])) rfl (hb hby dc_31) rfl (by decide) (cap := 1) (by decide) (by decide) (by decide) (by decide)
  obtain ⟨b13, g13⟩ : ∃ z, z = h0.size := ⟨_, rfl⟩
  have ne_x0_b13 : x0 ≠ b13 := Nat.ne_of_lt (Nat.lt_of_lt_of_le E_x0.lt (Nat.le_of_eq g13.symm))
  have ge_b13 : n0 ≤ b13 := Nat.le_trans (own_z O0) (Nat.le_of_eq g13.symm)
  have sz_b13 : h0.size ≤ b13 := Nat.le_trans K0.1 (Nat.le_of_eq g13.symm)
  rw [← g13] at A13 st13
  have E_x0 := E_x0.ext E13
  have F_x0_requests := F_x0_requests.ext E13
  have F_x0_sequences := F_x0_sequences.ext E13
  have F_x0_free := F_x0_free.ext E13
  have F_x0_freeCount := F_x0_freeCount.ext E13
  have F_x0_lastSequence := F_x0_lastSequence.ext E13
  have O13 := O0.ext E13
  have K13 := K0.ext E13
  have V_b13 : Arv Z h13 b13 k13 (.object oc9) (1 : Int32) [.null] .null := (Arv.new A13 (by decide)).pad (pad_rep [] .null 1)
  obtain ⟨T14, h14, X14, e14, W14, st14⟩ := putF X13 hx hZ hown (host := "") (Or.inl (own_w hw 16 rfl)) Via.refl e13 F_x0_requests E_x0 (Or.inr ⟨(own_w hw 17 rfl), rfl, hnm⟩) (own_w hw 5 rfl) (ty := (.array (.object oc9))) (by decide) rfl rfl (g := (mkF m 34 #[rv x0, iv 1, .unset] [(.ref b13), (.ref x0)])) rfl rfl (hb hby dc_34)
  have F_x0_requests := F_x0_requests.same W14
  have E_x0 := E_x0.wr W14
  have F_x0_sequences := F_x0_sequences.other W14 (Or.inr (osn_Slots_sequences_requests hw))
  have F_x0_free := F_x0_free.other W14 (Or.inr (osn_Slots_free_requests hw))
  have F_x0_freeCount := F_x0_freeCount.other W14 (Or.inr (osn_Slots_freeCount_requests hw))
  have F_x0_lastSequence := F_x0_lastSequence.other W14 (Or.inr (osn_Slots_lastSequence_requests hw))
  have V_b13 := V_b13.other W14 (Ne.symm ne_x0_b13)
  have O14 := O13.wr W14 ge_x0
  have K14 := K13.wr W14 (Or.inl (List.mem_of_getElem? (i := 0) rfl))
  have N14 := Fr.snoc X14 N0 ge_x0
  obtain ⟨T15, h15, k15, X15, e15, E15, A15, st15⟩ := newP X14 hx hZ (own_w hw 18 rfl) e14 (g := (mkF m 39 #[rv x0, iv 1, .unset] [(.int 1), (.ref x0)])) rfl (hb hby dc_39) rfl (by decide) (cap := 1) (by decide) (by decide) (by decide) (by decide)
  obtain ⟨b15, g15⟩ : ∃ z, z = h14.size := ⟨_, rfl⟩
  have ne_x0_b15 : x0 ≠ b15 := Nat.ne_of_lt (Nat.lt_of_lt_of_le E_x0.lt (Nat.le_of_eq g15.symm))
  have ne_b13_b15 : b13 ≠ b15 := Nat.ne_of_lt (Nat.lt_of_lt_of_le V_b13.lt (Nat.le_of_eq g15.symm))
  have ge_b15 : n0 ≤ b15 := Nat.le_trans (own_z O14) (Nat.le_of_eq g15.symm)
  have sz_b15 : h0.size ≤ b15 := Nat.le_trans K14.1 (Nat.le_of_eq g15.symm)
  rw [← g15] at A15 st15
  have E_x0 := E_x0.ext E15
  have F_x0_requests := F_x0_requests.ext E15
  have F_x0_sequences := F_x0_sequences.ext E15
  have F_x0_free := F_x0_free.ext E15
  have F_x0_freeCount := F_x0_freeCount.ext E15
  have F_x0_lastSequence := F_x0_lastSequence.ext E15
  have V_b13 := V_b13.ext E15
  have O15 := O14.ext E15
  have K15 := K14.ext E15
  have V_b15 : Arv Z h15 b15 k15 .long (1 : Int32) [(.long 0)] (.long 0) := (Arv.new A15 (by decide)).pad (pad_rep [] (.long 0) 1)
  obtain ⟨T16, h16, X16, e16, W16, st16⟩ := putF X15 hx hZ hown (host := "") (Or.inl (own_w hw 19 rfl)) Via.refl e15 F_x0_sequences E_x0 (Or.inr ⟨(own_w hw 20 rfl), rfl, hnm⟩) (own_w hw 5 rfl) (ty := (.array .long)) (by decide) rfl rfl (g := (mkF m 41 #[rv x0, iv 1, .unset] [(.ref b15), (.ref x0)])) rfl rfl (hb hby dc_41)
  have F_x0_sequences := F_x0_sequences.same W16
  have E_x0 := E_x0.wr W16
  have F_x0_requests := F_x0_requests.other W16 (Or.inr (osn_Slots_requests_sequences hw))
  have F_x0_free := F_x0_free.other W16 (Or.inr (osn_Slots_free_sequences hw))
  have F_x0_freeCount := F_x0_freeCount.other W16 (Or.inr (osn_Slots_freeCount_sequences hw))
  have F_x0_lastSequence := F_x0_lastSequence.other W16 (Or.inr (osn_Slots_lastSequence_sequences hw))
  have V_b13 := V_b13.other W16 (Ne.symm ne_x0_b13)
  have V_b15 := V_b15.other W16 (Ne.symm ne_x0_b15)
  have O16 := O15.wr W16 ge_x0
  have K16 := K15.wr W16 (Or.inl (List.mem_of_getElem? (i := 0) rfl))
  have N16 := Fr.snoc X16 N14 ge_x0
  obtain ⟨T17, h17, k17, X17, e17, E17, A17, st17⟩ := newP X16 hx hZ (own_w hw 21 rfl) e16 (g := (mkF m 46 #[rv x0, iv 1, .unset] [(.int 1), (.ref x0)])) rfl (hb hby dc_46) rfl (by decide) (cap := 1) (by decide) (by decide) (by decide) (by decide)
  obtain ⟨b17, g17⟩ : ∃ z, z = h16.size := ⟨_, rfl⟩
  have ne_x0_b17 : x0 ≠ b17 := Nat.ne_of_lt (Nat.lt_of_lt_of_le E_x0.lt (Nat.le_of_eq g17.symm))
  have ne_b13_b17 : b13 ≠ b17 := Nat.ne_of_lt (Nat.lt_of_lt_of_le V_b13.lt (Nat.le_of_eq g17.symm))
  have ne_b15_b17 : b15 ≠ b17 := Nat.ne_of_lt (Nat.lt_of_lt_of_le V_b15.lt (Nat.le_of_eq g17.symm))
  have ge_b17 : n0 ≤ b17 := Nat.le_trans (own_z O16) (Nat.le_of_eq g17.symm)
  have sz_b17 : h0.size ≤ b17 := Nat.le_trans K16.1 (Nat.le_of_eq g17.symm)
  rw [← g17] at A17 st17
  have E_x0 := E_x0.ext E17
  have F_x0_requests := F_x0_requests.ext E17
  have F_x0_sequences := F_x0_sequences.ext E17
  have F_x0_free := F_x0_free.ext E17
  have F_x0_freeCount := F_x0_freeCount.ext E17
  have F_x0_lastSequence := F_x0_lastSequence.ext E17
  have V_b13 := V_b13.ext E17
  have V_b15 := V_b15.ext E17
  have O17 := O16.ext E17
  have K17 := K16.ext E17
  have V_b17 : Arv Z h17 b17 k17 .int (1 : Int32) [(.int 0)] (.int 0) := (Arv.new A17 (by decide)).pad (pad_rep [] (.int 0) 1)
  obtain ⟨T18, h18, X18, e18, W18, st18⟩ := putF X17 hx hZ hown (host := "") (Or.inl (own_w hw 22 rfl)) Via.refl e17 F_x0_free E_x0 (Or.inr ⟨(own_w hw 23 rfl), rfl, hnm⟩) (own_w hw 5 rfl) (ty := (.array .int)) (by decide) rfl rfl (g := (mkF m 48 #[rv x0, iv 1, .unset] [(.ref b17), (.ref x0)])) rfl rfl (hb hby dc_48)
  have F_x0_free := F_x0_free.same W18
  have E_x0 := E_x0.wr W18
  have F_x0_requests := F_x0_requests.other W18 (Or.inr (osn_Slots_requests_free hw))
  have F_x0_sequences := F_x0_sequences.other W18 (Or.inr (osn_Slots_sequences_free hw))
  have F_x0_freeCount := F_x0_freeCount.other W18 (Or.inr (osn_Slots_freeCount_free hw))
  have F_x0_lastSequence := F_x0_lastSequence.other W18 (Or.inr (osn_Slots_lastSequence_free hw))
  have V_b13 := V_b13.other W18 (Ne.symm ne_x0_b13)
  have V_b15 := V_b15.other W18 (Ne.symm ne_x0_b15)
  have V_b17 := V_b17.other W18 (Ne.symm ne_x0_b17)
  have O18 := O17.wr W18 ge_x0
  have K18 := K17.wr W18 (Or.inl (List.mem_of_getElem? (i := 0) rfl))
  have N18 := Fr.snoc X18 N16 ge_x0
  obtain ⟨T20, X20, e20, st20⟩ := getF X18 hx hZ hown (host := "") (Or.inl (own_w hw 22 rfl)) Via.refl e18 F_x0_free (g := (mkF m 59 #[rv x0, iv 1, iv 0] [(.ref x0)])) rfl rfl (hb hby dc_59)
  have pre21 : ∀ t, oS p e below m T20 65 #[rv x0, iv 1, iv 0] [(.int ((1 : Int32) - (1 : Int32))), (.ref b17)] t → oT p e below s₁ (entryFrame m #[(.ref x0), (.int 1)] 3) t := by
    intro t kt
    refine pre0 t ?_
    show oS p e below m s₁ 0 #[rv x0, iv 1, .unset] [] _
    refine XS.aloadN X0.here hx rfl (hb hby dc_0) rfl rfl ?_
    show oS p e below m s₁ 1 #[rv x0, iv 1, .unset] [(.ref x0)] _
    refine st10 _ ?_
    show oS p e below m T10 4 #[rv x0, iv 1, .unset] [] _
    refine XS.iloadN X10.here hx rfl (hb hby dc_4) rfl ?_
    refine XS.iconst X10.here hx rfl (hb hby dc_5) ?_
    show oS p e below m T10 6 #[rv x0, iv 1, .unset] [(.int 1), (.int 1)] _
    refine XS.icmpNo X10.here hx rfl (hb hby dc_6) rfl (flt (by decide : ¬ ((1 : Int32) < (1 : Int32)))).1 ?_
    refine XS.iloadN X10.here hx rfl (hb hby dc_9) rfl ?_
    show oS p e below m T10 10 #[rv x0, iv 1, .unset] [(.int 1)] _
    refine X10.ldcInt hx hown (mvT hZ (own_w hw 13 rfl)) (g := (mkF m 10 #[rv x0, iv 1, .unset] [(.int 1)])) rfl (hb hby dc_10) _ ?_
    show oS p e below m T10 12 #[rv x0, iv 1, .unset] [(.int 1048576), (.int 1)] _
    refine XS.icmpYes X10.here hx rfl (pc0 := 12) (pc' := 29) rfl (hb hby dc_12) rfl (flt (by decide : ¬ ((1048576 : Int32) < (1 : Int32)))).2.2.2 (by decide) (by decide) ?_
    refine XS.aloadN X10.here hx rfl (hb hby dc_29) rfl rfl ?_
    show oS p e below m T10 30 #[rv x0, iv 1, .unset] [(.ref x0)] _
    refine XS.iloadN X10.here hx rfl (hb hby dc_30) rfl ?_
    show oS p e below m T10 31 #[rv x0, iv 1, .unset] [(.int 1), (.ref x0)] _
    refine st13 _ ?_
    show oS p e below m T13 34 #[rv x0, iv 1, .unset] [(.ref b13), (.ref x0)] _
    refine st14 _ ?_
    show oS p e below m T14 37 #[rv x0, iv 1, .unset] [] _
    refine XS.aloadN X14.here hx rfl (hb hby dc_37) rfl rfl ?_
    refine XS.iloadN X14.here hx rfl (hb hby dc_38) rfl ?_
    show oS p e below m T14 39 #[rv x0, iv 1, .unset] [(.int 1), (.ref x0)] _
    refine st15 _ ?_
    show oS p e below m T15 41 #[rv x0, iv 1, .unset] [(.ref b15), (.ref x0)] _
    refine st16 _ ?_
    show oS p e below m T16 44 #[rv x0, iv 1, .unset] [] _
    refine XS.aloadN X16.here hx rfl (hb hby dc_44) rfl rfl ?_
    refine XS.iloadN X16.here hx rfl (hb hby dc_45) rfl ?_
    show oS p e below m T16 46 #[rv x0, iv 1, .unset] [(.int 1), (.ref x0)] _
    refine st17 _ ?_
    show oS p e below m T17 48 #[rv x0, iv 1, .unset] [(.ref b17), (.ref x0)] _
    refine st18 _ ?_
    show oS p e below m T18 51 #[rv x0, iv 1, .unset] [] _
    refine XS.iconst X18.here hx rfl (hb hby dc_51) ?_
    refine XS.istoreN X18.here hx rfl (hb hby dc_52) rfl (l' := #[rv x0, iv 1, iv 0]) rfl ?_
    show oS p e below m T18 53 #[rv x0, iv 1, iv 0] [] _
    refine XS.iloadN X18.here hx rfl (hb hby dc_53) rfl ?_
    refine XS.iloadN X18.here hx rfl (hb hby dc_54) rfl ?_
    show oS p e below m T18 55 #[rv x0, iv 1, iv 0] [(.int 1), (.int 0)] _
    refine XS.icmpNo X18.here hx rfl (hb hby dc_55) rfl (tlt (by decide : (0 : Int32) < (1 : Int32))).2.1 ?_
    refine XS.aloadN X18.here hx rfl (hb hby dc_58) rfl rfl ?_
    show oS p e below m T18 59 #[rv x0, iv 1, iv 0] [(.ref x0)] _
    refine st20 _ ?_
    show oS p e below m T20 62 #[rv x0, iv 1, iv 0] [(.ref b17)] _
    refine XS.iloadN X20.here hx rfl (hb hby dc_62) rfl ?_
    refine XS.iconst X20.here hx rfl (hb hby dc_63) ?_
    show oS p e below m T20 64 #[rv x0, iv 1, iv 0] [(.int 1), (.int 1), (.ref b17)] _
    refine XS.isub X20.here hx rfl (hb hby dc_64) rfl ?_
    exact kt
  rw [show ((1 : Int32) - (1 : Int32)) = (0 : Int32) from by decide] at pre21
  have pre22 : ∀ t, oS p e below m T20 67 #[rv x0, iv 1, iv 0] [(.int ((0 : Int32) - (0 : Int32))), (.ref b17)] t → oT p e below s₁ (entryFrame m #[(.ref x0), (.int 1)] 3) t := by
    intro t kt
    refine pre21 t ?_
    show oS p e below m T20 65 #[rv x0, iv 1, iv 0] [(.int 0), (.ref b17)] _
    refine XS.iloadN X20.here hx rfl (hb hby dc_65) rfl ?_
    refine XS.isub X20.here hx rfl (hb hby dc_66) rfl ?_
    exact kt
  rw [show ((0 : Int32) - (0 : Int32)) = (0 : Int32) from by decide] at pre22
  have vt23 := V_b17
  obtain ⟨cl23, Ar23, q23, S23, Ng23, Ha23, G23⟩ := vt23
  have hin23 : ¬ ((0 : Int32) < 0 ∨ cl23.slots.size ≤ ((0 : Int32)).toNatClampNeg) := inb_of S23 ⟨by decide, by decide⟩
  obtain ⟨T24, h24, X24, e24, W24, st24⟩ := stI X20 hx hZ e20 Ar23 (j := (0 : Int32)) hin23 (g := (mkF m 68 #[rv x0, iv 1, iv 0] [(.int 0), (.int 0), (.ref b17)])) rfl rfl (hb hby dc_68)
  have V_b17 : Arv Z h24 b17 k17 .int (1 : Int32) [(.int 0)] (.int 0) := Arv.set Ar23 q23 S23 Ng23 Ha23 G23 rfl W24 0 rfl (Nat.le_of_ble_eq_true rfl)
  have E_x0 := E_x0.wr W24
  have F_x0_requests := F_x0_requests.other W24 (Or.inl ne_x0_b17)
  have F_x0_sequences := F_x0_sequences.other W24 (Or.inl ne_x0_b17)
  have F_x0_free := F_x0_free.other W24 (Or.inl ne_x0_b17)
  have F_x0_freeCount := F_x0_freeCount.other W24 (Or.inl ne_x0_b17)
  have F_x0_lastSequence := F_x0_lastSequence.other W24 (Or.inl ne_x0_b17)
  have V_b13 := V_b13.other W24 ne_b13_b17
  have V_b15 := V_b15.other W24 ne_b15_b17
  have O24 := O18.wr W24 ge_b17
  have K24 := K18.wr W24 (Or.inr sz_b17)
  have N24 := Fr.snoc X24 N18 ge_b17
  have pre25 : ∀ t, oS p e below m T24 72 #[rv x0, iv 1, .val (.int ((0 : Int32) + (1 : Int32)))] [] t → oT p e below s₁ (entryFrame m #[(.ref x0), (.int 1)] 3) t := by
    intro t kt
    refine pre22 t ?_
    show oS p e below m T20 67 #[rv x0, iv 1, iv 0] [(.int 0), (.ref b17)] _
    refine XS.iloadN X20.here hx rfl (hb hby dc_67) rfl ?_
    show oS p e below m T20 68 #[rv x0, iv 1, iv 0] [(.int 0), (.int 0), (.ref b17)] _
    refine st24 _ ?_
    show oS p e below m T24 69 #[rv x0, iv 1, iv 0] [] _
    refine XS.iinc X24.here hx rfl (hb hby dc_69) rfl (l' := #[rv x0, iv 1, .val (.int ((0 : Int32) + (1 : Int32)))]) rfl ?_
    exact kt
  rw [show ((0 : Int32) + (1 : Int32)) = (1 : Int32) from by decide] at pre25
  obtain ⟨T27, h27, X27, e27, W27, st27⟩ := putF X24 hx hZ hown (host := "") (Or.inl (own_w hw 24 rfl)) Via.refl e24 F_x0_freeCount E_x0 (Or.inl (own_w hw 25 rfl)) (own_w hw 5 rfl) (ty := .int) (by decide) rfl rfl (g := (mkF m 77 #[rv x0, iv 1, iv 1] [(.int 1), (.ref x0)])) rfl rfl (hb hby dc_77)
  have F_x0_freeCount := F_x0_freeCount.same W27
  have E_x0 := E_x0.wr W27
  have F_x0_requests := F_x0_requests.other W27 (Or.inr (osn_Slots_requests_freeCount hw))
  have F_x0_sequences := F_x0_sequences.other W27 (Or.inr (osn_Slots_sequences_freeCount hw))
  have F_x0_free := F_x0_free.other W27 (Or.inr (osn_Slots_free_freeCount hw))
  have F_x0_lastSequence := F_x0_lastSequence.other W27 (Or.inr (osn_Slots_lastSequence_freeCount hw))
  have V_b13 := V_b13.other W27 (Ne.symm ne_x0_b13)
  have V_b15 := V_b15.other W27 (Ne.symm ne_x0_b15)
  have V_b17 := V_b17.other W27 (Ne.symm ne_x0_b17)
  have O27 := O24.wr W27 ge_x0
  have K27 := K24.wr W27 (Or.inl (List.mem_of_getElem? (i := 0) rfl))
  have N27 := Fr.snoc X27 N24 ge_x0
  have pre28 : ∀ t, oS p e below m T27 80 #[rv x0, iv 1, iv 1] [] t → oT p e below s₁ (entryFrame m #[(.ref x0), (.int 1)] 3) t := by
    intro t kt
    refine pre25 t ?_
    show oS p e below m T24 72 #[rv x0, iv 1, iv 1] [] _
    refine XS.goto X24.here hx rfl (pc0 := 72) (pc' := 53) rfl (hb hby dc_72) (by decide) (by decide) ?_
    refine XS.iloadN X24.here hx rfl (hb hby dc_53) rfl ?_
    show oS p e below m T24 54 #[rv x0, iv 1, iv 1] [(.int 1)] _
    refine XS.iloadN X24.here hx rfl (hb hby dc_54) rfl ?_
    refine XS.icmpYes X24.here hx rfl (pc0 := 55) (pc' := 75) rfl (hb hby dc_55) rfl (flt (by decide : ¬ ((1 : Int32) < (1 : Int32)))).2.1 (by decide) (by decide) ?_
    show oS p e below m T24 75 #[rv x0, iv 1, iv 1] [] _
    refine XS.aloadN X24.here hx rfl (hb hby dc_75) rfl rfl ?_
    refine XS.iloadN X24.here hx rfl (hb hby dc_76) rfl ?_
    show oS p e below m T24 77 #[rv x0, iv 1, iv 1] [(.int 1), (.ref x0)] _
    refine st27 _ ?_
    exact kt
  obtain ⟨fs, hr, hrun, hended, hW, hsame⟩ := X27.leave (v := none) (fun _ => rfl)
  refine ⟨_, _, pre28 _ ?_, hrun, hended, _, _, rfl, ?_, ⟨_, rfl⟩, hW, hsame.mono (by decide) (by decide)⟩
  · show oS p e below m T27 80 #[rv x0, iv 1, iv 1] [] _
    exact X27.returnOut hx Bd.returns (hb hby dc_80) hr
  · show Q_rm_init_1 Z x0 h0 n0 _ T27.heap _
    rw [e27]
    exact ⟨b13, b15, b17, k13, k15, k17, rfl, N27, K27, E_x0, F_x0_requests, F_x0_sequences, F_x0_free, F_x0_freeCount, F_x0_lastSequence, V_b13, Ov13, ge_b13, sz_b13, V_b15, ge_b15, sz_b15, V_b17, ge_b17, sz_b17, ne_b13_b15, ne_b13_b17, ne_b15_b17⟩
theorem ef_rm_hasFree_2 (m : MethodId) (x0 : Addr) : entryFrame m #[(.ref x0)] 1 = mkF m 0 #[rv x0] [] := by first | (simp [entryFrame, mkF, argsToLocals, Value.category]; done) | rfl
def Q_rm_hasFree_2 (Z : State) (x0 : Addr) (h0 : Heap) (n0 : Nat) (v : Option Value) (h : Heap) (L : List Loc) : Prop := v = some (.int 1) ∧ Fr n0 L ∧ h = h0
set_option maxRecDepth 65536 in
set_option maxHeartbeats 40000000 in
theorem rm_hasFree_2 (l : Launch) (Z : State) (a0 : Array Value) (hw : ∀ d ∈ tables_1, d.before a0 Z = true) (ws : List Jvm.Cond) (x0 : Addr) (h0 : Heap) (n0 : Nat) (O0 : Old Z n0 h0) (F_x0_freeCount : Fld Z h0 x0 oc8 "freeCount" "I" (.int 1))  :
    oM l oy2 prog_29_method_3_code 1 (some .boolean) ws ({ frames := 0, cells := 0, slots := 0, locals := 0 } : Room) Z #[(.ref x0)] h0 (Q_rm_hasFree_2 Z x0 h0 n0) := by
  refine MetFree.of_bodySF (plainFor_of_name pn_com_example_wend_wend_Slots) hisR ?_
  intro p e s m args below meth c s₁ Bd hml0 hP hK
  obtain ⟨rfl, hZ, hh⟩ := hP
  have hx := Bd.exec
  have hby := Bd.bytes
  have hml : c.maxLocals = 1 := hml0
  have hown : s.vm.findClass oc8 = some m.cls := findClass_of_methodNamed Bd.named
  have hnm := (name_of_methodNamed Bd.named Bd.method).1
  have X0 : Stand p l e ({ frames := 0, cells := 0, slots := 0, locals := 0 } : Room) s m #[(.ref x0)] below meth c s₁ [] 0 0 := Stand.of_body Bd
  have e0 : s₁.heap = h0 := by rw [← hh, Bd.state]; rfl
  have N0 := Fr.nil n0
  have pre0 : ∀ t, oS p e below m s₁ 0 #[rv x0] [] t → oT p e below s₁ (entryFrame m #[(.ref x0)] 1) t := fun t k => castTop (ef_rm_hasFree_2 m x0) k
  have K0 := Keep.refl h0 []
  obtain ⟨T30, X30, e30, st30⟩ := getF X0 hx hZ hown (host := "") (Or.inl (own_w hw 24 rfl)) Via.refl e0 F_x0_freeCount (g := (mkF m 1 #[rv x0] [(.ref x0)])) rfl rfl (hb hby dd_1)
  have pre32 : ∀ t, oS p e below m T30 12 #[rv x0] [(.int 1)] t → oT p e below s₁ (entryFrame m #[(.ref x0)] 1) t := by
    intro t kt
    refine pre0 t ?_
    show oS p e below m s₁ 0 #[rv x0] [] _
    refine XS.aloadN X0.here hx rfl (hb hby dd_0) rfl rfl ?_
    show oS p e below m s₁ 1 #[rv x0] [(.ref x0)] _
    refine st30 _ ?_
    show oS p e below m T30 4 #[rv x0] [(.int 1)] _
    refine XS.ifNo X30.here hx rfl (hb hby dd_4) rfl ((if0 _ _).trans (tlt (by decide : (0 : Int32) < (1 : Int32))).2.2.2) ?_
    refine XS.iconst X30.here hx rfl (hb hby dd_7) ?_
    show oS p e below m T30 8 #[rv x0] [(.int 1)] _
    refine XS.goto X30.here hx rfl (pc0 := 8) (pc' := 12) rfl (hb hby dd_8) (by decide) (by decide) ?_
    exact kt
  obtain ⟨fs, hr, hrun, hended, hW, hsame⟩ := X30.leave (v := some (.int 1)) (fun h => by rw [Bd.returns] at h; cases h)
  refine ⟨_, _, pre32 _ ?_, hrun, hended, _, _, rfl, ?_, ⟨_, rfl⟩, hW, hsame.mono (by decide) (by decide)⟩
  · show oS p e below m T30 12 #[rv x0] [(.int 1)] _
    exact retN X30 hx (t := .boolean) Bd.returns (by simp) (hb hby dd_12) hr
  · show Q_rm_hasFree_2 Z x0 h0 n0 _ T30.heap _
    rw [e30]
    exact ⟨rfl, N0, rfl⟩
theorem ef_rm_valueOf_3 (m : MethodId)  : entryFrame m #[(.int 1)] 1 = mkF m 0 #[iv 1] [] := by first | (simp [entryFrame, mkF, argsToLocals, Value.category]; done) | rfl
def Q_rm_valueOf_3 (Z : State) (w_cache : Addr) (w_I1 : Addr) (cl_cache : Cell) (h0 : Heap) (n0 : Nat) (v : Option Value) (h : Heap) (L : List Loc) : Prop := v = some (.ref w_I1) ∧ Fr n0 L ∧ h = h0
set_option maxRecDepth 65536 in
set_option maxHeartbeats 40000000 in
theorem rm_valueOf_3 (l : Launch) (Z : State) (a0 : Array Value) (hw : ∀ d ∈ tables_1, d.before a0 Z = true) (ws : List Jvm.Cond) (w_cache : Addr) (w_I1 : Addr) (cl_cache : Cell) (h0 : Heap) (n0 : Nat) (O0 : Old Z n0 h0)  (S_high : Sta Z Z.heap "java/lang/Integer$IntegerCache" "high" "I" (.int 127)) (S_cache : Sta Z Z.heap "java/lang/Integer$IntegerCache" "cache" "[Ljava/lang/Integer;" (.ref w_cache)) (AE_1 : cl_cache.slots[((129 : Int32)).toNatClampNeg]? = some (.ref w_I1)) (A_cache : Arr Z Z.heap w_cache cl_cache (.object oc10)) :
    oM l oy3 jdk_33_method_22_code 1 (some (.object oc10)) ws ({ frames := 0, cells := 0, slots := 0, locals := 0 } : Room) Z #[(.int 1)] h0 (Q_rm_valueOf_3 Z w_cache w_I1 cl_cache h0 n0) := by
  refine MetFree.of_bodySF (plainFor_of_name pn_java_lang_Integer) hisR ?_
  intro p e s m args below meth c s₁ Bd hml0 hP hK
  obtain ⟨rfl, hZ, hh⟩ := hP
  have hx := Bd.exec
  have hby := Bd.bytes
  have hml : c.maxLocals = 1 := hml0
  have hown : s.vm.findClass oc10 = some m.cls := findClass_of_methodNamed Bd.named
  have hnm := (name_of_methodNamed Bd.named Bd.method).1
  have X0 : Stand p l e ({ frames := 0, cells := 0, slots := 0, locals := 0 } : Room) s m #[(.int 1)] below meth c s₁ [] 0 0 := Stand.of_body Bd
  have e0 : s₁.heap = h0 := by rw [← hh, Bd.state]; rfl
  have N0 := Fr.nil n0
  have pre0 : ∀ t, oS p e below m s₁ 0 #[iv 1] [] t → oT p e below s₁ (entryFrame m #[(.int 1)] 1) t := fun t k => castTop (ef_rm_valueOf_3 m ) k
  have K0 := Keep.refl h0 []
  obtain ⟨T53, X53, e53, st53⟩ := getS2 X0 hx hZ hown (host := "") (Or.inl (own_w hw 35 rfl)) Via.refl e0 (S_high.ext O0.2) (g := (mkF m 7 #[iv 1] [(.int 1)])) rfl (hb hby db_7)
  obtain ⟨T55, X55, e55, st55⟩ := getS2 X53 hx hZ hown (host := "") (Or.inl (own_w hw 37 rfl)) Via.refl e53 (S_cache.ext O0.2) (g := (mkF m 13 #[iv 1] [])) rfl (hb hby db_13)
  have pre56 : ∀ t, oS p e below m T55 21 #[iv 1] [(.int ((1 : Int32) + (128 : Int32))), (.ref w_cache)] t → oT p e below s₁ (entryFrame m #[(.int 1)] 1) t := by
    intro t kt
    refine pre0 t ?_
    show oS p e below m s₁ 0 #[iv 1] [] _
    refine XS.iloadN X0.here hx rfl (hb hby db_0) rfl ?_
    refine XS.bipush X0.here hx rfl (hb hby db_1) ?_
    show oS p e below m s₁ 3 #[iv 1] [(.int (-128 : Int32)), (.int 1)] _
    refine XS.icmpNo X0.here hx rfl (hb hby db_3) rfl (flt (by decide : ¬ ((1 : Int32) < (-128 : Int32)))).1 ?_
    refine XS.iloadN X0.here hx rfl (hb hby db_6) rfl ?_
    show oS p e below m s₁ 7 #[iv 1] [(.int 1)] _
    refine st53 _ ?_
    show oS p e below m T53 10 #[iv 1] [(.int 127), (.int 1)] _
    refine XS.icmpNo X53.here hx rfl (hb hby db_10) rfl (flt (by decide : ¬ ((127 : Int32) < (1 : Int32)))).2.2.1 ?_
    show oS p e below m T53 13 #[iv 1] [] _
    refine st55 _ ?_
    show oS p e below m T55 16 #[iv 1] [(.ref w_cache)] _
    refine XS.iloadN X55.here hx rfl (hb hby db_16) rfl ?_
    refine XS.sipush X55.here hx rfl (hb hby db_17) ?_
    show oS p e below m T55 20 #[iv 1] [(.int 128), (.int 1), (.ref w_cache)] _
    refine XS.iadd X55.here hx rfl (hb hby db_20) rfl ?_
    exact kt
  rw [show ((1 : Int32) + (128 : Int32)) = (129 : Int32) from by decide] at pre56
  have Ar57 := (A_cache.ext O0.2)
  have hin57 := own_in AE_1 (by decide)
  have pre58 : ∀ t, oS p e below m T55 22 #[iv 1] [(.ref w_I1)] t → oT p e below s₁ (entryFrame m #[(.int 1)] 1) t := by
    intro t kt
    refine pre56 t ?_
    show oS p e below m T55 21 #[iv 1] [(.int 129), (.ref w_cache)] _
    refine X55.aaload hx (j := (129 : Int32)) (v := (.ref w_I1)) (by rw [e55]; exact Ar57.1) (State.isArrayOf_alike hZ.alike Ar57.2.1) rfl Ar57.2.2 hin57 AE_1 (g := (mkF m 21 #[iv 1] [(.int 129), (.ref w_cache)])) rfl rfl (hb hby db_21) _ ?_
    exact kt
  obtain ⟨fs, hr, hrun, hended, hW, hsame⟩ := X55.leave (v := some (.ref w_I1)) (fun h => by rw [Bd.returns] at h; cases h)
  refine ⟨_, _, pre58 _ ?_, hrun, hended, _, _, rfl, ?_, ⟨_, rfl⟩, hW, hsame.mono (by decide) (by decide)⟩
  · show oS p e below m T55 22 #[iv 1] [(.ref w_I1)] _
    jvm_step X55.here [X55.here.top, hx, (hb hby db_22), X55.method', Bd.returns, Value.isRef, FieldType.isReference]
    first | (intro acts; rw [hr _ acts rfl rfl rfl]) | rw [hr _ _ rfl rfl rfl]
    exact Steps.refl _
  · show Q_rm_valueOf_3 Z w_cache w_I1 cl_cache h0 n0 _ T55.heap _
    rw [e55]
    exact ⟨rfl, N0, rfl⟩
theorem ef_rm_take_4 (m : MethodId) (x0 : Addr) (w_I1 : Addr) : entryFrame m #[(.ref x0), (.ref w_I1)] 3 = mkF m 0 #[rv x0, rv w_I1, .unset] [] := by first | (simp [entryFrame, mkF, argsToLocals, Value.category]; done) | rfl
def Q_rm_take_4 (Z : State) (x0 : Addr) (x1 : Addr) (x2 : Addr) (x3 : Addr) (kc0 : ClassId) (kc1 : ClassId) (kc2 : ClassId) (w_I1 : Addr) (h0 : Heap) (n0 : Nat) (v : Option Value) (h : Heap) (L : List Loc) : Prop := v = some (.long 1048576) ∧ Fr n0 L ∧ Keep h0 h [x0, x1, x2] ∧ Exa Z h x0 oc8 ∧ Fld Z h x0 oc8 "requests" "[Ljava/lang/Object;" (.ref x1) ∧ Fld Z h x0 oc8 "sequences" "[J" (.ref x2) ∧ Fld Z h x0 oc8 "free" "[I" (.ref x3) ∧ Fld Z h x0 oc8 "freeCount" "I" (.int 0) ∧ Fld Z h x0 oc8 "lastSequence" "J" (.long 1) ∧ Arv Z h x1 kc0 (.object oc9) (1 : Int32) [(.ref w_I1)] .null ∧ Arv Z h x2 kc1 .long (1 : Int32) [(.long 1)] (.long 0)
set_option maxRecDepth 65536 in
set_option maxHeartbeats 40000000 in
theorem rm_take_4 (l : Launch) (Z : State) (a0 : Array Value) (hw : ∀ d ∈ tables_1, d.before a0 Z = true) (ws : List Jvm.Cond) (x0 : Addr) (x1 : Addr) (x2 : Addr) (x3 : Addr) (kc0 : ClassId) (kc1 : ClassId) (kc2 : ClassId) (w_I1 : Addr) (h0 : Heap) (n0 : Nat) (O0 : Old Z n0 h0) (E_x0 : Exa Z h0 x0 oc8) (F_x0_requests : Fld Z h0 x0 oc8 "requests" "[Ljava/lang/Object;" (.ref x1)) (F_x0_sequences : Fld Z h0 x0 oc8 "sequences" "[J" (.ref x2)) (F_x0_free : Fld Z h0 x0 oc8 "free" "[I" (.ref x3)) (F_x0_freeCount : Fld Z h0 x0 oc8 "freeCount" "I" (.int 1)) (F_x0_lastSequence : Fld Z h0 x0 oc8 "lastSequence" "J" (.long 0)) (ge_x0 : n0 ≤ x0) (V_x1 : Arv Z h0 x1 kc0 (.object oc9) (1 : Int32) [.null] .null) (O_x1 : Ovr Z kc0 oc9) (ge_x1 : n0 ≤ x1) (V_x2 : Arv Z h0 x2 kc1 .long (1 : Int32) [(.long 0)] (.long 0)) (ge_x2 : n0 ≤ x2) (V_x3 : Arv Z h0 x3 kc2 .int (1 : Int32) [(.int 0)] (.int 0)) (ge_x3 : n0 ≤ x3) (ne_x0_x1 : x0 ≠ x1) (ne_x0_x2 : x0 ≠ x2) (ne_x0_x3 : x0 ≠ x3) (ne_x1_x2 : x1 ≠ x2) (ne_x1_x3 : x1 ≠ x3) (ne_x2_x3 : x2 ≠ x3) (E_I1 : Exa Z Z.heap w_I1 oc10) :
    oM l oy4 prog_29_method_4_code 3 (some .long) ws ({ frames := 0, cells := 0, slots := 0, locals := 0 } : Room) Z #[(.ref x0), (.ref w_I1)] h0 (Q_rm_take_4 Z x0 x1 x2 x3 kc0 kc1 kc2 w_I1 h0 n0) := by
  refine MetFree.of_bodySF (plainFor_of_name pn_com_example_wend_wend_Slots) hisR ?_
  intro p e s m args below meth c s₁ Bd hml0 hP hK
  obtain ⟨rfl, hZ, hh⟩ := hP
  have hx := Bd.exec
  have hby := Bd.bytes
  have hml : c.maxLocals = 3 := hml0
  have hown : s.vm.findClass oc8 = some m.cls := findClass_of_methodNamed Bd.named
  have hnm := (name_of_methodNamed Bd.named Bd.method).1
  have X0 : Stand p l e ({ frames := 0, cells := 0, slots := 0, locals := 0 } : Room) s m #[(.ref x0), (.ref w_I1)] below meth c s₁ [] 0 0 := Stand.of_body Bd
  have e0 : s₁.heap = h0 := by rw [← hh, Bd.state]; rfl
  have N0 := Fr.nil n0
  have pre0 : ∀ t, oS p e below m s₁ 0 #[rv x0, rv w_I1, .unset] [] t → oT p e below s₁ (entryFrame m #[(.ref x0), (.ref w_I1)] 3) t := fun t k => castTop (ef_rm_take_4 m x0 w_I1) k
  have K0 := Keep.refl h0 [x0, x1, x2]
  obtain ⟨T60, X60, e60, st60⟩ := getF X0 hx hZ hown (host := "") (Or.inl (own_w hw 24 rfl)) Via.refl e0 F_x0_freeCount (g := (mkF m 1 #[rv x0, rv w_I1, .unset] [(.ref x0)])) rfl rfl (hb hby de_1)
  obtain ⟨T62, X62, e62, st62⟩ := getF X60 hx hZ hown (host := "") (Or.inl (own_w hw 22 rfl)) Via.refl e60 F_x0_free (g := (mkF m 18 #[rv x0, rv w_I1, .unset] [(.ref x0)])) rfl rfl (hb hby de_18)
  obtain ⟨T63, X63, e63, st63⟩ := getF X62 hx hZ hown (host := "") (Or.inl (own_w hw 24 rfl)) Via.refl e62 F_x0_freeCount (g := (mkF m 23 #[rv x0, rv w_I1, .unset] [(.ref x0), (.ref x0), (.ref x3)])) rfl rfl (hb hby de_23)
  have pre64 : ∀ t, oS p e below m T63 28 #[rv x0, rv w_I1, .unset] [(.int ((1 : Int32) - (1 : Int32))), (.ref x0), (.ref x3)] t → oT p e below s₁ (entryFrame m #[(.ref x0), (.ref w_I1)] 3) t := by
    intro t kt
    refine pre0 t ?_
    show oS p e below m s₁ 0 #[rv x0, rv w_I1, .unset] [] _
    refine XS.aloadN X0.here hx rfl (hb hby de_0) rfl rfl ?_
    show oS p e below m s₁ 1 #[rv x0, rv w_I1, .unset] [(.ref x0)] _
    refine st60 _ ?_
    show oS p e below m T60 4 #[rv x0, rv w_I1, .unset] [(.int 1)] _
    refine XS.ifYes X60.here hx rfl (pc0 := 4) (pc' := 17) rfl (hb hby de_4) rfl ((if0 _ _).trans (feq (by decide : ¬ ((1 : Int32) = (0 : Int32)))).2) (by decide) (by decide) ?_
    refine XS.aloadN X60.here hx rfl (hb hby de_17) rfl rfl ?_
    show oS p e below m T60 18 #[rv x0, rv w_I1, .unset] [(.ref x0)] _
    refine st62 _ ?_
    show oS p e below m T62 21 #[rv x0, rv w_I1, .unset] [(.ref x3)] _
    refine XS.aloadN X62.here hx rfl (hb hby de_21) rfl rfl ?_
    refine XS.dup X62.here hx rfl (hb hby de_22) rfl rfl ?_
    show oS p e below m T62 23 #[rv x0, rv w_I1, .unset] [(.ref x0), (.ref x0), (.ref x3)] _
    refine st63 _ ?_
    show oS p e below m T63 26 #[rv x0, rv w_I1, .unset] [(.int 1), (.ref x0), (.ref x3)] _
    refine XS.iconst X63.here hx rfl (hb hby de_26) ?_
    refine XS.isub X63.here hx rfl (hb hby de_27) rfl ?_
    exact kt
  rw [show ((1 : Int32) - (1 : Int32)) = (0 : Int32) from by decide] at pre64
  obtain ⟨T65, h65, X65, e65, W65, st65⟩ := putF X63 hx hZ hown (host := "") (Or.inl (own_w hw 24 rfl)) Via.refl e63 F_x0_freeCount E_x0 (Or.inl (own_w hw 25 rfl)) (own_w hw 5 rfl) (ty := .int) (by decide) rfl rfl (g := (mkF m 29 #[rv x0, rv w_I1, .unset] [(.int 0), (.ref x0), (.int 0), (.ref x3)])) rfl rfl (hb hby de_29)
  have F_x0_freeCount := F_x0_freeCount.same W65
  have E_x0 := E_x0.wr W65
  have F_x0_requests := F_x0_requests.other W65 (Or.inr (osn_Slots_requests_freeCount hw))
  have F_x0_sequences := F_x0_sequences.other W65 (Or.inr (osn_Slots_sequences_freeCount hw))
  have F_x0_free := F_x0_free.other W65 (Or.inr (osn_Slots_free_freeCount hw))
  have F_x0_lastSequence := F_x0_lastSequence.other W65 (Or.inr (osn_Slots_lastSequence_freeCount hw))
  have V_x1 := V_x1.other W65 (Ne.symm ne_x0_x1)
  have V_x2 := V_x2.other W65 (Ne.symm ne_x0_x2)
  have V_x3 := V_x3.other W65 (Ne.symm ne_x0_x3)
  have O65 := O0.wr W65 ge_x0
  have K65 := K0.wr W65 (Or.inl (List.mem_of_getElem? (i := 0) rfl))
  have N65 := Fr.snoc X65 N0 ge_x0
  have vt66 := V_x3
  obtain ⟨cl66, Ar66, q66, S66, Ng66, Ha66, G66⟩ := vt66
  have hin66 : ¬ ((0 : Int32) < 0 ∨ cl66.slots.size ≤ ((0 : Int32)).toNatClampNeg) := inb_of S66 ⟨by decide, by decide⟩
  have hat66 : cl66.slots[((0 : Int32)).toNatClampNeg]? = some (.int 0) := Ha66.at hin66 rfl
  obtain ⟨T67, X67, e67, st67⟩ := getF X65 hx hZ hown (host := "") (Or.inl (own_w hw 43 rfl)) Via.refl e65 F_x0_lastSequence (g := (mkF m 36 #[rv x0, rv w_I1, iv 0] [(.ref x0), (.ref x0)])) rfl rfl (hb hby de_36)
  have pre68 : ∀ t, oS p e below m T67 43 #[rv x0, rv w_I1, iv 0] [(.int (lcmpW (0 : Int64) (17592186044415 : Int64))), (.ref x0)] t → oT p e below s₁ (entryFrame m #[(.ref x0), (.ref w_I1)] 3) t := by
    intro t kt
    refine pre64 t ?_
    show oS p e below m T63 28 #[rv x0, rv w_I1, .unset] [(.int 0), (.ref x0), (.ref x3)] _
    refine XS.dupX1 X63.here hx rfl (hb hby de_28) rfl rfl rfl ?_
    show oS p e below m T63 29 #[rv x0, rv w_I1, .unset] [(.int 0), (.ref x0), (.int 0), (.ref x3)] _
    refine st65 _ ?_
    show oS p e below m T65 32 #[rv x0, rv w_I1, .unset] [(.int 0), (.ref x3)] _
    refine X65.iaload hx (j := (0 : Int32)) (v := (.int 0)) (by rw [e65]; exact Ar66.1) (State.isArrayOf_alike hZ.alike Ar66.2.1) Ar66.2.2 hin66 hat66 (g := (mkF m 32 #[rv x0, rv w_I1, .unset] [(.int 0), (.ref x3)])) rfl rfl (hb hby de_32) _ ?_
    show oS p e below m T65 33 #[rv x0, rv w_I1, .unset] [(.int 0)] _
    refine XS.istoreN X65.here hx rfl (hb hby de_33) rfl (l' := #[rv x0, rv w_I1, iv 0]) rfl ?_
    refine XS.aloadN X65.here hx rfl (hb hby de_34) rfl rfl ?_
    show oS p e below m T65 35 #[rv x0, rv w_I1, iv 0] [(.ref x0)] _
    refine XS.aloadN X65.here hx rfl (hb hby de_35) rfl rfl ?_
    show oS p e below m T65 36 #[rv x0, rv w_I1, iv 0] [(.ref x0), (.ref x0)] _
    refine st67 _ ?_
    show oS p e below m T67 39 #[rv x0, rv w_I1, iv 0] [(.long 0), (.ref x0)] _
    refine X67.ldc2Long hx hown (mvT hZ (own_w hw 45 rfl)) (g := (mkF m 39 #[rv x0, rv w_I1, iv 0] [(.long 0), (.ref x0)])) rfl (hb hby de_39) _ ?_
    show oS p e below m T67 42 #[rv x0, rv w_I1, iv 0] [(.long 17592186044415), (.long 0), (.ref x0)] _
    refine XS.lcmp X67.here hx rfl (hb hby de_42) rfl ?_
    exact kt
  rw [show (lcmpW (0 : Int64) (17592186044415 : Int64)) = (-1 : Int32) from by decide] at pre68
  obtain ⟨T70, X70, e70, st70⟩ := getF X67 hx hZ hown (host := "") (Or.inl (own_w hw 43 rfl)) Via.refl e67 F_x0_lastSequence (g := (mkF m 51 #[rv x0, rv w_I1, iv 0] [(.ref x0), (.ref x0)])) rfl rfl (hb hby de_51)
  have pre71 : ∀ t, oS p e below m T70 56 #[rv x0, rv w_I1, iv 0] [(.long ((0 : Int64) + (1 : Int64))), (.ref x0)] t → oT p e below s₁ (entryFrame m #[(.ref x0), (.ref w_I1)] 3) t := by
    intro t kt
    refine pre68 t ?_
    show oS p e below m T67 43 #[rv x0, rv w_I1, iv 0] [(.int (-1 : Int32)), (.ref x0)] _
    refine XS.ifYes X67.here hx rfl (pc0 := 43) (pc' := 50) rfl (hb hby de_43) rfl ((if0 _ _).trans (feq (by decide : ¬ ((-1 : Int32) = (0 : Int32)))).2) (by decide) (by decide) ?_
    refine XS.aloadN X67.here hx rfl (hb hby de_50) rfl rfl ?_
    show oS p e below m T67 51 #[rv x0, rv w_I1, iv 0] [(.ref x0), (.ref x0)] _
    refine st70 _ ?_
    show oS p e below m T70 54 #[rv x0, rv w_I1, iv 0] [(.long 0), (.ref x0)] _
    refine XS.lconst X70.here hx rfl (hb hby de_54) ?_
    refine XS.ladd X70.here hx rfl (hb hby de_55) rfl ?_
    exact kt
  rw [show ((0 : Int64) + (1 : Int64)) = (1 : Int64) from by decide] at pre71
  obtain ⟨T72, h72, X72, e72, W72, st72⟩ := putF X70 hx hZ hown (host := "") (Or.inl (own_w hw 43 rfl)) Via.refl e70 F_x0_lastSequence E_x0 (Or.inl (own_w hw 44 rfl)) (own_w hw 5 rfl) (ty := .long) (by decide) rfl rfl (g := (mkF m 56 #[rv x0, rv w_I1, iv 0] [(.long 1), (.ref x0)])) rfl rfl (hb hby de_56)
  have F_x0_lastSequence := F_x0_lastSequence.same W72
  have E_x0 := E_x0.wr W72
  have F_x0_requests := F_x0_requests.other W72 (Or.inr (osn_Slots_requests_lastSequence hw))
  have F_x0_sequences := F_x0_sequences.other W72 (Or.inr (osn_Slots_sequences_lastSequence hw))
  have F_x0_free := F_x0_free.other W72 (Or.inr (osn_Slots_free_lastSequence hw))
  have F_x0_freeCount := F_x0_freeCount.other W72 (Or.inr (osn_Slots_freeCount_lastSequence hw))
  have V_x1 := V_x1.other W72 (Ne.symm ne_x0_x1)
  have V_x2 := V_x2.other W72 (Ne.symm ne_x0_x2)
  have V_x3 := V_x3.other W72 (Ne.symm ne_x0_x3)
  have O72 := O65.wr W72 ge_x0
  have K72 := K65.wr W72 (Or.inl (List.mem_of_getElem? (i := 0) rfl))
  have N72 := Fr.snoc X72 N65 ge_x0
  obtain ⟨T73, X73, e73, st73⟩ := getF X72 hx hZ hown (host := "") (Or.inl (own_w hw 16 rfl)) Via.refl e72 F_x0_requests (g := (mkF m 60 #[rv x0, rv w_I1, iv 0] [(.ref x0)])) rfl rfl (hb hby de_60)
  have vt74 := V_x1
  obtain ⟨cl74, Ar74, q74, S74, Ng74, Ha74, G74⟩ := vt74
  have hin74 : ¬ ((0 : Int32) < 0 ∨ cl74.slots.size ≤ ((0 : Int32)).toNatClampNeg) := inb_of S74 ⟨by decide, by decide⟩
  obtain ⟨T75, h75, X75, e75, W75, st75⟩ := stR X73 hx hZ e73 Ar74 (j := (0 : Int32)) hin74 rfl (Sto.ofV Ar74 q74 O_x1 (Ins.of_exa (E_I1.ext O72.2) (own_w hw 46 rfl))) (g := (mkF m 65 #[rv x0, rv w_I1, iv 0] [(.ref w_I1), (.int 0), (.ref x1)])) rfl rfl (hb hby de_65)
  have V_x1 : Arv Z h75 x1 kc0 (.object oc9) (1 : Int32) [(.ref w_I1)] .null := Arv.set Ar74 q74 S74 Ng74 Ha74 G74 rfl W75 0 rfl (Nat.le_of_ble_eq_true rfl)
  have E_x0 := E_x0.wr W75
  have F_x0_requests := F_x0_requests.other W75 (Or.inl ne_x0_x1)
  have F_x0_sequences := F_x0_sequences.other W75 (Or.inl ne_x0_x1)
  have F_x0_free := F_x0_free.other W75 (Or.inl ne_x0_x1)
  have F_x0_freeCount := F_x0_freeCount.other W75 (Or.inl ne_x0_x1)
  have F_x0_lastSequence := F_x0_lastSequence.other W75 (Or.inl ne_x0_x1)
  have V_x2 := V_x2.other W75 (Ne.symm ne_x1_x2)
  have V_x3 := V_x3.other W75 (Ne.symm ne_x1_x3)
  have O75 := O72.wr W75 ge_x1
  have K75 := K72.wr W75 (Or.inl (List.mem_of_getElem? (i := 1) rfl))
  have N75 := Fr.snoc X75 N72 ge_x1
  obtain ⟨T76, X76, e76, st76⟩ := getF X75 hx hZ hown (host := "") (Or.inl (own_w hw 19 rfl)) Via.refl e75 F_x0_sequences (g := (mkF m 67 #[rv x0, rv w_I1, iv 0] [(.ref x0)])) rfl rfl (hb hby de_67)
  obtain ⟨T77, X77, e77, st77⟩ := getF X76 hx hZ hown (host := "") (Or.inl (own_w hw 43 rfl)) Via.refl e76 F_x0_lastSequence (g := (mkF m 72 #[rv x0, rv w_I1, iv 0] [(.ref x0), (.int 0), (.ref x2)])) rfl rfl (hb hby de_72)
  have vt78 := V_x2
  obtain ⟨cl78, Ar78, q78, S78, Ng78, Ha78, G78⟩ := vt78
  have hin78 : ¬ ((0 : Int32) < 0 ∨ cl78.slots.size ≤ ((0 : Int32)).toNatClampNeg) := inb_of S78 ⟨by decide, by decide⟩
  obtain ⟨T79, h79, X79, e79, W79, st79⟩ := stJ X77 hx hZ e77 Ar78 (j := (0 : Int32)) hin78 (g := (mkF m 75 #[rv x0, rv w_I1, iv 0] [(.long 1), (.int 0), (.ref x2)])) rfl rfl (hb hby de_75)
  have V_x2 : Arv Z h79 x2 kc1 .long (1 : Int32) [(.long 1)] (.long 0) := Arv.set Ar78 q78 S78 Ng78 Ha78 G78 rfl W79 0 rfl (Nat.le_of_ble_eq_true rfl)
  have E_x0 := E_x0.wr W79
  have F_x0_requests := F_x0_requests.other W79 (Or.inl ne_x0_x2)
  have F_x0_sequences := F_x0_sequences.other W79 (Or.inl ne_x0_x2)
  have F_x0_free := F_x0_free.other W79 (Or.inl ne_x0_x2)
  have F_x0_freeCount := F_x0_freeCount.other W79 (Or.inl ne_x0_x2)
  have F_x0_lastSequence := F_x0_lastSequence.other W79 (Or.inl ne_x0_x2)
  have V_x1 := V_x1.other W79 ne_x1_x2
  have V_x3 := V_x3.other W79 (Ne.symm ne_x2_x3)
  have O79 := O75.wr W79 ge_x2
  have K79 := K75.wr W79 (Or.inl (List.mem_of_getElem? (i := 2) rfl))
  have N79 := Fr.snoc X79 N75 ge_x2
  obtain ⟨T80, X80, e80, st80⟩ := getF X79 hx hZ hown (host := "") (Or.inl (own_w hw 43 rfl)) Via.refl e79 F_x0_lastSequence (g := (mkF m 77 #[rv x0, rv w_I1, iv 0] [(.ref x0)])) rfl rfl (hb hby de_77)
  have pre81 : ∀ t, oS p e below m T80 83 #[rv x0, rv w_I1, iv 0] [(.long ((1 : Int64) <<< ((20 : Int32) &&& 0x3f).toInt64))] t → oT p e below s₁ (entryFrame m #[(.ref x0), (.ref w_I1)] 3) t := by
    intro t kt
    refine pre71 t ?_
    show oS p e below m T70 56 #[rv x0, rv w_I1, iv 0] [(.long 1), (.ref x0)] _
    refine st72 _ ?_
    show oS p e below m T72 59 #[rv x0, rv w_I1, iv 0] [] _
    refine XS.aloadN X72.here hx rfl (hb hby de_59) rfl rfl ?_
    show oS p e below m T72 60 #[rv x0, rv w_I1, iv 0] [(.ref x0)] _
    refine st73 _ ?_
    show oS p e below m T73 63 #[rv x0, rv w_I1, iv 0] [(.ref x1)] _
    refine XS.iloadN X73.here hx rfl (hb hby de_63) rfl ?_
    refine XS.aloadN X73.here hx rfl (hb hby de_64) rfl rfl ?_
    show oS p e below m T73 65 #[rv x0, rv w_I1, iv 0] [(.ref w_I1), (.int 0), (.ref x1)] _
    refine st75 _ ?_
    show oS p e below m T75 66 #[rv x0, rv w_I1, iv 0] [] _
    refine XS.aloadN X75.here hx rfl (hb hby de_66) rfl rfl ?_
    show oS p e below m T75 67 #[rv x0, rv w_I1, iv 0] [(.ref x0)] _
    refine st76 _ ?_
    show oS p e below m T76 70 #[rv x0, rv w_I1, iv 0] [(.ref x2)] _
    refine XS.iloadN X76.here hx rfl (hb hby de_70) rfl ?_
    refine XS.aloadN X76.here hx rfl (hb hby de_71) rfl rfl ?_
    show oS p e below m T76 72 #[rv x0, rv w_I1, iv 0] [(.ref x0), (.int 0), (.ref x2)] _
    refine st77 _ ?_
    show oS p e below m T77 75 #[rv x0, rv w_I1, iv 0] [(.long 1), (.int 0), (.ref x2)] _
    refine st79 _ ?_
    show oS p e below m T79 76 #[rv x0, rv w_I1, iv 0] [] _
    refine XS.aloadN X79.here hx rfl (hb hby de_76) rfl rfl ?_
    show oS p e below m T79 77 #[rv x0, rv w_I1, iv 0] [(.ref x0)] _
    refine st80 _ ?_
    show oS p e below m T80 80 #[rv x0, rv w_I1, iv 0] [(.long 1)] _
    refine XS.bipush X80.here hx rfl (hb hby de_80) ?_
    refine XS.lshl X80.here hx rfl (hb hby de_82) rfl ?_
    exact kt
  rw [show ((1 : Int64) <<< ((20 : Int32) &&& 0x3f).toInt64) = (1048576 : Int64) from by decide] at pre81
  have pre82 : ∀ t, oS p e below m T80 85 #[rv x0, rv w_I1, iv 0] [(.long ((0 : Int32).toInt64)), (.long 1048576)] t → oT p e below s₁ (entryFrame m #[(.ref x0), (.ref w_I1)] 3) t := by
    intro t kt
    refine pre81 t ?_
    show oS p e below m T80 83 #[rv x0, rv w_I1, iv 0] [(.long 1048576)] _
    refine XS.iloadN X80.here hx rfl (hb hby de_83) rfl ?_
    refine XS.i2l X80.here hx rfl (hb hby de_84) rfl ?_
    exact kt
  rw [show ((0 : Int32).toInt64) = (0 : Int64) from by decide] at pre82
  have pre83 : ∀ t, oS p e below m T80 86 #[rv x0, rv w_I1, iv 0] [(.long ((1048576 : Int64) ||| (0 : Int64)))] t → oT p e below s₁ (entryFrame m #[(.ref x0), (.ref w_I1)] 3) t := by
    intro t kt
    refine pre82 t ?_
    show oS p e below m T80 85 #[rv x0, rv w_I1, iv 0] [(.long 0), (.long 1048576)] _
    refine XS.lor X80.here hx rfl (hb hby de_85) rfl ?_
    exact kt
  rw [show ((1048576 : Int64) ||| (0 : Int64)) = (1048576 : Int64) from by decide] at pre83
  obtain ⟨fs, hr, hrun, hended, hW, hsame⟩ := X80.leave (v := some (.long 1048576)) (fun h => by rw [Bd.returns] at h; cases h)
  refine ⟨_, _, pre83 _ ?_, hrun, hended, _, _, rfl, ?_, ⟨_, rfl⟩, hW, hsame.mono (by decide) (by decide)⟩
  · show oS p e below m T80 86 #[rv x0, rv w_I1, iv 0] [(.long 1048576)] _
    jvm_step X80.here [X80.here.top, hx, (hb hby de_86), X80.method', Bd.returns, narrow]
    first | (intro acts; rw [hr _ acts rfl rfl rfl]) | rw [hr _ _ rfl rfl rfl]
    exact Steps.refl _
  · show Q_rm_take_4 Z x0 x1 x2 x3 kc0 kc1 kc2 w_I1 h0 n0 _ T80.heap _
    rw [e80]
    exact ⟨rfl, N79, K79, E_x0, F_x0_requests, F_x0_sequences, F_x0_free, F_x0_freeCount, F_x0_lastSequence, V_x1, V_x2⟩
theorem ef_rm_hasFree_5 (m : MethodId) (x0 : Addr) : entryFrame m #[(.ref x0)] 1 = mkF m 0 #[rv x0] [] := by first | (simp [entryFrame, mkF, argsToLocals, Value.category]; done) | rfl
def Q_rm_hasFree_5 (Z : State) (x0 : Addr) (h0 : Heap) (n0 : Nat) (v : Option Value) (h : Heap) (L : List Loc) : Prop := v = some (.int 0) ∧ Fr n0 L ∧ h = h0
set_option maxRecDepth 65536 in
set_option maxHeartbeats 40000000 in
theorem rm_hasFree_5 (l : Launch) (Z : State) (a0 : Array Value) (hw : ∀ d ∈ tables_1, d.before a0 Z = true) (ws : List Jvm.Cond) (x0 : Addr) (h0 : Heap) (n0 : Nat) (O0 : Old Z n0 h0) (F_x0_freeCount : Fld Z h0 x0 oc8 "freeCount" "I" (.int 0))  :
    oM l oy2 prog_29_method_3_code 1 (some .boolean) ws ({ frames := 0, cells := 0, slots := 0, locals := 0 } : Room) Z #[(.ref x0)] h0 (Q_rm_hasFree_5 Z x0 h0 n0) := by
  refine MetFree.of_bodySF (plainFor_of_name pn_com_example_wend_wend_Slots) hisR ?_
  intro p e s m args below meth c s₁ Bd hml0 hP hK
  obtain ⟨rfl, hZ, hh⟩ := hP
  have hx := Bd.exec
  have hby := Bd.bytes
  have hml : c.maxLocals = 1 := hml0
  have hown : s.vm.findClass oc8 = some m.cls := findClass_of_methodNamed Bd.named
  have hnm := (name_of_methodNamed Bd.named Bd.method).1
  have X0 : Stand p l e ({ frames := 0, cells := 0, slots := 0, locals := 0 } : Room) s m #[(.ref x0)] below meth c s₁ [] 0 0 := Stand.of_body Bd
  have e0 : s₁.heap = h0 := by rw [← hh, Bd.state]; rfl
  have N0 := Fr.nil n0
  have pre0 : ∀ t, oS p e below m s₁ 0 #[rv x0] [] t → oT p e below s₁ (entryFrame m #[(.ref x0)] 1) t := fun t k => castTop (ef_rm_hasFree_5 m x0) k
  have K0 := Keep.refl h0 []
  obtain ⟨T87, X87, e87, st87⟩ := getF X0 hx hZ hown (host := "") (Or.inl (own_w hw 24 rfl)) Via.refl e0 F_x0_freeCount (g := (mkF m 1 #[rv x0] [(.ref x0)])) rfl rfl (hb hby dd_1)
  have pre89 : ∀ t, oS p e below m T87 12 #[rv x0] [(.int 0)] t → oT p e below s₁ (entryFrame m #[(.ref x0)] 1) t := by
    intro t kt
    refine pre0 t ?_
    show oS p e below m s₁ 0 #[rv x0] [] _
    refine XS.aloadN X0.here hx rfl (hb hby dd_0) rfl rfl ?_
    show oS p e below m s₁ 1 #[rv x0] [(.ref x0)] _
    refine st87 _ ?_
    show oS p e below m T87 4 #[rv x0] [(.int 0)] _
    refine XS.ifYes X87.here hx rfl (pc0 := 4) (pc' := 11) rfl (hb hby dd_4) rfl ((if0 _ _).trans (flt (by decide : ¬ ((0 : Int32) < (0 : Int32)))).2.2.2) (by decide) (by decide) ?_
    refine XS.iconst X87.here hx rfl (hb hby dd_11) ?_
    exact kt
  obtain ⟨fs, hr, hrun, hended, hW, hsame⟩ := X87.leave (v := some (.int 0)) (fun h => by rw [Bd.returns] at h; cases h)
  refine ⟨_, _, pre89 _ ?_, hrun, hended, _, _, rfl, ?_, ⟨_, rfl⟩, hW, hsame.mono (by decide) (by decide)⟩
  · show oS p e below m T87 12 #[rv x0] [(.int 0)] _
    exact retN X87 hx (t := .boolean) Bd.returns (by simp) (hb hby dd_12) hr
  · show Q_rm_hasFree_5 Z x0 h0 n0 _ T87.heap _
    rw [e87]
    exact ⟨rfl, N0, rfl⟩
theorem ef_rm_get_7 (m : MethodId) (x0 : Addr) : entryFrame m #[(.ref x0), (.long 1048576)] 7 = mkF m 0 (oL1 x0) [] := by first | (simp [entryFrame, mkF, argsToLocals, Value.category]; done) | rfl
def Q_rm_get_7 (Z : State) (x0 : Addr) (x1 : Addr) (x2 : Addr) (kc0 : ClassId) (kc1 : ClassId) (w_I1 : Addr) (h0 : Heap) (n0 : Nat) (v : Option Value) (h : Heap) (L : List Loc) : Prop := v = some (.ref w_I1) ∧ Fr n0 L ∧ h = h0
set_option maxRecDepth 65536 in
set_option maxHeartbeats 40000000 in
theorem rm_get_7 (l : Launch) (Z : State) (a0 : Array Value) (hw : ∀ d ∈ tables_1, d.before a0 Z = true) (ws : List Jvm.Cond) (x0 : Addr) (x1 : Addr) (x2 : Addr) (kc0 : ClassId) (kc1 : ClassId) (w_I1 : Addr) (h0 : Heap) (n0 : Nat) (O0 : Old Z n0 h0) (F_x0_requests : Fld Z h0 x0 oc8 "requests" "[Ljava/lang/Object;" (.ref x1)) (F_x0_sequences : Fld Z h0 x0 oc8 "sequences" "[J" (.ref x2)) (V_x1 : Arv Z h0 x1 kc0 (.object oc9) (1 : Int32) [(.ref w_I1)] .null) (V_x2 : Arv Z h0 x2 kc1 .long (1 : Int32) [(.long 1)] (.long 0))  :
    oM l oy6 prog_29_method_5_code 7 (some (.object oc9)) ws ({ frames := 0, cells := 0, slots := 0, locals := 0 } : Room) Z #[(.ref x0), (.long 1048576)] h0 (Q_rm_get_7 Z x0 x1 x2 kc0 kc1 w_I1 h0 n0) := by
  refine MetFree.of_bodySF (plainFor_of_name pn_com_example_wend_wend_Slots) hisR ?_
  intro p e s m args below meth c s₁ Bd hml0 hP hK
  obtain ⟨rfl, hZ, hh⟩ := hP
  have hx := Bd.exec
  have hby := Bd.bytes
  have hml : c.maxLocals = 7 := hml0
  have hown : s.vm.findClass oc8 = some m.cls := findClass_of_methodNamed Bd.named
  have hnm := (name_of_methodNamed Bd.named Bd.method).1
  have X0 : Stand p l e ({ frames := 0, cells := 0, slots := 0, locals := 0 } : Room) s m #[(.ref x0), (.long 1048576)] below meth c s₁ [] 0 0 := Stand.of_body Bd
  have e0 : s₁.heap = h0 := by rw [← hh, Bd.state]; rfl
  have N0 := Fr.nil n0
  have pre0 : ∀ t, oS p e below m s₁ 0 (oL1 x0) [] t → oT p e below s₁ (entryFrame m #[(.ref x0), (.long 1048576)] 7) t := fun t k => castTop (ef_rm_get_7 m x0) k
  have K0 := Keep.refl h0 []
  have pre103 : ∀ t, oS p e below m s₁ 5 (oL1 x0) [(.long ((1048576 : Int64) &&& (1048575 : Int64)))] t → oT p e below s₁ (entryFrame m #[(.ref x0), (.long 1048576)] 7) t := by
    intro t kt
    refine pre0 t ?_
    show oS p e below m s₁ 0 (oL1 x0) [] _
    refine XS.lloadN X0.here hx rfl (hb hby df_0) rfl ?_
    show oS p e below m s₁ 1 (oL1 x0) [(.long 1048576)] _
    refine X0.ldc2Long hx hown (mvT hZ (own_w hw 57 rfl)) (g := (mkF m 1 (oL1 x0) [(.long 1048576)])) rfl (hb hby df_1) _ ?_
    show oS p e below m s₁ 4 (oL1 x0) [(.long 1048575), (.long 1048576)] _
    refine XS.land X0.here hx rfl (hb hby df_4) rfl ?_
    exact kt
  rw [show ((1048576 : Int64) &&& (1048575 : Int64)) = (0 : Int64) from by decide] at pre103
  have pre104 : ∀ t, oS p e below m s₁ 6 (oL1 x0) [(.int ((0 : Int64).toInt32))] t → oT p e below s₁ (entryFrame m #[(.ref x0), (.long 1048576)] 7) t := by
    intro t kt
    refine pre103 t ?_
    show oS p e below m s₁ 5 (oL1 x0) [(.long 0)] _
    refine XS.l2i X0.here hx rfl (hb hby df_5) rfl ?_
    exact kt
  rw [show ((0 : Int64).toInt32) = (0 : Int32) from by decide] at pre104
  have pre105 : ∀ t, oS p e below m s₁ 11 (oL4 x0) [(.long (((1048576 : Int64).toUInt64 >>> ((20 : Int32) &&& 0x3f).toInt64.toUInt64).toInt64))] t → oT p e below s₁ (entryFrame m #[(.ref x0), (.long 1048576)] 7) t := by
    intro t kt
    refine pre104 t ?_
    show oS p e below m s₁ 6 (oL1 x0) [(.int 0)] _
    refine XS.istoreN X0.here hx rfl (hb hby df_6) rfl (l' := (oL4 x0)) rfl ?_
    refine XS.lloadN X0.here hx rfl (hb hby df_7) rfl ?_
    show oS p e below m s₁ 8 (oL4 x0) [(.long 1048576)] _
    refine XS.bipush X0.here hx rfl (hb hby df_8) ?_
    refine XS.lushr X0.here hx rfl (hb hby df_10) rfl ?_
    exact kt
  rw [show (((1048576 : Int64).toUInt64 >>> ((20 : Int32) &&& 0x3f).toInt64.toUInt64).toInt64) = (1 : Int64) from by decide] at pre105
  obtain ⟨T106, X106, e106, st106⟩ := getF X0 hx hZ hown (host := "") (Or.inl (own_w hw 16 rfl)) Via.refl e0 F_x0_requests (g := (mkF m 15 (oL0 x0) [(.ref x0), (.int 0)])) rfl rfl (hb hby df_15)
  have vt107 := V_x1
  obtain ⟨cl107, Ar107, q107, S107, Ng107, Ha107, G107⟩ := vt107
  obtain ⟨T109, X109, e109, st109⟩ := getF X106 hx hZ hown (host := "") (Or.inl (own_w hw 19 rfl)) Via.refl e106 F_x0_sequences (g := (mkF m 23 (oL0 x0) [(.ref x0)])) rfl rfl (hb hby df_23)
  have vt110 := V_x2
  obtain ⟨cl110, Ar110, q110, S110, Ng110, Ha110, G110⟩ := vt110
  have hin110 : ¬ ((0 : Int32) < 0 ∨ cl110.slots.size ≤ ((0 : Int32)).toNatClampNeg) := inb_of S110 ⟨by decide, by decide⟩
  have hat110 : cl110.slots[((0 : Int32)).toNatClampNeg]? = some (.long 1) := Ha110.at hin110 rfl
  have pre111 : ∀ t, oS p e below m T109 31 (oL0 x0) [(.int (lcmpW (1 : Int64) (1 : Int64)))] t → oT p e below s₁ (entryFrame m #[(.ref x0), (.long 1048576)] 7) t := by
    intro t kt
    refine pre105 t ?_
    show oS p e below m s₁ 11 (oL4 x0) [(.long 1)] _
    refine XS.lstore X0.here hx rfl (hb hby df_11) rfl (l' := (oL0 x0)) rfl ?_
    refine XS.iloadN X0.here hx rfl (hb hby df_13) rfl ?_
    show oS p e below m s₁ 14 (oL0 x0) [(.int 0)] _
    refine XS.aloadN X0.here hx rfl (hb hby df_14) rfl rfl ?_
    show oS p e below m s₁ 15 (oL0 x0) [(.ref x0), (.int 0)] _
    refine st106 _ ?_
    show oS p e below m T106 18 (oL0 x0) [(.ref x1), (.int 0)] _
    refine X106.arraylength hx (by rw [e106]; exact Ar107.1) (State.isArrayOf_alike hZ.alike Ar107.2.1) (g := (mkF m 18 (oL0 x0) [(.ref x1), (.int 0)])) rfl rfl (hb hby df_18) _ ?_
    rw [len_of S107 Ng107]
    show oS p e below m T106 19 (oL0 x0) [(.int 1), (.int 0)] _
    refine XS.icmpNo X106.here hx rfl (hb hby df_19) rfl (tlt (by decide : (0 : Int32) < (1 : Int32))).2.1 ?_
    refine XS.aloadN X106.here hx rfl (hb hby df_22) rfl rfl ?_
    show oS p e below m T106 23 (oL0 x0) [(.ref x0)] _
    refine st109 _ ?_
    show oS p e below m T109 26 (oL0 x0) [(.ref x2)] _
    refine XS.iloadN X109.here hx rfl (hb hby df_26) rfl ?_
    show oS p e below m T109 27 (oL0 x0) [(.int 0), (.ref x2)] _
    refine X109.laload hx (j := (0 : Int32)) (v := (.long 1)) (by rw [e109]; exact Ar110.1) (State.isArrayOf_alike hZ.alike Ar110.2.1) Ar110.2.2 hin110 hat110 (g := (mkF m 27 (oL0 x0) [(.int 0), (.ref x2)])) rfl rfl (hb hby df_27) _ ?_
    show oS p e below m T109 28 (oL0 x0) [(.long 1)] _
    refine XS.lload X109.here hx rfl (hb hby df_28) rfl ?_
    refine XS.lcmp X109.here hx rfl (hb hby df_30) rfl ?_
    exact kt
  rw [show (lcmpW (1 : Int64) (1 : Int64)) = (0 : Int32) from by decide] at pre111
  obtain ⟨T114, X114, e114, st114⟩ := getF X109 hx hZ hown (host := "") (Or.inl (own_w hw 16 rfl)) Via.refl e109 F_x0_requests (g := (mkF m 47 (oL5 x0) [(.ref x0)])) rfl rfl (hb hby df_47)
  have vt115 := V_x1
  obtain ⟨cl115, Ar115, q115, S115, Ng115, Ha115, G115⟩ := vt115
  have hin115 : ¬ ((0 : Int32) < 0 ∨ cl115.slots.size ≤ ((0 : Int32)).toNatClampNeg) := inb_of S115 ⟨by decide, by decide⟩
  have hat115 : cl115.slots[((0 : Int32)).toNatClampNeg]? = some (.ref w_I1) := Ha115.at hin115 rfl
  have pre116 : ∀ t, oS p e below m T114 56 (oL5 x0) [(.ref w_I1)] t → oT p e below s₁ (entryFrame m #[(.ref x0), (.long 1048576)] 7) t := by
    intro t kt
    refine pre111 t ?_
    show oS p e below m T109 31 (oL0 x0) [(.int 0)] _
    refine XS.ifNo X109.here hx rfl (hb hby df_31) rfl ((if0 _ _).trans (teq (by decide : (0 : Int32) = (0 : Int32))).2) ?_
    refine XS.iconst X109.here hx rfl (hb hby df_34) ?_
    show oS p e below m T109 35 (oL0 x0) [(.int 1)] _
    refine XS.goto X109.here hx rfl (pc0 := 35) (pc' := 39) rfl (hb hby df_35) (by decide) (by decide) ?_
    refine XS.istore X109.here hx rfl (hb hby df_39) rfl (l' := (oL5 x0)) rfl ?_
    show oS p e below m T109 41 (oL5 x0) [] _
    refine XS.iload X109.here hx rfl (hb hby df_41) rfl ?_
    refine XS.ifNo X109.here hx rfl (hb hby df_43) rfl ((if0 _ _).trans (feq (by decide : ¬ ((1 : Int32) = (0 : Int32)))).1) ?_
    show oS p e below m T109 46 (oL5 x0) [] _
    refine XS.aloadN X109.here hx rfl (hb hby df_46) rfl rfl ?_
    show oS p e below m T109 47 (oL5 x0) [(.ref x0)] _
    refine st114 _ ?_
    show oS p e below m T114 50 (oL5 x0) [(.ref x1)] _
    refine XS.iloadN X114.here hx rfl (hb hby df_50) rfl ?_
    show oS p e below m T114 51 (oL5 x0) [(.int 0), (.ref x1)] _
    refine X114.aaload hx (j := (0 : Int32)) (v := (.ref w_I1)) (by rw [e114]; exact Ar115.1) (State.isArrayOf_alike hZ.alike Ar115.2.1) rfl Ar115.2.2 hin115 hat115 (g := (mkF m 51 (oL5 x0) [(.int 0), (.ref x1)])) rfl rfl (hb hby df_51) _ ?_
    show oS p e below m T114 52 (oL5 x0) [(.ref w_I1)] _
    refine XS.goto X114.here hx rfl (pc0 := 52) (pc' := 56) rfl (hb hby df_52) (by decide) (by decide) ?_
    exact kt
  obtain ⟨fs, hr, hrun, hended, hW, hsame⟩ := X114.leave (v := some (.ref w_I1)) (fun h => by rw [Bd.returns] at h; cases h)
  refine ⟨_, _, pre116 _ ?_, hrun, hended, _, _, rfl, ?_, ⟨_, rfl⟩, hW, hsame.mono (by decide) (by decide)⟩
  · show oS p e below m T114 56 (oL5 x0) [(.ref w_I1)] _
    jvm_step X114.here [X114.here.top, hx, (hb hby df_56), X114.method', Bd.returns, Value.isRef, FieldType.isReference]
    first | (intro acts; rw [hr _ acts rfl rfl rfl]) | rw [hr _ _ rfl rfl rfl]
    exact Steps.refl _
  · show Q_rm_get_7 Z x0 x1 x2 kc0 kc1 w_I1 h0 n0 _ T114.heap _
    rw [e114]
    exact ⟨rfl, N0, rfl⟩
theorem ef_rm_free_8 (m : MethodId) (x0 : Addr) : entryFrame m #[(.ref x0), (.int 0)] 2 = mkF m 0 #[rv x0, iv 0] [] := by first | (simp [entryFrame, mkF, argsToLocals, Value.category]; done) | rfl
def Q_rm_free_8 (Z : State) (x0 : Addr) (x1 : Addr) (x2 : Addr) (x3 : Addr) (kc0 : ClassId) (kc1 : ClassId) (kc2 : ClassId) (w_I1 : Addr) (h0 : Heap) (n0 : Nat) (v : Option Value) (h : Heap) (L : List Loc) : Prop := v = none ∧ Fr n0 L ∧ Keep h0 h [x1, x2, x0, x3] ∧ Arv Z h x1 kc0 (.object oc9) (1 : Int32) [.null] .null ∧ Arv Z h x2 kc1 .long (1 : Int32) [(.long 0)] (.long 0) ∧ Exa Z h x0 oc8 ∧ Fld Z h x0 oc8 "requests" "[Ljava/lang/Object;" (.ref x1) ∧ Fld Z h x0 oc8 "sequences" "[J" (.ref x2) ∧ Fld Z h x0 oc8 "free" "[I" (.ref x3) ∧ Fld Z h x0 oc8 "freeCount" "I" (.int 1) ∧ Fld Z h x0 oc8 "lastSequence" "J" (.long 1) ∧ Arv Z h x3 kc2 .int (1 : Int32) [(.int 0)] (.int 0)
set_option maxRecDepth 65536 in
set_option maxHeartbeats 40000000 in
theorem rm_free_8 (l : Launch) (Z : State) (a0 : Array Value) (hw : ∀ d ∈ tables_1, d.before a0 Z = true) (ws : List Jvm.Cond) (x0 : Addr) (x1 : Addr) (x2 : Addr) (x3 : Addr) (kc0 : ClassId) (kc1 : ClassId) (kc2 : ClassId) (w_I1 : Addr) (h0 : Heap) (n0 : Nat) (O0 : Old Z n0 h0) (E_x0 : Exa Z h0 x0 oc8) (F_x0_requests : Fld Z h0 x0 oc8 "requests" "[Ljava/lang/Object;" (.ref x1)) (F_x0_sequences : Fld Z h0 x0 oc8 "sequences" "[J" (.ref x2)) (F_x0_free : Fld Z h0 x0 oc8 "free" "[I" (.ref x3)) (F_x0_freeCount : Fld Z h0 x0 oc8 "freeCount" "I" (.int 0)) (F_x0_lastSequence : Fld Z h0 x0 oc8 "lastSequence" "J" (.long 1)) (ge_x0 : n0 ≤ x0) (O_x1 : Ovr Z kc0 oc9) (V_x1 : Arv Z h0 x1 kc0 (.object oc9) (1 : Int32) [(.ref w_I1)] .null) (ge_x1 : n0 ≤ x1) (V_x2 : Arv Z h0 x2 kc1 .long (1 : Int32) [(.long 1)] (.long 0)) (ge_x2 : n0 ≤ x2) (V_x3 : Arv Z h0 x3 kc2 .int (1 : Int32) [(.int 0)] (.int 0)) (ge_x3 : n0 ≤ x3) (ne_x0_x1 : x0 ≠ x1) (ne_x0_x2 : x0 ≠ x2) (ne_x0_x3 : x0 ≠ x3) (ne_x1_x2 : x1 ≠ x2) (ne_x1_x3 : x1 ≠ x3) (ne_x2_x3 : x2 ≠ x3)  :
    oM l oy7 prog_29_method_8_code 2 none ws ({ frames := 0, cells := 0, slots := 0, locals := 0 } : Room) Z #[(.ref x0), (.int 0)] h0 (Q_rm_free_8 Z x0 x1 x2 x3 kc0 kc1 kc2 w_I1 h0 n0) := by
  refine MetFree.of_bodySF (plainFor_of_name pn_com_example_wend_wend_Slots) hisR ?_
  intro p e s m args below meth c s₁ Bd hml0 hP hK
  obtain ⟨rfl, hZ, hh⟩ := hP
  have hx := Bd.exec
  have hby := Bd.bytes
  have hml : c.maxLocals = 2 := hml0
  have hown : s.vm.findClass oc8 = some m.cls := findClass_of_methodNamed Bd.named
  have hnm := (name_of_methodNamed Bd.named Bd.method).1
  have X0 : Stand p l e ({ frames := 0, cells := 0, slots := 0, locals := 0 } : Room) s m #[(.ref x0), (.int 0)] below meth c s₁ [] 0 0 := Stand.of_body Bd
  have e0 : s₁.heap = h0 := by rw [← hh, Bd.state]; rfl
  have N0 := Fr.nil n0
  have pre0 : ∀ t, oS p e below m s₁ 0 #[rv x0, iv 0] [] t → oT p e below s₁ (entryFrame m #[(.ref x0), (.int 0)] 2) t := fun t k => castTop (ef_rm_free_8 m x0) k
  have K0 := Keep.refl h0 [x1, x2, x0, x3]
  obtain ⟨T120, X120, e120, st120⟩ := getF X0 hx hZ hown (host := "") (Or.inl (own_w hw 16 rfl)) Via.refl e0 F_x0_requests (g := (mkF m 1 #[rv x0, iv 0] [(.ref x0)])) rfl rfl (hb hby dh_1)
  have vt121 := V_x1
  obtain ⟨cl121, Ar121, q121, S121, Ng121, Ha121, G121⟩ := vt121
  have hin121 : ¬ ((0 : Int32) < 0 ∨ cl121.slots.size ≤ ((0 : Int32)).toNatClampNeg) := inb_of S121 ⟨by decide, by decide⟩
  obtain ⟨T122, h122, X122, e122, W122, st122⟩ := stR X120 hx hZ e120 Ar121 (j := (0 : Int32)) hin121 rfl (Or.inl rfl) (g := (mkF m 6 #[rv x0, iv 0] [.null, (.int 0), (.ref x1)])) rfl rfl (hb hby dh_6)
  have V_x1 : Arv Z h122 x1 kc0 (.object oc9) (1 : Int32) [.null] .null := Arv.set Ar121 q121 S121 Ng121 Ha121 G121 rfl W122 0 rfl (Nat.le_of_ble_eq_true rfl)
  have E_x0 := E_x0.wr W122
  have F_x0_requests := F_x0_requests.other W122 (Or.inl ne_x0_x1)
  have F_x0_sequences := F_x0_sequences.other W122 (Or.inl ne_x0_x1)
  have F_x0_free := F_x0_free.other W122 (Or.inl ne_x0_x1)
  have F_x0_freeCount := F_x0_freeCount.other W122 (Or.inl ne_x0_x1)
  have F_x0_lastSequence := F_x0_lastSequence.other W122 (Or.inl ne_x0_x1)
  have V_x2 := V_x2.other W122 (Ne.symm ne_x1_x2)
  have V_x3 := V_x3.other W122 (Ne.symm ne_x1_x3)
  have O122 := O0.wr W122 ge_x1
  have K122 := K0.wr W122 (Or.inl (List.mem_of_getElem? (i := 0) rfl))
  have N122 := Fr.snoc X122 N0 ge_x1
  obtain ⟨T123, X123, e123, st123⟩ := getF X122 hx hZ hown (host := "") (Or.inl (own_w hw 19 rfl)) Via.refl e122 F_x0_sequences (g := (mkF m 8 #[rv x0, iv 0] [(.ref x0)])) rfl rfl (hb hby dh_8)
  have vt124 := V_x2
  obtain ⟨cl124, Ar124, q124, S124, Ng124, Ha124, G124⟩ := vt124
  have hin124 : ¬ ((0 : Int32) < 0 ∨ cl124.slots.size ≤ ((0 : Int32)).toNatClampNeg) := inb_of S124 ⟨by decide, by decide⟩
  obtain ⟨T125, h125, X125, e125, W125, st125⟩ := stJ X123 hx hZ e123 Ar124 (j := (0 : Int32)) hin124 (g := (mkF m 13 #[rv x0, iv 0] [(.long 0), (.int 0), (.ref x2)])) rfl rfl (hb hby dh_13)
  have V_x2 : Arv Z h125 x2 kc1 .long (1 : Int32) [(.long 0)] (.long 0) := Arv.set Ar124 q124 S124 Ng124 Ha124 G124 rfl W125 0 rfl (Nat.le_of_ble_eq_true rfl)
  have E_x0 := E_x0.wr W125
  have F_x0_requests := F_x0_requests.other W125 (Or.inl ne_x0_x2)
  have F_x0_sequences := F_x0_sequences.other W125 (Or.inl ne_x0_x2)
  have F_x0_free := F_x0_free.other W125 (Or.inl ne_x0_x2)
  have F_x0_freeCount := F_x0_freeCount.other W125 (Or.inl ne_x0_x2)
  have F_x0_lastSequence := F_x0_lastSequence.other W125 (Or.inl ne_x0_x2)
  have V_x1 := V_x1.other W125 ne_x1_x2
  have V_x3 := V_x3.other W125 (Ne.symm ne_x2_x3)
  have O125 := O122.wr W125 ge_x2
  have K125 := K122.wr W125 (Or.inl (List.mem_of_getElem? (i := 1) rfl))
  have N125 := Fr.snoc X125 N122 ge_x2
  obtain ⟨T126, X126, e126, st126⟩ := getF X125 hx hZ hown (host := "") (Or.inl (own_w hw 22 rfl)) Via.refl e125 F_x0_free (g := (mkF m 15 #[rv x0, iv 0] [(.ref x0)])) rfl rfl (hb hby dh_15)
  obtain ⟨T127, X127, e127, st127⟩ := getF X126 hx hZ hown (host := "") (Or.inl (own_w hw 24 rfl)) Via.refl e126 F_x0_freeCount (g := (mkF m 20 #[rv x0, iv 0] [(.ref x0), (.ref x0), (.ref x3)])) rfl rfl (hb hby dh_20)
  have pre128 : ∀ t, oS p e below m T127 26 #[rv x0, iv 0] [(.int ((0 : Int32) + (1 : Int32))), (.ref x0), (.int 0), (.ref x3)] t → oT p e below s₁ (entryFrame m #[(.ref x0), (.int 0)] 2) t := by
    intro t kt
    refine pre0 t ?_
    show oS p e below m s₁ 0 #[rv x0, iv 0] [] _
    refine XS.aloadN X0.here hx rfl (hb hby dh_0) rfl rfl ?_
    show oS p e below m s₁ 1 #[rv x0, iv 0] [(.ref x0)] _
    refine st120 _ ?_
    show oS p e below m T120 4 #[rv x0, iv 0] [(.ref x1)] _
    refine XS.iloadN X120.here hx rfl (hb hby dh_4) rfl ?_
    refine XS.aconstNull X120.here hx rfl (hb hby dh_5) ?_
    show oS p e below m T120 6 #[rv x0, iv 0] [.null, (.int 0), (.ref x1)] _
    refine st122 _ ?_
    show oS p e below m T122 7 #[rv x0, iv 0] [] _
    refine XS.aloadN X122.here hx rfl (hb hby dh_7) rfl rfl ?_
    show oS p e below m T122 8 #[rv x0, iv 0] [(.ref x0)] _
    refine st123 _ ?_
    show oS p e below m T123 11 #[rv x0, iv 0] [(.ref x2)] _
    refine XS.iloadN X123.here hx rfl (hb hby dh_11) rfl ?_
    refine XS.lconst X123.here hx rfl (hb hby dh_12) ?_
    show oS p e below m T123 13 #[rv x0, iv 0] [(.long 0), (.int 0), (.ref x2)] _
    refine st125 _ ?_
    show oS p e below m T125 14 #[rv x0, iv 0] [] _
    refine XS.aloadN X125.here hx rfl (hb hby dh_14) rfl rfl ?_
    show oS p e below m T125 15 #[rv x0, iv 0] [(.ref x0)] _
    refine st126 _ ?_
    show oS p e below m T126 18 #[rv x0, iv 0] [(.ref x3)] _
    refine XS.aloadN X126.here hx rfl (hb hby dh_18) rfl rfl ?_
    refine XS.dup X126.here hx rfl (hb hby dh_19) rfl rfl ?_
    show oS p e below m T126 20 #[rv x0, iv 0] [(.ref x0), (.ref x0), (.ref x3)] _
    refine st127 _ ?_
    show oS p e below m T127 23 #[rv x0, iv 0] [(.int 0), (.ref x0), (.ref x3)] _
    refine XS.dupX1 X127.here hx rfl (hb hby dh_23) rfl rfl rfl ?_
    refine XS.iconst X127.here hx rfl (hb hby dh_24) ?_
    show oS p e below m T127 25 #[rv x0, iv 0] [(.int 1), (.int 0), (.ref x0), (.int 0), (.ref x3)] _
    refine XS.iadd X127.here hx rfl (hb hby dh_25) rfl ?_
    exact kt
  rw [show ((0 : Int32) + (1 : Int32)) = (1 : Int32) from by decide] at pre128
  obtain ⟨T129, h129, X129, e129, W129, st129⟩ := putF X127 hx hZ hown (host := "") (Or.inl (own_w hw 24 rfl)) Via.refl e127 F_x0_freeCount E_x0 (Or.inl (own_w hw 25 rfl)) (own_w hw 5 rfl) (ty := .int) (by decide) rfl rfl (g := (mkF m 26 #[rv x0, iv 0] [(.int 1), (.ref x0), (.int 0), (.ref x3)])) rfl rfl (hb hby dh_26)
  have F_x0_freeCount := F_x0_freeCount.same W129
  have E_x0 := E_x0.wr W129
  have F_x0_requests := F_x0_requests.other W129 (Or.inr (osn_Slots_requests_freeCount hw))
  have F_x0_sequences := F_x0_sequences.other W129 (Or.inr (osn_Slots_sequences_freeCount hw))
  have F_x0_free := F_x0_free.other W129 (Or.inr (osn_Slots_free_freeCount hw))
  have F_x0_lastSequence := F_x0_lastSequence.other W129 (Or.inr (osn_Slots_lastSequence_freeCount hw))
  have V_x1 := V_x1.other W129 (Ne.symm ne_x0_x1)
  have V_x2 := V_x2.other W129 (Ne.symm ne_x0_x2)
  have V_x3 := V_x3.other W129 (Ne.symm ne_x0_x3)
  have O129 := O125.wr W129 ge_x0
  have K129 := K125.wr W129 (Or.inl (List.mem_of_getElem? (i := 2) rfl))
  have N129 := Fr.snoc X129 N125 ge_x0
  have vt130 := V_x3
  obtain ⟨cl130, Ar130, q130, S130, Ng130, Ha130, G130⟩ := vt130
  have hin130 : ¬ ((0 : Int32) < 0 ∨ cl130.slots.size ≤ ((0 : Int32)).toNatClampNeg) := inb_of S130 ⟨by decide, by decide⟩
  obtain ⟨T131, h131, X131, e131, W131, st131⟩ := stI X129 hx hZ e129 Ar130 (j := (0 : Int32)) hin130 (g := (mkF m 30 #[rv x0, iv 0] [(.int 0), (.int 0), (.ref x3)])) rfl rfl (hb hby dh_30)
  have V_x3 : Arv Z h131 x3 kc2 .int (1 : Int32) [(.int 0)] (.int 0) := Arv.set Ar130 q130 S130 Ng130 Ha130 G130 rfl W131 0 rfl (Nat.le_of_ble_eq_true rfl)
  have E_x0 := E_x0.wr W131
  have F_x0_requests := F_x0_requests.other W131 (Or.inl ne_x0_x3)
  have F_x0_sequences := F_x0_sequences.other W131 (Or.inl ne_x0_x3)
  have F_x0_free := F_x0_free.other W131 (Or.inl ne_x0_x3)
  have F_x0_freeCount := F_x0_freeCount.other W131 (Or.inl ne_x0_x3)
  have F_x0_lastSequence := F_x0_lastSequence.other W131 (Or.inl ne_x0_x3)
  have V_x1 := V_x1.other W131 ne_x1_x3
  have V_x2 := V_x2.other W131 ne_x2_x3
  have O131 := O129.wr W131 ge_x3
  have K131 := K129.wr W131 (Or.inl (List.mem_of_getElem? (i := 3) rfl))
  have N131 := Fr.snoc X131 N129 ge_x3
  have pre132 : ∀ t, oS p e below m T131 31 #[rv x0, iv 0] [] t → oT p e below s₁ (entryFrame m #[(.ref x0), (.int 0)] 2) t := by
    intro t kt
    refine pre128 t ?_
    show oS p e below m T127 26 #[rv x0, iv 0] [(.int 1), (.ref x0), (.int 0), (.ref x3)] _
    refine st129 _ ?_
    show oS p e below m T129 29 #[rv x0, iv 0] [(.int 0), (.ref x3)] _
    refine XS.iloadN X129.here hx rfl (hb hby dh_29) rfl ?_
    show oS p e below m T129 30 #[rv x0, iv 0] [(.int 0), (.int 0), (.ref x3)] _
    refine st131 _ ?_
    exact kt
  obtain ⟨fs, hr, hrun, hended, hW, hsame⟩ := X131.leave (v := none) (fun _ => rfl)
  refine ⟨_, _, pre132 _ ?_, hrun, hended, _, _, rfl, ?_, ⟨_, rfl⟩, hW, hsame.mono (by decide) (by decide)⟩
  · show oS p e below m T131 31 #[rv x0, iv 0] [] _
    exact X131.returnOut hx Bd.returns (hb hby dh_31) hr
  · show Q_rm_free_8 Z x0 x1 x2 x3 kc0 kc1 kc2 w_I1 h0 n0 _ T131.heap _
    rw [e131]
    exact ⟨rfl, N131, K131, V_x1, V_x2, E_x0, F_x0_requests, F_x0_sequences, F_x0_free, F_x0_freeCount, F_x0_lastSequence, V_x3⟩
theorem ef_rm_release_6 (m : MethodId) (x0 : Addr) : entryFrame m #[(.ref x0), (.long 1048576)] 4 = mkF m 0 (oL3 x0) [] := by first | (simp [entryFrame, mkF, argsToLocals, Value.category]; done) | rfl
def Q_rm_release_6 (Z : State) (x0 : Addr) (x1 : Addr) (x2 : Addr) (x3 : Addr) (kc0 : ClassId) (kc1 : ClassId) (kc2 : ClassId) (w_I1 : Addr) (h0 : Heap) (n0 : Nat) (v : Option Value) (h : Heap) (L : List Loc) : Prop := v = some (.ref w_I1) ∧ Fr n0 L ∧ Keep h0 h [x3, x0, x2, x1] ∧ Arv Z h x3 kc2 .int (1 : Int32) [(.int 0)] (.int 0) ∧ Exa Z h x0 oc8 ∧ Fld Z h x0 oc8 "requests" "[Ljava/lang/Object;" (.ref x1) ∧ Fld Z h x0 oc8 "sequences" "[J" (.ref x2) ∧ Fld Z h x0 oc8 "free" "[I" (.ref x3) ∧ Fld Z h x0 oc8 "freeCount" "I" (.int 1) ∧ Fld Z h x0 oc8 "lastSequence" "J" (.long 1) ∧ Arv Z h x2 kc1 .long (1 : Int32) [(.long 0)] (.long 0) ∧ Arv Z h x1 kc0 (.object oc9) (1 : Int32) [.null] .null
set_option maxRecDepth 65536 in
set_option maxHeartbeats 40000000 in
theorem rm_release_6 (l : Launch) (Z : State) (a0 : Array Value) (hw : ∀ d ∈ tables_1, d.before a0 Z = true) (ws : List Jvm.Cond) (x0 : Addr) (x1 : Addr) (x2 : Addr) (x3 : Addr) (kc0 : ClassId) (kc1 : ClassId) (kc2 : ClassId) (w_I1 : Addr) (h0 : Heap) (n0 : Nat) (O0 : Old Z n0 h0) (E_x0 : Exa Z h0 x0 oc8) (F_x0_requests : Fld Z h0 x0 oc8 "requests" "[Ljava/lang/Object;" (.ref x1)) (F_x0_sequences : Fld Z h0 x0 oc8 "sequences" "[J" (.ref x2)) (F_x0_free : Fld Z h0 x0 oc8 "free" "[I" (.ref x3)) (F_x0_freeCount : Fld Z h0 x0 oc8 "freeCount" "I" (.int 0)) (F_x0_lastSequence : Fld Z h0 x0 oc8 "lastSequence" "J" (.long 1)) (ge_x0 : n0 ≤ x0) (O_x1 : Ovr Z kc0 oc9) (V_x1 : Arv Z h0 x1 kc0 (.object oc9) (1 : Int32) [(.ref w_I1)] .null) (ge_x1 : n0 ≤ x1) (V_x2 : Arv Z h0 x2 kc1 .long (1 : Int32) [(.long 1)] (.long 0)) (ge_x2 : n0 ≤ x2) (V_x3 : Arv Z h0 x3 kc2 .int (1 : Int32) [(.int 0)] (.int 0)) (ge_x3 : n0 ≤ x3) (ne_x0_x1 : x0 ≠ x1) (ne_x0_x2 : x0 ≠ x2) (ne_x0_x3 : x0 ≠ x3) (ne_x1_x2 : x1 ≠ x2) (ne_x1_x3 : x1 ≠ x3) (ne_x2_x3 : x2 ≠ x3)  :
    oM l oy5 prog_29_method_6_code 4 (some (.object oc9)) ws ({ frames := 1, cells := 0, slots := 0, locals := 18 } : Room) Z #[(.ref x0), (.long 1048576)] h0 (Q_rm_release_6 Z x0 x1 x2 x3 kc0 kc1 kc2 w_I1 h0 n0) := by
  refine MetFree.of_bodySF (plainFor_of_name pn_com_example_wend_wend_Slots) hisR ?_
  intro p e s m args below meth c s₁ Bd hml0 hP hK
  obtain ⟨rfl, hZ, hh⟩ := hP
  have hx := Bd.exec
  have hby := Bd.bytes
  have hml : c.maxLocals = 4 := hml0
  have hown : s.vm.findClass oc8 = some m.cls := findClass_of_methodNamed Bd.named
  have hnm := (name_of_methodNamed Bd.named Bd.method).1
  have X0 : Stand p l e ({ frames := 1, cells := 0, slots := 0, locals := 18 } : Room) s m #[(.ref x0), (.long 1048576)] below meth c s₁ [] 0 0 := Stand.of_body Bd
  have e0 : s₁.heap = h0 := by rw [← hh, Bd.state]; rfl
  have N0 := Fr.nil n0
  have pre0 : ∀ t, oS p e below m s₁ 0 (oL3 x0) [] t → oT p e below s₁ (entryFrame m #[(.ref x0), (.long 1048576)] 4) t := fun t k => castTop (ef_rm_release_6 m x0) k
  have K0 := Keep.refl h0 [x3, x0, x2, x1]
  obtain ⟨cq102, kq102, q102a, q102b, q102c⟩ := isOf hZ e0 E_x0
  obtain ⟨_, _, ⟨T102, L102, k102, n102⟩, -, X102, ⟨Lc102, hQ102, l102, y102, z102⟩, st102⟩ := X0.virtualBack hx (y := oy6) (z := oy6) hown (mvT hZ (own_w hw 52 rfl)) (mvT hZ (own_w hw 53 rfl)) (notFace_of_selects (args := #[]) (mvT hZ (own_w hw 55 rfl))) (mvT hZ (own_w hw 55 rfl)) (mvT hZ (own_w hw 54 rfl)) (by decide) (backOf (W := 0) (rm_get_7 l Z a0 hw [] x0 x1 x2 kc0 kc1 w_I1 h0 n0 O0 F_x0_requests F_x0_sequences V_x1 V_x2 ) hZ (own_w hw 56 rfl) (own_w hw 6 rfl) (by decide) (by decide)) q102a q102c (g := (mkF m 2 (oL3 x0) [(.long 1048576), (.ref x0)])) rfl (by rw [hml]; rfl) (Steps.refl _) (argsL := [(.long 1048576)]) (rest := []) (lenOf pd__J_Ljava_lang_Object_ rfl) rfl (by show 2 * 0 + _ ≤ _; exact Nat.le_of_eq rfl) (hb hby dg_2) (fun _ _ => ⟨rfl, e0, (by decide : 0 + 0 ≤ _), (by decide : 0 + 0 ≤ _)⟩)
  dsimp only [Pt.U, Pt.locs, Pt.cells, Pt.slots] at X102 l102 y102 z102 st102 hQ102
  subst l102 y102 z102
  obtain ⟨rfl, N102q, e102⟩ := hQ102
  have N102 := Fr.app N0 N102q
  have pre117 : ∀ t, oS p e below m T102 16 (oL2 x0 w_I1) [(.long ((1048576 : Int64) &&& (1048575 : Int64))), (.ref x0)] t → oT p e below s₁ (entryFrame m #[(.ref x0), (.long 1048576)] 4) t := by
    intro t kt
    refine pre0 t ?_
    show oS p e below m s₁ 0 (oL3 x0) [] _
    refine XS.aloadN X0.here hx rfl (hb hby dg_0) rfl rfl ?_
    refine XS.lloadN X0.here hx rfl (hb hby dg_1) rfl ?_
    show oS p e below m s₁ 2 (oL3 x0) [(.long 1048576), (.ref x0)] _
    refine st102.trans ?_
    show oS p e below m T102 5 (oL3 x0) [(.ref w_I1)] _
    refine XS.astoreN X102.here hx rfl (hb hby dg_5) rfl rfl (l' := (oL2 x0 w_I1)) rfl ?_
    refine XS.aloadN X102.here hx rfl (hb hby dg_6) rfl rfl ?_
    show oS p e below m T102 7 (oL2 x0 w_I1) [(.ref w_I1)] _
    refine XS.ifnullNo X102.here hx rfl (hb hby dg_7) rfl ?_
    refine XS.aloadN X102.here hx rfl (hb hby dg_10) rfl rfl ?_
    show oS p e below m T102 11 (oL2 x0 w_I1) [(.ref x0)] _
    refine XS.lloadN X102.here hx rfl (hb hby dg_11) rfl ?_
    show oS p e below m T102 12 (oL2 x0 w_I1) [(.long 1048576), (.ref x0)] _
    refine X102.ldc2Long hx hown (mvT hZ (own_w hw 57 rfl)) (g := (mkF m 12 (oL2 x0 w_I1) [(.long 1048576), (.ref x0)])) rfl (hb hby dg_12) _ ?_
    show oS p e below m T102 15 (oL2 x0 w_I1) [(.long 1048575), (.long 1048576), (.ref x0)] _
    refine XS.land X102.here hx rfl (hb hby dg_15) rfl ?_
    exact kt
  rw [show ((1048576 : Int64) &&& (1048575 : Int64)) = (0 : Int64) from by decide] at pre117
  have pre118 : ∀ t, oS p e below m T102 17 (oL2 x0 w_I1) [(.int ((0 : Int64).toInt32)), (.ref x0)] t → oT p e below s₁ (entryFrame m #[(.ref x0), (.long 1048576)] 4) t := by
    intro t kt
    refine pre117 t ?_
    show oS p e below m T102 16 (oL2 x0 w_I1) [(.long 0), (.ref x0)] _
    refine XS.l2i X102.here hx rfl (hb hby dg_16) rfl ?_
    exact kt
  rw [show ((0 : Int64).toInt32) = (0 : Int32) from by decide] at pre118
  obtain ⟨cq119, q119, q119'⟩ := E_x0.cell
  obtain ⟨_, _, ⟨T119, L119, k119, n119⟩, -, X119, ⟨Lc119, hQ119, l119, y119, z119⟩, st119⟩ := X102.privateBack hx (y := oy7) hown (mvT hZ (own_w hw 58 rfl)) (mvT hZ (own_w hw 59 rfl)) (own_priv hZ (own_w hw 59 rfl) (own_w hw 60 rfl) (own_w hw 5 rfl) (by decide)) (Cond.privateMethod_at (mvP hZ (own_w hw 60 rfl) (args := #[]))) (mvT hZ (own_w hw 61 rfl)) (by decide) (backOf (W := 0) (rm_free_8 l Z a0 hw [] x0 x1 x2 x3 kc0 kc1 kc2 w_I1 h0 n0 O0 E_x0 F_x0_requests F_x0_sequences F_x0_free F_x0_freeCount F_x0_lastSequence ge_x0 O_x1 V_x1 ge_x1 V_x2 ge_x2 V_x3 ge_x3 ne_x0_x1 ne_x0_x2 ne_x0_x3 ne_x1_x2 ne_x1_x3 ne_x2_x3 ) hZ (own_w hw 61 rfl) (own_w hw 6 rfl) (by decide) (by decide)) (g := (mkF m 17 (oL2 x0 w_I1) [(.int 0), (.ref x0)])) rfl (by rw [hml]; rfl) (Steps.refl _) (a := x0) (by rw [e102]; exact q119) q119' (argsL := [(.int 0)]) (rest := []) (lenOf pd__I_V rfl) rfl (by show 2 * 0 + _ ≤ _; exact Nat.le_of_eq rfl) (hb hby dg_17) (fun _ _ => ⟨rfl, e102, (by decide : 0 + 0 ≤ _), (by decide : 0 + 0 ≤ _)⟩)
  dsimp only [Pt.U, Pt.locs, Pt.cells, Pt.slots] at X119 l119 y119 z119 st119 hQ119
  subst l119 y119 z119
  obtain ⟨rfl, N119q, Kc119, u119_0, u119_1, u119_2, u119_3, u119_4, u119_5, u119_6, u119_7, u119_8⟩ := hQ119
  have N119 := Fr.app N102 N119q
  have O119 := O0.keep Kc119 (allS ge_x1 (allS ge_x2 (allS ge_x0 (allS ge_x3 all0))))
  have K119 := K0.trans Kc119 (allS (Or.inl (List.mem_of_getElem? (i := 3) rfl)) (allS (Or.inl (List.mem_of_getElem? (i := 2) rfl)) (allS (Or.inl (List.mem_of_getElem? (i := 1) rfl)) (allS (Or.inl (List.mem_of_getElem? (i := 0) rfl)) all0))))
  have pre133 : ∀ t, oS p e below m T119 21 (oL2 x0 w_I1) [(.ref w_I1)] t → oT p e below s₁ (entryFrame m #[(.ref x0), (.long 1048576)] 4) t := by
    intro t kt
    refine pre118 t ?_
    show oS p e below m T102 17 (oL2 x0 w_I1) [(.int 0), (.ref x0)] _
    refine st119.trans ?_
    show oS p e below m T119 20 (oL2 x0 w_I1) [] _
    refine XS.aloadN X119.here hx rfl (hb hby dg_20) rfl rfl ?_
    exact kt
  obtain ⟨fs, hr, hrun, hended, hW, hsame⟩ := X119.leave (v := some (.ref w_I1)) (fun h => by rw [Bd.returns] at h; cases h)
  refine ⟨_, _, pre133 _ ?_, hrun, hended, _, _, rfl, ?_, ⟨_, rfl⟩, hW, hsame.mono (by decide) (by decide)⟩
  · show oS p e below m T119 21 (oL2 x0 w_I1) [(.ref w_I1)] _
    jvm_step X119.here [X119.here.top, hx, (hb hby dg_21), X119.method', Bd.returns, Value.isRef, FieldType.isReference]
    first | (intro acts; rw [hr _ acts rfl rfl rfl]) | rw [hr _ _ rfl rfl rfl]
    exact Steps.refl _
  · show Q_rm_release_6 Z x0 x1 x2 x3 kc0 kc1 kc2 w_I1 h0 n0 _ T119.heap _
    exact ⟨rfl, N119, K119, u119_8, u119_2, u119_3, u119_4, u119_5, u119_6, u119_7, u119_1, u119_0⟩
theorem ef_rm_valueOf_9 (m : MethodId)  : entryFrame m #[(.int 4)] 1 = mkF m 0 #[iv 4] [] := by first | (simp [entryFrame, mkF, argsToLocals, Value.category]; done) | rfl
def Q_rm_valueOf_9 (Z : State) (w_cache : Addr) (cl_cache : Cell) (w_I4 : Addr) (h0 : Heap) (n0 : Nat) (v : Option Value) (h : Heap) (L : List Loc) : Prop := v = some (.ref w_I4) ∧ Fr n0 L ∧ h = h0
set_option maxRecDepth 65536 in
set_option maxHeartbeats 40000000 in
theorem rm_valueOf_9 (l : Launch) (Z : State) (a0 : Array Value) (hw : ∀ d ∈ tables_1, d.before a0 Z = true) (ws : List Jvm.Cond) (w_cache : Addr) (cl_cache : Cell) (w_I4 : Addr) (h0 : Heap) (n0 : Nat) (O0 : Old Z n0 h0)  (S_high : Sta Z Z.heap "java/lang/Integer$IntegerCache" "high" "I" (.int 127)) (S_cache : Sta Z Z.heap "java/lang/Integer$IntegerCache" "cache" "[Ljava/lang/Integer;" (.ref w_cache)) (AE_4 : cl_cache.slots[((132 : Int32)).toNatClampNeg]? = some (.ref w_I4)) (A_cache : Arr Z Z.heap w_cache cl_cache (.object oc10)) :
    oM l oy3 jdk_33_method_22_code 1 (some (.object oc10)) ws ({ frames := 0, cells := 0, slots := 0, locals := 0 } : Room) Z #[(.int 4)] h0 (Q_rm_valueOf_9 Z w_cache cl_cache w_I4 h0 n0) := by
  refine MetFree.of_bodySF (plainFor_of_name pn_java_lang_Integer) hisR ?_
  intro p e s m args below meth c s₁ Bd hml0 hP hK
  obtain ⟨rfl, hZ, hh⟩ := hP
  have hx := Bd.exec
  have hby := Bd.bytes
  have hml : c.maxLocals = 1 := hml0
  have hown : s.vm.findClass oc10 = some m.cls := findClass_of_methodNamed Bd.named
  have hnm := (name_of_methodNamed Bd.named Bd.method).1
  have X0 : Stand p l e ({ frames := 0, cells := 0, slots := 0, locals := 0 } : Room) s m #[(.int 4)] below meth c s₁ [] 0 0 := Stand.of_body Bd
  have e0 : s₁.heap = h0 := by rw [← hh, Bd.state]; rfl
  have N0 := Fr.nil n0
  have pre0 : ∀ t, oS p e below m s₁ 0 #[iv 4] [] t → oT p e below s₁ (entryFrame m #[(.int 4)] 1) t := fun t k => castTop (ef_rm_valueOf_9 m ) k
  have K0 := Keep.refl h0 []
  obtain ⟨T147, X147, e147, st147⟩ := getS2 X0 hx hZ hown (host := "") (Or.inl (own_w hw 35 rfl)) Via.refl e0 (S_high.ext O0.2) (g := (mkF m 7 #[iv 4] [(.int 4)])) rfl (hb hby db_7)
  obtain ⟨T149, X149, e149, st149⟩ := getS2 X147 hx hZ hown (host := "") (Or.inl (own_w hw 37 rfl)) Via.refl e147 (S_cache.ext O0.2) (g := (mkF m 13 #[iv 4] [])) rfl (hb hby db_13)
  have pre150 : ∀ t, oS p e below m T149 21 #[iv 4] [(.int ((4 : Int32) + (128 : Int32))), (.ref w_cache)] t → oT p e below s₁ (entryFrame m #[(.int 4)] 1) t := by
    intro t kt
    refine pre0 t ?_
    show oS p e below m s₁ 0 #[iv 4] [] _
    refine XS.iloadN X0.here hx rfl (hb hby db_0) rfl ?_
    refine XS.bipush X0.here hx rfl (hb hby db_1) ?_
    show oS p e below m s₁ 3 #[iv 4] [(.int (-128 : Int32)), (.int 4)] _
    refine XS.icmpNo X0.here hx rfl (hb hby db_3) rfl (flt (by decide : ¬ ((4 : Int32) < (-128 : Int32)))).1 ?_
    refine XS.iloadN X0.here hx rfl (hb hby db_6) rfl ?_
    show oS p e below m s₁ 7 #[iv 4] [(.int 4)] _
    refine st147 _ ?_
    show oS p e below m T147 10 #[iv 4] [(.int 127), (.int 4)] _
    refine XS.icmpNo X147.here hx rfl (hb hby db_10) rfl (flt (by decide : ¬ ((127 : Int32) < (4 : Int32)))).2.2.1 ?_
    show oS p e below m T147 13 #[iv 4] [] _
    refine st149 _ ?_
    show oS p e below m T149 16 #[iv 4] [(.ref w_cache)] _
    refine XS.iloadN X149.here hx rfl (hb hby db_16) rfl ?_
    refine XS.sipush X149.here hx rfl (hb hby db_17) ?_
    show oS p e below m T149 20 #[iv 4] [(.int 128), (.int 4), (.ref w_cache)] _
    refine XS.iadd X149.here hx rfl (hb hby db_20) rfl ?_
    exact kt
  rw [show ((4 : Int32) + (128 : Int32)) = (132 : Int32) from by decide] at pre150
  have Ar151 := (A_cache.ext O0.2)
  have hin151 := own_in AE_4 (by decide)
  have pre152 : ∀ t, oS p e below m T149 22 #[iv 4] [(.ref w_I4)] t → oT p e below s₁ (entryFrame m #[(.int 4)] 1) t := by
    intro t kt
    refine pre150 t ?_
    show oS p e below m T149 21 #[iv 4] [(.int 132), (.ref w_cache)] _
    refine X149.aaload hx (j := (132 : Int32)) (v := (.ref w_I4)) (by rw [e149]; exact Ar151.1) (State.isArrayOf_alike hZ.alike Ar151.2.1) rfl Ar151.2.2 hin151 AE_4 (g := (mkF m 21 #[iv 4] [(.int 132), (.ref w_cache)])) rfl rfl (hb hby db_21) _ ?_
    exact kt
  obtain ⟨fs, hr, hrun, hended, hW, hsame⟩ := X149.leave (v := some (.ref w_I4)) (fun h => by rw [Bd.returns] at h; cases h)
  refine ⟨_, _, pre152 _ ?_, hrun, hended, _, _, rfl, ?_, ⟨_, rfl⟩, hW, hsame.mono (by decide) (by decide)⟩
  · show oS p e below m T149 22 #[iv 4] [(.ref w_I4)] _
    jvm_step X149.here [X149.here.top, hx, (hb hby db_22), X149.method', Bd.returns, Value.isRef, FieldType.isReference]
    first | (intro acts; rw [hr _ acts rfl rfl rfl]) | rw [hr _ _ rfl rfl rfl]
    exact Steps.refl _
  · show Q_rm_valueOf_9 Z w_cache cl_cache w_I4 h0 n0 _ T149.heap _
    rw [e149]
    exact ⟨rfl, N0, rfl⟩
theorem ef_rm_take_10 (m : MethodId) (x0 : Addr) (w_I4 : Addr) : entryFrame m #[(.ref x0), (.ref w_I4)] 3 = mkF m 0 #[rv x0, rv w_I4, .unset] [] := by first | (simp [entryFrame, mkF, argsToLocals, Value.category]; done) | rfl
def Q_rm_take_10 (Z : State) (x0 : Addr) (x1 : Addr) (x2 : Addr) (x3 : Addr) (kc0 : ClassId) (kc1 : ClassId) (kc2 : ClassId) (w_I4 : Addr) (h0 : Heap) (n0 : Nat) (v : Option Value) (h : Heap) (L : List Loc) : Prop := v = some (.long 2097152) ∧ Fr n0 L ∧ Keep h0 h [x0, x1, x2] ∧ Exa Z h x0 oc8 ∧ Fld Z h x0 oc8 "requests" "[Ljava/lang/Object;" (.ref x1) ∧ Fld Z h x0 oc8 "sequences" "[J" (.ref x2) ∧ Fld Z h x0 oc8 "free" "[I" (.ref x3) ∧ Fld Z h x0 oc8 "freeCount" "I" (.int 0) ∧ Fld Z h x0 oc8 "lastSequence" "J" (.long 2) ∧ Arv Z h x1 kc0 (.object oc9) (1 : Int32) [(.ref w_I4)] .null ∧ Arv Z h x2 kc1 .long (1 : Int32) [(.long 2)] (.long 0)
set_option maxRecDepth 65536 in
set_option maxHeartbeats 40000000 in
theorem rm_take_10 (l : Launch) (Z : State) (a0 : Array Value) (hw : ∀ d ∈ tables_1, d.before a0 Z = true) (ws : List Jvm.Cond) (x0 : Addr) (x1 : Addr) (x2 : Addr) (x3 : Addr) (kc0 : ClassId) (kc1 : ClassId) (kc2 : ClassId) (w_I4 : Addr) (h0 : Heap) (n0 : Nat) (O0 : Old Z n0 h0) (E_x0 : Exa Z h0 x0 oc8) (F_x0_requests : Fld Z h0 x0 oc8 "requests" "[Ljava/lang/Object;" (.ref x1)) (F_x0_sequences : Fld Z h0 x0 oc8 "sequences" "[J" (.ref x2)) (F_x0_free : Fld Z h0 x0 oc8 "free" "[I" (.ref x3)) (F_x0_freeCount : Fld Z h0 x0 oc8 "freeCount" "I" (.int 1)) (F_x0_lastSequence : Fld Z h0 x0 oc8 "lastSequence" "J" (.long 1)) (ge_x0 : n0 ≤ x0) (O_x1 : Ovr Z kc0 oc9) (V_x1 : Arv Z h0 x1 kc0 (.object oc9) (1 : Int32) [.null] .null) (ge_x1 : n0 ≤ x1) (V_x2 : Arv Z h0 x2 kc1 .long (1 : Int32) [(.long 0)] (.long 0)) (ge_x2 : n0 ≤ x2) (V_x3 : Arv Z h0 x3 kc2 .int (1 : Int32) [(.int 0)] (.int 0)) (ge_x3 : n0 ≤ x3) (ne_x0_x1 : x0 ≠ x1) (ne_x0_x2 : x0 ≠ x2) (ne_x0_x3 : x0 ≠ x3) (ne_x1_x2 : x1 ≠ x2) (ne_x1_x3 : x1 ≠ x3) (ne_x2_x3 : x2 ≠ x3) (E_I4 : Exa Z Z.heap w_I4 oc10) :
    oM l oy4 prog_29_method_4_code 3 (some .long) ws ({ frames := 0, cells := 0, slots := 0, locals := 0 } : Room) Z #[(.ref x0), (.ref w_I4)] h0 (Q_rm_take_10 Z x0 x1 x2 x3 kc0 kc1 kc2 w_I4 h0 n0) := by
  refine MetFree.of_bodySF (plainFor_of_name pn_com_example_wend_wend_Slots) hisR ?_
  intro p e s m args below meth c s₁ Bd hml0 hP hK
  obtain ⟨rfl, hZ, hh⟩ := hP
  have hx := Bd.exec
  have hby := Bd.bytes
  have hml : c.maxLocals = 3 := hml0
  have hown : s.vm.findClass oc8 = some m.cls := findClass_of_methodNamed Bd.named
  have hnm := (name_of_methodNamed Bd.named Bd.method).1
  have X0 : Stand p l e ({ frames := 0, cells := 0, slots := 0, locals := 0 } : Room) s m #[(.ref x0), (.ref w_I4)] below meth c s₁ [] 0 0 := Stand.of_body Bd
  have e0 : s₁.heap = h0 := by rw [← hh, Bd.state]; rfl
  have N0 := Fr.nil n0
  have pre0 : ∀ t, oS p e below m s₁ 0 #[rv x0, rv w_I4, .unset] [] t → oT p e below s₁ (entryFrame m #[(.ref x0), (.ref w_I4)] 3) t := fun t k => castTop (ef_rm_take_10 m x0 w_I4) k
  have K0 := Keep.refl h0 [x0, x1, x2]
  obtain ⟨T154, X154, e154, st154⟩ := getF X0 hx hZ hown (host := "") (Or.inl (own_w hw 24 rfl)) Via.refl e0 F_x0_freeCount (g := (mkF m 1 #[rv x0, rv w_I4, .unset] [(.ref x0)])) rfl rfl (hb hby de_1)
  obtain ⟨T156, X156, e156, st156⟩ := getF X154 hx hZ hown (host := "") (Or.inl (own_w hw 22 rfl)) Via.refl e154 F_x0_free (g := (mkF m 18 #[rv x0, rv w_I4, .unset] [(.ref x0)])) rfl rfl (hb hby de_18)
  obtain ⟨T157, X157, e157, st157⟩ := getF X156 hx hZ hown (host := "") (Or.inl (own_w hw 24 rfl)) Via.refl e156 F_x0_freeCount (g := (mkF m 23 #[rv x0, rv w_I4, .unset] [(.ref x0), (.ref x0), (.ref x3)])) rfl rfl (hb hby de_23)
  have pre158 : ∀ t, oS p e below m T157 28 #[rv x0, rv w_I4, .unset] [(.int ((1 : Int32) - (1 : Int32))), (.ref x0), (.ref x3)] t → oT p e below s₁ (entryFrame m #[(.ref x0), (.ref w_I4)] 3) t := by
    intro t kt
    refine pre0 t ?_
    show oS p e below m s₁ 0 #[rv x0, rv w_I4, .unset] [] _
    refine XS.aloadN X0.here hx rfl (hb hby de_0) rfl rfl ?_
    show oS p e below m s₁ 1 #[rv x0, rv w_I4, .unset] [(.ref x0)] _
    refine st154 _ ?_
    show oS p e below m T154 4 #[rv x0, rv w_I4, .unset] [(.int 1)] _
    refine XS.ifYes X154.here hx rfl (pc0 := 4) (pc' := 17) rfl (hb hby de_4) rfl ((if0 _ _).trans (feq (by decide : ¬ ((1 : Int32) = (0 : Int32)))).2) (by decide) (by decide) ?_
    refine XS.aloadN X154.here hx rfl (hb hby de_17) rfl rfl ?_
    show oS p e below m T154 18 #[rv x0, rv w_I4, .unset] [(.ref x0)] _
    refine st156 _ ?_
    show oS p e below m T156 21 #[rv x0, rv w_I4, .unset] [(.ref x3)] _
    refine XS.aloadN X156.here hx rfl (hb hby de_21) rfl rfl ?_
    refine XS.dup X156.here hx rfl (hb hby de_22) rfl rfl ?_
    show oS p e below m T156 23 #[rv x0, rv w_I4, .unset] [(.ref x0), (.ref x0), (.ref x3)] _
    refine st157 _ ?_
    show oS p e below m T157 26 #[rv x0, rv w_I4, .unset] [(.int 1), (.ref x0), (.ref x3)] _
    refine XS.iconst X157.here hx rfl (hb hby de_26) ?_
    refine XS.isub X157.here hx rfl (hb hby de_27) rfl ?_
    exact kt
  rw [show ((1 : Int32) - (1 : Int32)) = (0 : Int32) from by decide] at pre158
  obtain ⟨T159, h159, X159, e159, W159, st159⟩ := putF X157 hx hZ hown (host := "") (Or.inl (own_w hw 24 rfl)) Via.refl e157 F_x0_freeCount E_x0 (Or.inl (own_w hw 25 rfl)) (own_w hw 5 rfl) (ty := .int) (by decide) rfl rfl (g := (mkF m 29 #[rv x0, rv w_I4, .unset] [(.int 0), (.ref x0), (.int 0), (.ref x3)])) rfl rfl (hb hby de_29)
  have F_x0_freeCount := F_x0_freeCount.same W159
  have E_x0 := E_x0.wr W159
  have F_x0_requests := F_x0_requests.other W159 (Or.inr (osn_Slots_requests_freeCount hw))
  have F_x0_sequences := F_x0_sequences.other W159 (Or.inr (osn_Slots_sequences_freeCount hw))
  have F_x0_free := F_x0_free.other W159 (Or.inr (osn_Slots_free_freeCount hw))
  have F_x0_lastSequence := F_x0_lastSequence.other W159 (Or.inr (osn_Slots_lastSequence_freeCount hw))
  have V_x1 := V_x1.other W159 (Ne.symm ne_x0_x1)
  have V_x2 := V_x2.other W159 (Ne.symm ne_x0_x2)
  have V_x3 := V_x3.other W159 (Ne.symm ne_x0_x3)
  have O159 := O0.wr W159 ge_x0
  have K159 := K0.wr W159 (Or.inl (List.mem_of_getElem? (i := 0) rfl))
  have N159 := Fr.snoc X159 N0 ge_x0
  have vt160 := V_x3
  obtain ⟨cl160, Ar160, q160, S160, Ng160, Ha160, G160⟩ := vt160
  have hin160 : ¬ ((0 : Int32) < 0 ∨ cl160.slots.size ≤ ((0 : Int32)).toNatClampNeg) := inb_of S160 ⟨by decide, by decide⟩
  have hat160 : cl160.slots[((0 : Int32)).toNatClampNeg]? = some (.int 0) := Ha160.at hin160 rfl
  obtain ⟨T161, X161, e161, st161⟩ := getF X159 hx hZ hown (host := "") (Or.inl (own_w hw 43 rfl)) Via.refl e159 F_x0_lastSequence (g := (mkF m 36 #[rv x0, rv w_I4, iv 0] [(.ref x0), (.ref x0)])) rfl rfl (hb hby de_36)
  have pre162 : ∀ t, oS p e below m T161 43 #[rv x0, rv w_I4, iv 0] [(.int (lcmpW (1 : Int64) (17592186044415 : Int64))), (.ref x0)] t → oT p e below s₁ (entryFrame m #[(.ref x0), (.ref w_I4)] 3) t := by
    intro t kt
    refine pre158 t ?_
    show oS p e below m T157 28 #[rv x0, rv w_I4, .unset] [(.int 0), (.ref x0), (.ref x3)] _
    refine XS.dupX1 X157.here hx rfl (hb hby de_28) rfl rfl rfl ?_
    show oS p e below m T157 29 #[rv x0, rv w_I4, .unset] [(.int 0), (.ref x0), (.int 0), (.ref x3)] _
    refine st159 _ ?_
    show oS p e below m T159 32 #[rv x0, rv w_I4, .unset] [(.int 0), (.ref x3)] _
    refine X159.iaload hx (j := (0 : Int32)) (v := (.int 0)) (by rw [e159]; exact Ar160.1) (State.isArrayOf_alike hZ.alike Ar160.2.1) Ar160.2.2 hin160 hat160 (g := (mkF m 32 #[rv x0, rv w_I4, .unset] [(.int 0), (.ref x3)])) rfl rfl (hb hby de_32) _ ?_
    show oS p e below m T159 33 #[rv x0, rv w_I4, .unset] [(.int 0)] _
    refine XS.istoreN X159.here hx rfl (hb hby de_33) rfl (l' := #[rv x0, rv w_I4, iv 0]) rfl ?_
    refine XS.aloadN X159.here hx rfl (hb hby de_34) rfl rfl ?_
    show oS p e below m T159 35 #[rv x0, rv w_I4, iv 0] [(.ref x0)] _
    refine XS.aloadN X159.here hx rfl (hb hby de_35) rfl rfl ?_
    show oS p e below m T159 36 #[rv x0, rv w_I4, iv 0] [(.ref x0), (.ref x0)] _
    refine st161 _ ?_
    show oS p e below m T161 39 #[rv x0, rv w_I4, iv 0] [(.long 1), (.ref x0)] _
    refine X161.ldc2Long hx hown (mvT hZ (own_w hw 45 rfl)) (g := (mkF m 39 #[rv x0, rv w_I4, iv 0] [(.long 1), (.ref x0)])) rfl (hb hby de_39) _ ?_
    show oS p e below m T161 42 #[rv x0, rv w_I4, iv 0] [(.long 17592186044415), (.long 1), (.ref x0)] _
    refine XS.lcmp X161.here hx rfl (hb hby de_42) rfl ?_
    exact kt
  rw [show (lcmpW (1 : Int64) (17592186044415 : Int64)) = (-1 : Int32) from by decide] at pre162
  obtain ⟨T164, X164, e164, st164⟩ := getF X161 hx hZ hown (host := "") (Or.inl (own_w hw 43 rfl)) Via.refl e161 F_x0_lastSequence (g := (mkF m 51 #[rv x0, rv w_I4, iv 0] [(.ref x0), (.ref x0)])) rfl rfl (hb hby de_51)
  have pre165 : ∀ t, oS p e below m T164 56 #[rv x0, rv w_I4, iv 0] [(.long ((1 : Int64) + (1 : Int64))), (.ref x0)] t → oT p e below s₁ (entryFrame m #[(.ref x0), (.ref w_I4)] 3) t := by
    intro t kt
    refine pre162 t ?_
    show oS p e below m T161 43 #[rv x0, rv w_I4, iv 0] [(.int (-1 : Int32)), (.ref x0)] _
    refine XS.ifYes X161.here hx rfl (pc0 := 43) (pc' := 50) rfl (hb hby de_43) rfl ((if0 _ _).trans (feq (by decide : ¬ ((-1 : Int32) = (0 : Int32)))).2) (by decide) (by decide) ?_
    refine XS.aloadN X161.here hx rfl (hb hby de_50) rfl rfl ?_
    show oS p e below m T161 51 #[rv x0, rv w_I4, iv 0] [(.ref x0), (.ref x0)] _
    refine st164 _ ?_
    show oS p e below m T164 54 #[rv x0, rv w_I4, iv 0] [(.long 1), (.ref x0)] _
    refine XS.lconst X164.here hx rfl (hb hby de_54) ?_
    refine XS.ladd X164.here hx rfl (hb hby de_55) rfl ?_
    exact kt
  rw [show ((1 : Int64) + (1 : Int64)) = (2 : Int64) from by decide] at pre165
  obtain ⟨T166, h166, X166, e166, W166, st166⟩ := putF X164 hx hZ hown (host := "") (Or.inl (own_w hw 43 rfl)) Via.refl e164 F_x0_lastSequence E_x0 (Or.inl (own_w hw 44 rfl)) (own_w hw 5 rfl) (ty := .long) (by decide) rfl rfl (g := (mkF m 56 #[rv x0, rv w_I4, iv 0] [(.long 2), (.ref x0)])) rfl rfl (hb hby de_56)
  have F_x0_lastSequence := F_x0_lastSequence.same W166
  have E_x0 := E_x0.wr W166
  have F_x0_requests := F_x0_requests.other W166 (Or.inr (osn_Slots_requests_lastSequence hw))
  have F_x0_sequences := F_x0_sequences.other W166 (Or.inr (osn_Slots_sequences_lastSequence hw))
  have F_x0_free := F_x0_free.other W166 (Or.inr (osn_Slots_free_lastSequence hw))
  have F_x0_freeCount := F_x0_freeCount.other W166 (Or.inr (osn_Slots_freeCount_lastSequence hw))
  have V_x1 := V_x1.other W166 (Ne.symm ne_x0_x1)
  have V_x2 := V_x2.other W166 (Ne.symm ne_x0_x2)
  have V_x3 := V_x3.other W166 (Ne.symm ne_x0_x3)
  have O166 := O159.wr W166 ge_x0
  have K166 := K159.wr W166 (Or.inl (List.mem_of_getElem? (i := 0) rfl))
  have N166 := Fr.snoc X166 N159 ge_x0
  obtain ⟨T167, X167, e167, st167⟩ := getF X166 hx hZ hown (host := "") (Or.inl (own_w hw 16 rfl)) Via.refl e166 F_x0_requests (g := (mkF m 60 #[rv x0, rv w_I4, iv 0] [(.ref x0)])) rfl rfl (hb hby de_60)
  have vt168 := V_x1
  obtain ⟨cl168, Ar168, q168, S168, Ng168, Ha168, G168⟩ := vt168
  have hin168 : ¬ ((0 : Int32) < 0 ∨ cl168.slots.size ≤ ((0 : Int32)).toNatClampNeg) := inb_of S168 ⟨by decide, by decide⟩
  obtain ⟨T169, h169, X169, e169, W169, st169⟩ := stR X167 hx hZ e167 Ar168 (j := (0 : Int32)) hin168 rfl (Sto.ofV Ar168 q168 O_x1 (Ins.of_exa (E_I4.ext O166.2) (own_w hw 46 rfl))) (g := (mkF m 65 #[rv x0, rv w_I4, iv 0] [(.ref w_I4), (.int 0), (.ref x1)])) rfl rfl (hb hby de_65)
  have V_x1 : Arv Z h169 x1 kc0 (.object oc9) (1 : Int32) [(.ref w_I4)] .null := Arv.set Ar168 q168 S168 Ng168 Ha168 G168 rfl W169 0 rfl (Nat.le_of_ble_eq_true rfl)
  have E_x0 := E_x0.wr W169
  have F_x0_requests := F_x0_requests.other W169 (Or.inl ne_x0_x1)
  have F_x0_sequences := F_x0_sequences.other W169 (Or.inl ne_x0_x1)
  have F_x0_free := F_x0_free.other W169 (Or.inl ne_x0_x1)
  have F_x0_freeCount := F_x0_freeCount.other W169 (Or.inl ne_x0_x1)
  have F_x0_lastSequence := F_x0_lastSequence.other W169 (Or.inl ne_x0_x1)
  have V_x2 := V_x2.other W169 (Ne.symm ne_x1_x2)
  have V_x3 := V_x3.other W169 (Ne.symm ne_x1_x3)
  have O169 := O166.wr W169 ge_x1
  have K169 := K166.wr W169 (Or.inl (List.mem_of_getElem? (i := 1) rfl))
  have N169 := Fr.snoc X169 N166 ge_x1
  obtain ⟨T170, X170, e170, st170⟩ := getF X169 hx hZ hown (host := "") (Or.inl (own_w hw 19 rfl)) Via.refl e169 F_x0_sequences (g := (mkF m 67 #[rv x0, rv w_I4, iv 0] [(.ref x0)])) rfl rfl (hb hby de_67)
  obtain ⟨T171, X171, e171, st171⟩ := getF X170 hx hZ hown (host := "") (Or.inl (own_w hw 43 rfl)) Via.refl e170 F_x0_lastSequence (g := (mkF m 72 #[rv x0, rv w_I4, iv 0] [(.ref x0), (.int 0), (.ref x2)])) rfl rfl (hb hby de_72)
  have vt172 := V_x2
  obtain ⟨cl172, Ar172, q172, S172, Ng172, Ha172, G172⟩ := vt172
  have hin172 : ¬ ((0 : Int32) < 0 ∨ cl172.slots.size ≤ ((0 : Int32)).toNatClampNeg) := inb_of S172 ⟨by decide, by decide⟩
  obtain ⟨T173, h173, X173, e173, W173, st173⟩ := stJ X171 hx hZ e171 Ar172 (j := (0 : Int32)) hin172 (g := (mkF m 75 #[rv x0, rv w_I4, iv 0] [(.long 2), (.int 0), (.ref x2)])) rfl rfl (hb hby de_75)
  have V_x2 : Arv Z h173 x2 kc1 .long (1 : Int32) [(.long 2)] (.long 0) := Arv.set Ar172 q172 S172 Ng172 Ha172 G172 rfl W173 0 rfl (Nat.le_of_ble_eq_true rfl)
  have E_x0 := E_x0.wr W173
  have F_x0_requests := F_x0_requests.other W173 (Or.inl ne_x0_x2)
  have F_x0_sequences := F_x0_sequences.other W173 (Or.inl ne_x0_x2)
  have F_x0_free := F_x0_free.other W173 (Or.inl ne_x0_x2)
  have F_x0_freeCount := F_x0_freeCount.other W173 (Or.inl ne_x0_x2)
  have F_x0_lastSequence := F_x0_lastSequence.other W173 (Or.inl ne_x0_x2)
  have V_x1 := V_x1.other W173 ne_x1_x2
  have V_x3 := V_x3.other W173 (Ne.symm ne_x2_x3)
  have O173 := O169.wr W173 ge_x2
  have K173 := K169.wr W173 (Or.inl (List.mem_of_getElem? (i := 2) rfl))
  have N173 := Fr.snoc X173 N169 ge_x2
  obtain ⟨T174, X174, e174, st174⟩ := getF X173 hx hZ hown (host := "") (Or.inl (own_w hw 43 rfl)) Via.refl e173 F_x0_lastSequence (g := (mkF m 77 #[rv x0, rv w_I4, iv 0] [(.ref x0)])) rfl rfl (hb hby de_77)
  have pre175 : ∀ t, oS p e below m T174 83 #[rv x0, rv w_I4, iv 0] [(.long ((2 : Int64) <<< ((20 : Int32) &&& 0x3f).toInt64))] t → oT p e below s₁ (entryFrame m #[(.ref x0), (.ref w_I4)] 3) t := by
    intro t kt
    refine pre165 t ?_
    show oS p e below m T164 56 #[rv x0, rv w_I4, iv 0] [(.long 2), (.ref x0)] _
    refine st166 _ ?_
    show oS p e below m T166 59 #[rv x0, rv w_I4, iv 0] [] _
    refine XS.aloadN X166.here hx rfl (hb hby de_59) rfl rfl ?_
    show oS p e below m T166 60 #[rv x0, rv w_I4, iv 0] [(.ref x0)] _
    refine st167 _ ?_
    show oS p e below m T167 63 #[rv x0, rv w_I4, iv 0] [(.ref x1)] _
    refine XS.iloadN X167.here hx rfl (hb hby de_63) rfl ?_
    refine XS.aloadN X167.here hx rfl (hb hby de_64) rfl rfl ?_
    show oS p e below m T167 65 #[rv x0, rv w_I4, iv 0] [(.ref w_I4), (.int 0), (.ref x1)] _
    refine st169 _ ?_
    show oS p e below m T169 66 #[rv x0, rv w_I4, iv 0] [] _
    refine XS.aloadN X169.here hx rfl (hb hby de_66) rfl rfl ?_
    show oS p e below m T169 67 #[rv x0, rv w_I4, iv 0] [(.ref x0)] _
    refine st170 _ ?_
    show oS p e below m T170 70 #[rv x0, rv w_I4, iv 0] [(.ref x2)] _
    refine XS.iloadN X170.here hx rfl (hb hby de_70) rfl ?_
    refine XS.aloadN X170.here hx rfl (hb hby de_71) rfl rfl ?_
    show oS p e below m T170 72 #[rv x0, rv w_I4, iv 0] [(.ref x0), (.int 0), (.ref x2)] _
    refine st171 _ ?_
    show oS p e below m T171 75 #[rv x0, rv w_I4, iv 0] [(.long 2), (.int 0), (.ref x2)] _
    refine st173 _ ?_
    show oS p e below m T173 76 #[rv x0, rv w_I4, iv 0] [] _
    refine XS.aloadN X173.here hx rfl (hb hby de_76) rfl rfl ?_
    show oS p e below m T173 77 #[rv x0, rv w_I4, iv 0] [(.ref x0)] _
    refine st174 _ ?_
    show oS p e below m T174 80 #[rv x0, rv w_I4, iv 0] [(.long 2)] _
    refine XS.bipush X174.here hx rfl (hb hby de_80) ?_
    refine XS.lshl X174.here hx rfl (hb hby de_82) rfl ?_
    exact kt
  rw [show ((2 : Int64) <<< ((20 : Int32) &&& 0x3f).toInt64) = (2097152 : Int64) from by decide] at pre175
  have pre176 : ∀ t, oS p e below m T174 85 #[rv x0, rv w_I4, iv 0] [(.long ((0 : Int32).toInt64)), (.long 2097152)] t → oT p e below s₁ (entryFrame m #[(.ref x0), (.ref w_I4)] 3) t := by
    intro t kt
    refine pre175 t ?_
    show oS p e below m T174 83 #[rv x0, rv w_I4, iv 0] [(.long 2097152)] _
    refine XS.iloadN X174.here hx rfl (hb hby de_83) rfl ?_
    refine XS.i2l X174.here hx rfl (hb hby de_84) rfl ?_
    exact kt
  rw [show ((0 : Int32).toInt64) = (0 : Int64) from by decide] at pre176
  have pre177 : ∀ t, oS p e below m T174 86 #[rv x0, rv w_I4, iv 0] [(.long ((2097152 : Int64) ||| (0 : Int64)))] t → oT p e below s₁ (entryFrame m #[(.ref x0), (.ref w_I4)] 3) t := by
    intro t kt
    refine pre176 t ?_
    show oS p e below m T174 85 #[rv x0, rv w_I4, iv 0] [(.long 0), (.long 2097152)] _
    refine XS.lor X174.here hx rfl (hb hby de_85) rfl ?_
    exact kt
  rw [show ((2097152 : Int64) ||| (0 : Int64)) = (2097152 : Int64) from by decide] at pre177
  obtain ⟨fs, hr, hrun, hended, hW, hsame⟩ := X174.leave (v := some (.long 2097152)) (fun h => by rw [Bd.returns] at h; cases h)
  refine ⟨_, _, pre177 _ ?_, hrun, hended, _, _, rfl, ?_, ⟨_, rfl⟩, hW, hsame.mono (by decide) (by decide)⟩
  · show oS p e below m T174 86 #[rv x0, rv w_I4, iv 0] [(.long 2097152)] _
    jvm_step X174.here [X174.here.top, hx, (hb hby de_86), X174.method', Bd.returns, narrow]
    first | (intro acts; rw [hr _ acts rfl rfl rfl]) | rw [hr _ _ rfl rfl rfl]
    exact Steps.refl _
  · show Q_rm_take_10 Z x0 x1 x2 x3 kc0 kc1 kc2 w_I4 h0 n0 _ T174.heap _
    rw [e174]
    exact ⟨rfl, N173, K173, E_x0, F_x0_requests, F_x0_sequences, F_x0_free, F_x0_freeCount, F_x0_lastSequence, V_x1, V_x2⟩
theorem ef_rm_get_12 (m : MethodId) (x0 : Addr) : entryFrame m #[(.ref x0), (.long 1048576)] 7 = mkF m 0 (oL1 x0) [] := by first | (simp [entryFrame, mkF, argsToLocals, Value.category]; done) | rfl
def Q_rm_get_12 (Z : State) (x0 : Addr) (x1 : Addr) (x2 : Addr) (kc0 : ClassId) (kc1 : ClassId) (h0 : Heap) (n0 : Nat) (v : Option Value) (h : Heap) (L : List Loc) : Prop := v = some .null ∧ Fr n0 L ∧ h = h0
set_option maxRecDepth 65536 in
set_option maxHeartbeats 40000000 in
theorem rm_get_12 (l : Launch) (Z : State) (a0 : Array Value) (hw : ∀ d ∈ tables_1, d.before a0 Z = true) (ws : List Jvm.Cond) (x0 : Addr) (x1 : Addr) (x2 : Addr) (kc0 : ClassId) (kc1 : ClassId) (h0 : Heap) (n0 : Nat) (O0 : Old Z n0 h0) (F_x0_requests : Fld Z h0 x0 oc8 "requests" "[Ljava/lang/Object;" (.ref x1)) (F_x0_sequences : Fld Z h0 x0 oc8 "sequences" "[J" (.ref x2)) (V_x1 : Arv Z h0 x1 kc0 (.object oc9) (1 : Int32) [.null] .null) (V_x2 : Arv Z h0 x2 kc1 .long (1 : Int32) [(.long 0)] (.long 0))  :
    oM l oy6 prog_29_method_5_code 7 (some (.object oc9)) ws ({ frames := 0, cells := 0, slots := 0, locals := 0 } : Room) Z #[(.ref x0), (.long 1048576)] h0 (Q_rm_get_12 Z x0 x1 x2 kc0 kc1 h0 n0) := by
  refine MetFree.of_bodySF (plainFor_of_name pn_com_example_wend_wend_Slots) hisR ?_
  intro p e s m args below meth c s₁ Bd hml0 hP hK
  obtain ⟨rfl, hZ, hh⟩ := hP
  have hx := Bd.exec
  have hby := Bd.bytes
  have hml : c.maxLocals = 7 := hml0
  have hown : s.vm.findClass oc8 = some m.cls := findClass_of_methodNamed Bd.named
  have hnm := (name_of_methodNamed Bd.named Bd.method).1
  have X0 : Stand p l e ({ frames := 0, cells := 0, slots := 0, locals := 0 } : Room) s m #[(.ref x0), (.long 1048576)] below meth c s₁ [] 0 0 := Stand.of_body Bd
  have e0 : s₁.heap = h0 := by rw [← hh, Bd.state]; rfl
  have N0 := Fr.nil n0
  have pre0 : ∀ t, oS p e below m s₁ 0 (oL1 x0) [] t → oT p e below s₁ (entryFrame m #[(.ref x0), (.long 1048576)] 7) t := fun t k => castTop (ef_rm_get_12 m x0) k
  have K0 := Keep.refl h0 []
  have pre189 : ∀ t, oS p e below m s₁ 5 (oL1 x0) [(.long ((1048576 : Int64) &&& (1048575 : Int64)))] t → oT p e below s₁ (entryFrame m #[(.ref x0), (.long 1048576)] 7) t := by
    intro t kt
    refine pre0 t ?_
    show oS p e below m s₁ 0 (oL1 x0) [] _
    refine XS.lloadN X0.here hx rfl (hb hby df_0) rfl ?_
    show oS p e below m s₁ 1 (oL1 x0) [(.long 1048576)] _
    refine X0.ldc2Long hx hown (mvT hZ (own_w hw 57 rfl)) (g := (mkF m 1 (oL1 x0) [(.long 1048576)])) rfl (hb hby df_1) _ ?_
    show oS p e below m s₁ 4 (oL1 x0) [(.long 1048575), (.long 1048576)] _
    refine XS.land X0.here hx rfl (hb hby df_4) rfl ?_
    exact kt
  rw [show ((1048576 : Int64) &&& (1048575 : Int64)) = (0 : Int64) from by decide] at pre189
  have pre190 : ∀ t, oS p e below m s₁ 6 (oL1 x0) [(.int ((0 : Int64).toInt32))] t → oT p e below s₁ (entryFrame m #[(.ref x0), (.long 1048576)] 7) t := by
    intro t kt
    refine pre189 t ?_
    show oS p e below m s₁ 5 (oL1 x0) [(.long 0)] _
    refine XS.l2i X0.here hx rfl (hb hby df_5) rfl ?_
    exact kt
  rw [show ((0 : Int64).toInt32) = (0 : Int32) from by decide] at pre190
  have pre191 : ∀ t, oS p e below m s₁ 11 (oL4 x0) [(.long (((1048576 : Int64).toUInt64 >>> ((20 : Int32) &&& 0x3f).toInt64.toUInt64).toInt64))] t → oT p e below s₁ (entryFrame m #[(.ref x0), (.long 1048576)] 7) t := by
    intro t kt
    refine pre190 t ?_
    show oS p e below m s₁ 6 (oL1 x0) [(.int 0)] _
    refine XS.istoreN X0.here hx rfl (hb hby df_6) rfl (l' := (oL4 x0)) rfl ?_
    refine XS.lloadN X0.here hx rfl (hb hby df_7) rfl ?_
    show oS p e below m s₁ 8 (oL4 x0) [(.long 1048576)] _
    refine XS.bipush X0.here hx rfl (hb hby df_8) ?_
    refine XS.lushr X0.here hx rfl (hb hby df_10) rfl ?_
    exact kt
  rw [show (((1048576 : Int64).toUInt64 >>> ((20 : Int32) &&& 0x3f).toInt64.toUInt64).toInt64) = (1 : Int64) from by decide] at pre191
  obtain ⟨T192, X192, e192, st192⟩ := getF X0 hx hZ hown (host := "") (Or.inl (own_w hw 16 rfl)) Via.refl e0 F_x0_requests (g := (mkF m 15 (oL0 x0) [(.ref x0), (.int 0)])) rfl rfl (hb hby df_15)
  have vt193 := V_x1
  obtain ⟨cl193, Ar193, q193, S193, Ng193, Ha193, G193⟩ := vt193
  obtain ⟨T195, X195, e195, st195⟩ := getF X192 hx hZ hown (host := "") (Or.inl (own_w hw 19 rfl)) Via.refl e192 F_x0_sequences (g := (mkF m 23 (oL0 x0) [(.ref x0)])) rfl rfl (hb hby df_23)
  have vt196 := V_x2
  obtain ⟨cl196, Ar196, q196, S196, Ng196, Ha196, G196⟩ := vt196
  have hin196 : ¬ ((0 : Int32) < 0 ∨ cl196.slots.size ≤ ((0 : Int32)).toNatClampNeg) := inb_of S196 ⟨by decide, by decide⟩
  have hat196 : cl196.slots[((0 : Int32)).toNatClampNeg]? = some (.long 0) := Ha196.at hin196 rfl
  have pre197 : ∀ t, oS p e below m T195 31 (oL0 x0) [(.int (lcmpW (0 : Int64) (1 : Int64)))] t → oT p e below s₁ (entryFrame m #[(.ref x0), (.long 1048576)] 7) t := by
    intro t kt
    refine pre191 t ?_
    show oS p e below m s₁ 11 (oL4 x0) [(.long 1)] _
    refine XS.lstore X0.here hx rfl (hb hby df_11) rfl (l' := (oL0 x0)) rfl ?_
    refine XS.iloadN X0.here hx rfl (hb hby df_13) rfl ?_
    show oS p e below m s₁ 14 (oL0 x0) [(.int 0)] _
    refine XS.aloadN X0.here hx rfl (hb hby df_14) rfl rfl ?_
    show oS p e below m s₁ 15 (oL0 x0) [(.ref x0), (.int 0)] _
    refine st192 _ ?_
    show oS p e below m T192 18 (oL0 x0) [(.ref x1), (.int 0)] _
    refine X192.arraylength hx (by rw [e192]; exact Ar193.1) (State.isArrayOf_alike hZ.alike Ar193.2.1) (g := (mkF m 18 (oL0 x0) [(.ref x1), (.int 0)])) rfl rfl (hb hby df_18) _ ?_
    rw [len_of S193 Ng193]
    show oS p e below m T192 19 (oL0 x0) [(.int 1), (.int 0)] _
    refine XS.icmpNo X192.here hx rfl (hb hby df_19) rfl (tlt (by decide : (0 : Int32) < (1 : Int32))).2.1 ?_
    refine XS.aloadN X192.here hx rfl (hb hby df_22) rfl rfl ?_
    show oS p e below m T192 23 (oL0 x0) [(.ref x0)] _
    refine st195 _ ?_
    show oS p e below m T195 26 (oL0 x0) [(.ref x2)] _
    refine XS.iloadN X195.here hx rfl (hb hby df_26) rfl ?_
    show oS p e below m T195 27 (oL0 x0) [(.int 0), (.ref x2)] _
    refine X195.laload hx (j := (0 : Int32)) (v := (.long 0)) (by rw [e195]; exact Ar196.1) (State.isArrayOf_alike hZ.alike Ar196.2.1) Ar196.2.2 hin196 hat196 (g := (mkF m 27 (oL0 x0) [(.int 0), (.ref x2)])) rfl rfl (hb hby df_27) _ ?_
    show oS p e below m T195 28 (oL0 x0) [(.long 0)] _
    refine XS.lload X195.here hx rfl (hb hby df_28) rfl ?_
    refine XS.lcmp X195.here hx rfl (hb hby df_30) rfl ?_
    exact kt
  rw [show (lcmpW (0 : Int64) (1 : Int64)) = (-1 : Int32) from by decide] at pre197
  have pre200 : ∀ t, oS p e below m T195 56 (oL12 x0) [.null] t → oT p e below s₁ (entryFrame m #[(.ref x0), (.long 1048576)] 7) t := by
    intro t kt
    refine pre197 t ?_
    show oS p e below m T195 31 (oL0 x0) [(.int (-1 : Int32))] _
    refine XS.ifYes X195.here hx rfl (pc0 := 31) (pc' := 38) rfl (hb hby df_31) rfl ((if0 _ _).trans (feq (by decide : ¬ ((-1 : Int32) = (0 : Int32)))).2) (by decide) (by decide) ?_
    refine XS.iconst X195.here hx rfl (hb hby df_38) ?_
    show oS p e below m T195 39 (oL0 x0) [(.int 0)] _
    refine XS.istore X195.here hx rfl (hb hby df_39) rfl (l' := (oL12 x0)) rfl ?_
    refine XS.iload X195.here hx rfl (hb hby df_41) rfl ?_
    show oS p e below m T195 43 (oL12 x0) [(.int 0)] _
    refine XS.ifYes X195.here hx rfl (pc0 := 43) (pc' := 55) rfl (hb hby df_43) rfl ((if0 _ _).trans (teq (by decide : (0 : Int32) = (0 : Int32))).1) (by decide) (by decide) ?_
    refine XS.aconstNull X195.here hx rfl (hb hby df_55) ?_
    exact kt
  obtain ⟨fs, hr, hrun, hended, hW, hsame⟩ := X195.leave (v := some .null) (fun h => by rw [Bd.returns] at h; cases h)
  refine ⟨_, _, pre200 _ ?_, hrun, hended, _, _, rfl, ?_, ⟨_, rfl⟩, hW, hsame.mono (by decide) (by decide)⟩
  · show oS p e below m T195 56 (oL12 x0) [.null] _
    jvm_step X195.here [X195.here.top, hx, (hb hby df_56), X195.method', Bd.returns, Value.isRef, FieldType.isReference]
    first | (intro acts; rw [hr _ acts rfl rfl rfl]) | rw [hr _ _ rfl rfl rfl]
    exact Steps.refl _
  · show Q_rm_get_12 Z x0 x1 x2 kc0 kc1 h0 n0 _ T195.heap _
    rw [e195]
    exact ⟨rfl, N0, rfl⟩
theorem ef_rm_release_11 (m : MethodId) (x0 : Addr) : entryFrame m #[(.ref x0), (.long 1048576)] 4 = mkF m 0 (oL3 x0) [] := by first | (simp [entryFrame, mkF, argsToLocals, Value.category]; done) | rfl
def Q_rm_release_11 (Z : State) (x0 : Addr) (x1 : Addr) (x2 : Addr) (x3 : Addr) (kc0 : ClassId) (kc1 : ClassId) (h0 : Heap) (n0 : Nat) (v : Option Value) (h : Heap) (L : List Loc) : Prop := v = some .null ∧ Fr n0 L ∧ h = h0
set_option maxRecDepth 65536 in
set_option maxHeartbeats 40000000 in
theorem rm_release_11 (l : Launch) (Z : State) (a0 : Array Value) (hw : ∀ d ∈ tables_1, d.before a0 Z = true) (ws : List Jvm.Cond) (x0 : Addr) (x1 : Addr) (x2 : Addr) (x3 : Addr) (kc0 : ClassId) (kc1 : ClassId) (h0 : Heap) (n0 : Nat) (O0 : Old Z n0 h0) (E_x0 : Exa Z h0 x0 oc8) (F_x0_requests : Fld Z h0 x0 oc8 "requests" "[Ljava/lang/Object;" (.ref x1)) (F_x0_sequences : Fld Z h0 x0 oc8 "sequences" "[J" (.ref x2)) (V_x1 : Arv Z h0 x1 kc0 (.object oc9) (1 : Int32) [.null] .null) (V_x2 : Arv Z h0 x2 kc1 .long (1 : Int32) [(.long 0)] (.long 0)) (ne_x0_x1 : x0 ≠ x1) (ne_x0_x2 : x0 ≠ x2) (ne_x0_x3 : x0 ≠ x3) (ne_x1_x2 : x1 ≠ x2) (ne_x1_x3 : x1 ≠ x3) (ne_x2_x3 : x2 ≠ x3)  :
    oM l oy5 prog_29_method_6_code 4 (some (.object oc9)) ws ({ frames := 1, cells := 0, slots := 0, locals := 18 } : Room) Z #[(.ref x0), (.long 1048576)] h0 (Q_rm_release_11 Z x0 x1 x2 x3 kc0 kc1 h0 n0) := by
  refine MetFree.of_bodySF (plainFor_of_name pn_com_example_wend_wend_Slots) hisR ?_
  intro p e s m args below meth c s₁ Bd hml0 hP hK
  obtain ⟨rfl, hZ, hh⟩ := hP
  have hx := Bd.exec
  have hby := Bd.bytes
  have hml : c.maxLocals = 4 := hml0
  have hown : s.vm.findClass oc8 = some m.cls := findClass_of_methodNamed Bd.named
  have hnm := (name_of_methodNamed Bd.named Bd.method).1
  have X0 : Stand p l e ({ frames := 1, cells := 0, slots := 0, locals := 18 } : Room) s m #[(.ref x0), (.long 1048576)] below meth c s₁ [] 0 0 := Stand.of_body Bd
  have e0 : s₁.heap = h0 := by rw [← hh, Bd.state]; rfl
  have N0 := Fr.nil n0
  have pre0 : ∀ t, oS p e below m s₁ 0 (oL3 x0) [] t → oT p e below s₁ (entryFrame m #[(.ref x0), (.long 1048576)] 4) t := fun t k => castTop (ef_rm_release_11 m x0) k
  have K0 := Keep.refl h0 []
  obtain ⟨cq188, kq188, q188a, q188b, q188c⟩ := isOf hZ e0 E_x0
  obtain ⟨_, _, ⟨T188, L188, k188, n188⟩, -, X188, ⟨Lc188, hQ188, l188, y188, z188⟩, st188⟩ := X0.virtualBack hx (y := oy6) (z := oy6) hown (mvT hZ (own_w hw 52 rfl)) (mvT hZ (own_w hw 53 rfl)) (notFace_of_selects (args := #[]) (mvT hZ (own_w hw 55 rfl))) (mvT hZ (own_w hw 55 rfl)) (mvT hZ (own_w hw 54 rfl)) (by decide) (backOf (W := 0) (rm_get_12 l Z a0 hw [] x0 x1 x2 kc0 kc1 h0 n0 O0 F_x0_requests F_x0_sequences V_x1 V_x2 ) hZ (own_w hw 56 rfl) (own_w hw 6 rfl) (by decide) (by decide)) q188a q188c (g := (mkF m 2 (oL3 x0) [(.long 1048576), (.ref x0)])) rfl (by rw [hml]; rfl) (Steps.refl _) (argsL := [(.long 1048576)]) (rest := []) (lenOf pd__J_Ljava_lang_Object_ rfl) rfl (by show 2 * 0 + _ ≤ _; exact Nat.le_of_eq rfl) (hb hby dg_2) (fun _ _ => ⟨rfl, e0, (by decide : 0 + 0 ≤ _), (by decide : 0 + 0 ≤ _)⟩)
  dsimp only [Pt.U, Pt.locs, Pt.cells, Pt.slots] at X188 l188 y188 z188 st188 hQ188
  subst l188 y188 z188
  obtain ⟨rfl, N188q, e188⟩ := hQ188
  have N188 := Fr.app N0 N188q
  have pre201 : ∀ t, oS p e below m T188 21 (oL13 x0) [.null] t → oT p e below s₁ (entryFrame m #[(.ref x0), (.long 1048576)] 4) t := by
    intro t kt
    refine pre0 t ?_
    show oS p e below m s₁ 0 (oL3 x0) [] _
    refine XS.aloadN X0.here hx rfl (hb hby dg_0) rfl rfl ?_
    refine XS.lloadN X0.here hx rfl (hb hby dg_1) rfl ?_
    show oS p e below m s₁ 2 (oL3 x0) [(.long 1048576), (.ref x0)] _
    refine st188.trans ?_
    show oS p e below m T188 5 (oL3 x0) [.null] _
    refine XS.astoreN X188.here hx rfl (hb hby dg_5) rfl rfl (l' := (oL13 x0)) rfl ?_
    refine XS.aloadN X188.here hx rfl (hb hby dg_6) rfl rfl ?_
    show oS p e below m T188 7 (oL13 x0) [.null] _
    refine XS.ifnullYes X188.here hx rfl (pc0 := 7) (pc' := 20) rfl (hb hby dg_7) rfl (by decide) (by decide) ?_
    refine XS.aloadN X188.here hx rfl (hb hby dg_20) rfl rfl ?_
    exact kt
  obtain ⟨fs, hr, hrun, hended, hW, hsame⟩ := X188.leave (v := some .null) (fun h => by rw [Bd.returns] at h; cases h)
  refine ⟨_, _, pre201 _ ?_, hrun, hended, _, _, rfl, ?_, ⟨_, rfl⟩, hW, hsame.mono (by decide) (by decide)⟩
  · show oS p e below m T188 21 (oL13 x0) [.null] _
    jvm_step X188.here [X188.here.top, hx, (hb hby dg_21), X188.method', Bd.returns, Value.isRef, FieldType.isReference]
    first | (intro acts; rw [hr _ acts rfl rfl rfl]) | rw [hr _ _ rfl rfl rfl]
    exact Steps.refl _
  · show Q_rm_release_11 Z x0 x1 x2 x3 kc0 kc1 h0 n0 _ T188.heap _
    rw [e188]
    exact ⟨rfl, N188, rfl⟩
theorem ef_rm_init_13 (m : MethodId) (x0 : Addr) : entryFrame m #[(.ref x0), (.int 2)] 3 = mkF m 0 #[rv x0, iv 2, .unset] [] := by first | (simp [entryFrame, mkF, argsToLocals, Value.category]; done) | rfl
def Q_rm_init_13 (Z : State) (x0 : Addr) (h0 : Heap) (n0 : Nat) (v : Option Value) (h : Heap) (L : List Loc) : Prop := ∃ (b211 : Addr) (b213 : Addr) (b215 : Addr) (k211 : ClassId) (k213 : ClassId) (k215 : ClassId), v = none ∧ Fr n0 L ∧ Keep h0 h [x0] ∧ Exa Z h x0 oc8 ∧ Fld Z h x0 oc8 "requests" "[Ljava/lang/Object;" (.ref b211) ∧ Fld Z h x0 oc8 "sequences" "[J" (.ref b213) ∧ Fld Z h x0 oc8 "free" "[I" (.ref b215) ∧ Fld Z h x0 oc8 "freeCount" "I" (.int 2) ∧ Fld Z h x0 oc8 "lastSequence" "J" (.long 0) ∧ Arv Z h b211 k211 (.object oc9) (2 : Int32) [.null, .null] .null ∧ Ovr Z k211 oc9 ∧ n0 ≤ b211 ∧ h0.size ≤ b211 ∧ Arv Z h b213 k213 .long (2 : Int32) [(.long 0), (.long 0)] (.long 0) ∧ n0 ≤ b213 ∧ h0.size ≤ b213 ∧ Arv Z h b215 k215 .int (2 : Int32) [(.int 1), (.int 0)] (.int 0) ∧ n0 ≤ b215 ∧ h0.size ≤ b215 ∧ b211 ≠ b213 ∧ b211 ≠ b215 ∧ b213 ≠ b215
set_option maxRecDepth 65536 in
set_option maxHeartbeats 40000000 in
theorem rm_init_13 (l : Launch) (Z : State) (a0 : Array Value) (hw : ∀ d ∈ tables_1, d.before a0 Z = true) (ws : List Jvm.Cond) (x0 : Addr) (h0 : Heap) (n0 : Nat) (O0 : Old Z n0 h0) (E_x0 : Exa Z h0 x0 oc8) (F_x0_requests : Fld Z h0 x0 oc8 "requests" "[Ljava/lang/Object;" .null) (F_x0_sequences : Fld Z h0 x0 oc8 "sequences" "[J" .null) (F_x0_free : Fld Z h0 x0 oc8 "free" "[I" .null) (F_x0_freeCount : Fld Z h0 x0 oc8 "freeCount" "I" (.int 0)) (F_x0_lastSequence : Fld Z h0 x0 oc8 "lastSequence" "J" (.long 0)) (ge_x0 : n0 ≤ x0)  :
    oM l oy1 prog_29_method_1_code 3 none ws ({ frames := 1, cells := 3, slots := 6, locals := 12 } : Room) Z #[(.ref x0), (.int 2)] h0 (Q_rm_init_13 Z x0 h0 n0) := by
  refine MetFree.of_bodySF (plainFor_of_name pn_com_example_wend_wend_Slots) hisR ?_
  intro p e s m args below meth c s₁ Bd hml0 hP hK
  obtain ⟨rfl, hZ, hh⟩ := hP
  have hx := Bd.exec
  have hby := Bd.bytes
  have hml : c.maxLocals = 3 := hml0
  have hown : s.vm.findClass oc8 = some m.cls := findClass_of_methodNamed Bd.named
  have hnm := (name_of_methodNamed Bd.named Bd.method).1
  have X0 : Stand p l e ({ frames := 1, cells := 3, slots := 6, locals := 12 } : Room) s m #[(.ref x0), (.int 2)] below meth c s₁ [] 0 0 := Stand.of_body Bd
  have e0 : s₁.heap = h0 := by rw [← hh, Bd.state]; rfl
  have N0 := Fr.nil n0
  have pre0 : ∀ t, oS p e below m s₁ 0 #[rv x0, iv 2, .unset] [] t → oT p e below s₁ (entryFrame m #[(.ref x0), (.int 2)] 3) t := fun t k => castTop (ef_rm_init_13 m x0) k
  have K0 := Keep.refl h0 [x0]
  obtain ⟨T208, X208, e208, st208⟩ := initO X0 hx hZ hown (own_w hw 10 rfl) (own_w hw 11 rfl) (own_w hw 12 rfl) e0 (g := (mkF m 1 #[rv x0, iv 2, .unset] [(.ref x0)])) rfl (by rw [hml]; rfl) rfl (hb hby dc_1) (by decide) (W := 0) (by show 2 * 0 + _ ≤ _; exact Nat.le_of_eq rfl) (by decide)
  obtain ⟨T211, h211, k211, X211, e211, E211, A211, Ov211, st211⟩ := newR X208 hx hZ hown (own_w hw 14 rfl) (own_w hw 15 rfl) e208 (g := (mkF m 31 #[rv x0, iv 2, .unset] [(.int 2), (.ref x0)])) rfl (hb hby dc_31) rfl (by decide) (cap := 2) (by decide) (by decide) (by decide) (by decide)
  obtain ⟨b211, g211⟩ : ∃ z, z = h0.size := ⟨_, rfl⟩
  have ne_x0_b211 : x0 ≠ b211 := Nat.ne_of_lt (Nat.lt_of_lt_of_le E_x0.lt (Nat.le_of_eq g211.symm))
  have ge_b211 : n0 ≤ b211 := Nat.le_trans (own_z O0) (Nat.le_of_eq g211.symm)
  have sz_b211 : h0.size ≤ b211 := Nat.le_trans K0.1 (Nat.le_of_eq g211.symm)
  rw [← g211] at A211 st211
  have E_x0 := E_x0.ext E211
  have F_x0_requests := F_x0_requests.ext E211
  have F_x0_sequences := F_x0_sequences.ext E211
  have F_x0_free := F_x0_free.ext E211
  have F_x0_freeCount := F_x0_freeCount.ext E211
  have F_x0_lastSequence := F_x0_lastSequence.ext E211
  have O211 := O0.ext E211
  have K211 := K0.ext E211
  have V_b211 : Arv Z h211 b211 k211 (.object oc9) (2 : Int32) [.null, .null] .null := (Arv.new A211 (by decide)).pad (pad_rep [] .null 2)
  obtain ⟨T212, h212, X212, e212, W212, st212⟩ := putF X211 hx hZ hown (host := "") (Or.inl (own_w hw 16 rfl)) Via.refl e211 F_x0_requests E_x0 (Or.inr ⟨(own_w hw 17 rfl), rfl, hnm⟩) (own_w hw 5 rfl) (ty := (.array (.object oc9))) (by decide) rfl rfl (g := (mkF m 34 #[rv x0, iv 2, .unset] [(.ref b211), (.ref x0)])) rfl rfl (hb hby dc_34)
  have F_x0_requests := F_x0_requests.same W212
  have E_x0 := E_x0.wr W212
  have F_x0_sequences := F_x0_sequences.other W212 (Or.inr (osn_Slots_sequences_requests hw))
  have F_x0_free := F_x0_free.other W212 (Or.inr (osn_Slots_free_requests hw))
  have F_x0_freeCount := F_x0_freeCount.other W212 (Or.inr (osn_Slots_freeCount_requests hw))
  have F_x0_lastSequence := F_x0_lastSequence.other W212 (Or.inr (osn_Slots_lastSequence_requests hw))
  have V_b211 := V_b211.other W212 (Ne.symm ne_x0_b211)
  have O212 := O211.wr W212 ge_x0
  have K212 := K211.wr W212 (Or.inl (List.mem_of_getElem? (i := 0) rfl))
  have N212 := Fr.snoc X212 N0 ge_x0
  obtain ⟨T213, h213, k213, X213, e213, E213, A213, st213⟩ := newP X212 hx hZ (own_w hw 18 rfl) e212 (g := (mkF m 39 #[rv x0, iv 2, .unset] [(.int 2), (.ref x0)])) rfl (hb hby dc_39) rfl (by decide) (cap := 2) (by decide) (by decide) (by decide) (by decide)
  obtain ⟨b213, g213⟩ : ∃ z, z = h212.size := ⟨_, rfl⟩
  have ne_x0_b213 : x0 ≠ b213 := Nat.ne_of_lt (Nat.lt_of_lt_of_le E_x0.lt (Nat.le_of_eq g213.symm))
  have ne_b211_b213 : b211 ≠ b213 := Nat.ne_of_lt (Nat.lt_of_lt_of_le V_b211.lt (Nat.le_of_eq g213.symm))
  have ge_b213 : n0 ≤ b213 := Nat.le_trans (own_z O212) (Nat.le_of_eq g213.symm)
  have sz_b213 : h0.size ≤ b213 := Nat.le_trans K212.1 (Nat.le_of_eq g213.symm)
  rw [← g213] at A213 st213
  have E_x0 := E_x0.ext E213
  have F_x0_requests := F_x0_requests.ext E213
  have F_x0_sequences := F_x0_sequences.ext E213
  have F_x0_free := F_x0_free.ext E213
  have F_x0_freeCount := F_x0_freeCount.ext E213
  have F_x0_lastSequence := F_x0_lastSequence.ext E213
  have V_b211 := V_b211.ext E213
  have O213 := O212.ext E213
  have K213 := K212.ext E213
  have V_b213 : Arv Z h213 b213 k213 .long (2 : Int32) [(.long 0), (.long 0)] (.long 0) := (Arv.new A213 (by decide)).pad (pad_rep [] (.long 0) 2)
  obtain ⟨T214, h214, X214, e214, W214, st214⟩ := putF X213 hx hZ hown (host := "") (Or.inl (own_w hw 19 rfl)) Via.refl e213 F_x0_sequences E_x0 (Or.inr ⟨(own_w hw 20 rfl), rfl, hnm⟩) (own_w hw 5 rfl) (ty := (.array .long)) (by decide) rfl rfl (g := (mkF m 41 #[rv x0, iv 2, .unset] [(.ref b213), (.ref x0)])) rfl rfl (hb hby dc_41)
  have F_x0_sequences := F_x0_sequences.same W214
  have E_x0 := E_x0.wr W214
  have F_x0_requests := F_x0_requests.other W214 (Or.inr (osn_Slots_requests_sequences hw))
  have F_x0_free := F_x0_free.other W214 (Or.inr (osn_Slots_free_sequences hw))
  have F_x0_freeCount := F_x0_freeCount.other W214 (Or.inr (osn_Slots_freeCount_sequences hw))
  have F_x0_lastSequence := F_x0_lastSequence.other W214 (Or.inr (osn_Slots_lastSequence_sequences hw))
  have V_b211 := V_b211.other W214 (Ne.symm ne_x0_b211)
  have V_b213 := V_b213.other W214 (Ne.symm ne_x0_b213)
  have O214 := O213.wr W214 ge_x0
  have K214 := K213.wr W214 (Or.inl (List.mem_of_getElem? (i := 0) rfl))
  have N214 := Fr.snoc X214 N212 ge_x0
  obtain ⟨T215, h215, k215, X215, e215, E215, A215, st215⟩ := newP X214 hx hZ (own_w hw 21 rfl) e214 (g := (mkF m 46 #[rv x0, iv 2, .unset] [(.int 2), (.ref x0)])) rfl (hb hby dc_46) rfl (by decide) (cap := 2) (by decide) (by decide) (by decide) (by decide)
  obtain ⟨b215, g215⟩ : ∃ z, z = h214.size := ⟨_, rfl⟩
  have ne_x0_b215 : x0 ≠ b215 := Nat.ne_of_lt (Nat.lt_of_lt_of_le E_x0.lt (Nat.le_of_eq g215.symm))
  have ne_b211_b215 : b211 ≠ b215 := Nat.ne_of_lt (Nat.lt_of_lt_of_le V_b211.lt (Nat.le_of_eq g215.symm))
  have ne_b213_b215 : b213 ≠ b215 := Nat.ne_of_lt (Nat.lt_of_lt_of_le V_b213.lt (Nat.le_of_eq g215.symm))
  have ge_b215 : n0 ≤ b215 := Nat.le_trans (own_z O214) (Nat.le_of_eq g215.symm)
  have sz_b215 : h0.size ≤ b215 := Nat.le_trans K214.1 (Nat.le_of_eq g215.symm)
  rw [← g215] at A215 st215
  have E_x0 := E_x0.ext E215
  have F_x0_requests := F_x0_requests.ext E215
  have F_x0_sequences := F_x0_sequences.ext E215
  have F_x0_free := F_x0_free.ext E215
  have F_x0_freeCount := F_x0_freeCount.ext E215
  have F_x0_lastSequence := F_x0_lastSequence.ext E215
  have V_b211 := V_b211.ext E215
  have V_b213 := V_b213.ext E215
  have O215 := O214.ext E215
  have K215 := K214.ext E215
  have V_b215 : Arv Z h215 b215 k215 .int (2 : Int32) [(.int 0), (.int 0)] (.int 0) := (Arv.new A215 (by decide)).pad (pad_rep [] (.int 0) 2)
  obtain ⟨T216, h216, X216, e216, W216, st216⟩ := putF X215 hx hZ hown (host := "") (Or.inl (own_w hw 22 rfl)) Via.refl e215 F_x0_free E_x0 (Or.inr ⟨(own_w hw 23 rfl), rfl, hnm⟩) (own_w hw 5 rfl) (ty := (.array .int)) (by decide) rfl rfl (g := (mkF m 48 #[rv x0, iv 2, .unset] [(.ref b215), (.ref x0)])) rfl rfl (hb hby dc_48)
  have F_x0_free := F_x0_free.same W216
  have E_x0 := E_x0.wr W216
  have F_x0_requests := F_x0_requests.other W216 (Or.inr (osn_Slots_requests_free hw))
  have F_x0_sequences := F_x0_sequences.other W216 (Or.inr (osn_Slots_sequences_free hw))
  have F_x0_freeCount := F_x0_freeCount.other W216 (Or.inr (osn_Slots_freeCount_free hw))
  have F_x0_lastSequence := F_x0_lastSequence.other W216 (Or.inr (osn_Slots_lastSequence_free hw))
  have V_b211 := V_b211.other W216 (Ne.symm ne_x0_b211)
  have V_b213 := V_b213.other W216 (Ne.symm ne_x0_b213)
  have V_b215 := V_b215.other W216 (Ne.symm ne_x0_b215)
  have O216 := O215.wr W216 ge_x0
  have K216 := K215.wr W216 (Or.inl (List.mem_of_getElem? (i := 0) rfl))
  have N216 := Fr.snoc X216 N214 ge_x0
  obtain ⟨T218, X218, e218, st218⟩ := getF X216 hx hZ hown (host := "") (Or.inl (own_w hw 22 rfl)) Via.refl e216 F_x0_free (g := (mkF m 59 #[rv x0, iv 2, iv 0] [(.ref x0)])) rfl rfl (hb hby dc_59)
  have pre219 : ∀ t, oS p e below m T218 65 #[rv x0, iv 2, iv 0] [(.int ((2 : Int32) - (1 : Int32))), (.ref b215)] t → oT p e below s₁ (entryFrame m #[(.ref x0), (.int 2)] 3) t := by
    intro t kt
    refine pre0 t ?_
    show oS p e below m s₁ 0 #[rv x0, iv 2, .unset] [] _
    refine XS.aloadN X0.here hx rfl (hb hby dc_0) rfl rfl ?_
    show oS p e below m s₁ 1 #[rv x0, iv 2, .unset] [(.ref x0)] _
    refine st208 _ ?_
    show oS p e below m T208 4 #[rv x0, iv 2, .unset] [] _
    refine XS.iloadN X208.here hx rfl (hb hby dc_4) rfl ?_
    refine XS.iconst X208.here hx rfl (hb hby dc_5) ?_
    show oS p e below m T208 6 #[rv x0, iv 2, .unset] [(.int 1), (.int 2)] _
    refine XS.icmpNo X208.here hx rfl (hb hby dc_6) rfl (flt (by decide : ¬ ((2 : Int32) < (1 : Int32)))).1 ?_
    refine XS.iloadN X208.here hx rfl (hb hby dc_9) rfl ?_
    show oS p e below m T208 10 #[rv x0, iv 2, .unset] [(.int 2)] _
    refine X208.ldcInt hx hown (mvT hZ (own_w hw 13 rfl)) (g := (mkF m 10 #[rv x0, iv 2, .unset] [(.int 2)])) rfl (hb hby dc_10) _ ?_
    show oS p e below m T208 12 #[rv x0, iv 2, .unset] [(.int 1048576), (.int 2)] _
    refine XS.icmpYes X208.here hx rfl (pc0 := 12) (pc' := 29) rfl (hb hby dc_12) rfl (flt (by decide : ¬ ((1048576 : Int32) < (2 : Int32)))).2.2.2 (by decide) (by decide) ?_
    refine XS.aloadN X208.here hx rfl (hb hby dc_29) rfl rfl ?_
    show oS p e below m T208 30 #[rv x0, iv 2, .unset] [(.ref x0)] _
    refine XS.iloadN X208.here hx rfl (hb hby dc_30) rfl ?_
    show oS p e below m T208 31 #[rv x0, iv 2, .unset] [(.int 2), (.ref x0)] _
    refine st211 _ ?_
    show oS p e below m T211 34 #[rv x0, iv 2, .unset] [(.ref b211), (.ref x0)] _
    refine st212 _ ?_
    show oS p e below m T212 37 #[rv x0, iv 2, .unset] [] _
    refine XS.aloadN X212.here hx rfl (hb hby dc_37) rfl rfl ?_
    refine XS.iloadN X212.here hx rfl (hb hby dc_38) rfl ?_
    show oS p e below m T212 39 #[rv x0, iv 2, .unset] [(.int 2), (.ref x0)] _
    refine st213 _ ?_
    show oS p e below m T213 41 #[rv x0, iv 2, .unset] [(.ref b213), (.ref x0)] _
    refine st214 _ ?_
    show oS p e below m T214 44 #[rv x0, iv 2, .unset] [] _
    refine XS.aloadN X214.here hx rfl (hb hby dc_44) rfl rfl ?_
    refine XS.iloadN X214.here hx rfl (hb hby dc_45) rfl ?_
    show oS p e below m T214 46 #[rv x0, iv 2, .unset] [(.int 2), (.ref x0)] _
    refine st215 _ ?_
    show oS p e below m T215 48 #[rv x0, iv 2, .unset] [(.ref b215), (.ref x0)] _
    refine st216 _ ?_
    show oS p e below m T216 51 #[rv x0, iv 2, .unset] [] _
    refine XS.iconst X216.here hx rfl (hb hby dc_51) ?_
    refine XS.istoreN X216.here hx rfl (hb hby dc_52) rfl (l' := #[rv x0, iv 2, iv 0]) rfl ?_
    show oS p e below m T216 53 #[rv x0, iv 2, iv 0] [] _
    refine XS.iloadN X216.here hx rfl (hb hby dc_53) rfl ?_
    refine XS.iloadN X216.here hx rfl (hb hby dc_54) rfl ?_
    show oS p e below m T216 55 #[rv x0, iv 2, iv 0] [(.int 2), (.int 0)] _
    refine XS.icmpNo X216.here hx rfl (hb hby dc_55) rfl (tlt (by decide : (0 : Int32) < (2 : Int32))).2.1 ?_
    refine XS.aloadN X216.here hx rfl (hb hby dc_58) rfl rfl ?_
    show oS p e below m T216 59 #[rv x0, iv 2, iv 0] [(.ref x0)] _
    refine st218 _ ?_
    show oS p e below m T218 62 #[rv x0, iv 2, iv 0] [(.ref b215)] _
    refine XS.iloadN X218.here hx rfl (hb hby dc_62) rfl ?_
    refine XS.iconst X218.here hx rfl (hb hby dc_63) ?_
    show oS p e below m T218 64 #[rv x0, iv 2, iv 0] [(.int 1), (.int 2), (.ref b215)] _
    refine XS.isub X218.here hx rfl (hb hby dc_64) rfl ?_
    exact kt
  rw [show ((2 : Int32) - (1 : Int32)) = (1 : Int32) from by decide] at pre219
  have pre220 : ∀ t, oS p e below m T218 67 #[rv x0, iv 2, iv 0] [(.int ((1 : Int32) - (0 : Int32))), (.ref b215)] t → oT p e below s₁ (entryFrame m #[(.ref x0), (.int 2)] 3) t := by
    intro t kt
    refine pre219 t ?_
    show oS p e below m T218 65 #[rv x0, iv 2, iv 0] [(.int 1), (.ref b215)] _
    refine XS.iloadN X218.here hx rfl (hb hby dc_65) rfl ?_
    refine XS.isub X218.here hx rfl (hb hby dc_66) rfl ?_
    exact kt
  rw [show ((1 : Int32) - (0 : Int32)) = (1 : Int32) from by decide] at pre220
  have vt221 := V_b215
  obtain ⟨cl221, Ar221, q221, S221, Ng221, Ha221, G221⟩ := vt221
  have hin221 : ¬ ((1 : Int32) < 0 ∨ cl221.slots.size ≤ ((1 : Int32)).toNatClampNeg) := inb_of S221 ⟨by decide, by decide⟩
  obtain ⟨T222, h222, X222, e222, W222, st222⟩ := stI X218 hx hZ e218 Ar221 (j := (1 : Int32)) hin221 (g := (mkF m 68 #[rv x0, iv 2, iv 0] [(.int 0), (.int 1), (.ref b215)])) rfl rfl (hb hby dc_68)
  have V_b215 : Arv Z h222 b215 k215 .int (2 : Int32) [(.int 0), (.int 0)] (.int 0) := Arv.set Ar221 q221 S221 Ng221 Ha221 G221 rfl W222 1 rfl (Nat.le_of_ble_eq_true rfl)
  have E_x0 := E_x0.wr W222
  have F_x0_requests := F_x0_requests.other W222 (Or.inl ne_x0_b215)
  have F_x0_sequences := F_x0_sequences.other W222 (Or.inl ne_x0_b215)
  have F_x0_free := F_x0_free.other W222 (Or.inl ne_x0_b215)
  have F_x0_freeCount := F_x0_freeCount.other W222 (Or.inl ne_x0_b215)
  have F_x0_lastSequence := F_x0_lastSequence.other W222 (Or.inl ne_x0_b215)
  have V_b211 := V_b211.other W222 ne_b211_b215
  have V_b213 := V_b213.other W222 ne_b213_b215
  have O222 := O216.wr W222 ge_b215
  have K222 := K216.wr W222 (Or.inr sz_b215)
  have N222 := Fr.snoc X222 N216 ge_b215
  have pre223 : ∀ t, oS p e below m T222 72 #[rv x0, iv 2, .val (.int ((0 : Int32) + (1 : Int32)))] [] t → oT p e below s₁ (entryFrame m #[(.ref x0), (.int 2)] 3) t := by
    intro t kt
    refine pre220 t ?_
    show oS p e below m T218 67 #[rv x0, iv 2, iv 0] [(.int 1), (.ref b215)] _
    refine XS.iloadN X218.here hx rfl (hb hby dc_67) rfl ?_
    show oS p e below m T218 68 #[rv x0, iv 2, iv 0] [(.int 0), (.int 1), (.ref b215)] _
    refine st222 _ ?_
    show oS p e below m T222 69 #[rv x0, iv 2, iv 0] [] _
    refine XS.iinc X222.here hx rfl (hb hby dc_69) rfl (l' := #[rv x0, iv 2, .val (.int ((0 : Int32) + (1 : Int32)))]) rfl ?_
    exact kt
  rw [show ((0 : Int32) + (1 : Int32)) = (1 : Int32) from by decide] at pre223
  obtain ⟨T225, X225, e225, st225⟩ := getF X222 hx hZ hown (host := "") (Or.inl (own_w hw 22 rfl)) Via.refl e222 F_x0_free (g := (mkF m 59 #[rv x0, iv 2, iv 1] [(.ref x0)])) rfl rfl (hb hby dc_59)
  have pre226 : ∀ t, oS p e below m T225 65 #[rv x0, iv 2, iv 1] [(.int ((2 : Int32) - (1 : Int32))), (.ref b215)] t → oT p e below s₁ (entryFrame m #[(.ref x0), (.int 2)] 3) t := by
    intro t kt
    refine pre223 t ?_
    show oS p e below m T222 72 #[rv x0, iv 2, iv 1] [] _
    refine XS.goto X222.here hx rfl (pc0 := 72) (pc' := 53) rfl (hb hby dc_72) (by decide) (by decide) ?_
    refine XS.iloadN X222.here hx rfl (hb hby dc_53) rfl ?_
    show oS p e below m T222 54 #[rv x0, iv 2, iv 1] [(.int 1)] _
    refine XS.iloadN X222.here hx rfl (hb hby dc_54) rfl ?_
    refine XS.icmpNo X222.here hx rfl (hb hby dc_55) rfl (tlt (by decide : (1 : Int32) < (2 : Int32))).2.1 ?_
    show oS p e below m T222 58 #[rv x0, iv 2, iv 1] [] _
    refine XS.aloadN X222.here hx rfl (hb hby dc_58) rfl rfl ?_
    show oS p e below m T222 59 #[rv x0, iv 2, iv 1] [(.ref x0)] _
    refine st225 _ ?_
    show oS p e below m T225 62 #[rv x0, iv 2, iv 1] [(.ref b215)] _
    refine XS.iloadN X225.here hx rfl (hb hby dc_62) rfl ?_
    refine XS.iconst X225.here hx rfl (hb hby dc_63) ?_
    show oS p e below m T225 64 #[rv x0, iv 2, iv 1] [(.int 1), (.int 2), (.ref b215)] _
    refine XS.isub X225.here hx rfl (hb hby dc_64) rfl ?_
    exact kt
  rw [show ((2 : Int32) - (1 : Int32)) = (1 : Int32) from by decide] at pre226
  have pre227 : ∀ t, oS p e below m T225 67 #[rv x0, iv 2, iv 1] [(.int ((1 : Int32) - (1 : Int32))), (.ref b215)] t → oT p e below s₁ (entryFrame m #[(.ref x0), (.int 2)] 3) t := by
    intro t kt
    refine pre226 t ?_
    show oS p e below m T225 65 #[rv x0, iv 2, iv 1] [(.int 1), (.ref b215)] _
    refine XS.iloadN X225.here hx rfl (hb hby dc_65) rfl ?_
    refine XS.isub X225.here hx rfl (hb hby dc_66) rfl ?_
    exact kt
  rw [show ((1 : Int32) - (1 : Int32)) = (0 : Int32) from by decide] at pre227
  have vt228 := V_b215
  obtain ⟨cl228, Ar228, q228, S228, Ng228, Ha228, G228⟩ := vt228
  have hin228 : ¬ ((0 : Int32) < 0 ∨ cl228.slots.size ≤ ((0 : Int32)).toNatClampNeg) := inb_of S228 ⟨by decide, by decide⟩
  obtain ⟨T229, h229, X229, e229, W229, st229⟩ := stI X225 hx hZ e225 Ar228 (j := (0 : Int32)) hin228 (g := (mkF m 68 #[rv x0, iv 2, iv 1] [(.int 1), (.int 0), (.ref b215)])) rfl rfl (hb hby dc_68)
  have V_b215 : Arv Z h229 b215 k215 .int (2 : Int32) [(.int 1), (.int 0)] (.int 0) := Arv.set Ar228 q228 S228 Ng228 Ha228 G228 rfl W229 0 rfl (Nat.le_of_ble_eq_true rfl)
  have E_x0 := E_x0.wr W229
  have F_x0_requests := F_x0_requests.other W229 (Or.inl ne_x0_b215)
  have F_x0_sequences := F_x0_sequences.other W229 (Or.inl ne_x0_b215)
  have F_x0_free := F_x0_free.other W229 (Or.inl ne_x0_b215)
  have F_x0_freeCount := F_x0_freeCount.other W229 (Or.inl ne_x0_b215)
  have F_x0_lastSequence := F_x0_lastSequence.other W229 (Or.inl ne_x0_b215)
  have V_b211 := V_b211.other W229 ne_b211_b215
  have V_b213 := V_b213.other W229 ne_b213_b215
  have O229 := O222.wr W229 ge_b215
  have K229 := K222.wr W229 (Or.inr sz_b215)
  have N229 := Fr.snoc X229 N222 ge_b215
  have pre230 : ∀ t, oS p e below m T229 72 #[rv x0, iv 2, .val (.int ((1 : Int32) + (1 : Int32)))] [] t → oT p e below s₁ (entryFrame m #[(.ref x0), (.int 2)] 3) t := by
    intro t kt
    refine pre227 t ?_
    show oS p e below m T225 67 #[rv x0, iv 2, iv 1] [(.int 0), (.ref b215)] _
    refine XS.iloadN X225.here hx rfl (hb hby dc_67) rfl ?_
    show oS p e below m T225 68 #[rv x0, iv 2, iv 1] [(.int 1), (.int 0), (.ref b215)] _
    refine st229 _ ?_
    show oS p e below m T229 69 #[rv x0, iv 2, iv 1] [] _
    refine XS.iinc X229.here hx rfl (hb hby dc_69) rfl (l' := #[rv x0, iv 2, .val (.int ((1 : Int32) + (1 : Int32)))]) rfl ?_
    exact kt
  rw [show ((1 : Int32) + (1 : Int32)) = (2 : Int32) from by decide] at pre230
  obtain ⟨T232, h232, X232, e232, W232, st232⟩ := putF X229 hx hZ hown (host := "") (Or.inl (own_w hw 24 rfl)) Via.refl e229 F_x0_freeCount E_x0 (Or.inl (own_w hw 25 rfl)) (own_w hw 5 rfl) (ty := .int) (by decide) rfl rfl (g := (mkF m 77 #[rv x0, iv 2, iv 2] [(.int 2), (.ref x0)])) rfl rfl (hb hby dc_77)
  have F_x0_freeCount := F_x0_freeCount.same W232
  have E_x0 := E_x0.wr W232
  have F_x0_requests := F_x0_requests.other W232 (Or.inr (osn_Slots_requests_freeCount hw))
  have F_x0_sequences := F_x0_sequences.other W232 (Or.inr (osn_Slots_sequences_freeCount hw))
  have F_x0_free := F_x0_free.other W232 (Or.inr (osn_Slots_free_freeCount hw))
  have F_x0_lastSequence := F_x0_lastSequence.other W232 (Or.inr (osn_Slots_lastSequence_freeCount hw))
  have V_b211 := V_b211.other W232 (Ne.symm ne_x0_b211)
  have V_b213 := V_b213.other W232 (Ne.symm ne_x0_b213)
  have V_b215 := V_b215.other W232 (Ne.symm ne_x0_b215)
  have O232 := O229.wr W232 ge_x0
  have K232 := K229.wr W232 (Or.inl (List.mem_of_getElem? (i := 0) rfl))
  have N232 := Fr.snoc X232 N229 ge_x0
  have pre233 : ∀ t, oS p e below m T232 80 #[rv x0, iv 2, iv 2] [] t → oT p e below s₁ (entryFrame m #[(.ref x0), (.int 2)] 3) t := by
    intro t kt
    refine pre230 t ?_
    show oS p e below m T229 72 #[rv x0, iv 2, iv 2] [] _
    refine XS.goto X229.here hx rfl (pc0 := 72) (pc' := 53) rfl (hb hby dc_72) (by decide) (by decide) ?_
    refine XS.iloadN X229.here hx rfl (hb hby dc_53) rfl ?_
    show oS p e below m T229 54 #[rv x0, iv 2, iv 2] [(.int 2)] _
    refine XS.iloadN X229.here hx rfl (hb hby dc_54) rfl ?_
    refine XS.icmpYes X229.here hx rfl (pc0 := 55) (pc' := 75) rfl (hb hby dc_55) rfl (flt (by decide : ¬ ((2 : Int32) < (2 : Int32)))).2.1 (by decide) (by decide) ?_
    show oS p e below m T229 75 #[rv x0, iv 2, iv 2] [] _
    refine XS.aloadN X229.here hx rfl (hb hby dc_75) rfl rfl ?_
    refine XS.iloadN X229.here hx rfl (hb hby dc_76) rfl ?_
    show oS p e below m T229 77 #[rv x0, iv 2, iv 2] [(.int 2), (.ref x0)] _
    refine st232 _ ?_
    exact kt
  obtain ⟨fs, hr, hrun, hended, hW, hsame⟩ := X232.leave (v := none) (fun _ => rfl)
  refine ⟨_, _, pre233 _ ?_, hrun, hended, _, _, rfl, ?_, ⟨_, rfl⟩, hW, hsame.mono (by decide) (by decide)⟩
  · show oS p e below m T232 80 #[rv x0, iv 2, iv 2] [] _
    exact X232.returnOut hx Bd.returns (hb hby dc_80) hr
  · show Q_rm_init_13 Z x0 h0 n0 _ T232.heap _
    rw [e232]
    exact ⟨b211, b213, b215, k211, k213, k215, rfl, N232, K232, E_x0, F_x0_requests, F_x0_sequences, F_x0_free, F_x0_freeCount, F_x0_lastSequence, V_b211, Ov211, ge_b211, sz_b211, V_b213, ge_b213, sz_b213, V_b215, ge_b215, sz_b215, ne_b211_b213, ne_b211_b215, ne_b213_b215⟩
theorem ef_rm_hasFree_14 (m : MethodId) (x0 : Addr) : entryFrame m #[(.ref x0)] 1 = mkF m 0 #[rv x0] [] := by first | (simp [entryFrame, mkF, argsToLocals, Value.category]; done) | rfl
def Q_rm_hasFree_14 (Z : State) (x0 : Addr) (h0 : Heap) (n0 : Nat) (v : Option Value) (h : Heap) (L : List Loc) : Prop := v = some (.int 1) ∧ Fr n0 L ∧ h = h0
set_option maxRecDepth 65536 in
set_option maxHeartbeats 40000000 in
theorem rm_hasFree_14 (l : Launch) (Z : State) (a0 : Array Value) (hw : ∀ d ∈ tables_1, d.before a0 Z = true) (ws : List Jvm.Cond) (x0 : Addr) (h0 : Heap) (n0 : Nat) (O0 : Old Z n0 h0) (F_x0_freeCount : Fld Z h0 x0 oc8 "freeCount" "I" (.int 2))  :
    oM l oy2 prog_29_method_3_code 1 (some .boolean) ws ({ frames := 0, cells := 0, slots := 0, locals := 0 } : Room) Z #[(.ref x0)] h0 (Q_rm_hasFree_14 Z x0 h0 n0) := by
  refine MetFree.of_bodySF (plainFor_of_name pn_com_example_wend_wend_Slots) hisR ?_
  intro p e s m args below meth c s₁ Bd hml0 hP hK
  obtain ⟨rfl, hZ, hh⟩ := hP
  have hx := Bd.exec
  have hby := Bd.bytes
  have hml : c.maxLocals = 1 := hml0
  have hown : s.vm.findClass oc8 = some m.cls := findClass_of_methodNamed Bd.named
  have hnm := (name_of_methodNamed Bd.named Bd.method).1
  have X0 : Stand p l e ({ frames := 0, cells := 0, slots := 0, locals := 0 } : Room) s m #[(.ref x0)] below meth c s₁ [] 0 0 := Stand.of_body Bd
  have e0 : s₁.heap = h0 := by rw [← hh, Bd.state]; rfl
  have N0 := Fr.nil n0
  have pre0 : ∀ t, oS p e below m s₁ 0 #[rv x0] [] t → oT p e below s₁ (entryFrame m #[(.ref x0)] 1) t := fun t k => castTop (ef_rm_hasFree_14 m x0) k
  have K0 := Keep.refl h0 []
  obtain ⟨T235, X235, e235, st235⟩ := getF X0 hx hZ hown (host := "") (Or.inl (own_w hw 24 rfl)) Via.refl e0 F_x0_freeCount (g := (mkF m 1 #[rv x0] [(.ref x0)])) rfl rfl (hb hby dd_1)
  have pre237 : ∀ t, oS p e below m T235 12 #[rv x0] [(.int 1)] t → oT p e below s₁ (entryFrame m #[(.ref x0)] 1) t := by
    intro t kt
    refine pre0 t ?_
    show oS p e below m s₁ 0 #[rv x0] [] _
    refine XS.aloadN X0.here hx rfl (hb hby dd_0) rfl rfl ?_
    show oS p e below m s₁ 1 #[rv x0] [(.ref x0)] _
    refine st235 _ ?_
    show oS p e below m T235 4 #[rv x0] [(.int 2)] _
    refine XS.ifNo X235.here hx rfl (hb hby dd_4) rfl ((if0 _ _).trans (tlt (by decide : (0 : Int32) < (2 : Int32))).2.2.2) ?_
    refine XS.iconst X235.here hx rfl (hb hby dd_7) ?_
    show oS p e below m T235 8 #[rv x0] [(.int 1)] _
    refine XS.goto X235.here hx rfl (pc0 := 8) (pc' := 12) rfl (hb hby dd_8) (by decide) (by decide) ?_
    exact kt
  obtain ⟨fs, hr, hrun, hended, hW, hsame⟩ := X235.leave (v := some (.int 1)) (fun h => by rw [Bd.returns] at h; cases h)
  refine ⟨_, _, pre237 _ ?_, hrun, hended, _, _, rfl, ?_, ⟨_, rfl⟩, hW, hsame.mono (by decide) (by decide)⟩
  · show oS p e below m T235 12 #[rv x0] [(.int 1)] _
    exact retN X235 hx (t := .boolean) Bd.returns (by simp) (hb hby dd_12) hr
  · show Q_rm_hasFree_14 Z x0 h0 n0 _ T235.heap _
    rw [e235]
    exact ⟨rfl, N0, rfl⟩
theorem ef_rm_take_15 (m : MethodId) (x0 : Addr) (w_I1 : Addr) : entryFrame m #[(.ref x0), (.ref w_I1)] 3 = mkF m 0 #[rv x0, rv w_I1, .unset] [] := by first | (simp [entryFrame, mkF, argsToLocals, Value.category]; done) | rfl
def Q_rm_take_15 (Z : State) (x0 : Addr) (x1 : Addr) (x2 : Addr) (x3 : Addr) (kc0 : ClassId) (kc1 : ClassId) (kc2 : ClassId) (w_I1 : Addr) (h0 : Heap) (n0 : Nat) (v : Option Value) (h : Heap) (L : List Loc) : Prop := v = some (.long 1048576) ∧ Fr n0 L ∧ Keep h0 h [x0, x1, x2] ∧ Exa Z h x0 oc8 ∧ Fld Z h x0 oc8 "requests" "[Ljava/lang/Object;" (.ref x1) ∧ Fld Z h x0 oc8 "sequences" "[J" (.ref x2) ∧ Fld Z h x0 oc8 "free" "[I" (.ref x3) ∧ Fld Z h x0 oc8 "freeCount" "I" (.int 1) ∧ Fld Z h x0 oc8 "lastSequence" "J" (.long 1) ∧ Arv Z h x1 kc0 (.object oc9) (2 : Int32) [(.ref w_I1), .null] .null ∧ Arv Z h x2 kc1 .long (2 : Int32) [(.long 1), (.long 0)] (.long 0)
set_option maxRecDepth 65536 in
set_option maxHeartbeats 40000000 in
theorem rm_take_15 (l : Launch) (Z : State) (a0 : Array Value) (hw : ∀ d ∈ tables_1, d.before a0 Z = true) (ws : List Jvm.Cond) (x0 : Addr) (x1 : Addr) (x2 : Addr) (x3 : Addr) (kc0 : ClassId) (kc1 : ClassId) (kc2 : ClassId) (w_I1 : Addr) (h0 : Heap) (n0 : Nat) (O0 : Old Z n0 h0) (E_x0 : Exa Z h0 x0 oc8) (F_x0_requests : Fld Z h0 x0 oc8 "requests" "[Ljava/lang/Object;" (.ref x1)) (F_x0_sequences : Fld Z h0 x0 oc8 "sequences" "[J" (.ref x2)) (F_x0_free : Fld Z h0 x0 oc8 "free" "[I" (.ref x3)) (F_x0_freeCount : Fld Z h0 x0 oc8 "freeCount" "I" (.int 2)) (F_x0_lastSequence : Fld Z h0 x0 oc8 "lastSequence" "J" (.long 0)) (ge_x0 : n0 ≤ x0) (V_x1 : Arv Z h0 x1 kc0 (.object oc9) (2 : Int32) [.null, .null] .null) (O_x1 : Ovr Z kc0 oc9) (ge_x1 : n0 ≤ x1) (V_x2 : Arv Z h0 x2 kc1 .long (2 : Int32) [(.long 0), (.long 0)] (.long 0)) (ge_x2 : n0 ≤ x2) (V_x3 : Arv Z h0 x3 kc2 .int (2 : Int32) [(.int 1), (.int 0)] (.int 0)) (ge_x3 : n0 ≤ x3) (ne_x0_x1 : x0 ≠ x1) (ne_x0_x2 : x0 ≠ x2) (ne_x0_x3 : x0 ≠ x3) (ne_x1_x2 : x1 ≠ x2) (ne_x1_x3 : x1 ≠ x3) (ne_x2_x3 : x2 ≠ x3) (E_I1 : Exa Z Z.heap w_I1 oc10) :
    oM l oy4 prog_29_method_4_code 3 (some .long) ws ({ frames := 0, cells := 0, slots := 0, locals := 0 } : Room) Z #[(.ref x0), (.ref w_I1)] h0 (Q_rm_take_15 Z x0 x1 x2 x3 kc0 kc1 kc2 w_I1 h0 n0) := by
  refine MetFree.of_bodySF (plainFor_of_name pn_com_example_wend_wend_Slots) hisR ?_
  intro p e s m args below meth c s₁ Bd hml0 hP hK
  obtain ⟨rfl, hZ, hh⟩ := hP
  have hx := Bd.exec
  have hby := Bd.bytes
  have hml : c.maxLocals = 3 := hml0
  have hown : s.vm.findClass oc8 = some m.cls := findClass_of_methodNamed Bd.named
  have hnm := (name_of_methodNamed Bd.named Bd.method).1
  have X0 : Stand p l e ({ frames := 0, cells := 0, slots := 0, locals := 0 } : Room) s m #[(.ref x0), (.ref w_I1)] below meth c s₁ [] 0 0 := Stand.of_body Bd
  have e0 : s₁.heap = h0 := by rw [← hh, Bd.state]; rfl
  have N0 := Fr.nil n0
  have pre0 : ∀ t, oS p e below m s₁ 0 #[rv x0, rv w_I1, .unset] [] t → oT p e below s₁ (entryFrame m #[(.ref x0), (.ref w_I1)] 3) t := fun t k => castTop (ef_rm_take_15 m x0 w_I1) k
  have K0 := Keep.refl h0 [x0, x1, x2]
  obtain ⟨T258, X258, e258, st258⟩ := getF X0 hx hZ hown (host := "") (Or.inl (own_w hw 24 rfl)) Via.refl e0 F_x0_freeCount (g := (mkF m 1 #[rv x0, rv w_I1, .unset] [(.ref x0)])) rfl rfl (hb hby de_1)
  obtain ⟨T260, X260, e260, st260⟩ := getF X258 hx hZ hown (host := "") (Or.inl (own_w hw 22 rfl)) Via.refl e258 F_x0_free (g := (mkF m 18 #[rv x0, rv w_I1, .unset] [(.ref x0)])) rfl rfl (hb hby de_18)
  obtain ⟨T261, X261, e261, st261⟩ := getF X260 hx hZ hown (host := "") (Or.inl (own_w hw 24 rfl)) Via.refl e260 F_x0_freeCount (g := (mkF m 23 #[rv x0, rv w_I1, .unset] [(.ref x0), (.ref x0), (.ref x3)])) rfl rfl (hb hby de_23)
  have pre262 : ∀ t, oS p e below m T261 28 #[rv x0, rv w_I1, .unset] [(.int ((2 : Int32) - (1 : Int32))), (.ref x0), (.ref x3)] t → oT p e below s₁ (entryFrame m #[(.ref x0), (.ref w_I1)] 3) t := by
    intro t kt
    refine pre0 t ?_
    show oS p e below m s₁ 0 #[rv x0, rv w_I1, .unset] [] _
    refine XS.aloadN X0.here hx rfl (hb hby de_0) rfl rfl ?_
    show oS p e below m s₁ 1 #[rv x0, rv w_I1, .unset] [(.ref x0)] _
    refine st258 _ ?_
    show oS p e below m T258 4 #[rv x0, rv w_I1, .unset] [(.int 2)] _
    refine XS.ifYes X258.here hx rfl (pc0 := 4) (pc' := 17) rfl (hb hby de_4) rfl ((if0 _ _).trans (feq (by decide : ¬ ((2 : Int32) = (0 : Int32)))).2) (by decide) (by decide) ?_
    refine XS.aloadN X258.here hx rfl (hb hby de_17) rfl rfl ?_
    show oS p e below m T258 18 #[rv x0, rv w_I1, .unset] [(.ref x0)] _
    refine st260 _ ?_
    show oS p e below m T260 21 #[rv x0, rv w_I1, .unset] [(.ref x3)] _
    refine XS.aloadN X260.here hx rfl (hb hby de_21) rfl rfl ?_
    refine XS.dup X260.here hx rfl (hb hby de_22) rfl rfl ?_
    show oS p e below m T260 23 #[rv x0, rv w_I1, .unset] [(.ref x0), (.ref x0), (.ref x3)] _
    refine st261 _ ?_
    show oS p e below m T261 26 #[rv x0, rv w_I1, .unset] [(.int 2), (.ref x0), (.ref x3)] _
    refine XS.iconst X261.here hx rfl (hb hby de_26) ?_
    refine XS.isub X261.here hx rfl (hb hby de_27) rfl ?_
    exact kt
  rw [show ((2 : Int32) - (1 : Int32)) = (1 : Int32) from by decide] at pre262
  obtain ⟨T263, h263, X263, e263, W263, st263⟩ := putF X261 hx hZ hown (host := "") (Or.inl (own_w hw 24 rfl)) Via.refl e261 F_x0_freeCount E_x0 (Or.inl (own_w hw 25 rfl)) (own_w hw 5 rfl) (ty := .int) (by decide) rfl rfl (g := (mkF m 29 #[rv x0, rv w_I1, .unset] [(.int 1), (.ref x0), (.int 1), (.ref x3)])) rfl rfl (hb hby de_29)
  have F_x0_freeCount := F_x0_freeCount.same W263
  have E_x0 := E_x0.wr W263
  have F_x0_requests := F_x0_requests.other W263 (Or.inr (osn_Slots_requests_freeCount hw))
  have F_x0_sequences := F_x0_sequences.other W263 (Or.inr (osn_Slots_sequences_freeCount hw))
  have F_x0_free := F_x0_free.other W263 (Or.inr (osn_Slots_free_freeCount hw))
  have F_x0_lastSequence := F_x0_lastSequence.other W263 (Or.inr (osn_Slots_lastSequence_freeCount hw))
  have V_x1 := V_x1.other W263 (Ne.symm ne_x0_x1)
  have V_x2 := V_x2.other W263 (Ne.symm ne_x0_x2)
  have V_x3 := V_x3.other W263 (Ne.symm ne_x0_x3)
  have O263 := O0.wr W263 ge_x0
  have K263 := K0.wr W263 (Or.inl (List.mem_of_getElem? (i := 0) rfl))
  have N263 := Fr.snoc X263 N0 ge_x0
  have vt264 := V_x3
  obtain ⟨cl264, Ar264, q264, S264, Ng264, Ha264, G264⟩ := vt264
  have hin264 : ¬ ((1 : Int32) < 0 ∨ cl264.slots.size ≤ ((1 : Int32)).toNatClampNeg) := inb_of S264 ⟨by decide, by decide⟩
  have hat264 : cl264.slots[((1 : Int32)).toNatClampNeg]? = some (.int 0) := Ha264.at hin264 rfl
  obtain ⟨T265, X265, e265, st265⟩ := getF X263 hx hZ hown (host := "") (Or.inl (own_w hw 43 rfl)) Via.refl e263 F_x0_lastSequence (g := (mkF m 36 #[rv x0, rv w_I1, iv 0] [(.ref x0), (.ref x0)])) rfl rfl (hb hby de_36)
  have pre266 : ∀ t, oS p e below m T265 43 #[rv x0, rv w_I1, iv 0] [(.int (lcmpW (0 : Int64) (17592186044415 : Int64))), (.ref x0)] t → oT p e below s₁ (entryFrame m #[(.ref x0), (.ref w_I1)] 3) t := by
    intro t kt
    refine pre262 t ?_
    show oS p e below m T261 28 #[rv x0, rv w_I1, .unset] [(.int 1), (.ref x0), (.ref x3)] _
    refine XS.dupX1 X261.here hx rfl (hb hby de_28) rfl rfl rfl ?_
    show oS p e below m T261 29 #[rv x0, rv w_I1, .unset] [(.int 1), (.ref x0), (.int 1), (.ref x3)] _
    refine st263 _ ?_
    show oS p e below m T263 32 #[rv x0, rv w_I1, .unset] [(.int 1), (.ref x3)] _
    refine X263.iaload hx (j := (1 : Int32)) (v := (.int 0)) (by rw [e263]; exact Ar264.1) (State.isArrayOf_alike hZ.alike Ar264.2.1) Ar264.2.2 hin264 hat264 (g := (mkF m 32 #[rv x0, rv w_I1, .unset] [(.int 1), (.ref x3)])) rfl rfl (hb hby de_32) _ ?_
    show oS p e below m T263 33 #[rv x0, rv w_I1, .unset] [(.int 0)] _
    refine XS.istoreN X263.here hx rfl (hb hby de_33) rfl (l' := #[rv x0, rv w_I1, iv 0]) rfl ?_
    refine XS.aloadN X263.here hx rfl (hb hby de_34) rfl rfl ?_
    show oS p e below m T263 35 #[rv x0, rv w_I1, iv 0] [(.ref x0)] _
    refine XS.aloadN X263.here hx rfl (hb hby de_35) rfl rfl ?_
    show oS p e below m T263 36 #[rv x0, rv w_I1, iv 0] [(.ref x0), (.ref x0)] _
    refine st265 _ ?_
    show oS p e below m T265 39 #[rv x0, rv w_I1, iv 0] [(.long 0), (.ref x0)] _
    refine X265.ldc2Long hx hown (mvT hZ (own_w hw 45 rfl)) (g := (mkF m 39 #[rv x0, rv w_I1, iv 0] [(.long 0), (.ref x0)])) rfl (hb hby de_39) _ ?_
    show oS p e below m T265 42 #[rv x0, rv w_I1, iv 0] [(.long 17592186044415), (.long 0), (.ref x0)] _
    refine XS.lcmp X265.here hx rfl (hb hby de_42) rfl ?_
    exact kt
  rw [show (lcmpW (0 : Int64) (17592186044415 : Int64)) = (-1 : Int32) from by decide] at pre266
  obtain ⟨T268, X268, e268, st268⟩ := getF X265 hx hZ hown (host := "") (Or.inl (own_w hw 43 rfl)) Via.refl e265 F_x0_lastSequence (g := (mkF m 51 #[rv x0, rv w_I1, iv 0] [(.ref x0), (.ref x0)])) rfl rfl (hb hby de_51)
  have pre269 : ∀ t, oS p e below m T268 56 #[rv x0, rv w_I1, iv 0] [(.long ((0 : Int64) + (1 : Int64))), (.ref x0)] t → oT p e below s₁ (entryFrame m #[(.ref x0), (.ref w_I1)] 3) t := by
    intro t kt
    refine pre266 t ?_
    show oS p e below m T265 43 #[rv x0, rv w_I1, iv 0] [(.int (-1 : Int32)), (.ref x0)] _
    refine XS.ifYes X265.here hx rfl (pc0 := 43) (pc' := 50) rfl (hb hby de_43) rfl ((if0 _ _).trans (feq (by decide : ¬ ((-1 : Int32) = (0 : Int32)))).2) (by decide) (by decide) ?_
    refine XS.aloadN X265.here hx rfl (hb hby de_50) rfl rfl ?_
    show oS p e below m T265 51 #[rv x0, rv w_I1, iv 0] [(.ref x0), (.ref x0)] _
    refine st268 _ ?_
    show oS p e below m T268 54 #[rv x0, rv w_I1, iv 0] [(.long 0), (.ref x0)] _
    refine XS.lconst X268.here hx rfl (hb hby de_54) ?_
    refine XS.ladd X268.here hx rfl (hb hby de_55) rfl ?_
    exact kt
  rw [show ((0 : Int64) + (1 : Int64)) = (1 : Int64) from by decide] at pre269
  obtain ⟨T270, h270, X270, e270, W270, st270⟩ := putF X268 hx hZ hown (host := "") (Or.inl (own_w hw 43 rfl)) Via.refl e268 F_x0_lastSequence E_x0 (Or.inl (own_w hw 44 rfl)) (own_w hw 5 rfl) (ty := .long) (by decide) rfl rfl (g := (mkF m 56 #[rv x0, rv w_I1, iv 0] [(.long 1), (.ref x0)])) rfl rfl (hb hby de_56)
  have F_x0_lastSequence := F_x0_lastSequence.same W270
  have E_x0 := E_x0.wr W270
  have F_x0_requests := F_x0_requests.other W270 (Or.inr (osn_Slots_requests_lastSequence hw))
  have F_x0_sequences := F_x0_sequences.other W270 (Or.inr (osn_Slots_sequences_lastSequence hw))
  have F_x0_free := F_x0_free.other W270 (Or.inr (osn_Slots_free_lastSequence hw))
  have F_x0_freeCount := F_x0_freeCount.other W270 (Or.inr (osn_Slots_freeCount_lastSequence hw))
  have V_x1 := V_x1.other W270 (Ne.symm ne_x0_x1)
  have V_x2 := V_x2.other W270 (Ne.symm ne_x0_x2)
  have V_x3 := V_x3.other W270 (Ne.symm ne_x0_x3)
  have O270 := O263.wr W270 ge_x0
  have K270 := K263.wr W270 (Or.inl (List.mem_of_getElem? (i := 0) rfl))
  have N270 := Fr.snoc X270 N263 ge_x0
  obtain ⟨T271, X271, e271, st271⟩ := getF X270 hx hZ hown (host := "") (Or.inl (own_w hw 16 rfl)) Via.refl e270 F_x0_requests (g := (mkF m 60 #[rv x0, rv w_I1, iv 0] [(.ref x0)])) rfl rfl (hb hby de_60)
  have vt272 := V_x1
  obtain ⟨cl272, Ar272, q272, S272, Ng272, Ha272, G272⟩ := vt272
  have hin272 : ¬ ((0 : Int32) < 0 ∨ cl272.slots.size ≤ ((0 : Int32)).toNatClampNeg) := inb_of S272 ⟨by decide, by decide⟩
  obtain ⟨T273, h273, X273, e273, W273, st273⟩ := stR X271 hx hZ e271 Ar272 (j := (0 : Int32)) hin272 rfl (Sto.ofV Ar272 q272 O_x1 (Ins.of_exa (E_I1.ext O270.2) (own_w hw 46 rfl))) (g := (mkF m 65 #[rv x0, rv w_I1, iv 0] [(.ref w_I1), (.int 0), (.ref x1)])) rfl rfl (hb hby de_65)
  have V_x1 : Arv Z h273 x1 kc0 (.object oc9) (2 : Int32) [(.ref w_I1), .null] .null := Arv.set Ar272 q272 S272 Ng272 Ha272 G272 rfl W273 0 rfl (Nat.le_of_ble_eq_true rfl)
  have E_x0 := E_x0.wr W273
  have F_x0_requests := F_x0_requests.other W273 (Or.inl ne_x0_x1)
  have F_x0_sequences := F_x0_sequences.other W273 (Or.inl ne_x0_x1)
  have F_x0_free := F_x0_free.other W273 (Or.inl ne_x0_x1)
  have F_x0_freeCount := F_x0_freeCount.other W273 (Or.inl ne_x0_x1)
  have F_x0_lastSequence := F_x0_lastSequence.other W273 (Or.inl ne_x0_x1)
  have V_x2 := V_x2.other W273 (Ne.symm ne_x1_x2)
  have V_x3 := V_x3.other W273 (Ne.symm ne_x1_x3)
  have O273 := O270.wr W273 ge_x1
  have K273 := K270.wr W273 (Or.inl (List.mem_of_getElem? (i := 1) rfl))
  have N273 := Fr.snoc X273 N270 ge_x1
  obtain ⟨T274, X274, e274, st274⟩ := getF X273 hx hZ hown (host := "") (Or.inl (own_w hw 19 rfl)) Via.refl e273 F_x0_sequences (g := (mkF m 67 #[rv x0, rv w_I1, iv 0] [(.ref x0)])) rfl rfl (hb hby de_67)
  obtain ⟨T275, X275, e275, st275⟩ := getF X274 hx hZ hown (host := "") (Or.inl (own_w hw 43 rfl)) Via.refl e274 F_x0_lastSequence (g := (mkF m 72 #[rv x0, rv w_I1, iv 0] [(.ref x0), (.int 0), (.ref x2)])) rfl rfl (hb hby de_72)
  have vt276 := V_x2
  obtain ⟨cl276, Ar276, q276, S276, Ng276, Ha276, G276⟩ := vt276
  have hin276 : ¬ ((0 : Int32) < 0 ∨ cl276.slots.size ≤ ((0 : Int32)).toNatClampNeg) := inb_of S276 ⟨by decide, by decide⟩
  obtain ⟨T277, h277, X277, e277, W277, st277⟩ := stJ X275 hx hZ e275 Ar276 (j := (0 : Int32)) hin276 (g := (mkF m 75 #[rv x0, rv w_I1, iv 0] [(.long 1), (.int 0), (.ref x2)])) rfl rfl (hb hby de_75)
  have V_x2 : Arv Z h277 x2 kc1 .long (2 : Int32) [(.long 1), (.long 0)] (.long 0) := Arv.set Ar276 q276 S276 Ng276 Ha276 G276 rfl W277 0 rfl (Nat.le_of_ble_eq_true rfl)
  have E_x0 := E_x0.wr W277
  have F_x0_requests := F_x0_requests.other W277 (Or.inl ne_x0_x2)
  have F_x0_sequences := F_x0_sequences.other W277 (Or.inl ne_x0_x2)
  have F_x0_free := F_x0_free.other W277 (Or.inl ne_x0_x2)
  have F_x0_freeCount := F_x0_freeCount.other W277 (Or.inl ne_x0_x2)
  have F_x0_lastSequence := F_x0_lastSequence.other W277 (Or.inl ne_x0_x2)
  have V_x1 := V_x1.other W277 ne_x1_x2
  have V_x3 := V_x3.other W277 (Ne.symm ne_x2_x3)
  have O277 := O273.wr W277 ge_x2
  have K277 := K273.wr W277 (Or.inl (List.mem_of_getElem? (i := 2) rfl))
  have N277 := Fr.snoc X277 N273 ge_x2
  obtain ⟨T278, X278, e278, st278⟩ := getF X277 hx hZ hown (host := "") (Or.inl (own_w hw 43 rfl)) Via.refl e277 F_x0_lastSequence (g := (mkF m 77 #[rv x0, rv w_I1, iv 0] [(.ref x0)])) rfl rfl (hb hby de_77)
  have pre279 : ∀ t, oS p e below m T278 83 #[rv x0, rv w_I1, iv 0] [(.long ((1 : Int64) <<< ((20 : Int32) &&& 0x3f).toInt64))] t → oT p e below s₁ (entryFrame m #[(.ref x0), (.ref w_I1)] 3) t := by
    intro t kt
    refine pre269 t ?_
    show oS p e below m T268 56 #[rv x0, rv w_I1, iv 0] [(.long 1), (.ref x0)] _
    refine st270 _ ?_
    show oS p e below m T270 59 #[rv x0, rv w_I1, iv 0] [] _
    refine XS.aloadN X270.here hx rfl (hb hby de_59) rfl rfl ?_
    show oS p e below m T270 60 #[rv x0, rv w_I1, iv 0] [(.ref x0)] _
    refine st271 _ ?_
    show oS p e below m T271 63 #[rv x0, rv w_I1, iv 0] [(.ref x1)] _
    refine XS.iloadN X271.here hx rfl (hb hby de_63) rfl ?_
    refine XS.aloadN X271.here hx rfl (hb hby de_64) rfl rfl ?_
    show oS p e below m T271 65 #[rv x0, rv w_I1, iv 0] [(.ref w_I1), (.int 0), (.ref x1)] _
    refine st273 _ ?_
    show oS p e below m T273 66 #[rv x0, rv w_I1, iv 0] [] _
    refine XS.aloadN X273.here hx rfl (hb hby de_66) rfl rfl ?_
    show oS p e below m T273 67 #[rv x0, rv w_I1, iv 0] [(.ref x0)] _
    refine st274 _ ?_
    show oS p e below m T274 70 #[rv x0, rv w_I1, iv 0] [(.ref x2)] _
    refine XS.iloadN X274.here hx rfl (hb hby de_70) rfl ?_
    refine XS.aloadN X274.here hx rfl (hb hby de_71) rfl rfl ?_
    show oS p e below m T274 72 #[rv x0, rv w_I1, iv 0] [(.ref x0), (.int 0), (.ref x2)] _
    refine st275 _ ?_
    show oS p e below m T275 75 #[rv x0, rv w_I1, iv 0] [(.long 1), (.int 0), (.ref x2)] _
    refine st277 _ ?_
    show oS p e below m T277 76 #[rv x0, rv w_I1, iv 0] [] _
    refine XS.aloadN X277.here hx rfl (hb hby de_76) rfl rfl ?_
    show oS p e below m T277 77 #[rv x0, rv w_I1, iv 0] [(.ref x0)] _
    refine st278 _ ?_
    show oS p e below m T278 80 #[rv x0, rv w_I1, iv 0] [(.long 1)] _
    refine XS.bipush X278.here hx rfl (hb hby de_80) ?_
    refine XS.lshl X278.here hx rfl (hb hby de_82) rfl ?_
    exact kt
  rw [show ((1 : Int64) <<< ((20 : Int32) &&& 0x3f).toInt64) = (1048576 : Int64) from by decide] at pre279
  have pre280 : ∀ t, oS p e below m T278 85 #[rv x0, rv w_I1, iv 0] [(.long ((0 : Int32).toInt64)), (.long 1048576)] t → oT p e below s₁ (entryFrame m #[(.ref x0), (.ref w_I1)] 3) t := by
    intro t kt
    refine pre279 t ?_
    show oS p e below m T278 83 #[rv x0, rv w_I1, iv 0] [(.long 1048576)] _
    refine XS.iloadN X278.here hx rfl (hb hby de_83) rfl ?_
    refine XS.i2l X278.here hx rfl (hb hby de_84) rfl ?_
    exact kt
  rw [show ((0 : Int32).toInt64) = (0 : Int64) from by decide] at pre280
  have pre281 : ∀ t, oS p e below m T278 86 #[rv x0, rv w_I1, iv 0] [(.long ((1048576 : Int64) ||| (0 : Int64)))] t → oT p e below s₁ (entryFrame m #[(.ref x0), (.ref w_I1)] 3) t := by
    intro t kt
    refine pre280 t ?_
    show oS p e below m T278 85 #[rv x0, rv w_I1, iv 0] [(.long 0), (.long 1048576)] _
    refine XS.lor X278.here hx rfl (hb hby de_85) rfl ?_
    exact kt
  rw [show ((1048576 : Int64) ||| (0 : Int64)) = (1048576 : Int64) from by decide] at pre281
  obtain ⟨fs, hr, hrun, hended, hW, hsame⟩ := X278.leave (v := some (.long 1048576)) (fun h => by rw [Bd.returns] at h; cases h)
  refine ⟨_, _, pre281 _ ?_, hrun, hended, _, _, rfl, ?_, ⟨_, rfl⟩, hW, hsame.mono (by decide) (by decide)⟩
  · show oS p e below m T278 86 #[rv x0, rv w_I1, iv 0] [(.long 1048576)] _
    jvm_step X278.here [X278.here.top, hx, (hb hby de_86), X278.method', Bd.returns, narrow]
    first | (intro acts; rw [hr _ acts rfl rfl rfl]) | rw [hr _ _ rfl rfl rfl]
    exact Steps.refl _
  · show Q_rm_take_15 Z x0 x1 x2 x3 kc0 kc1 kc2 w_I1 h0 n0 _ T278.heap _
    rw [e278]
    exact ⟨rfl, N277, K277, E_x0, F_x0_requests, F_x0_sequences, F_x0_free, F_x0_freeCount, F_x0_lastSequence, V_x1, V_x2⟩
theorem ef_rm_get_17 (m : MethodId) (x0 : Addr) : entryFrame m #[(.ref x0), (.long 1048576)] 7 = mkF m 0 (oL1 x0) [] := by first | (simp [entryFrame, mkF, argsToLocals, Value.category]; done) | rfl
def Q_rm_get_17 (Z : State) (x0 : Addr) (x1 : Addr) (x2 : Addr) (kc0 : ClassId) (kc1 : ClassId) (w_I1 : Addr) (h0 : Heap) (n0 : Nat) (v : Option Value) (h : Heap) (L : List Loc) : Prop := v = some (.ref w_I1) ∧ Fr n0 L ∧ h = h0
set_option maxRecDepth 65536 in
set_option maxHeartbeats 40000000 in
theorem rm_get_17 (l : Launch) (Z : State) (a0 : Array Value) (hw : ∀ d ∈ tables_1, d.before a0 Z = true) (ws : List Jvm.Cond) (x0 : Addr) (x1 : Addr) (x2 : Addr) (kc0 : ClassId) (kc1 : ClassId) (w_I1 : Addr) (h0 : Heap) (n0 : Nat) (O0 : Old Z n0 h0) (F_x0_requests : Fld Z h0 x0 oc8 "requests" "[Ljava/lang/Object;" (.ref x1)) (F_x0_sequences : Fld Z h0 x0 oc8 "sequences" "[J" (.ref x2)) (V_x1 : Arv Z h0 x1 kc0 (.object oc9) (2 : Int32) [(.ref w_I1), .null] .null) (V_x2 : Arv Z h0 x2 kc1 .long (2 : Int32) [(.long 1), (.long 0)] (.long 0))  :
    oM l oy6 prog_29_method_5_code 7 (some (.object oc9)) ws ({ frames := 0, cells := 0, slots := 0, locals := 0 } : Room) Z #[(.ref x0), (.long 1048576)] h0 (Q_rm_get_17 Z x0 x1 x2 kc0 kc1 w_I1 h0 n0) := by
  refine MetFree.of_bodySF (plainFor_of_name pn_com_example_wend_wend_Slots) hisR ?_
  intro p e s m args below meth c s₁ Bd hml0 hP hK
  obtain ⟨rfl, hZ, hh⟩ := hP
  have hx := Bd.exec
  have hby := Bd.bytes
  have hml : c.maxLocals = 7 := hml0
  have hown : s.vm.findClass oc8 = some m.cls := findClass_of_methodNamed Bd.named
  have hnm := (name_of_methodNamed Bd.named Bd.method).1
  have X0 : Stand p l e ({ frames := 0, cells := 0, slots := 0, locals := 0 } : Room) s m #[(.ref x0), (.long 1048576)] below meth c s₁ [] 0 0 := Stand.of_body Bd
  have e0 : s₁.heap = h0 := by rw [← hh, Bd.state]; rfl
  have N0 := Fr.nil n0
  have pre0 : ∀ t, oS p e below m s₁ 0 (oL1 x0) [] t → oT p e below s₁ (entryFrame m #[(.ref x0), (.long 1048576)] 7) t := fun t k => castTop (ef_rm_get_17 m x0) k
  have K0 := Keep.refl h0 []
  have pre298 : ∀ t, oS p e below m s₁ 5 (oL1 x0) [(.long ((1048576 : Int64) &&& (1048575 : Int64)))] t → oT p e below s₁ (entryFrame m #[(.ref x0), (.long 1048576)] 7) t := by
    intro t kt
    refine pre0 t ?_
    show oS p e below m s₁ 0 (oL1 x0) [] _
    refine XS.lloadN X0.here hx rfl (hb hby df_0) rfl ?_
    show oS p e below m s₁ 1 (oL1 x0) [(.long 1048576)] _
    refine X0.ldc2Long hx hown (mvT hZ (own_w hw 57 rfl)) (g := (mkF m 1 (oL1 x0) [(.long 1048576)])) rfl (hb hby df_1) _ ?_
    show oS p e below m s₁ 4 (oL1 x0) [(.long 1048575), (.long 1048576)] _
    refine XS.land X0.here hx rfl (hb hby df_4) rfl ?_
    exact kt
  rw [show ((1048576 : Int64) &&& (1048575 : Int64)) = (0 : Int64) from by decide] at pre298
  have pre299 : ∀ t, oS p e below m s₁ 6 (oL1 x0) [(.int ((0 : Int64).toInt32))] t → oT p e below s₁ (entryFrame m #[(.ref x0), (.long 1048576)] 7) t := by
    intro t kt
    refine pre298 t ?_
    show oS p e below m s₁ 5 (oL1 x0) [(.long 0)] _
    refine XS.l2i X0.here hx rfl (hb hby df_5) rfl ?_
    exact kt
  rw [show ((0 : Int64).toInt32) = (0 : Int32) from by decide] at pre299
  have pre300 : ∀ t, oS p e below m s₁ 11 (oL4 x0) [(.long (((1048576 : Int64).toUInt64 >>> ((20 : Int32) &&& 0x3f).toInt64.toUInt64).toInt64))] t → oT p e below s₁ (entryFrame m #[(.ref x0), (.long 1048576)] 7) t := by
    intro t kt
    refine pre299 t ?_
    show oS p e below m s₁ 6 (oL1 x0) [(.int 0)] _
    refine XS.istoreN X0.here hx rfl (hb hby df_6) rfl (l' := (oL4 x0)) rfl ?_
    refine XS.lloadN X0.here hx rfl (hb hby df_7) rfl ?_
    show oS p e below m s₁ 8 (oL4 x0) [(.long 1048576)] _
    refine XS.bipush X0.here hx rfl (hb hby df_8) ?_
    refine XS.lushr X0.here hx rfl (hb hby df_10) rfl ?_
    exact kt
  rw [show (((1048576 : Int64).toUInt64 >>> ((20 : Int32) &&& 0x3f).toInt64.toUInt64).toInt64) = (1 : Int64) from by decide] at pre300
  obtain ⟨T301, X301, e301, st301⟩ := getF X0 hx hZ hown (host := "") (Or.inl (own_w hw 16 rfl)) Via.refl e0 F_x0_requests (g := (mkF m 15 (oL0 x0) [(.ref x0), (.int 0)])) rfl rfl (hb hby df_15)
  have vt302 := V_x1
  obtain ⟨cl302, Ar302, q302, S302, Ng302, Ha302, G302⟩ := vt302
  obtain ⟨T304, X304, e304, st304⟩ := getF X301 hx hZ hown (host := "") (Or.inl (own_w hw 19 rfl)) Via.refl e301 F_x0_sequences (g := (mkF m 23 (oL0 x0) [(.ref x0)])) rfl rfl (hb hby df_23)
  have vt305 := V_x2
  obtain ⟨cl305, Ar305, q305, S305, Ng305, Ha305, G305⟩ := vt305
  have hin305 : ¬ ((0 : Int32) < 0 ∨ cl305.slots.size ≤ ((0 : Int32)).toNatClampNeg) := inb_of S305 ⟨by decide, by decide⟩
  have hat305 : cl305.slots[((0 : Int32)).toNatClampNeg]? = some (.long 1) := Ha305.at hin305 rfl
  have pre306 : ∀ t, oS p e below m T304 31 (oL0 x0) [(.int (lcmpW (1 : Int64) (1 : Int64)))] t → oT p e below s₁ (entryFrame m #[(.ref x0), (.long 1048576)] 7) t := by
    intro t kt
    refine pre300 t ?_
    show oS p e below m s₁ 11 (oL4 x0) [(.long 1)] _
    refine XS.lstore X0.here hx rfl (hb hby df_11) rfl (l' := (oL0 x0)) rfl ?_
    refine XS.iloadN X0.here hx rfl (hb hby df_13) rfl ?_
    show oS p e below m s₁ 14 (oL0 x0) [(.int 0)] _
    refine XS.aloadN X0.here hx rfl (hb hby df_14) rfl rfl ?_
    show oS p e below m s₁ 15 (oL0 x0) [(.ref x0), (.int 0)] _
    refine st301 _ ?_
    show oS p e below m T301 18 (oL0 x0) [(.ref x1), (.int 0)] _
    refine X301.arraylength hx (by rw [e301]; exact Ar302.1) (State.isArrayOf_alike hZ.alike Ar302.2.1) (g := (mkF m 18 (oL0 x0) [(.ref x1), (.int 0)])) rfl rfl (hb hby df_18) _ ?_
    rw [len_of S302 Ng302]
    show oS p e below m T301 19 (oL0 x0) [(.int 2), (.int 0)] _
    refine XS.icmpNo X301.here hx rfl (hb hby df_19) rfl (tlt (by decide : (0 : Int32) < (2 : Int32))).2.1 ?_
    refine XS.aloadN X301.here hx rfl (hb hby df_22) rfl rfl ?_
    show oS p e below m T301 23 (oL0 x0) [(.ref x0)] _
    refine st304 _ ?_
    show oS p e below m T304 26 (oL0 x0) [(.ref x2)] _
    refine XS.iloadN X304.here hx rfl (hb hby df_26) rfl ?_
    show oS p e below m T304 27 (oL0 x0) [(.int 0), (.ref x2)] _
    refine X304.laload hx (j := (0 : Int32)) (v := (.long 1)) (by rw [e304]; exact Ar305.1) (State.isArrayOf_alike hZ.alike Ar305.2.1) Ar305.2.2 hin305 hat305 (g := (mkF m 27 (oL0 x0) [(.int 0), (.ref x2)])) rfl rfl (hb hby df_27) _ ?_
    show oS p e below m T304 28 (oL0 x0) [(.long 1)] _
    refine XS.lload X304.here hx rfl (hb hby df_28) rfl ?_
    refine XS.lcmp X304.here hx rfl (hb hby df_30) rfl ?_
    exact kt
  rw [show (lcmpW (1 : Int64) (1 : Int64)) = (0 : Int32) from by decide] at pre306
  obtain ⟨T309, X309, e309, st309⟩ := getF X304 hx hZ hown (host := "") (Or.inl (own_w hw 16 rfl)) Via.refl e304 F_x0_requests (g := (mkF m 47 (oL5 x0) [(.ref x0)])) rfl rfl (hb hby df_47)
  have vt310 := V_x1
  obtain ⟨cl310, Ar310, q310, S310, Ng310, Ha310, G310⟩ := vt310
  have hin310 : ¬ ((0 : Int32) < 0 ∨ cl310.slots.size ≤ ((0 : Int32)).toNatClampNeg) := inb_of S310 ⟨by decide, by decide⟩
  have hat310 : cl310.slots[((0 : Int32)).toNatClampNeg]? = some (.ref w_I1) := Ha310.at hin310 rfl
  have pre311 : ∀ t, oS p e below m T309 56 (oL5 x0) [(.ref w_I1)] t → oT p e below s₁ (entryFrame m #[(.ref x0), (.long 1048576)] 7) t := by
    intro t kt
    refine pre306 t ?_
    show oS p e below m T304 31 (oL0 x0) [(.int 0)] _
    refine XS.ifNo X304.here hx rfl (hb hby df_31) rfl ((if0 _ _).trans (teq (by decide : (0 : Int32) = (0 : Int32))).2) ?_
    refine XS.iconst X304.here hx rfl (hb hby df_34) ?_
    show oS p e below m T304 35 (oL0 x0) [(.int 1)] _
    refine XS.goto X304.here hx rfl (pc0 := 35) (pc' := 39) rfl (hb hby df_35) (by decide) (by decide) ?_
    refine XS.istore X304.here hx rfl (hb hby df_39) rfl (l' := (oL5 x0)) rfl ?_
    show oS p e below m T304 41 (oL5 x0) [] _
    refine XS.iload X304.here hx rfl (hb hby df_41) rfl ?_
    refine XS.ifNo X304.here hx rfl (hb hby df_43) rfl ((if0 _ _).trans (feq (by decide : ¬ ((1 : Int32) = (0 : Int32)))).1) ?_
    show oS p e below m T304 46 (oL5 x0) [] _
    refine XS.aloadN X304.here hx rfl (hb hby df_46) rfl rfl ?_
    show oS p e below m T304 47 (oL5 x0) [(.ref x0)] _
    refine st309 _ ?_
    show oS p e below m T309 50 (oL5 x0) [(.ref x1)] _
    refine XS.iloadN X309.here hx rfl (hb hby df_50) rfl ?_
    show oS p e below m T309 51 (oL5 x0) [(.int 0), (.ref x1)] _
    refine X309.aaload hx (j := (0 : Int32)) (v := (.ref w_I1)) (by rw [e309]; exact Ar310.1) (State.isArrayOf_alike hZ.alike Ar310.2.1) rfl Ar310.2.2 hin310 hat310 (g := (mkF m 51 (oL5 x0) [(.int 0), (.ref x1)])) rfl rfl (hb hby df_51) _ ?_
    show oS p e below m T309 52 (oL5 x0) [(.ref w_I1)] _
    refine XS.goto X309.here hx rfl (pc0 := 52) (pc' := 56) rfl (hb hby df_52) (by decide) (by decide) ?_
    exact kt
  obtain ⟨fs, hr, hrun, hended, hW, hsame⟩ := X309.leave (v := some (.ref w_I1)) (fun h => by rw [Bd.returns] at h; cases h)
  refine ⟨_, _, pre311 _ ?_, hrun, hended, _, _, rfl, ?_, ⟨_, rfl⟩, hW, hsame.mono (by decide) (by decide)⟩
  · show oS p e below m T309 56 (oL5 x0) [(.ref w_I1)] _
    jvm_step X309.here [X309.here.top, hx, (hb hby df_56), X309.method', Bd.returns, Value.isRef, FieldType.isReference]
    first | (intro acts; rw [hr _ acts rfl rfl rfl]) | rw [hr _ _ rfl rfl rfl]
    exact Steps.refl _
  · show Q_rm_get_17 Z x0 x1 x2 kc0 kc1 w_I1 h0 n0 _ T309.heap _
    rw [e309]
    exact ⟨rfl, N0, rfl⟩
theorem ef_rm_free_18 (m : MethodId) (x0 : Addr) : entryFrame m #[(.ref x0), (.int 0)] 2 = mkF m 0 #[rv x0, iv 0] [] := by first | (simp [entryFrame, mkF, argsToLocals, Value.category]; done) | rfl
def Q_rm_free_18 (Z : State) (x0 : Addr) (x1 : Addr) (x2 : Addr) (x3 : Addr) (kc0 : ClassId) (kc1 : ClassId) (kc2 : ClassId) (w_I1 : Addr) (h0 : Heap) (n0 : Nat) (v : Option Value) (h : Heap) (L : List Loc) : Prop := v = none ∧ Fr n0 L ∧ Keep h0 h [x1, x2, x0, x3] ∧ Arv Z h x1 kc0 (.object oc9) (2 : Int32) [.null, .null] .null ∧ Arv Z h x2 kc1 .long (2 : Int32) [(.long 0), (.long 0)] (.long 0) ∧ Exa Z h x0 oc8 ∧ Fld Z h x0 oc8 "requests" "[Ljava/lang/Object;" (.ref x1) ∧ Fld Z h x0 oc8 "sequences" "[J" (.ref x2) ∧ Fld Z h x0 oc8 "free" "[I" (.ref x3) ∧ Fld Z h x0 oc8 "freeCount" "I" (.int 2) ∧ Fld Z h x0 oc8 "lastSequence" "J" (.long 1) ∧ Arv Z h x3 kc2 .int (2 : Int32) [(.int 1), (.int 0)] (.int 0)
set_option maxRecDepth 65536 in
set_option maxHeartbeats 40000000 in
theorem rm_free_18 (l : Launch) (Z : State) (a0 : Array Value) (hw : ∀ d ∈ tables_1, d.before a0 Z = true) (ws : List Jvm.Cond) (x0 : Addr) (x1 : Addr) (x2 : Addr) (x3 : Addr) (kc0 : ClassId) (kc1 : ClassId) (kc2 : ClassId) (w_I1 : Addr) (h0 : Heap) (n0 : Nat) (O0 : Old Z n0 h0) (E_x0 : Exa Z h0 x0 oc8) (F_x0_requests : Fld Z h0 x0 oc8 "requests" "[Ljava/lang/Object;" (.ref x1)) (F_x0_sequences : Fld Z h0 x0 oc8 "sequences" "[J" (.ref x2)) (F_x0_free : Fld Z h0 x0 oc8 "free" "[I" (.ref x3)) (F_x0_freeCount : Fld Z h0 x0 oc8 "freeCount" "I" (.int 1)) (F_x0_lastSequence : Fld Z h0 x0 oc8 "lastSequence" "J" (.long 1)) (ge_x0 : n0 ≤ x0) (O_x1 : Ovr Z kc0 oc9) (V_x1 : Arv Z h0 x1 kc0 (.object oc9) (2 : Int32) [(.ref w_I1), .null] .null) (ge_x1 : n0 ≤ x1) (V_x2 : Arv Z h0 x2 kc1 .long (2 : Int32) [(.long 1), (.long 0)] (.long 0)) (ge_x2 : n0 ≤ x2) (V_x3 : Arv Z h0 x3 kc2 .int (2 : Int32) [(.int 1), (.int 0)] (.int 0)) (ge_x3 : n0 ≤ x3) (ne_x0_x1 : x0 ≠ x1) (ne_x0_x2 : x0 ≠ x2) (ne_x0_x3 : x0 ≠ x3) (ne_x1_x2 : x1 ≠ x2) (ne_x1_x3 : x1 ≠ x3) (ne_x2_x3 : x2 ≠ x3)  :
    oM l oy7 prog_29_method_8_code 2 none ws ({ frames := 0, cells := 0, slots := 0, locals := 0 } : Room) Z #[(.ref x0), (.int 0)] h0 (Q_rm_free_18 Z x0 x1 x2 x3 kc0 kc1 kc2 w_I1 h0 n0) := by
  refine MetFree.of_bodySF (plainFor_of_name pn_com_example_wend_wend_Slots) hisR ?_
  intro p e s m args below meth c s₁ Bd hml0 hP hK
  obtain ⟨rfl, hZ, hh⟩ := hP
  have hx := Bd.exec
  have hby := Bd.bytes
  have hml : c.maxLocals = 2 := hml0
  have hown : s.vm.findClass oc8 = some m.cls := findClass_of_methodNamed Bd.named
  have hnm := (name_of_methodNamed Bd.named Bd.method).1
  have X0 : Stand p l e ({ frames := 0, cells := 0, slots := 0, locals := 0 } : Room) s m #[(.ref x0), (.int 0)] below meth c s₁ [] 0 0 := Stand.of_body Bd
  have e0 : s₁.heap = h0 := by rw [← hh, Bd.state]; rfl
  have N0 := Fr.nil n0
  have pre0 : ∀ t, oS p e below m s₁ 0 #[rv x0, iv 0] [] t → oT p e below s₁ (entryFrame m #[(.ref x0), (.int 0)] 2) t := fun t k => castTop (ef_rm_free_18 m x0) k
  have K0 := Keep.refl h0 [x1, x2, x0, x3]
  obtain ⟨T315, X315, e315, st315⟩ := getF X0 hx hZ hown (host := "") (Or.inl (own_w hw 16 rfl)) Via.refl e0 F_x0_requests (g := (mkF m 1 #[rv x0, iv 0] [(.ref x0)])) rfl rfl (hb hby dh_1)
  have vt316 := V_x1
  obtain ⟨cl316, Ar316, q316, S316, Ng316, Ha316, G316⟩ := vt316
  have hin316 : ¬ ((0 : Int32) < 0 ∨ cl316.slots.size ≤ ((0 : Int32)).toNatClampNeg) := inb_of S316 ⟨by decide, by decide⟩
  obtain ⟨T317, h317, X317, e317, W317, st317⟩ := stR X315 hx hZ e315 Ar316 (j := (0 : Int32)) hin316 rfl (Or.inl rfl) (g := (mkF m 6 #[rv x0, iv 0] [.null, (.int 0), (.ref x1)])) rfl rfl (hb hby dh_6)
  have V_x1 : Arv Z h317 x1 kc0 (.object oc9) (2 : Int32) [.null, .null] .null := Arv.set Ar316 q316 S316 Ng316 Ha316 G316 rfl W317 0 rfl (Nat.le_of_ble_eq_true rfl)
  have E_x0 := E_x0.wr W317
  have F_x0_requests := F_x0_requests.other W317 (Or.inl ne_x0_x1)
  have F_x0_sequences := F_x0_sequences.other W317 (Or.inl ne_x0_x1)
  have F_x0_free := F_x0_free.other W317 (Or.inl ne_x0_x1)
  have F_x0_freeCount := F_x0_freeCount.other W317 (Or.inl ne_x0_x1)
  have F_x0_lastSequence := F_x0_lastSequence.other W317 (Or.inl ne_x0_x1)
  have V_x2 := V_x2.other W317 (Ne.symm ne_x1_x2)
  have V_x3 := V_x3.other W317 (Ne.symm ne_x1_x3)
  have O317 := O0.wr W317 ge_x1
  have K317 := K0.wr W317 (Or.inl (List.mem_of_getElem? (i := 0) rfl))
  have N317 := Fr.snoc X317 N0 ge_x1
  obtain ⟨T318, X318, e318, st318⟩ := getF X317 hx hZ hown (host := "") (Or.inl (own_w hw 19 rfl)) Via.refl e317 F_x0_sequences (g := (mkF m 8 #[rv x0, iv 0] [(.ref x0)])) rfl rfl (hb hby dh_8)
  have vt319 := V_x2
  obtain ⟨cl319, Ar319, q319, S319, Ng319, Ha319, G319⟩ := vt319
  have hin319 : ¬ ((0 : Int32) < 0 ∨ cl319.slots.size ≤ ((0 : Int32)).toNatClampNeg) := inb_of S319 ⟨by decide, by decide⟩
  obtain ⟨T320, h320, X320, e320, W320, st320⟩ := stJ X318 hx hZ e318 Ar319 (j := (0 : Int32)) hin319 (g := (mkF m 13 #[rv x0, iv 0] [(.long 0), (.int 0), (.ref x2)])) rfl rfl (hb hby dh_13)
  have V_x2 : Arv Z h320 x2 kc1 .long (2 : Int32) [(.long 0), (.long 0)] (.long 0) := Arv.set Ar319 q319 S319 Ng319 Ha319 G319 rfl W320 0 rfl (Nat.le_of_ble_eq_true rfl)
  have E_x0 := E_x0.wr W320
  have F_x0_requests := F_x0_requests.other W320 (Or.inl ne_x0_x2)
  have F_x0_sequences := F_x0_sequences.other W320 (Or.inl ne_x0_x2)
  have F_x0_free := F_x0_free.other W320 (Or.inl ne_x0_x2)
  have F_x0_freeCount := F_x0_freeCount.other W320 (Or.inl ne_x0_x2)
  have F_x0_lastSequence := F_x0_lastSequence.other W320 (Or.inl ne_x0_x2)
  have V_x1 := V_x1.other W320 ne_x1_x2
  have V_x3 := V_x3.other W320 (Ne.symm ne_x2_x3)
  have O320 := O317.wr W320 ge_x2
  have K320 := K317.wr W320 (Or.inl (List.mem_of_getElem? (i := 1) rfl))
  have N320 := Fr.snoc X320 N317 ge_x2
  obtain ⟨T321, X321, e321, st321⟩ := getF X320 hx hZ hown (host := "") (Or.inl (own_w hw 22 rfl)) Via.refl e320 F_x0_free (g := (mkF m 15 #[rv x0, iv 0] [(.ref x0)])) rfl rfl (hb hby dh_15)
  obtain ⟨T322, X322, e322, st322⟩ := getF X321 hx hZ hown (host := "") (Or.inl (own_w hw 24 rfl)) Via.refl e321 F_x0_freeCount (g := (mkF m 20 #[rv x0, iv 0] [(.ref x0), (.ref x0), (.ref x3)])) rfl rfl (hb hby dh_20)
  have pre323 : ∀ t, oS p e below m T322 26 #[rv x0, iv 0] [(.int ((1 : Int32) + (1 : Int32))), (.ref x0), (.int 1), (.ref x3)] t → oT p e below s₁ (entryFrame m #[(.ref x0), (.int 0)] 2) t := by
    intro t kt
    refine pre0 t ?_
    show oS p e below m s₁ 0 #[rv x0, iv 0] [] _
    refine XS.aloadN X0.here hx rfl (hb hby dh_0) rfl rfl ?_
    show oS p e below m s₁ 1 #[rv x0, iv 0] [(.ref x0)] _
    refine st315 _ ?_
    show oS p e below m T315 4 #[rv x0, iv 0] [(.ref x1)] _
    refine XS.iloadN X315.here hx rfl (hb hby dh_4) rfl ?_
    refine XS.aconstNull X315.here hx rfl (hb hby dh_5) ?_
    show oS p e below m T315 6 #[rv x0, iv 0] [.null, (.int 0), (.ref x1)] _
    refine st317 _ ?_
    show oS p e below m T317 7 #[rv x0, iv 0] [] _
    refine XS.aloadN X317.here hx rfl (hb hby dh_7) rfl rfl ?_
    show oS p e below m T317 8 #[rv x0, iv 0] [(.ref x0)] _
    refine st318 _ ?_
    show oS p e below m T318 11 #[rv x0, iv 0] [(.ref x2)] _
    refine XS.iloadN X318.here hx rfl (hb hby dh_11) rfl ?_
    refine XS.lconst X318.here hx rfl (hb hby dh_12) ?_
    show oS p e below m T318 13 #[rv x0, iv 0] [(.long 0), (.int 0), (.ref x2)] _
    refine st320 _ ?_
    show oS p e below m T320 14 #[rv x0, iv 0] [] _
    refine XS.aloadN X320.here hx rfl (hb hby dh_14) rfl rfl ?_
    show oS p e below m T320 15 #[rv x0, iv 0] [(.ref x0)] _
    refine st321 _ ?_
    show oS p e below m T321 18 #[rv x0, iv 0] [(.ref x3)] _
    refine XS.aloadN X321.here hx rfl (hb hby dh_18) rfl rfl ?_
    refine XS.dup X321.here hx rfl (hb hby dh_19) rfl rfl ?_
    show oS p e below m T321 20 #[rv x0, iv 0] [(.ref x0), (.ref x0), (.ref x3)] _
    refine st322 _ ?_
    show oS p e below m T322 23 #[rv x0, iv 0] [(.int 1), (.ref x0), (.ref x3)] _
    refine XS.dupX1 X322.here hx rfl (hb hby dh_23) rfl rfl rfl ?_
    refine XS.iconst X322.here hx rfl (hb hby dh_24) ?_
    show oS p e below m T322 25 #[rv x0, iv 0] [(.int 1), (.int 1), (.ref x0), (.int 1), (.ref x3)] _
    refine XS.iadd X322.here hx rfl (hb hby dh_25) rfl ?_
    exact kt
  rw [show ((1 : Int32) + (1 : Int32)) = (2 : Int32) from by decide] at pre323
  obtain ⟨T324, h324, X324, e324, W324, st324⟩ := putF X322 hx hZ hown (host := "") (Or.inl (own_w hw 24 rfl)) Via.refl e322 F_x0_freeCount E_x0 (Or.inl (own_w hw 25 rfl)) (own_w hw 5 rfl) (ty := .int) (by decide) rfl rfl (g := (mkF m 26 #[rv x0, iv 0] [(.int 2), (.ref x0), (.int 1), (.ref x3)])) rfl rfl (hb hby dh_26)
  have F_x0_freeCount := F_x0_freeCount.same W324
  have E_x0 := E_x0.wr W324
  have F_x0_requests := F_x0_requests.other W324 (Or.inr (osn_Slots_requests_freeCount hw))
  have F_x0_sequences := F_x0_sequences.other W324 (Or.inr (osn_Slots_sequences_freeCount hw))
  have F_x0_free := F_x0_free.other W324 (Or.inr (osn_Slots_free_freeCount hw))
  have F_x0_lastSequence := F_x0_lastSequence.other W324 (Or.inr (osn_Slots_lastSequence_freeCount hw))
  have V_x1 := V_x1.other W324 (Ne.symm ne_x0_x1)
  have V_x2 := V_x2.other W324 (Ne.symm ne_x0_x2)
  have V_x3 := V_x3.other W324 (Ne.symm ne_x0_x3)
  have O324 := O320.wr W324 ge_x0
  have K324 := K320.wr W324 (Or.inl (List.mem_of_getElem? (i := 2) rfl))
  have N324 := Fr.snoc X324 N320 ge_x0
  have vt325 := V_x3
  obtain ⟨cl325, Ar325, q325, S325, Ng325, Ha325, G325⟩ := vt325
  have hin325 : ¬ ((1 : Int32) < 0 ∨ cl325.slots.size ≤ ((1 : Int32)).toNatClampNeg) := inb_of S325 ⟨by decide, by decide⟩
  obtain ⟨T326, h326, X326, e326, W326, st326⟩ := stI X324 hx hZ e324 Ar325 (j := (1 : Int32)) hin325 (g := (mkF m 30 #[rv x0, iv 0] [(.int 0), (.int 1), (.ref x3)])) rfl rfl (hb hby dh_30)
  have V_x3 : Arv Z h326 x3 kc2 .int (2 : Int32) [(.int 1), (.int 0)] (.int 0) := Arv.set Ar325 q325 S325 Ng325 Ha325 G325 rfl W326 1 rfl (Nat.le_of_ble_eq_true rfl)
  have E_x0 := E_x0.wr W326
  have F_x0_requests := F_x0_requests.other W326 (Or.inl ne_x0_x3)
  have F_x0_sequences := F_x0_sequences.other W326 (Or.inl ne_x0_x3)
  have F_x0_free := F_x0_free.other W326 (Or.inl ne_x0_x3)
  have F_x0_freeCount := F_x0_freeCount.other W326 (Or.inl ne_x0_x3)
  have F_x0_lastSequence := F_x0_lastSequence.other W326 (Or.inl ne_x0_x3)
  have V_x1 := V_x1.other W326 ne_x1_x3
  have V_x2 := V_x2.other W326 ne_x2_x3
  have O326 := O324.wr W326 ge_x3
  have K326 := K324.wr W326 (Or.inl (List.mem_of_getElem? (i := 3) rfl))
  have N326 := Fr.snoc X326 N324 ge_x3
  have pre327 : ∀ t, oS p e below m T326 31 #[rv x0, iv 0] [] t → oT p e below s₁ (entryFrame m #[(.ref x0), (.int 0)] 2) t := by
    intro t kt
    refine pre323 t ?_
    show oS p e below m T322 26 #[rv x0, iv 0] [(.int 2), (.ref x0), (.int 1), (.ref x3)] _
    refine st324 _ ?_
    show oS p e below m T324 29 #[rv x0, iv 0] [(.int 1), (.ref x3)] _
    refine XS.iloadN X324.here hx rfl (hb hby dh_29) rfl ?_
    show oS p e below m T324 30 #[rv x0, iv 0] [(.int 0), (.int 1), (.ref x3)] _
    refine st326 _ ?_
    exact kt
  obtain ⟨fs, hr, hrun, hended, hW, hsame⟩ := X326.leave (v := none) (fun _ => rfl)
  refine ⟨_, _, pre327 _ ?_, hrun, hended, _, _, rfl, ?_, ⟨_, rfl⟩, hW, hsame.mono (by decide) (by decide)⟩
  · show oS p e below m T326 31 #[rv x0, iv 0] [] _
    exact X326.returnOut hx Bd.returns (hb hby dh_31) hr
  · show Q_rm_free_18 Z x0 x1 x2 x3 kc0 kc1 kc2 w_I1 h0 n0 _ T326.heap _
    rw [e326]
    exact ⟨rfl, N326, K326, V_x1, V_x2, E_x0, F_x0_requests, F_x0_sequences, F_x0_free, F_x0_freeCount, F_x0_lastSequence, V_x3⟩
theorem ef_rm_release_16 (m : MethodId) (x0 : Addr) : entryFrame m #[(.ref x0), (.long 1048576)] 4 = mkF m 0 (oL3 x0) [] := by first | (simp [entryFrame, mkF, argsToLocals, Value.category]; done) | rfl
def Q_rm_release_16 (Z : State) (x0 : Addr) (x1 : Addr) (x2 : Addr) (x3 : Addr) (kc0 : ClassId) (kc1 : ClassId) (kc2 : ClassId) (w_I1 : Addr) (h0 : Heap) (n0 : Nat) (v : Option Value) (h : Heap) (L : List Loc) : Prop := v = some (.ref w_I1) ∧ Fr n0 L ∧ Keep h0 h [x3, x0, x2, x1] ∧ Arv Z h x3 kc2 .int (2 : Int32) [(.int 1), (.int 0)] (.int 0) ∧ Exa Z h x0 oc8 ∧ Fld Z h x0 oc8 "requests" "[Ljava/lang/Object;" (.ref x1) ∧ Fld Z h x0 oc8 "sequences" "[J" (.ref x2) ∧ Fld Z h x0 oc8 "free" "[I" (.ref x3) ∧ Fld Z h x0 oc8 "freeCount" "I" (.int 2) ∧ Fld Z h x0 oc8 "lastSequence" "J" (.long 1) ∧ Arv Z h x2 kc1 .long (2 : Int32) [(.long 0), (.long 0)] (.long 0) ∧ Arv Z h x1 kc0 (.object oc9) (2 : Int32) [.null, .null] .null
set_option maxRecDepth 65536 in
set_option maxHeartbeats 40000000 in
theorem rm_release_16 (l : Launch) (Z : State) (a0 : Array Value) (hw : ∀ d ∈ tables_1, d.before a0 Z = true) (ws : List Jvm.Cond) (x0 : Addr) (x1 : Addr) (x2 : Addr) (x3 : Addr) (kc0 : ClassId) (kc1 : ClassId) (kc2 : ClassId) (w_I1 : Addr) (h0 : Heap) (n0 : Nat) (O0 : Old Z n0 h0) (E_x0 : Exa Z h0 x0 oc8) (F_x0_requests : Fld Z h0 x0 oc8 "requests" "[Ljava/lang/Object;" (.ref x1)) (F_x0_sequences : Fld Z h0 x0 oc8 "sequences" "[J" (.ref x2)) (F_x0_free : Fld Z h0 x0 oc8 "free" "[I" (.ref x3)) (F_x0_freeCount : Fld Z h0 x0 oc8 "freeCount" "I" (.int 1)) (F_x0_lastSequence : Fld Z h0 x0 oc8 "lastSequence" "J" (.long 1)) (ge_x0 : n0 ≤ x0) (O_x1 : Ovr Z kc0 oc9) (V_x1 : Arv Z h0 x1 kc0 (.object oc9) (2 : Int32) [(.ref w_I1), .null] .null) (ge_x1 : n0 ≤ x1) (V_x2 : Arv Z h0 x2 kc1 .long (2 : Int32) [(.long 1), (.long 0)] (.long 0)) (ge_x2 : n0 ≤ x2) (V_x3 : Arv Z h0 x3 kc2 .int (2 : Int32) [(.int 1), (.int 0)] (.int 0)) (ge_x3 : n0 ≤ x3) (ne_x0_x1 : x0 ≠ x1) (ne_x0_x2 : x0 ≠ x2) (ne_x0_x3 : x0 ≠ x3) (ne_x1_x2 : x1 ≠ x2) (ne_x1_x3 : x1 ≠ x3) (ne_x2_x3 : x2 ≠ x3)  :
    oM l oy5 prog_29_method_6_code 4 (some (.object oc9)) ws ({ frames := 1, cells := 0, slots := 0, locals := 18 } : Room) Z #[(.ref x0), (.long 1048576)] h0 (Q_rm_release_16 Z x0 x1 x2 x3 kc0 kc1 kc2 w_I1 h0 n0) := by
  refine MetFree.of_bodySF (plainFor_of_name pn_com_example_wend_wend_Slots) hisR ?_
  intro p e s m args below meth c s₁ Bd hml0 hP hK
  obtain ⟨rfl, hZ, hh⟩ := hP
  have hx := Bd.exec
  have hby := Bd.bytes
  have hml : c.maxLocals = 4 := hml0
  have hown : s.vm.findClass oc8 = some m.cls := findClass_of_methodNamed Bd.named
  have hnm := (name_of_methodNamed Bd.named Bd.method).1
  have X0 : Stand p l e ({ frames := 1, cells := 0, slots := 0, locals := 18 } : Room) s m #[(.ref x0), (.long 1048576)] below meth c s₁ [] 0 0 := Stand.of_body Bd
  have e0 : s₁.heap = h0 := by rw [← hh, Bd.state]; rfl
  have N0 := Fr.nil n0
  have pre0 : ∀ t, oS p e below m s₁ 0 (oL3 x0) [] t → oT p e below s₁ (entryFrame m #[(.ref x0), (.long 1048576)] 4) t := fun t k => castTop (ef_rm_release_16 m x0) k
  have K0 := Keep.refl h0 [x3, x0, x2, x1]
  obtain ⟨cq297, kq297, q297a, q297b, q297c⟩ := isOf hZ e0 E_x0
  obtain ⟨_, _, ⟨T297, L297, k297, n297⟩, -, X297, ⟨Lc297, hQ297, l297, y297, z297⟩, st297⟩ := X0.virtualBack hx (y := oy6) (z := oy6) hown (mvT hZ (own_w hw 52 rfl)) (mvT hZ (own_w hw 53 rfl)) (notFace_of_selects (args := #[]) (mvT hZ (own_w hw 55 rfl))) (mvT hZ (own_w hw 55 rfl)) (mvT hZ (own_w hw 54 rfl)) (by decide) (backOf (W := 0) (rm_get_17 l Z a0 hw [] x0 x1 x2 kc0 kc1 w_I1 h0 n0 O0 F_x0_requests F_x0_sequences V_x1 V_x2 ) hZ (own_w hw 56 rfl) (own_w hw 6 rfl) (by decide) (by decide)) q297a q297c (g := (mkF m 2 (oL3 x0) [(.long 1048576), (.ref x0)])) rfl (by rw [hml]; rfl) (Steps.refl _) (argsL := [(.long 1048576)]) (rest := []) (lenOf pd__J_Ljava_lang_Object_ rfl) rfl (by show 2 * 0 + _ ≤ _; exact Nat.le_of_eq rfl) (hb hby dg_2) (fun _ _ => ⟨rfl, e0, (by decide : 0 + 0 ≤ _), (by decide : 0 + 0 ≤ _)⟩)
  dsimp only [Pt.U, Pt.locs, Pt.cells, Pt.slots] at X297 l297 y297 z297 st297 hQ297
  subst l297 y297 z297
  obtain ⟨rfl, N297q, e297⟩ := hQ297
  have N297 := Fr.app N0 N297q
  have pre312 : ∀ t, oS p e below m T297 16 (oL2 x0 w_I1) [(.long ((1048576 : Int64) &&& (1048575 : Int64))), (.ref x0)] t → oT p e below s₁ (entryFrame m #[(.ref x0), (.long 1048576)] 4) t := by
    intro t kt
    refine pre0 t ?_
    show oS p e below m s₁ 0 (oL3 x0) [] _
    refine XS.aloadN X0.here hx rfl (hb hby dg_0) rfl rfl ?_
    refine XS.lloadN X0.here hx rfl (hb hby dg_1) rfl ?_
    show oS p e below m s₁ 2 (oL3 x0) [(.long 1048576), (.ref x0)] _
    refine st297.trans ?_
    show oS p e below m T297 5 (oL3 x0) [(.ref w_I1)] _
    refine XS.astoreN X297.here hx rfl (hb hby dg_5) rfl rfl (l' := (oL2 x0 w_I1)) rfl ?_
    refine XS.aloadN X297.here hx rfl (hb hby dg_6) rfl rfl ?_
    show oS p e below m T297 7 (oL2 x0 w_I1) [(.ref w_I1)] _
    refine XS.ifnullNo X297.here hx rfl (hb hby dg_7) rfl ?_
    refine XS.aloadN X297.here hx rfl (hb hby dg_10) rfl rfl ?_
    show oS p e below m T297 11 (oL2 x0 w_I1) [(.ref x0)] _
    refine XS.lloadN X297.here hx rfl (hb hby dg_11) rfl ?_
    show oS p e below m T297 12 (oL2 x0 w_I1) [(.long 1048576), (.ref x0)] _
    refine X297.ldc2Long hx hown (mvT hZ (own_w hw 57 rfl)) (g := (mkF m 12 (oL2 x0 w_I1) [(.long 1048576), (.ref x0)])) rfl (hb hby dg_12) _ ?_
    show oS p e below m T297 15 (oL2 x0 w_I1) [(.long 1048575), (.long 1048576), (.ref x0)] _
    refine XS.land X297.here hx rfl (hb hby dg_15) rfl ?_
    exact kt
  rw [show ((1048576 : Int64) &&& (1048575 : Int64)) = (0 : Int64) from by decide] at pre312
  have pre313 : ∀ t, oS p e below m T297 17 (oL2 x0 w_I1) [(.int ((0 : Int64).toInt32)), (.ref x0)] t → oT p e below s₁ (entryFrame m #[(.ref x0), (.long 1048576)] 4) t := by
    intro t kt
    refine pre312 t ?_
    show oS p e below m T297 16 (oL2 x0 w_I1) [(.long 0), (.ref x0)] _
    refine XS.l2i X297.here hx rfl (hb hby dg_16) rfl ?_
    exact kt
  rw [show ((0 : Int64).toInt32) = (0 : Int32) from by decide] at pre313
  obtain ⟨cq314, q314, q314'⟩ := E_x0.cell
  obtain ⟨_, _, ⟨T314, L314, k314, n314⟩, -, X314, ⟨Lc314, hQ314, l314, y314, z314⟩, st314⟩ := X297.privateBack hx (y := oy7) hown (mvT hZ (own_w hw 58 rfl)) (mvT hZ (own_w hw 59 rfl)) (own_priv hZ (own_w hw 59 rfl) (own_w hw 60 rfl) (own_w hw 5 rfl) (by decide)) (Cond.privateMethod_at (mvP hZ (own_w hw 60 rfl) (args := #[]))) (mvT hZ (own_w hw 61 rfl)) (by decide) (backOf (W := 0) (rm_free_18 l Z a0 hw [] x0 x1 x2 x3 kc0 kc1 kc2 w_I1 h0 n0 O0 E_x0 F_x0_requests F_x0_sequences F_x0_free F_x0_freeCount F_x0_lastSequence ge_x0 O_x1 V_x1 ge_x1 V_x2 ge_x2 V_x3 ge_x3 ne_x0_x1 ne_x0_x2 ne_x0_x3 ne_x1_x2 ne_x1_x3 ne_x2_x3 ) hZ (own_w hw 61 rfl) (own_w hw 6 rfl) (by decide) (by decide)) (g := (mkF m 17 (oL2 x0 w_I1) [(.int 0), (.ref x0)])) rfl (by rw [hml]; rfl) (Steps.refl _) (a := x0) (by rw [e297]; exact q314) q314' (argsL := [(.int 0)]) (rest := []) (lenOf pd__I_V rfl) rfl (by show 2 * 0 + _ ≤ _; exact Nat.le_of_eq rfl) (hb hby dg_17) (fun _ _ => ⟨rfl, e297, (by decide : 0 + 0 ≤ _), (by decide : 0 + 0 ≤ _)⟩)
  dsimp only [Pt.U, Pt.locs, Pt.cells, Pt.slots] at X314 l314 y314 z314 st314 hQ314
  subst l314 y314 z314
  obtain ⟨rfl, N314q, Kc314, u314_0, u314_1, u314_2, u314_3, u314_4, u314_5, u314_6, u314_7, u314_8⟩ := hQ314
  have N314 := Fr.app N297 N314q
  have O314 := O0.keep Kc314 (allS ge_x1 (allS ge_x2 (allS ge_x0 (allS ge_x3 all0))))
  have K314 := K0.trans Kc314 (allS (Or.inl (List.mem_of_getElem? (i := 3) rfl)) (allS (Or.inl (List.mem_of_getElem? (i := 2) rfl)) (allS (Or.inl (List.mem_of_getElem? (i := 1) rfl)) (allS (Or.inl (List.mem_of_getElem? (i := 0) rfl)) all0))))
  have pre328 : ∀ t, oS p e below m T314 21 (oL2 x0 w_I1) [(.ref w_I1)] t → oT p e below s₁ (entryFrame m #[(.ref x0), (.long 1048576)] 4) t := by
    intro t kt
    refine pre313 t ?_
    show oS p e below m T297 17 (oL2 x0 w_I1) [(.int 0), (.ref x0)] _
    refine st314.trans ?_
    show oS p e below m T314 20 (oL2 x0 w_I1) [] _
    refine XS.aloadN X314.here hx rfl (hb hby dg_20) rfl rfl ?_
    exact kt
  obtain ⟨fs, hr, hrun, hended, hW, hsame⟩ := X314.leave (v := some (.ref w_I1)) (fun h => by rw [Bd.returns] at h; cases h)
  refine ⟨_, _, pre328 _ ?_, hrun, hended, _, _, rfl, ?_, ⟨_, rfl⟩, hW, hsame.mono (by decide) (by decide)⟩
  · show oS p e below m T314 21 (oL2 x0 w_I1) [(.ref w_I1)] _
    jvm_step X314.here [X314.here.top, hx, (hb hby dg_21), X314.method', Bd.returns, Value.isRef, FieldType.isReference]
    first | (intro acts; rw [hr _ acts rfl rfl rfl]) | rw [hr _ _ rfl rfl rfl]
    exact Steps.refl _
  · show Q_rm_release_16 Z x0 x1 x2 x3 kc0 kc1 kc2 w_I1 h0 n0 _ T314.heap _
    exact ⟨rfl, N314, K314, u314_8, u314_2, u314_3, u314_4, u314_5, u314_6, u314_7, u314_1, u314_0⟩
theorem ef_rm_take_19 (m : MethodId) (x0 : Addr) (w_I4 : Addr) : entryFrame m #[(.ref x0), (.ref w_I4)] 3 = mkF m 0 #[rv x0, rv w_I4, .unset] [] := by first | (simp [entryFrame, mkF, argsToLocals, Value.category]; done) | rfl
def Q_rm_take_19 (Z : State) (x0 : Addr) (x1 : Addr) (x2 : Addr) (x3 : Addr) (kc0 : ClassId) (kc1 : ClassId) (kc2 : ClassId) (w_I4 : Addr) (h0 : Heap) (n0 : Nat) (v : Option Value) (h : Heap) (L : List Loc) : Prop := v = some (.long 2097152) ∧ Fr n0 L ∧ Keep h0 h [x0, x1, x2] ∧ Exa Z h x0 oc8 ∧ Fld Z h x0 oc8 "requests" "[Ljava/lang/Object;" (.ref x1) ∧ Fld Z h x0 oc8 "sequences" "[J" (.ref x2) ∧ Fld Z h x0 oc8 "free" "[I" (.ref x3) ∧ Fld Z h x0 oc8 "freeCount" "I" (.int 1) ∧ Fld Z h x0 oc8 "lastSequence" "J" (.long 2) ∧ Arv Z h x1 kc0 (.object oc9) (2 : Int32) [(.ref w_I4), .null] .null ∧ Arv Z h x2 kc1 .long (2 : Int32) [(.long 2), (.long 0)] (.long 0)
set_option maxRecDepth 65536 in
set_option maxHeartbeats 40000000 in
theorem rm_take_19 (l : Launch) (Z : State) (a0 : Array Value) (hw : ∀ d ∈ tables_1, d.before a0 Z = true) (ws : List Jvm.Cond) (x0 : Addr) (x1 : Addr) (x2 : Addr) (x3 : Addr) (kc0 : ClassId) (kc1 : ClassId) (kc2 : ClassId) (w_I4 : Addr) (h0 : Heap) (n0 : Nat) (O0 : Old Z n0 h0) (E_x0 : Exa Z h0 x0 oc8) (F_x0_requests : Fld Z h0 x0 oc8 "requests" "[Ljava/lang/Object;" (.ref x1)) (F_x0_sequences : Fld Z h0 x0 oc8 "sequences" "[J" (.ref x2)) (F_x0_free : Fld Z h0 x0 oc8 "free" "[I" (.ref x3)) (F_x0_freeCount : Fld Z h0 x0 oc8 "freeCount" "I" (.int 2)) (F_x0_lastSequence : Fld Z h0 x0 oc8 "lastSequence" "J" (.long 1)) (ge_x0 : n0 ≤ x0) (O_x1 : Ovr Z kc0 oc9) (V_x1 : Arv Z h0 x1 kc0 (.object oc9) (2 : Int32) [.null, .null] .null) (ge_x1 : n0 ≤ x1) (V_x2 : Arv Z h0 x2 kc1 .long (2 : Int32) [(.long 0), (.long 0)] (.long 0)) (ge_x2 : n0 ≤ x2) (V_x3 : Arv Z h0 x3 kc2 .int (2 : Int32) [(.int 1), (.int 0)] (.int 0)) (ge_x3 : n0 ≤ x3) (ne_x0_x1 : x0 ≠ x1) (ne_x0_x2 : x0 ≠ x2) (ne_x0_x3 : x0 ≠ x3) (ne_x1_x2 : x1 ≠ x2) (ne_x1_x3 : x1 ≠ x3) (ne_x2_x3 : x2 ≠ x3) (E_I4 : Exa Z Z.heap w_I4 oc10) :
    oM l oy4 prog_29_method_4_code 3 (some .long) ws ({ frames := 0, cells := 0, slots := 0, locals := 0 } : Room) Z #[(.ref x0), (.ref w_I4)] h0 (Q_rm_take_19 Z x0 x1 x2 x3 kc0 kc1 kc2 w_I4 h0 n0) := by
  refine MetFree.of_bodySF (plainFor_of_name pn_com_example_wend_wend_Slots) hisR ?_
  intro p e s m args below meth c s₁ Bd hml0 hP hK
  obtain ⟨rfl, hZ, hh⟩ := hP
  have hx := Bd.exec
  have hby := Bd.bytes
  have hml : c.maxLocals = 3 := hml0
  have hown : s.vm.findClass oc8 = some m.cls := findClass_of_methodNamed Bd.named
  have hnm := (name_of_methodNamed Bd.named Bd.method).1
  have X0 : Stand p l e ({ frames := 0, cells := 0, slots := 0, locals := 0 } : Room) s m #[(.ref x0), (.ref w_I4)] below meth c s₁ [] 0 0 := Stand.of_body Bd
  have e0 : s₁.heap = h0 := by rw [← hh, Bd.state]; rfl
  have N0 := Fr.nil n0
  have pre0 : ∀ t, oS p e below m s₁ 0 #[rv x0, rv w_I4, .unset] [] t → oT p e below s₁ (entryFrame m #[(.ref x0), (.ref w_I4)] 3) t := fun t k => castTop (ef_rm_take_19 m x0 w_I4) k
  have K0 := Keep.refl h0 [x0, x1, x2]
  obtain ⟨T342, X342, e342, st342⟩ := getF X0 hx hZ hown (host := "") (Or.inl (own_w hw 24 rfl)) Via.refl e0 F_x0_freeCount (g := (mkF m 1 #[rv x0, rv w_I4, .unset] [(.ref x0)])) rfl rfl (hb hby de_1)
  obtain ⟨T344, X344, e344, st344⟩ := getF X342 hx hZ hown (host := "") (Or.inl (own_w hw 22 rfl)) Via.refl e342 F_x0_free (g := (mkF m 18 #[rv x0, rv w_I4, .unset] [(.ref x0)])) rfl rfl (hb hby de_18)
  obtain ⟨T345, X345, e345, st345⟩ := getF X344 hx hZ hown (host := "") (Or.inl (own_w hw 24 rfl)) Via.refl e344 F_x0_freeCount (g := (mkF m 23 #[rv x0, rv w_I4, .unset] [(.ref x0), (.ref x0), (.ref x3)])) rfl rfl (hb hby de_23)
  have pre346 : ∀ t, oS p e below m T345 28 #[rv x0, rv w_I4, .unset] [(.int ((2 : Int32) - (1 : Int32))), (.ref x0), (.ref x3)] t → oT p e below s₁ (entryFrame m #[(.ref x0), (.ref w_I4)] 3) t := by
    intro t kt
    refine pre0 t ?_
    show oS p e below m s₁ 0 #[rv x0, rv w_I4, .unset] [] _
    refine XS.aloadN X0.here hx rfl (hb hby de_0) rfl rfl ?_
    show oS p e below m s₁ 1 #[rv x0, rv w_I4, .unset] [(.ref x0)] _
    refine st342 _ ?_
    show oS p e below m T342 4 #[rv x0, rv w_I4, .unset] [(.int 2)] _
    refine XS.ifYes X342.here hx rfl (pc0 := 4) (pc' := 17) rfl (hb hby de_4) rfl ((if0 _ _).trans (feq (by decide : ¬ ((2 : Int32) = (0 : Int32)))).2) (by decide) (by decide) ?_
    refine XS.aloadN X342.here hx rfl (hb hby de_17) rfl rfl ?_
    show oS p e below m T342 18 #[rv x0, rv w_I4, .unset] [(.ref x0)] _
    refine st344 _ ?_
    show oS p e below m T344 21 #[rv x0, rv w_I4, .unset] [(.ref x3)] _
    refine XS.aloadN X344.here hx rfl (hb hby de_21) rfl rfl ?_
    refine XS.dup X344.here hx rfl (hb hby de_22) rfl rfl ?_
    show oS p e below m T344 23 #[rv x0, rv w_I4, .unset] [(.ref x0), (.ref x0), (.ref x3)] _
    refine st345 _ ?_
    show oS p e below m T345 26 #[rv x0, rv w_I4, .unset] [(.int 2), (.ref x0), (.ref x3)] _
    refine XS.iconst X345.here hx rfl (hb hby de_26) ?_
    refine XS.isub X345.here hx rfl (hb hby de_27) rfl ?_
    exact kt
  rw [show ((2 : Int32) - (1 : Int32)) = (1 : Int32) from by decide] at pre346
  obtain ⟨T347, h347, X347, e347, W347, st347⟩ := putF X345 hx hZ hown (host := "") (Or.inl (own_w hw 24 rfl)) Via.refl e345 F_x0_freeCount E_x0 (Or.inl (own_w hw 25 rfl)) (own_w hw 5 rfl) (ty := .int) (by decide) rfl rfl (g := (mkF m 29 #[rv x0, rv w_I4, .unset] [(.int 1), (.ref x0), (.int 1), (.ref x3)])) rfl rfl (hb hby de_29)
  have F_x0_freeCount := F_x0_freeCount.same W347
  have E_x0 := E_x0.wr W347
  have F_x0_requests := F_x0_requests.other W347 (Or.inr (osn_Slots_requests_freeCount hw))
  have F_x0_sequences := F_x0_sequences.other W347 (Or.inr (osn_Slots_sequences_freeCount hw))
  have F_x0_free := F_x0_free.other W347 (Or.inr (osn_Slots_free_freeCount hw))
  have F_x0_lastSequence := F_x0_lastSequence.other W347 (Or.inr (osn_Slots_lastSequence_freeCount hw))
  have V_x1 := V_x1.other W347 (Ne.symm ne_x0_x1)
  have V_x2 := V_x2.other W347 (Ne.symm ne_x0_x2)
  have V_x3 := V_x3.other W347 (Ne.symm ne_x0_x3)
  have O347 := O0.wr W347 ge_x0
  have K347 := K0.wr W347 (Or.inl (List.mem_of_getElem? (i := 0) rfl))
  have N347 := Fr.snoc X347 N0 ge_x0
  have vt348 := V_x3
  obtain ⟨cl348, Ar348, q348, S348, Ng348, Ha348, G348⟩ := vt348
  have hin348 : ¬ ((1 : Int32) < 0 ∨ cl348.slots.size ≤ ((1 : Int32)).toNatClampNeg) := inb_of S348 ⟨by decide, by decide⟩
  have hat348 : cl348.slots[((1 : Int32)).toNatClampNeg]? = some (.int 0) := Ha348.at hin348 rfl
  obtain ⟨T349, X349, e349, st349⟩ := getF X347 hx hZ hown (host := "") (Or.inl (own_w hw 43 rfl)) Via.refl e347 F_x0_lastSequence (g := (mkF m 36 #[rv x0, rv w_I4, iv 0] [(.ref x0), (.ref x0)])) rfl rfl (hb hby de_36)
  have pre350 : ∀ t, oS p e below m T349 43 #[rv x0, rv w_I4, iv 0] [(.int (lcmpW (1 : Int64) (17592186044415 : Int64))), (.ref x0)] t → oT p e below s₁ (entryFrame m #[(.ref x0), (.ref w_I4)] 3) t := by
    intro t kt
    refine pre346 t ?_
    show oS p e below m T345 28 #[rv x0, rv w_I4, .unset] [(.int 1), (.ref x0), (.ref x3)] _
    refine XS.dupX1 X345.here hx rfl (hb hby de_28) rfl rfl rfl ?_
    show oS p e below m T345 29 #[rv x0, rv w_I4, .unset] [(.int 1), (.ref x0), (.int 1), (.ref x3)] _
    refine st347 _ ?_
    show oS p e below m T347 32 #[rv x0, rv w_I4, .unset] [(.int 1), (.ref x3)] _
    refine X347.iaload hx (j := (1 : Int32)) (v := (.int 0)) (by rw [e347]; exact Ar348.1) (State.isArrayOf_alike hZ.alike Ar348.2.1) Ar348.2.2 hin348 hat348 (g := (mkF m 32 #[rv x0, rv w_I4, .unset] [(.int 1), (.ref x3)])) rfl rfl (hb hby de_32) _ ?_
    show oS p e below m T347 33 #[rv x0, rv w_I4, .unset] [(.int 0)] _
    refine XS.istoreN X347.here hx rfl (hb hby de_33) rfl (l' := #[rv x0, rv w_I4, iv 0]) rfl ?_
    refine XS.aloadN X347.here hx rfl (hb hby de_34) rfl rfl ?_
    show oS p e below m T347 35 #[rv x0, rv w_I4, iv 0] [(.ref x0)] _
    refine XS.aloadN X347.here hx rfl (hb hby de_35) rfl rfl ?_
    show oS p e below m T347 36 #[rv x0, rv w_I4, iv 0] [(.ref x0), (.ref x0)] _
    refine st349 _ ?_
    show oS p e below m T349 39 #[rv x0, rv w_I4, iv 0] [(.long 1), (.ref x0)] _
    refine X349.ldc2Long hx hown (mvT hZ (own_w hw 45 rfl)) (g := (mkF m 39 #[rv x0, rv w_I4, iv 0] [(.long 1), (.ref x0)])) rfl (hb hby de_39) _ ?_
    show oS p e below m T349 42 #[rv x0, rv w_I4, iv 0] [(.long 17592186044415), (.long 1), (.ref x0)] _
    refine XS.lcmp X349.here hx rfl (hb hby de_42) rfl ?_
    exact kt
  rw [show (lcmpW (1 : Int64) (17592186044415 : Int64)) = (-1 : Int32) from by decide] at pre350
  obtain ⟨T352, X352, e352, st352⟩ := getF X349 hx hZ hown (host := "") (Or.inl (own_w hw 43 rfl)) Via.refl e349 F_x0_lastSequence (g := (mkF m 51 #[rv x0, rv w_I4, iv 0] [(.ref x0), (.ref x0)])) rfl rfl (hb hby de_51)
  have pre353 : ∀ t, oS p e below m T352 56 #[rv x0, rv w_I4, iv 0] [(.long ((1 : Int64) + (1 : Int64))), (.ref x0)] t → oT p e below s₁ (entryFrame m #[(.ref x0), (.ref w_I4)] 3) t := by
    intro t kt
    refine pre350 t ?_
    show oS p e below m T349 43 #[rv x0, rv w_I4, iv 0] [(.int (-1 : Int32)), (.ref x0)] _
    refine XS.ifYes X349.here hx rfl (pc0 := 43) (pc' := 50) rfl (hb hby de_43) rfl ((if0 _ _).trans (feq (by decide : ¬ ((-1 : Int32) = (0 : Int32)))).2) (by decide) (by decide) ?_
    refine XS.aloadN X349.here hx rfl (hb hby de_50) rfl rfl ?_
    show oS p e below m T349 51 #[rv x0, rv w_I4, iv 0] [(.ref x0), (.ref x0)] _
    refine st352 _ ?_
    show oS p e below m T352 54 #[rv x0, rv w_I4, iv 0] [(.long 1), (.ref x0)] _
    refine XS.lconst X352.here hx rfl (hb hby de_54) ?_
    refine XS.ladd X352.here hx rfl (hb hby de_55) rfl ?_
    exact kt
  rw [show ((1 : Int64) + (1 : Int64)) = (2 : Int64) from by decide] at pre353
  obtain ⟨T354, h354, X354, e354, W354, st354⟩ := putF X352 hx hZ hown (host := "") (Or.inl (own_w hw 43 rfl)) Via.refl e352 F_x0_lastSequence E_x0 (Or.inl (own_w hw 44 rfl)) (own_w hw 5 rfl) (ty := .long) (by decide) rfl rfl (g := (mkF m 56 #[rv x0, rv w_I4, iv 0] [(.long 2), (.ref x0)])) rfl rfl (hb hby de_56)
  have F_x0_lastSequence := F_x0_lastSequence.same W354
  have E_x0 := E_x0.wr W354
  have F_x0_requests := F_x0_requests.other W354 (Or.inr (osn_Slots_requests_lastSequence hw))
  have F_x0_sequences := F_x0_sequences.other W354 (Or.inr (osn_Slots_sequences_lastSequence hw))
  have F_x0_free := F_x0_free.other W354 (Or.inr (osn_Slots_free_lastSequence hw))
  have F_x0_freeCount := F_x0_freeCount.other W354 (Or.inr (osn_Slots_freeCount_lastSequence hw))
  have V_x1 := V_x1.other W354 (Ne.symm ne_x0_x1)
  have V_x2 := V_x2.other W354 (Ne.symm ne_x0_x2)
  have V_x3 := V_x3.other W354 (Ne.symm ne_x0_x3)
  have O354 := O347.wr W354 ge_x0
  have K354 := K347.wr W354 (Or.inl (List.mem_of_getElem? (i := 0) rfl))
  have N354 := Fr.snoc X354 N347 ge_x0
  obtain ⟨T355, X355, e355, st355⟩ := getF X354 hx hZ hown (host := "") (Or.inl (own_w hw 16 rfl)) Via.refl e354 F_x0_requests (g := (mkF m 60 #[rv x0, rv w_I4, iv 0] [(.ref x0)])) rfl rfl (hb hby de_60)
  have vt356 := V_x1
  obtain ⟨cl356, Ar356, q356, S356, Ng356, Ha356, G356⟩ := vt356
  have hin356 : ¬ ((0 : Int32) < 0 ∨ cl356.slots.size ≤ ((0 : Int32)).toNatClampNeg) := inb_of S356 ⟨by decide, by decide⟩
  obtain ⟨T357, h357, X357, e357, W357, st357⟩ := stR X355 hx hZ e355 Ar356 (j := (0 : Int32)) hin356 rfl (Sto.ofV Ar356 q356 O_x1 (Ins.of_exa (E_I4.ext O354.2) (own_w hw 46 rfl))) (g := (mkF m 65 #[rv x0, rv w_I4, iv 0] [(.ref w_I4), (.int 0), (.ref x1)])) rfl rfl (hb hby de_65)
  have V_x1 : Arv Z h357 x1 kc0 (.object oc9) (2 : Int32) [(.ref w_I4), .null] .null := Arv.set Ar356 q356 S356 Ng356 Ha356 G356 rfl W357 0 rfl (Nat.le_of_ble_eq_true rfl)
  have E_x0 := E_x0.wr W357
  have F_x0_requests := F_x0_requests.other W357 (Or.inl ne_x0_x1)
  have F_x0_sequences := F_x0_sequences.other W357 (Or.inl ne_x0_x1)
  have F_x0_free := F_x0_free.other W357 (Or.inl ne_x0_x1)
  have F_x0_freeCount := F_x0_freeCount.other W357 (Or.inl ne_x0_x1)
  have F_x0_lastSequence := F_x0_lastSequence.other W357 (Or.inl ne_x0_x1)
  have V_x2 := V_x2.other W357 (Ne.symm ne_x1_x2)
  have V_x3 := V_x3.other W357 (Ne.symm ne_x1_x3)
  have O357 := O354.wr W357 ge_x1
  have K357 := K354.wr W357 (Or.inl (List.mem_of_getElem? (i := 1) rfl))
  have N357 := Fr.snoc X357 N354 ge_x1
  obtain ⟨T358, X358, e358, st358⟩ := getF X357 hx hZ hown (host := "") (Or.inl (own_w hw 19 rfl)) Via.refl e357 F_x0_sequences (g := (mkF m 67 #[rv x0, rv w_I4, iv 0] [(.ref x0)])) rfl rfl (hb hby de_67)
  obtain ⟨T359, X359, e359, st359⟩ := getF X358 hx hZ hown (host := "") (Or.inl (own_w hw 43 rfl)) Via.refl e358 F_x0_lastSequence (g := (mkF m 72 #[rv x0, rv w_I4, iv 0] [(.ref x0), (.int 0), (.ref x2)])) rfl rfl (hb hby de_72)
  have vt360 := V_x2
  obtain ⟨cl360, Ar360, q360, S360, Ng360, Ha360, G360⟩ := vt360
  have hin360 : ¬ ((0 : Int32) < 0 ∨ cl360.slots.size ≤ ((0 : Int32)).toNatClampNeg) := inb_of S360 ⟨by decide, by decide⟩
  obtain ⟨T361, h361, X361, e361, W361, st361⟩ := stJ X359 hx hZ e359 Ar360 (j := (0 : Int32)) hin360 (g := (mkF m 75 #[rv x0, rv w_I4, iv 0] [(.long 2), (.int 0), (.ref x2)])) rfl rfl (hb hby de_75)
  have V_x2 : Arv Z h361 x2 kc1 .long (2 : Int32) [(.long 2), (.long 0)] (.long 0) := Arv.set Ar360 q360 S360 Ng360 Ha360 G360 rfl W361 0 rfl (Nat.le_of_ble_eq_true rfl)
  have E_x0 := E_x0.wr W361
  have F_x0_requests := F_x0_requests.other W361 (Or.inl ne_x0_x2)
  have F_x0_sequences := F_x0_sequences.other W361 (Or.inl ne_x0_x2)
  have F_x0_free := F_x0_free.other W361 (Or.inl ne_x0_x2)
  have F_x0_freeCount := F_x0_freeCount.other W361 (Or.inl ne_x0_x2)
  have F_x0_lastSequence := F_x0_lastSequence.other W361 (Or.inl ne_x0_x2)
  have V_x1 := V_x1.other W361 ne_x1_x2
  have V_x3 := V_x3.other W361 (Ne.symm ne_x2_x3)
  have O361 := O357.wr W361 ge_x2
  have K361 := K357.wr W361 (Or.inl (List.mem_of_getElem? (i := 2) rfl))
  have N361 := Fr.snoc X361 N357 ge_x2
  obtain ⟨T362, X362, e362, st362⟩ := getF X361 hx hZ hown (host := "") (Or.inl (own_w hw 43 rfl)) Via.refl e361 F_x0_lastSequence (g := (mkF m 77 #[rv x0, rv w_I4, iv 0] [(.ref x0)])) rfl rfl (hb hby de_77)
  have pre363 : ∀ t, oS p e below m T362 83 #[rv x0, rv w_I4, iv 0] [(.long ((2 : Int64) <<< ((20 : Int32) &&& 0x3f).toInt64))] t → oT p e below s₁ (entryFrame m #[(.ref x0), (.ref w_I4)] 3) t := by
    intro t kt
    refine pre353 t ?_
    show oS p e below m T352 56 #[rv x0, rv w_I4, iv 0] [(.long 2), (.ref x0)] _
    refine st354 _ ?_
    show oS p e below m T354 59 #[rv x0, rv w_I4, iv 0] [] _
    refine XS.aloadN X354.here hx rfl (hb hby de_59) rfl rfl ?_
    show oS p e below m T354 60 #[rv x0, rv w_I4, iv 0] [(.ref x0)] _
    refine st355 _ ?_
    show oS p e below m T355 63 #[rv x0, rv w_I4, iv 0] [(.ref x1)] _
    refine XS.iloadN X355.here hx rfl (hb hby de_63) rfl ?_
    refine XS.aloadN X355.here hx rfl (hb hby de_64) rfl rfl ?_
    show oS p e below m T355 65 #[rv x0, rv w_I4, iv 0] [(.ref w_I4), (.int 0), (.ref x1)] _
    refine st357 _ ?_
    show oS p e below m T357 66 #[rv x0, rv w_I4, iv 0] [] _
    refine XS.aloadN X357.here hx rfl (hb hby de_66) rfl rfl ?_
    show oS p e below m T357 67 #[rv x0, rv w_I4, iv 0] [(.ref x0)] _
    refine st358 _ ?_
    show oS p e below m T358 70 #[rv x0, rv w_I4, iv 0] [(.ref x2)] _
    refine XS.iloadN X358.here hx rfl (hb hby de_70) rfl ?_
    refine XS.aloadN X358.here hx rfl (hb hby de_71) rfl rfl ?_
    show oS p e below m T358 72 #[rv x0, rv w_I4, iv 0] [(.ref x0), (.int 0), (.ref x2)] _
    refine st359 _ ?_
    show oS p e below m T359 75 #[rv x0, rv w_I4, iv 0] [(.long 2), (.int 0), (.ref x2)] _
    refine st361 _ ?_
    show oS p e below m T361 76 #[rv x0, rv w_I4, iv 0] [] _
    refine XS.aloadN X361.here hx rfl (hb hby de_76) rfl rfl ?_
    show oS p e below m T361 77 #[rv x0, rv w_I4, iv 0] [(.ref x0)] _
    refine st362 _ ?_
    show oS p e below m T362 80 #[rv x0, rv w_I4, iv 0] [(.long 2)] _
    refine XS.bipush X362.here hx rfl (hb hby de_80) ?_
    refine XS.lshl X362.here hx rfl (hb hby de_82) rfl ?_
    exact kt
  rw [show ((2 : Int64) <<< ((20 : Int32) &&& 0x3f).toInt64) = (2097152 : Int64) from by decide] at pre363
  have pre364 : ∀ t, oS p e below m T362 85 #[rv x0, rv w_I4, iv 0] [(.long ((0 : Int32).toInt64)), (.long 2097152)] t → oT p e below s₁ (entryFrame m #[(.ref x0), (.ref w_I4)] 3) t := by
    intro t kt
    refine pre363 t ?_
    show oS p e below m T362 83 #[rv x0, rv w_I4, iv 0] [(.long 2097152)] _
    refine XS.iloadN X362.here hx rfl (hb hby de_83) rfl ?_
    refine XS.i2l X362.here hx rfl (hb hby de_84) rfl ?_
    exact kt
  rw [show ((0 : Int32).toInt64) = (0 : Int64) from by decide] at pre364
  have pre365 : ∀ t, oS p e below m T362 86 #[rv x0, rv w_I4, iv 0] [(.long ((2097152 : Int64) ||| (0 : Int64)))] t → oT p e below s₁ (entryFrame m #[(.ref x0), (.ref w_I4)] 3) t := by
    intro t kt
    refine pre364 t ?_
    show oS p e below m T362 85 #[rv x0, rv w_I4, iv 0] [(.long 0), (.long 2097152)] _
    refine XS.lor X362.here hx rfl (hb hby de_85) rfl ?_
    exact kt
  rw [show ((2097152 : Int64) ||| (0 : Int64)) = (2097152 : Int64) from by decide] at pre365
  obtain ⟨fs, hr, hrun, hended, hW, hsame⟩ := X362.leave (v := some (.long 2097152)) (fun h => by rw [Bd.returns] at h; cases h)
  refine ⟨_, _, pre365 _ ?_, hrun, hended, _, _, rfl, ?_, ⟨_, rfl⟩, hW, hsame.mono (by decide) (by decide)⟩
  · show oS p e below m T362 86 #[rv x0, rv w_I4, iv 0] [(.long 2097152)] _
    jvm_step X362.here [X362.here.top, hx, (hb hby de_86), X362.method', Bd.returns, narrow]
    first | (intro acts; rw [hr _ acts rfl rfl rfl]) | rw [hr _ _ rfl rfl rfl]
    exact Steps.refl _
  · show Q_rm_take_19 Z x0 x1 x2 x3 kc0 kc1 kc2 w_I4 h0 n0 _ T362.heap _
    rw [e362]
    exact ⟨rfl, N361, K361, E_x0, F_x0_requests, F_x0_sequences, F_x0_free, F_x0_freeCount, F_x0_lastSequence, V_x1, V_x2⟩
theorem ef_rm_get_21 (m : MethodId) (x0 : Addr) : entryFrame m #[(.ref x0), (.long 1048576)] 7 = mkF m 0 (oL1 x0) [] := by first | (simp [entryFrame, mkF, argsToLocals, Value.category]; done) | rfl
def Q_rm_get_21 (Z : State) (x0 : Addr) (x1 : Addr) (x2 : Addr) (kc0 : ClassId) (kc1 : ClassId) (h0 : Heap) (n0 : Nat) (v : Option Value) (h : Heap) (L : List Loc) : Prop := v = some .null ∧ Fr n0 L ∧ h = h0
set_option maxRecDepth 65536 in
set_option maxHeartbeats 40000000 in
theorem rm_get_21 (l : Launch) (Z : State) (a0 : Array Value) (hw : ∀ d ∈ tables_1, d.before a0 Z = true) (ws : List Jvm.Cond) (x0 : Addr) (x1 : Addr) (x2 : Addr) (kc0 : ClassId) (kc1 : ClassId) (h0 : Heap) (n0 : Nat) (O0 : Old Z n0 h0) (F_x0_requests : Fld Z h0 x0 oc8 "requests" "[Ljava/lang/Object;" (.ref x1)) (F_x0_sequences : Fld Z h0 x0 oc8 "sequences" "[J" (.ref x2)) (V_x1 : Arv Z h0 x1 kc0 (.object oc9) (2 : Int32) [.null, .null] .null) (V_x2 : Arv Z h0 x2 kc1 .long (2 : Int32) [(.long 0), (.long 0)] (.long 0))  :
    oM l oy6 prog_29_method_5_code 7 (some (.object oc9)) ws ({ frames := 0, cells := 0, slots := 0, locals := 0 } : Room) Z #[(.ref x0), (.long 1048576)] h0 (Q_rm_get_21 Z x0 x1 x2 kc0 kc1 h0 n0) := by
  refine MetFree.of_bodySF (plainFor_of_name pn_com_example_wend_wend_Slots) hisR ?_
  intro p e s m args below meth c s₁ Bd hml0 hP hK
  obtain ⟨rfl, hZ, hh⟩ := hP
  have hx := Bd.exec
  have hby := Bd.bytes
  have hml : c.maxLocals = 7 := hml0
  have hown : s.vm.findClass oc8 = some m.cls := findClass_of_methodNamed Bd.named
  have hnm := (name_of_methodNamed Bd.named Bd.method).1
  have X0 : Stand p l e ({ frames := 0, cells := 0, slots := 0, locals := 0 } : Room) s m #[(.ref x0), (.long 1048576)] below meth c s₁ [] 0 0 := Stand.of_body Bd
  have e0 : s₁.heap = h0 := by rw [← hh, Bd.state]; rfl
  have N0 := Fr.nil n0
  have pre0 : ∀ t, oS p e below m s₁ 0 (oL1 x0) [] t → oT p e below s₁ (entryFrame m #[(.ref x0), (.long 1048576)] 7) t := fun t k => castTop (ef_rm_get_21 m x0) k
  have K0 := Keep.refl h0 []
  have pre377 : ∀ t, oS p e below m s₁ 5 (oL1 x0) [(.long ((1048576 : Int64) &&& (1048575 : Int64)))] t → oT p e below s₁ (entryFrame m #[(.ref x0), (.long 1048576)] 7) t := by
    intro t kt
    refine pre0 t ?_
    show oS p e below m s₁ 0 (oL1 x0) [] _
    refine XS.lloadN X0.here hx rfl (hb hby df_0) rfl ?_
    show oS p e below m s₁ 1 (oL1 x0) [(.long 1048576)] _
    refine X0.ldc2Long hx hown (mvT hZ (own_w hw 57 rfl)) (g := (mkF m 1 (oL1 x0) [(.long 1048576)])) rfl (hb hby df_1) _ ?_
    show oS p e below m s₁ 4 (oL1 x0) [(.long 1048575), (.long 1048576)] _
    refine XS.land X0.here hx rfl (hb hby df_4) rfl ?_
    exact kt
  rw [show ((1048576 : Int64) &&& (1048575 : Int64)) = (0 : Int64) from by decide] at pre377
  have pre378 : ∀ t, oS p e below m s₁ 6 (oL1 x0) [(.int ((0 : Int64).toInt32))] t → oT p e below s₁ (entryFrame m #[(.ref x0), (.long 1048576)] 7) t := by
    intro t kt
    refine pre377 t ?_
    show oS p e below m s₁ 5 (oL1 x0) [(.long 0)] _
    refine XS.l2i X0.here hx rfl (hb hby df_5) rfl ?_
    exact kt
  rw [show ((0 : Int64).toInt32) = (0 : Int32) from by decide] at pre378
  have pre379 : ∀ t, oS p e below m s₁ 11 (oL4 x0) [(.long (((1048576 : Int64).toUInt64 >>> ((20 : Int32) &&& 0x3f).toInt64.toUInt64).toInt64))] t → oT p e below s₁ (entryFrame m #[(.ref x0), (.long 1048576)] 7) t := by
    intro t kt
    refine pre378 t ?_
    show oS p e below m s₁ 6 (oL1 x0) [(.int 0)] _
    refine XS.istoreN X0.here hx rfl (hb hby df_6) rfl (l' := (oL4 x0)) rfl ?_
    refine XS.lloadN X0.here hx rfl (hb hby df_7) rfl ?_
    show oS p e below m s₁ 8 (oL4 x0) [(.long 1048576)] _
    refine XS.bipush X0.here hx rfl (hb hby df_8) ?_
    refine XS.lushr X0.here hx rfl (hb hby df_10) rfl ?_
    exact kt
  rw [show (((1048576 : Int64).toUInt64 >>> ((20 : Int32) &&& 0x3f).toInt64.toUInt64).toInt64) = (1 : Int64) from by decide] at pre379
  obtain ⟨T380, X380, e380, st380⟩ := getF X0 hx hZ hown (host := "") (Or.inl (own_w hw 16 rfl)) Via.refl e0 F_x0_requests (g := (mkF m 15 (oL0 x0) [(.ref x0), (.int 0)])) rfl rfl (hb hby df_15)
  have vt381 := V_x1
  obtain ⟨cl381, Ar381, q381, S381, Ng381, Ha381, G381⟩ := vt381
  obtain ⟨T383, X383, e383, st383⟩ := getF X380 hx hZ hown (host := "") (Or.inl (own_w hw 19 rfl)) Via.refl e380 F_x0_sequences (g := (mkF m 23 (oL0 x0) [(.ref x0)])) rfl rfl (hb hby df_23)
  have vt384 := V_x2
  obtain ⟨cl384, Ar384, q384, S384, Ng384, Ha384, G384⟩ := vt384
  have hin384 : ¬ ((0 : Int32) < 0 ∨ cl384.slots.size ≤ ((0 : Int32)).toNatClampNeg) := inb_of S384 ⟨by decide, by decide⟩
  have hat384 : cl384.slots[((0 : Int32)).toNatClampNeg]? = some (.long 0) := Ha384.at hin384 rfl
  have pre385 : ∀ t, oS p e below m T383 31 (oL0 x0) [(.int (lcmpW (0 : Int64) (1 : Int64)))] t → oT p e below s₁ (entryFrame m #[(.ref x0), (.long 1048576)] 7) t := by
    intro t kt
    refine pre379 t ?_
    show oS p e below m s₁ 11 (oL4 x0) [(.long 1)] _
    refine XS.lstore X0.here hx rfl (hb hby df_11) rfl (l' := (oL0 x0)) rfl ?_
    refine XS.iloadN X0.here hx rfl (hb hby df_13) rfl ?_
    show oS p e below m s₁ 14 (oL0 x0) [(.int 0)] _
    refine XS.aloadN X0.here hx rfl (hb hby df_14) rfl rfl ?_
    show oS p e below m s₁ 15 (oL0 x0) [(.ref x0), (.int 0)] _
    refine st380 _ ?_
    show oS p e below m T380 18 (oL0 x0) [(.ref x1), (.int 0)] _
    refine X380.arraylength hx (by rw [e380]; exact Ar381.1) (State.isArrayOf_alike hZ.alike Ar381.2.1) (g := (mkF m 18 (oL0 x0) [(.ref x1), (.int 0)])) rfl rfl (hb hby df_18) _ ?_
    rw [len_of S381 Ng381]
    show oS p e below m T380 19 (oL0 x0) [(.int 2), (.int 0)] _
    refine XS.icmpNo X380.here hx rfl (hb hby df_19) rfl (tlt (by decide : (0 : Int32) < (2 : Int32))).2.1 ?_
    refine XS.aloadN X380.here hx rfl (hb hby df_22) rfl rfl ?_
    show oS p e below m T380 23 (oL0 x0) [(.ref x0)] _
    refine st383 _ ?_
    show oS p e below m T383 26 (oL0 x0) [(.ref x2)] _
    refine XS.iloadN X383.here hx rfl (hb hby df_26) rfl ?_
    show oS p e below m T383 27 (oL0 x0) [(.int 0), (.ref x2)] _
    refine X383.laload hx (j := (0 : Int32)) (v := (.long 0)) (by rw [e383]; exact Ar384.1) (State.isArrayOf_alike hZ.alike Ar384.2.1) Ar384.2.2 hin384 hat384 (g := (mkF m 27 (oL0 x0) [(.int 0), (.ref x2)])) rfl rfl (hb hby df_27) _ ?_
    show oS p e below m T383 28 (oL0 x0) [(.long 0)] _
    refine XS.lload X383.here hx rfl (hb hby df_28) rfl ?_
    refine XS.lcmp X383.here hx rfl (hb hby df_30) rfl ?_
    exact kt
  rw [show (lcmpW (0 : Int64) (1 : Int64)) = (-1 : Int32) from by decide] at pre385
  have pre388 : ∀ t, oS p e below m T383 56 (oL12 x0) [.null] t → oT p e below s₁ (entryFrame m #[(.ref x0), (.long 1048576)] 7) t := by
    intro t kt
    refine pre385 t ?_
    show oS p e below m T383 31 (oL0 x0) [(.int (-1 : Int32))] _
    refine XS.ifYes X383.here hx rfl (pc0 := 31) (pc' := 38) rfl (hb hby df_31) rfl ((if0 _ _).trans (feq (by decide : ¬ ((-1 : Int32) = (0 : Int32)))).2) (by decide) (by decide) ?_
    refine XS.iconst X383.here hx rfl (hb hby df_38) ?_
    show oS p e below m T383 39 (oL0 x0) [(.int 0)] _
    refine XS.istore X383.here hx rfl (hb hby df_39) rfl (l' := (oL12 x0)) rfl ?_
    refine XS.iload X383.here hx rfl (hb hby df_41) rfl ?_
    show oS p e below m T383 43 (oL12 x0) [(.int 0)] _
    refine XS.ifYes X383.here hx rfl (pc0 := 43) (pc' := 55) rfl (hb hby df_43) rfl ((if0 _ _).trans (teq (by decide : (0 : Int32) = (0 : Int32))).1) (by decide) (by decide) ?_
    refine XS.aconstNull X383.here hx rfl (hb hby df_55) ?_
    exact kt
  obtain ⟨fs, hr, hrun, hended, hW, hsame⟩ := X383.leave (v := some .null) (fun h => by rw [Bd.returns] at h; cases h)
  refine ⟨_, _, pre388 _ ?_, hrun, hended, _, _, rfl, ?_, ⟨_, rfl⟩, hW, hsame.mono (by decide) (by decide)⟩
  · show oS p e below m T383 56 (oL12 x0) [.null] _
    jvm_step X383.here [X383.here.top, hx, (hb hby df_56), X383.method', Bd.returns, Value.isRef, FieldType.isReference]
    first | (intro acts; rw [hr _ acts rfl rfl rfl]) | rw [hr _ _ rfl rfl rfl]
    exact Steps.refl _
  · show Q_rm_get_21 Z x0 x1 x2 kc0 kc1 h0 n0 _ T383.heap _
    rw [e383]
    exact ⟨rfl, N0, rfl⟩
theorem ef_rm_release_20 (m : MethodId) (x0 : Addr) : entryFrame m #[(.ref x0), (.long 1048576)] 4 = mkF m 0 (oL3 x0) [] := by first | (simp [entryFrame, mkF, argsToLocals, Value.category]; done) | rfl
def Q_rm_release_20 (Z : State) (x0 : Addr) (x1 : Addr) (x2 : Addr) (x3 : Addr) (kc0 : ClassId) (kc1 : ClassId) (h0 : Heap) (n0 : Nat) (v : Option Value) (h : Heap) (L : List Loc) : Prop := v = some .null ∧ Fr n0 L ∧ h = h0
set_option maxRecDepth 65536 in
set_option maxHeartbeats 40000000 in
theorem rm_release_20 (l : Launch) (Z : State) (a0 : Array Value) (hw : ∀ d ∈ tables_1, d.before a0 Z = true) (ws : List Jvm.Cond) (x0 : Addr) (x1 : Addr) (x2 : Addr) (x3 : Addr) (kc0 : ClassId) (kc1 : ClassId) (h0 : Heap) (n0 : Nat) (O0 : Old Z n0 h0) (E_x0 : Exa Z h0 x0 oc8) (F_x0_requests : Fld Z h0 x0 oc8 "requests" "[Ljava/lang/Object;" (.ref x1)) (F_x0_sequences : Fld Z h0 x0 oc8 "sequences" "[J" (.ref x2)) (V_x1 : Arv Z h0 x1 kc0 (.object oc9) (2 : Int32) [.null, .null] .null) (V_x2 : Arv Z h0 x2 kc1 .long (2 : Int32) [(.long 0), (.long 0)] (.long 0)) (ne_x0_x1 : x0 ≠ x1) (ne_x0_x2 : x0 ≠ x2) (ne_x0_x3 : x0 ≠ x3) (ne_x1_x2 : x1 ≠ x2) (ne_x1_x3 : x1 ≠ x3) (ne_x2_x3 : x2 ≠ x3)  :
    oM l oy5 prog_29_method_6_code 4 (some (.object oc9)) ws ({ frames := 1, cells := 0, slots := 0, locals := 18 } : Room) Z #[(.ref x0), (.long 1048576)] h0 (Q_rm_release_20 Z x0 x1 x2 x3 kc0 kc1 h0 n0) := by
  refine MetFree.of_bodySF (plainFor_of_name pn_com_example_wend_wend_Slots) hisR ?_
  intro p e s m args below meth c s₁ Bd hml0 hP hK
  obtain ⟨rfl, hZ, hh⟩ := hP
  have hx := Bd.exec
  have hby := Bd.bytes
  have hml : c.maxLocals = 4 := hml0
  have hown : s.vm.findClass oc8 = some m.cls := findClass_of_methodNamed Bd.named
  have hnm := (name_of_methodNamed Bd.named Bd.method).1
  have X0 : Stand p l e ({ frames := 1, cells := 0, slots := 0, locals := 18 } : Room) s m #[(.ref x0), (.long 1048576)] below meth c s₁ [] 0 0 := Stand.of_body Bd
  have e0 : s₁.heap = h0 := by rw [← hh, Bd.state]; rfl
  have N0 := Fr.nil n0
  have pre0 : ∀ t, oS p e below m s₁ 0 (oL3 x0) [] t → oT p e below s₁ (entryFrame m #[(.ref x0), (.long 1048576)] 4) t := fun t k => castTop (ef_rm_release_20 m x0) k
  have K0 := Keep.refl h0 []
  obtain ⟨cq376, kq376, q376a, q376b, q376c⟩ := isOf hZ e0 E_x0
  obtain ⟨_, _, ⟨T376, L376, k376, n376⟩, -, X376, ⟨Lc376, hQ376, l376, y376, z376⟩, st376⟩ := X0.virtualBack hx (y := oy6) (z := oy6) hown (mvT hZ (own_w hw 52 rfl)) (mvT hZ (own_w hw 53 rfl)) (notFace_of_selects (args := #[]) (mvT hZ (own_w hw 55 rfl))) (mvT hZ (own_w hw 55 rfl)) (mvT hZ (own_w hw 54 rfl)) (by decide) (backOf (W := 0) (rm_get_21 l Z a0 hw [] x0 x1 x2 kc0 kc1 h0 n0 O0 F_x0_requests F_x0_sequences V_x1 V_x2 ) hZ (own_w hw 56 rfl) (own_w hw 6 rfl) (by decide) (by decide)) q376a q376c (g := (mkF m 2 (oL3 x0) [(.long 1048576), (.ref x0)])) rfl (by rw [hml]; rfl) (Steps.refl _) (argsL := [(.long 1048576)]) (rest := []) (lenOf pd__J_Ljava_lang_Object_ rfl) rfl (by show 2 * 0 + _ ≤ _; exact Nat.le_of_eq rfl) (hb hby dg_2) (fun _ _ => ⟨rfl, e0, (by decide : 0 + 0 ≤ _), (by decide : 0 + 0 ≤ _)⟩)
  dsimp only [Pt.U, Pt.locs, Pt.cells, Pt.slots] at X376 l376 y376 z376 st376 hQ376
  subst l376 y376 z376
  obtain ⟨rfl, N376q, e376⟩ := hQ376
  have N376 := Fr.app N0 N376q
  have pre389 : ∀ t, oS p e below m T376 21 (oL13 x0) [.null] t → oT p e below s₁ (entryFrame m #[(.ref x0), (.long 1048576)] 4) t := by
    intro t kt
    refine pre0 t ?_
    show oS p e below m s₁ 0 (oL3 x0) [] _
    refine XS.aloadN X0.here hx rfl (hb hby dg_0) rfl rfl ?_
    refine XS.lloadN X0.here hx rfl (hb hby dg_1) rfl ?_
    show oS p e below m s₁ 2 (oL3 x0) [(.long 1048576), (.ref x0)] _
    refine st376.trans ?_
    show oS p e below m T376 5 (oL3 x0) [.null] _
    refine XS.astoreN X376.here hx rfl (hb hby dg_5) rfl rfl (l' := (oL13 x0)) rfl ?_
    refine XS.aloadN X376.here hx rfl (hb hby dg_6) rfl rfl ?_
    show oS p e below m T376 7 (oL13 x0) [.null] _
    refine XS.ifnullYes X376.here hx rfl (pc0 := 7) (pc' := 20) rfl (hb hby dg_7) rfl (by decide) (by decide) ?_
    refine XS.aloadN X376.here hx rfl (hb hby dg_20) rfl rfl ?_
    exact kt
  obtain ⟨fs, hr, hrun, hended, hW, hsame⟩ := X376.leave (v := some .null) (fun h => by rw [Bd.returns] at h; cases h)
  refine ⟨_, _, pre389 _ ?_, hrun, hended, _, _, rfl, ?_, ⟨_, rfl⟩, hW, hsame.mono (by decide) (by decide)⟩
  · show oS p e below m T376 21 (oL13 x0) [.null] _
    jvm_step X376.here [X376.here.top, hx, (hb hby dg_21), X376.method', Bd.returns, Value.isRef, FieldType.isReference]
    first | (intro acts; rw [hr _ acts rfl rfl rfl]) | rw [hr _ _ rfl rfl rfl]
    exact Steps.refl _
  · show Q_rm_release_20 Z x0 x1 x2 x3 kc0 kc1 h0 n0 _ T376.heap _
    rw [e376]
    exact ⟨rfl, N376, rfl⟩
theorem ef_rm_valueOf_22 (m : MethodId)  : entryFrame m #[(.int 2)] 1 = mkF m 0 #[iv 2] [] := by first | (simp [entryFrame, mkF, argsToLocals, Value.category]; done) | rfl
def Q_rm_valueOf_22 (Z : State) (w_cache : Addr) (cl_cache : Cell) (w_I2 : Addr) (h0 : Heap) (n0 : Nat) (v : Option Value) (h : Heap) (L : List Loc) : Prop := v = some (.ref w_I2) ∧ Fr n0 L ∧ h = h0
set_option maxRecDepth 65536 in
set_option maxHeartbeats 40000000 in
theorem rm_valueOf_22 (l : Launch) (Z : State) (a0 : Array Value) (hw : ∀ d ∈ tables_1, d.before a0 Z = true) (ws : List Jvm.Cond) (w_cache : Addr) (cl_cache : Cell) (w_I2 : Addr) (h0 : Heap) (n0 : Nat) (O0 : Old Z n0 h0)  (S_high : Sta Z Z.heap "java/lang/Integer$IntegerCache" "high" "I" (.int 127)) (S_cache : Sta Z Z.heap "java/lang/Integer$IntegerCache" "cache" "[Ljava/lang/Integer;" (.ref w_cache)) (AE_2 : cl_cache.slots[((130 : Int32)).toNatClampNeg]? = some (.ref w_I2)) (A_cache : Arr Z Z.heap w_cache cl_cache (.object oc10)) :
    oM l oy3 jdk_33_method_22_code 1 (some (.object oc10)) ws ({ frames := 0, cells := 0, slots := 0, locals := 0 } : Room) Z #[(.int 2)] h0 (Q_rm_valueOf_22 Z w_cache cl_cache w_I2 h0 n0) := by
  refine MetFree.of_bodySF (plainFor_of_name pn_java_lang_Integer) hisR ?_
  intro p e s m args below meth c s₁ Bd hml0 hP hK
  obtain ⟨rfl, hZ, hh⟩ := hP
  have hx := Bd.exec
  have hby := Bd.bytes
  have hml : c.maxLocals = 1 := hml0
  have hown : s.vm.findClass oc10 = some m.cls := findClass_of_methodNamed Bd.named
  have hnm := (name_of_methodNamed Bd.named Bd.method).1
  have X0 : Stand p l e ({ frames := 0, cells := 0, slots := 0, locals := 0 } : Room) s m #[(.int 2)] below meth c s₁ [] 0 0 := Stand.of_body Bd
  have e0 : s₁.heap = h0 := by rw [← hh, Bd.state]; rfl
  have N0 := Fr.nil n0
  have pre0 : ∀ t, oS p e below m s₁ 0 #[iv 2] [] t → oT p e below s₁ (entryFrame m #[(.int 2)] 1) t := fun t k => castTop (ef_rm_valueOf_22 m ) k
  have K0 := Keep.refl h0 []
  obtain ⟨T402, X402, e402, st402⟩ := getS2 X0 hx hZ hown (host := "") (Or.inl (own_w hw 35 rfl)) Via.refl e0 (S_high.ext O0.2) (g := (mkF m 7 #[iv 2] [(.int 2)])) rfl (hb hby db_7)
  obtain ⟨T404, X404, e404, st404⟩ := getS2 X402 hx hZ hown (host := "") (Or.inl (own_w hw 37 rfl)) Via.refl e402 (S_cache.ext O0.2) (g := (mkF m 13 #[iv 2] [])) rfl (hb hby db_13)
  have pre405 : ∀ t, oS p e below m T404 21 #[iv 2] [(.int ((2 : Int32) + (128 : Int32))), (.ref w_cache)] t → oT p e below s₁ (entryFrame m #[(.int 2)] 1) t := by
    intro t kt
    refine pre0 t ?_
    show oS p e below m s₁ 0 #[iv 2] [] _
    refine XS.iloadN X0.here hx rfl (hb hby db_0) rfl ?_
    refine XS.bipush X0.here hx rfl (hb hby db_1) ?_
    show oS p e below m s₁ 3 #[iv 2] [(.int (-128 : Int32)), (.int 2)] _
    refine XS.icmpNo X0.here hx rfl (hb hby db_3) rfl (flt (by decide : ¬ ((2 : Int32) < (-128 : Int32)))).1 ?_
    refine XS.iloadN X0.here hx rfl (hb hby db_6) rfl ?_
    show oS p e below m s₁ 7 #[iv 2] [(.int 2)] _
    refine st402 _ ?_
    show oS p e below m T402 10 #[iv 2] [(.int 127), (.int 2)] _
    refine XS.icmpNo X402.here hx rfl (hb hby db_10) rfl (flt (by decide : ¬ ((127 : Int32) < (2 : Int32)))).2.2.1 ?_
    show oS p e below m T402 13 #[iv 2] [] _
    refine st404 _ ?_
    show oS p e below m T404 16 #[iv 2] [(.ref w_cache)] _
    refine XS.iloadN X404.here hx rfl (hb hby db_16) rfl ?_
    refine XS.sipush X404.here hx rfl (hb hby db_17) ?_
    show oS p e below m T404 20 #[iv 2] [(.int 128), (.int 2), (.ref w_cache)] _
    refine XS.iadd X404.here hx rfl (hb hby db_20) rfl ?_
    exact kt
  rw [show ((2 : Int32) + (128 : Int32)) = (130 : Int32) from by decide] at pre405
  have Ar406 := (A_cache.ext O0.2)
  have hin406 := own_in AE_2 (by decide)
  have pre407 : ∀ t, oS p e below m T404 22 #[iv 2] [(.ref w_I2)] t → oT p e below s₁ (entryFrame m #[(.int 2)] 1) t := by
    intro t kt
    refine pre405 t ?_
    show oS p e below m T404 21 #[iv 2] [(.int 130), (.ref w_cache)] _
    refine X404.aaload hx (j := (130 : Int32)) (v := (.ref w_I2)) (by rw [e404]; exact Ar406.1) (State.isArrayOf_alike hZ.alike Ar406.2.1) rfl Ar406.2.2 hin406 AE_2 (g := (mkF m 21 #[iv 2] [(.int 130), (.ref w_cache)])) rfl rfl (hb hby db_21) _ ?_
    exact kt
  obtain ⟨fs, hr, hrun, hended, hW, hsame⟩ := X404.leave (v := some (.ref w_I2)) (fun h => by rw [Bd.returns] at h; cases h)
  refine ⟨_, _, pre407 _ ?_, hrun, hended, _, _, rfl, ?_, ⟨_, rfl⟩, hW, hsame.mono (by decide) (by decide)⟩
  · show oS p e below m T404 22 #[iv 2] [(.ref w_I2)] _
    jvm_step X404.here [X404.here.top, hx, (hb hby db_22), X404.method', Bd.returns, Value.isRef, FieldType.isReference]
    first | (intro acts; rw [hr _ acts rfl rfl rfl]) | rw [hr _ _ rfl rfl rfl]
    exact Steps.refl _
  · show Q_rm_valueOf_22 Z w_cache cl_cache w_I2 h0 n0 _ T404.heap _
    rw [e404]
    exact ⟨rfl, N0, rfl⟩
theorem ef_rm_take_23 (m : MethodId) (x0 : Addr) (w_I2 : Addr) : entryFrame m #[(.ref x0), (.ref w_I2)] 3 = mkF m 0 #[rv x0, rv w_I2, .unset] [] := by first | (simp [entryFrame, mkF, argsToLocals, Value.category]; done) | rfl
def Q_rm_take_23 (Z : State) (x0 : Addr) (x1 : Addr) (x2 : Addr) (x3 : Addr) (kc0 : ClassId) (kc1 : ClassId) (kc2 : ClassId) (w_I2 : Addr) (w_I1 : Addr) (h0 : Heap) (n0 : Nat) (v : Option Value) (h : Heap) (L : List Loc) : Prop := v = some (.long 2097153) ∧ Fr n0 L ∧ Keep h0 h [x0, x1, x2] ∧ Exa Z h x0 oc8 ∧ Fld Z h x0 oc8 "requests" "[Ljava/lang/Object;" (.ref x1) ∧ Fld Z h x0 oc8 "sequences" "[J" (.ref x2) ∧ Fld Z h x0 oc8 "free" "[I" (.ref x3) ∧ Fld Z h x0 oc8 "freeCount" "I" (.int 0) ∧ Fld Z h x0 oc8 "lastSequence" "J" (.long 2) ∧ Arv Z h x1 kc0 (.object oc9) (2 : Int32) [(.ref w_I1), (.ref w_I2)] .null ∧ Arv Z h x2 kc1 .long (2 : Int32) [(.long 1), (.long 2)] (.long 0)
set_option maxRecDepth 65536 in
set_option maxHeartbeats 40000000 in
theorem rm_take_23 (l : Launch) (Z : State) (a0 : Array Value) (hw : ∀ d ∈ tables_1, d.before a0 Z = true) (ws : List Jvm.Cond) (x0 : Addr) (x1 : Addr) (x2 : Addr) (x3 : Addr) (kc0 : ClassId) (kc1 : ClassId) (kc2 : ClassId) (w_I2 : Addr) (w_I1 : Addr) (h0 : Heap) (n0 : Nat) (O0 : Old Z n0 h0) (E_x0 : Exa Z h0 x0 oc8) (F_x0_requests : Fld Z h0 x0 oc8 "requests" "[Ljava/lang/Object;" (.ref x1)) (F_x0_sequences : Fld Z h0 x0 oc8 "sequences" "[J" (.ref x2)) (F_x0_free : Fld Z h0 x0 oc8 "free" "[I" (.ref x3)) (F_x0_freeCount : Fld Z h0 x0 oc8 "freeCount" "I" (.int 1)) (F_x0_lastSequence : Fld Z h0 x0 oc8 "lastSequence" "J" (.long 1)) (ge_x0 : n0 ≤ x0) (O_x1 : Ovr Z kc0 oc9) (V_x1 : Arv Z h0 x1 kc0 (.object oc9) (2 : Int32) [(.ref w_I1), .null] .null) (ge_x1 : n0 ≤ x1) (V_x2 : Arv Z h0 x2 kc1 .long (2 : Int32) [(.long 1), (.long 0)] (.long 0)) (ge_x2 : n0 ≤ x2) (V_x3 : Arv Z h0 x3 kc2 .int (2 : Int32) [(.int 1), (.int 0)] (.int 0)) (ge_x3 : n0 ≤ x3) (ne_x0_x1 : x0 ≠ x1) (ne_x0_x2 : x0 ≠ x2) (ne_x0_x3 : x0 ≠ x3) (ne_x1_x2 : x1 ≠ x2) (ne_x1_x3 : x1 ≠ x3) (ne_x2_x3 : x2 ≠ x3) (E_I2 : Exa Z Z.heap w_I2 oc10) :
    oM l oy4 prog_29_method_4_code 3 (some .long) ws ({ frames := 0, cells := 0, slots := 0, locals := 0 } : Room) Z #[(.ref x0), (.ref w_I2)] h0 (Q_rm_take_23 Z x0 x1 x2 x3 kc0 kc1 kc2 w_I2 w_I1 h0 n0) := by
  refine MetFree.of_bodySF (plainFor_of_name pn_com_example_wend_wend_Slots) hisR ?_
  intro p e s m args below meth c s₁ Bd hml0 hP hK
  obtain ⟨rfl, hZ, hh⟩ := hP
  have hx := Bd.exec
  have hby := Bd.bytes
  have hml : c.maxLocals = 3 := hml0
  have hown : s.vm.findClass oc8 = some m.cls := findClass_of_methodNamed Bd.named
  have hnm := (name_of_methodNamed Bd.named Bd.method).1
  have X0 : Stand p l e ({ frames := 0, cells := 0, slots := 0, locals := 0 } : Room) s m #[(.ref x0), (.ref w_I2)] below meth c s₁ [] 0 0 := Stand.of_body Bd
  have e0 : s₁.heap = h0 := by rw [← hh, Bd.state]; rfl
  have N0 := Fr.nil n0
  have pre0 : ∀ t, oS p e below m s₁ 0 #[rv x0, rv w_I2, .unset] [] t → oT p e below s₁ (entryFrame m #[(.ref x0), (.ref w_I2)] 3) t := fun t k => castTop (ef_rm_take_23 m x0 w_I2) k
  have K0 := Keep.refl h0 [x0, x1, x2]
  obtain ⟨T409, X409, e409, st409⟩ := getF X0 hx hZ hown (host := "") (Or.inl (own_w hw 24 rfl)) Via.refl e0 F_x0_freeCount (g := (mkF m 1 #[rv x0, rv w_I2, .unset] [(.ref x0)])) rfl rfl (hb hby de_1)
  obtain ⟨T411, X411, e411, st411⟩ := getF X409 hx hZ hown (host := "") (Or.inl (own_w hw 22 rfl)) Via.refl e409 F_x0_free (g := (mkF m 18 #[rv x0, rv w_I2, .unset] [(.ref x0)])) rfl rfl (hb hby de_18)
  obtain ⟨T412, X412, e412, st412⟩ := getF X411 hx hZ hown (host := "") (Or.inl (own_w hw 24 rfl)) Via.refl e411 F_x0_freeCount (g := (mkF m 23 #[rv x0, rv w_I2, .unset] [(.ref x0), (.ref x0), (.ref x3)])) rfl rfl (hb hby de_23)
  have pre413 : ∀ t, oS p e below m T412 28 #[rv x0, rv w_I2, .unset] [(.int ((1 : Int32) - (1 : Int32))), (.ref x0), (.ref x3)] t → oT p e below s₁ (entryFrame m #[(.ref x0), (.ref w_I2)] 3) t := by
    intro t kt
    refine pre0 t ?_
    show oS p e below m s₁ 0 #[rv x0, rv w_I2, .unset] [] _
    refine XS.aloadN X0.here hx rfl (hb hby de_0) rfl rfl ?_
    show oS p e below m s₁ 1 #[rv x0, rv w_I2, .unset] [(.ref x0)] _
    refine st409 _ ?_
    show oS p e below m T409 4 #[rv x0, rv w_I2, .unset] [(.int 1)] _
    refine XS.ifYes X409.here hx rfl (pc0 := 4) (pc' := 17) rfl (hb hby de_4) rfl ((if0 _ _).trans (feq (by decide : ¬ ((1 : Int32) = (0 : Int32)))).2) (by decide) (by decide) ?_
    refine XS.aloadN X409.here hx rfl (hb hby de_17) rfl rfl ?_
    show oS p e below m T409 18 #[rv x0, rv w_I2, .unset] [(.ref x0)] _
    refine st411 _ ?_
    show oS p e below m T411 21 #[rv x0, rv w_I2, .unset] [(.ref x3)] _
    refine XS.aloadN X411.here hx rfl (hb hby de_21) rfl rfl ?_
    refine XS.dup X411.here hx rfl (hb hby de_22) rfl rfl ?_
    show oS p e below m T411 23 #[rv x0, rv w_I2, .unset] [(.ref x0), (.ref x0), (.ref x3)] _
    refine st412 _ ?_
    show oS p e below m T412 26 #[rv x0, rv w_I2, .unset] [(.int 1), (.ref x0), (.ref x3)] _
    refine XS.iconst X412.here hx rfl (hb hby de_26) ?_
    refine XS.isub X412.here hx rfl (hb hby de_27) rfl ?_
    exact kt
  rw [show ((1 : Int32) - (1 : Int32)) = (0 : Int32) from by decide] at pre413
  obtain ⟨T414, h414, X414, e414, W414, st414⟩ := putF X412 hx hZ hown (host := "") (Or.inl (own_w hw 24 rfl)) Via.refl e412 F_x0_freeCount E_x0 (Or.inl (own_w hw 25 rfl)) (own_w hw 5 rfl) (ty := .int) (by decide) rfl rfl (g := (mkF m 29 #[rv x0, rv w_I2, .unset] [(.int 0), (.ref x0), (.int 0), (.ref x3)])) rfl rfl (hb hby de_29)
  have F_x0_freeCount := F_x0_freeCount.same W414
  have E_x0 := E_x0.wr W414
  have F_x0_requests := F_x0_requests.other W414 (Or.inr (osn_Slots_requests_freeCount hw))
  have F_x0_sequences := F_x0_sequences.other W414 (Or.inr (osn_Slots_sequences_freeCount hw))
  have F_x0_free := F_x0_free.other W414 (Or.inr (osn_Slots_free_freeCount hw))
  have F_x0_lastSequence := F_x0_lastSequence.other W414 (Or.inr (osn_Slots_lastSequence_freeCount hw))
  have V_x1 := V_x1.other W414 (Ne.symm ne_x0_x1)
  have V_x2 := V_x2.other W414 (Ne.symm ne_x0_x2)
  have V_x3 := V_x3.other W414 (Ne.symm ne_x0_x3)
  have O414 := O0.wr W414 ge_x0
  have K414 := K0.wr W414 (Or.inl (List.mem_of_getElem? (i := 0) rfl))
  have N414 := Fr.snoc X414 N0 ge_x0
  have vt415 := V_x3
  obtain ⟨cl415, Ar415, q415, S415, Ng415, Ha415, G415⟩ := vt415
  have hin415 : ¬ ((0 : Int32) < 0 ∨ cl415.slots.size ≤ ((0 : Int32)).toNatClampNeg) := inb_of S415 ⟨by decide, by decide⟩
  have hat415 : cl415.slots[((0 : Int32)).toNatClampNeg]? = some (.int 1) := Ha415.at hin415 rfl
  obtain ⟨T416, X416, e416, st416⟩ := getF X414 hx hZ hown (host := "") (Or.inl (own_w hw 43 rfl)) Via.refl e414 F_x0_lastSequence (g := (mkF m 36 #[rv x0, rv w_I2, iv 1] [(.ref x0), (.ref x0)])) rfl rfl (hb hby de_36)
  have pre417 : ∀ t, oS p e below m T416 43 #[rv x0, rv w_I2, iv 1] [(.int (lcmpW (1 : Int64) (17592186044415 : Int64))), (.ref x0)] t → oT p e below s₁ (entryFrame m #[(.ref x0), (.ref w_I2)] 3) t := by
    intro t kt
    refine pre413 t ?_
    show oS p e below m T412 28 #[rv x0, rv w_I2, .unset] [(.int 0), (.ref x0), (.ref x3)] _
    refine XS.dupX1 X412.here hx rfl (hb hby de_28) rfl rfl rfl ?_
    show oS p e below m T412 29 #[rv x0, rv w_I2, .unset] [(.int 0), (.ref x0), (.int 0), (.ref x3)] _
    refine st414 _ ?_
    show oS p e below m T414 32 #[rv x0, rv w_I2, .unset] [(.int 0), (.ref x3)] _
    refine X414.iaload hx (j := (0 : Int32)) (v := (.int 1)) (by rw [e414]; exact Ar415.1) (State.isArrayOf_alike hZ.alike Ar415.2.1) Ar415.2.2 hin415 hat415 (g := (mkF m 32 #[rv x0, rv w_I2, .unset] [(.int 0), (.ref x3)])) rfl rfl (hb hby de_32) _ ?_
    show oS p e below m T414 33 #[rv x0, rv w_I2, .unset] [(.int 1)] _
    refine XS.istoreN X414.here hx rfl (hb hby de_33) rfl (l' := #[rv x0, rv w_I2, iv 1]) rfl ?_
    refine XS.aloadN X414.here hx rfl (hb hby de_34) rfl rfl ?_
    show oS p e below m T414 35 #[rv x0, rv w_I2, iv 1] [(.ref x0)] _
    refine XS.aloadN X414.here hx rfl (hb hby de_35) rfl rfl ?_
    show oS p e below m T414 36 #[rv x0, rv w_I2, iv 1] [(.ref x0), (.ref x0)] _
    refine st416 _ ?_
    show oS p e below m T416 39 #[rv x0, rv w_I2, iv 1] [(.long 1), (.ref x0)] _
    refine X416.ldc2Long hx hown (mvT hZ (own_w hw 45 rfl)) (g := (mkF m 39 #[rv x0, rv w_I2, iv 1] [(.long 1), (.ref x0)])) rfl (hb hby de_39) _ ?_
    show oS p e below m T416 42 #[rv x0, rv w_I2, iv 1] [(.long 17592186044415), (.long 1), (.ref x0)] _
    refine XS.lcmp X416.here hx rfl (hb hby de_42) rfl ?_
    exact kt
  rw [show (lcmpW (1 : Int64) (17592186044415 : Int64)) = (-1 : Int32) from by decide] at pre417
  obtain ⟨T419, X419, e419, st419⟩ := getF X416 hx hZ hown (host := "") (Or.inl (own_w hw 43 rfl)) Via.refl e416 F_x0_lastSequence (g := (mkF m 51 #[rv x0, rv w_I2, iv 1] [(.ref x0), (.ref x0)])) rfl rfl (hb hby de_51)
  have pre420 : ∀ t, oS p e below m T419 56 #[rv x0, rv w_I2, iv 1] [(.long ((1 : Int64) + (1 : Int64))), (.ref x0)] t → oT p e below s₁ (entryFrame m #[(.ref x0), (.ref w_I2)] 3) t := by
    intro t kt
    refine pre417 t ?_
    show oS p e below m T416 43 #[rv x0, rv w_I2, iv 1] [(.int (-1 : Int32)), (.ref x0)] _
    refine XS.ifYes X416.here hx rfl (pc0 := 43) (pc' := 50) rfl (hb hby de_43) rfl ((if0 _ _).trans (feq (by decide : ¬ ((-1 : Int32) = (0 : Int32)))).2) (by decide) (by decide) ?_
    refine XS.aloadN X416.here hx rfl (hb hby de_50) rfl rfl ?_
    show oS p e below m T416 51 #[rv x0, rv w_I2, iv 1] [(.ref x0), (.ref x0)] _
    refine st419 _ ?_
    show oS p e below m T419 54 #[rv x0, rv w_I2, iv 1] [(.long 1), (.ref x0)] _
    refine XS.lconst X419.here hx rfl (hb hby de_54) ?_
    refine XS.ladd X419.here hx rfl (hb hby de_55) rfl ?_
    exact kt
  rw [show ((1 : Int64) + (1 : Int64)) = (2 : Int64) from by decide] at pre420
  obtain ⟨T421, h421, X421, e421, W421, st421⟩ := putF X419 hx hZ hown (host := "") (Or.inl (own_w hw 43 rfl)) Via.refl e419 F_x0_lastSequence E_x0 (Or.inl (own_w hw 44 rfl)) (own_w hw 5 rfl) (ty := .long) (by decide) rfl rfl (g := (mkF m 56 #[rv x0, rv w_I2, iv 1] [(.long 2), (.ref x0)])) rfl rfl (hb hby de_56)
  have F_x0_lastSequence := F_x0_lastSequence.same W421
  have E_x0 := E_x0.wr W421
  have F_x0_requests := F_x0_requests.other W421 (Or.inr (osn_Slots_requests_lastSequence hw))
  have F_x0_sequences := F_x0_sequences.other W421 (Or.inr (osn_Slots_sequences_lastSequence hw))
  have F_x0_free := F_x0_free.other W421 (Or.inr (osn_Slots_free_lastSequence hw))
  have F_x0_freeCount := F_x0_freeCount.other W421 (Or.inr (osn_Slots_freeCount_lastSequence hw))
  have V_x1 := V_x1.other W421 (Ne.symm ne_x0_x1)
  have V_x2 := V_x2.other W421 (Ne.symm ne_x0_x2)
  have V_x3 := V_x3.other W421 (Ne.symm ne_x0_x3)
  have O421 := O414.wr W421 ge_x0
  have K421 := K414.wr W421 (Or.inl (List.mem_of_getElem? (i := 0) rfl))
  have N421 := Fr.snoc X421 N414 ge_x0
  obtain ⟨T422, X422, e422, st422⟩ := getF X421 hx hZ hown (host := "") (Or.inl (own_w hw 16 rfl)) Via.refl e421 F_x0_requests (g := (mkF m 60 #[rv x0, rv w_I2, iv 1] [(.ref x0)])) rfl rfl (hb hby de_60)
  have vt423 := V_x1
  obtain ⟨cl423, Ar423, q423, S423, Ng423, Ha423, G423⟩ := vt423
  have hin423 : ¬ ((1 : Int32) < 0 ∨ cl423.slots.size ≤ ((1 : Int32)).toNatClampNeg) := inb_of S423 ⟨by decide, by decide⟩
  obtain ⟨T424, h424, X424, e424, W424, st424⟩ := stR X422 hx hZ e422 Ar423 (j := (1 : Int32)) hin423 rfl (Sto.ofV Ar423 q423 O_x1 (Ins.of_exa (E_I2.ext O421.2) (own_w hw 46 rfl))) (g := (mkF m 65 #[rv x0, rv w_I2, iv 1] [(.ref w_I2), (.int 1), (.ref x1)])) rfl rfl (hb hby de_65)
  have V_x1 : Arv Z h424 x1 kc0 (.object oc9) (2 : Int32) [(.ref w_I1), (.ref w_I2)] .null := Arv.set Ar423 q423 S423 Ng423 Ha423 G423 rfl W424 1 rfl (Nat.le_of_ble_eq_true rfl)
  have E_x0 := E_x0.wr W424
  have F_x0_requests := F_x0_requests.other W424 (Or.inl ne_x0_x1)
  have F_x0_sequences := F_x0_sequences.other W424 (Or.inl ne_x0_x1)
  have F_x0_free := F_x0_free.other W424 (Or.inl ne_x0_x1)
  have F_x0_freeCount := F_x0_freeCount.other W424 (Or.inl ne_x0_x1)
  have F_x0_lastSequence := F_x0_lastSequence.other W424 (Or.inl ne_x0_x1)
  have V_x2 := V_x2.other W424 (Ne.symm ne_x1_x2)
  have V_x3 := V_x3.other W424 (Ne.symm ne_x1_x3)
  have O424 := O421.wr W424 ge_x1
  have K424 := K421.wr W424 (Or.inl (List.mem_of_getElem? (i := 1) rfl))
  have N424 := Fr.snoc X424 N421 ge_x1
  obtain ⟨T425, X425, e425, st425⟩ := getF X424 hx hZ hown (host := "") (Or.inl (own_w hw 19 rfl)) Via.refl e424 F_x0_sequences (g := (mkF m 67 #[rv x0, rv w_I2, iv 1] [(.ref x0)])) rfl rfl (hb hby de_67)
  obtain ⟨T426, X426, e426, st426⟩ := getF X425 hx hZ hown (host := "") (Or.inl (own_w hw 43 rfl)) Via.refl e425 F_x0_lastSequence (g := (mkF m 72 #[rv x0, rv w_I2, iv 1] [(.ref x0), (.int 1), (.ref x2)])) rfl rfl (hb hby de_72)
  have vt427 := V_x2
  obtain ⟨cl427, Ar427, q427, S427, Ng427, Ha427, G427⟩ := vt427
  have hin427 : ¬ ((1 : Int32) < 0 ∨ cl427.slots.size ≤ ((1 : Int32)).toNatClampNeg) := inb_of S427 ⟨by decide, by decide⟩
  obtain ⟨T428, h428, X428, e428, W428, st428⟩ := stJ X426 hx hZ e426 Ar427 (j := (1 : Int32)) hin427 (g := (mkF m 75 #[rv x0, rv w_I2, iv 1] [(.long 2), (.int 1), (.ref x2)])) rfl rfl (hb hby de_75)
  have V_x2 : Arv Z h428 x2 kc1 .long (2 : Int32) [(.long 1), (.long 2)] (.long 0) := Arv.set Ar427 q427 S427 Ng427 Ha427 G427 rfl W428 1 rfl (Nat.le_of_ble_eq_true rfl)
  have E_x0 := E_x0.wr W428
  have F_x0_requests := F_x0_requests.other W428 (Or.inl ne_x0_x2)
  have F_x0_sequences := F_x0_sequences.other W428 (Or.inl ne_x0_x2)
  have F_x0_free := F_x0_free.other W428 (Or.inl ne_x0_x2)
  have F_x0_freeCount := F_x0_freeCount.other W428 (Or.inl ne_x0_x2)
  have F_x0_lastSequence := F_x0_lastSequence.other W428 (Or.inl ne_x0_x2)
  have V_x1 := V_x1.other W428 ne_x1_x2
  have V_x3 := V_x3.other W428 (Ne.symm ne_x2_x3)
  have O428 := O424.wr W428 ge_x2
  have K428 := K424.wr W428 (Or.inl (List.mem_of_getElem? (i := 2) rfl))
  have N428 := Fr.snoc X428 N424 ge_x2
  obtain ⟨T429, X429, e429, st429⟩ := getF X428 hx hZ hown (host := "") (Or.inl (own_w hw 43 rfl)) Via.refl e428 F_x0_lastSequence (g := (mkF m 77 #[rv x0, rv w_I2, iv 1] [(.ref x0)])) rfl rfl (hb hby de_77)
  have pre430 : ∀ t, oS p e below m T429 83 #[rv x0, rv w_I2, iv 1] [(.long ((2 : Int64) <<< ((20 : Int32) &&& 0x3f).toInt64))] t → oT p e below s₁ (entryFrame m #[(.ref x0), (.ref w_I2)] 3) t := by
    intro t kt
    refine pre420 t ?_
    show oS p e below m T419 56 #[rv x0, rv w_I2, iv 1] [(.long 2), (.ref x0)] _
    refine st421 _ ?_
    show oS p e below m T421 59 #[rv x0, rv w_I2, iv 1] [] _
    refine XS.aloadN X421.here hx rfl (hb hby de_59) rfl rfl ?_
    show oS p e below m T421 60 #[rv x0, rv w_I2, iv 1] [(.ref x0)] _
    refine st422 _ ?_
    show oS p e below m T422 63 #[rv x0, rv w_I2, iv 1] [(.ref x1)] _
    refine XS.iloadN X422.here hx rfl (hb hby de_63) rfl ?_
    refine XS.aloadN X422.here hx rfl (hb hby de_64) rfl rfl ?_
    show oS p e below m T422 65 #[rv x0, rv w_I2, iv 1] [(.ref w_I2), (.int 1), (.ref x1)] _
    refine st424 _ ?_
    show oS p e below m T424 66 #[rv x0, rv w_I2, iv 1] [] _
    refine XS.aloadN X424.here hx rfl (hb hby de_66) rfl rfl ?_
    show oS p e below m T424 67 #[rv x0, rv w_I2, iv 1] [(.ref x0)] _
    refine st425 _ ?_
    show oS p e below m T425 70 #[rv x0, rv w_I2, iv 1] [(.ref x2)] _
    refine XS.iloadN X425.here hx rfl (hb hby de_70) rfl ?_
    refine XS.aloadN X425.here hx rfl (hb hby de_71) rfl rfl ?_
    show oS p e below m T425 72 #[rv x0, rv w_I2, iv 1] [(.ref x0), (.int 1), (.ref x2)] _
    refine st426 _ ?_
    show oS p e below m T426 75 #[rv x0, rv w_I2, iv 1] [(.long 2), (.int 1), (.ref x2)] _
    refine st428 _ ?_
    show oS p e below m T428 76 #[rv x0, rv w_I2, iv 1] [] _
    refine XS.aloadN X428.here hx rfl (hb hby de_76) rfl rfl ?_
    show oS p e below m T428 77 #[rv x0, rv w_I2, iv 1] [(.ref x0)] _
    refine st429 _ ?_
    show oS p e below m T429 80 #[rv x0, rv w_I2, iv 1] [(.long 2)] _
    refine XS.bipush X429.here hx rfl (hb hby de_80) ?_
    refine XS.lshl X429.here hx rfl (hb hby de_82) rfl ?_
    exact kt
  rw [show ((2 : Int64) <<< ((20 : Int32) &&& 0x3f).toInt64) = (2097152 : Int64) from by decide] at pre430
  have pre431 : ∀ t, oS p e below m T429 85 #[rv x0, rv w_I2, iv 1] [(.long ((1 : Int32).toInt64)), (.long 2097152)] t → oT p e below s₁ (entryFrame m #[(.ref x0), (.ref w_I2)] 3) t := by
    intro t kt
    refine pre430 t ?_
    show oS p e below m T429 83 #[rv x0, rv w_I2, iv 1] [(.long 2097152)] _
    refine XS.iloadN X429.here hx rfl (hb hby de_83) rfl ?_
    refine XS.i2l X429.here hx rfl (hb hby de_84) rfl ?_
    exact kt
  rw [show ((1 : Int32).toInt64) = (1 : Int64) from by decide] at pre431
  have pre432 : ∀ t, oS p e below m T429 86 #[rv x0, rv w_I2, iv 1] [(.long ((2097152 : Int64) ||| (1 : Int64)))] t → oT p e below s₁ (entryFrame m #[(.ref x0), (.ref w_I2)] 3) t := by
    intro t kt
    refine pre431 t ?_
    show oS p e below m T429 85 #[rv x0, rv w_I2, iv 1] [(.long 1), (.long 2097152)] _
    refine XS.lor X429.here hx rfl (hb hby de_85) rfl ?_
    exact kt
  rw [show ((2097152 : Int64) ||| (1 : Int64)) = (2097153 : Int64) from by decide] at pre432
  obtain ⟨fs, hr, hrun, hended, hW, hsame⟩ := X429.leave (v := some (.long 2097153)) (fun h => by rw [Bd.returns] at h; cases h)
  refine ⟨_, _, pre432 _ ?_, hrun, hended, _, _, rfl, ?_, ⟨_, rfl⟩, hW, hsame.mono (by decide) (by decide)⟩
  · show oS p e below m T429 86 #[rv x0, rv w_I2, iv 1] [(.long 2097153)] _
    jvm_step X429.here [X429.here.top, hx, (hb hby de_86), X429.method', Bd.returns, narrow]
    first | (intro acts; rw [hr _ acts rfl rfl rfl]) | rw [hr _ _ rfl rfl rfl]
    exact Steps.refl _
  · show Q_rm_take_23 Z x0 x1 x2 x3 kc0 kc1 kc2 w_I2 w_I1 h0 n0 _ T429.heap _
    rw [e429]
    exact ⟨rfl, N428, K428, E_x0, F_x0_requests, F_x0_sequences, F_x0_free, F_x0_freeCount, F_x0_lastSequence, V_x1, V_x2⟩
theorem ef_rm_get_25 (m : MethodId) (x0 : Addr) : entryFrame m #[(.ref x0), (.long 1048576)] 7 = mkF m 0 (oL1 x0) [] := by first | (simp [entryFrame, mkF, argsToLocals, Value.category]; done) | rfl
def Q_rm_get_25 (Z : State) (x0 : Addr) (x1 : Addr) (x2 : Addr) (kc0 : ClassId) (kc1 : ClassId) (w_I1 : Addr) (w_I2 : Addr) (h0 : Heap) (n0 : Nat) (v : Option Value) (h : Heap) (L : List Loc) : Prop := v = some (.ref w_I1) ∧ Fr n0 L ∧ h = h0
set_option maxRecDepth 65536 in
set_option maxHeartbeats 40000000 in
theorem rm_get_25 (l : Launch) (Z : State) (a0 : Array Value) (hw : ∀ d ∈ tables_1, d.before a0 Z = true) (ws : List Jvm.Cond) (x0 : Addr) (x1 : Addr) (x2 : Addr) (kc0 : ClassId) (kc1 : ClassId) (w_I1 : Addr) (w_I2 : Addr) (h0 : Heap) (n0 : Nat) (O0 : Old Z n0 h0) (F_x0_requests : Fld Z h0 x0 oc8 "requests" "[Ljava/lang/Object;" (.ref x1)) (F_x0_sequences : Fld Z h0 x0 oc8 "sequences" "[J" (.ref x2)) (V_x1 : Arv Z h0 x1 kc0 (.object oc9) (2 : Int32) [(.ref w_I1), (.ref w_I2)] .null) (V_x2 : Arv Z h0 x2 kc1 .long (2 : Int32) [(.long 1), (.long 2)] (.long 0))  :
    oM l oy6 prog_29_method_5_code 7 (some (.object oc9)) ws ({ frames := 0, cells := 0, slots := 0, locals := 0 } : Room) Z #[(.ref x0), (.long 1048576)] h0 (Q_rm_get_25 Z x0 x1 x2 kc0 kc1 w_I1 w_I2 h0 n0) := by
  refine MetFree.of_bodySF (plainFor_of_name pn_com_example_wend_wend_Slots) hisR ?_
  intro p e s m args below meth c s₁ Bd hml0 hP hK
  obtain ⟨rfl, hZ, hh⟩ := hP
  have hx := Bd.exec
  have hby := Bd.bytes
  have hml : c.maxLocals = 7 := hml0
  have hown : s.vm.findClass oc8 = some m.cls := findClass_of_methodNamed Bd.named
  have hnm := (name_of_methodNamed Bd.named Bd.method).1
  have X0 : Stand p l e ({ frames := 0, cells := 0, slots := 0, locals := 0 } : Room) s m #[(.ref x0), (.long 1048576)] below meth c s₁ [] 0 0 := Stand.of_body Bd
  have e0 : s₁.heap = h0 := by rw [← hh, Bd.state]; rfl
  have N0 := Fr.nil n0
  have pre0 : ∀ t, oS p e below m s₁ 0 (oL1 x0) [] t → oT p e below s₁ (entryFrame m #[(.ref x0), (.long 1048576)] 7) t := fun t k => castTop (ef_rm_get_25 m x0) k
  have K0 := Keep.refl h0 []
  have pre448 : ∀ t, oS p e below m s₁ 5 (oL1 x0) [(.long ((1048576 : Int64) &&& (1048575 : Int64)))] t → oT p e below s₁ (entryFrame m #[(.ref x0), (.long 1048576)] 7) t := by
    intro t kt
    refine pre0 t ?_
    show oS p e below m s₁ 0 (oL1 x0) [] _
    refine XS.lloadN X0.here hx rfl (hb hby df_0) rfl ?_
    show oS p e below m s₁ 1 (oL1 x0) [(.long 1048576)] _
    refine X0.ldc2Long hx hown (mvT hZ (own_w hw 57 rfl)) (g := (mkF m 1 (oL1 x0) [(.long 1048576)])) rfl (hb hby df_1) _ ?_
    show oS p e below m s₁ 4 (oL1 x0) [(.long 1048575), (.long 1048576)] _
    refine XS.land X0.here hx rfl (hb hby df_4) rfl ?_
    exact kt
  rw [show ((1048576 : Int64) &&& (1048575 : Int64)) = (0 : Int64) from by decide] at pre448
  have pre449 : ∀ t, oS p e below m s₁ 6 (oL1 x0) [(.int ((0 : Int64).toInt32))] t → oT p e below s₁ (entryFrame m #[(.ref x0), (.long 1048576)] 7) t := by
    intro t kt
    refine pre448 t ?_
    show oS p e below m s₁ 5 (oL1 x0) [(.long 0)] _
    refine XS.l2i X0.here hx rfl (hb hby df_5) rfl ?_
    exact kt
  rw [show ((0 : Int64).toInt32) = (0 : Int32) from by decide] at pre449
  have pre450 : ∀ t, oS p e below m s₁ 11 (oL4 x0) [(.long (((1048576 : Int64).toUInt64 >>> ((20 : Int32) &&& 0x3f).toInt64.toUInt64).toInt64))] t → oT p e below s₁ (entryFrame m #[(.ref x0), (.long 1048576)] 7) t := by
    intro t kt
    refine pre449 t ?_
    show oS p e below m s₁ 6 (oL1 x0) [(.int 0)] _
    refine XS.istoreN X0.here hx rfl (hb hby df_6) rfl (l' := (oL4 x0)) rfl ?_
    refine XS.lloadN X0.here hx rfl (hb hby df_7) rfl ?_
    show oS p e below m s₁ 8 (oL4 x0) [(.long 1048576)] _
    refine XS.bipush X0.here hx rfl (hb hby df_8) ?_
    refine XS.lushr X0.here hx rfl (hb hby df_10) rfl ?_
    exact kt
  rw [show (((1048576 : Int64).toUInt64 >>> ((20 : Int32) &&& 0x3f).toInt64.toUInt64).toInt64) = (1 : Int64) from by decide] at pre450
  obtain ⟨T451, X451, e451, st451⟩ := getF X0 hx hZ hown (host := "") (Or.inl (own_w hw 16 rfl)) Via.refl e0 F_x0_requests (g := (mkF m 15 (oL0 x0) [(.ref x0), (.int 0)])) rfl rfl (hb hby df_15)
  have vt452 := V_x1
  obtain ⟨cl452, Ar452, q452, S452, Ng452, Ha452, G452⟩ := vt452
  obtain ⟨T454, X454, e454, st454⟩ := getF X451 hx hZ hown (host := "") (Or.inl (own_w hw 19 rfl)) Via.refl e451 F_x0_sequences (g := (mkF m 23 (oL0 x0) [(.ref x0)])) rfl rfl (hb hby df_23)
  have vt455 := V_x2
  obtain ⟨cl455, Ar455, q455, S455, Ng455, Ha455, G455⟩ := vt455
  have hin455 : ¬ ((0 : Int32) < 0 ∨ cl455.slots.size ≤ ((0 : Int32)).toNatClampNeg) := inb_of S455 ⟨by decide, by decide⟩
  have hat455 : cl455.slots[((0 : Int32)).toNatClampNeg]? = some (.long 1) := Ha455.at hin455 rfl
  have pre456 : ∀ t, oS p e below m T454 31 (oL0 x0) [(.int (lcmpW (1 : Int64) (1 : Int64)))] t → oT p e below s₁ (entryFrame m #[(.ref x0), (.long 1048576)] 7) t := by
    intro t kt
    refine pre450 t ?_
    show oS p e below m s₁ 11 (oL4 x0) [(.long 1)] _
    refine XS.lstore X0.here hx rfl (hb hby df_11) rfl (l' := (oL0 x0)) rfl ?_
    refine XS.iloadN X0.here hx rfl (hb hby df_13) rfl ?_
    show oS p e below m s₁ 14 (oL0 x0) [(.int 0)] _
    refine XS.aloadN X0.here hx rfl (hb hby df_14) rfl rfl ?_
    show oS p e below m s₁ 15 (oL0 x0) [(.ref x0), (.int 0)] _
    refine st451 _ ?_
    show oS p e below m T451 18 (oL0 x0) [(.ref x1), (.int 0)] _
    refine X451.arraylength hx (by rw [e451]; exact Ar452.1) (State.isArrayOf_alike hZ.alike Ar452.2.1) (g := (mkF m 18 (oL0 x0) [(.ref x1), (.int 0)])) rfl rfl (hb hby df_18) _ ?_
    rw [len_of S452 Ng452]
    show oS p e below m T451 19 (oL0 x0) [(.int 2), (.int 0)] _
    refine XS.icmpNo X451.here hx rfl (hb hby df_19) rfl (tlt (by decide : (0 : Int32) < (2 : Int32))).2.1 ?_
    refine XS.aloadN X451.here hx rfl (hb hby df_22) rfl rfl ?_
    show oS p e below m T451 23 (oL0 x0) [(.ref x0)] _
    refine st454 _ ?_
    show oS p e below m T454 26 (oL0 x0) [(.ref x2)] _
    refine XS.iloadN X454.here hx rfl (hb hby df_26) rfl ?_
    show oS p e below m T454 27 (oL0 x0) [(.int 0), (.ref x2)] _
    refine X454.laload hx (j := (0 : Int32)) (v := (.long 1)) (by rw [e454]; exact Ar455.1) (State.isArrayOf_alike hZ.alike Ar455.2.1) Ar455.2.2 hin455 hat455 (g := (mkF m 27 (oL0 x0) [(.int 0), (.ref x2)])) rfl rfl (hb hby df_27) _ ?_
    show oS p e below m T454 28 (oL0 x0) [(.long 1)] _
    refine XS.lload X454.here hx rfl (hb hby df_28) rfl ?_
    refine XS.lcmp X454.here hx rfl (hb hby df_30) rfl ?_
    exact kt
  rw [show (lcmpW (1 : Int64) (1 : Int64)) = (0 : Int32) from by decide] at pre456
  obtain ⟨T459, X459, e459, st459⟩ := getF X454 hx hZ hown (host := "") (Or.inl (own_w hw 16 rfl)) Via.refl e454 F_x0_requests (g := (mkF m 47 (oL5 x0) [(.ref x0)])) rfl rfl (hb hby df_47)
  have vt460 := V_x1
  obtain ⟨cl460, Ar460, q460, S460, Ng460, Ha460, G460⟩ := vt460
  have hin460 : ¬ ((0 : Int32) < 0 ∨ cl460.slots.size ≤ ((0 : Int32)).toNatClampNeg) := inb_of S460 ⟨by decide, by decide⟩
  have hat460 : cl460.slots[((0 : Int32)).toNatClampNeg]? = some (.ref w_I1) := Ha460.at hin460 rfl
  have pre461 : ∀ t, oS p e below m T459 56 (oL5 x0) [(.ref w_I1)] t → oT p e below s₁ (entryFrame m #[(.ref x0), (.long 1048576)] 7) t := by
    intro t kt
    refine pre456 t ?_
    show oS p e below m T454 31 (oL0 x0) [(.int 0)] _
    refine XS.ifNo X454.here hx rfl (hb hby df_31) rfl ((if0 _ _).trans (teq (by decide : (0 : Int32) = (0 : Int32))).2) ?_
    refine XS.iconst X454.here hx rfl (hb hby df_34) ?_
    show oS p e below m T454 35 (oL0 x0) [(.int 1)] _
    refine XS.goto X454.here hx rfl (pc0 := 35) (pc' := 39) rfl (hb hby df_35) (by decide) (by decide) ?_
    refine XS.istore X454.here hx rfl (hb hby df_39) rfl (l' := (oL5 x0)) rfl ?_
    show oS p e below m T454 41 (oL5 x0) [] _
    refine XS.iload X454.here hx rfl (hb hby df_41) rfl ?_
    refine XS.ifNo X454.here hx rfl (hb hby df_43) rfl ((if0 _ _).trans (feq (by decide : ¬ ((1 : Int32) = (0 : Int32)))).1) ?_
    show oS p e below m T454 46 (oL5 x0) [] _
    refine XS.aloadN X454.here hx rfl (hb hby df_46) rfl rfl ?_
    show oS p e below m T454 47 (oL5 x0) [(.ref x0)] _
    refine st459 _ ?_
    show oS p e below m T459 50 (oL5 x0) [(.ref x1)] _
    refine XS.iloadN X459.here hx rfl (hb hby df_50) rfl ?_
    show oS p e below m T459 51 (oL5 x0) [(.int 0), (.ref x1)] _
    refine X459.aaload hx (j := (0 : Int32)) (v := (.ref w_I1)) (by rw [e459]; exact Ar460.1) (State.isArrayOf_alike hZ.alike Ar460.2.1) rfl Ar460.2.2 hin460 hat460 (g := (mkF m 51 (oL5 x0) [(.int 0), (.ref x1)])) rfl rfl (hb hby df_51) _ ?_
    show oS p e below m T459 52 (oL5 x0) [(.ref w_I1)] _
    refine XS.goto X459.here hx rfl (pc0 := 52) (pc' := 56) rfl (hb hby df_52) (by decide) (by decide) ?_
    exact kt
  obtain ⟨fs, hr, hrun, hended, hW, hsame⟩ := X459.leave (v := some (.ref w_I1)) (fun h => by rw [Bd.returns] at h; cases h)
  refine ⟨_, _, pre461 _ ?_, hrun, hended, _, _, rfl, ?_, ⟨_, rfl⟩, hW, hsame.mono (by decide) (by decide)⟩
  · show oS p e below m T459 56 (oL5 x0) [(.ref w_I1)] _
    jvm_step X459.here [X459.here.top, hx, (hb hby df_56), X459.method', Bd.returns, Value.isRef, FieldType.isReference]
    first | (intro acts; rw [hr _ acts rfl rfl rfl]) | rw [hr _ _ rfl rfl rfl]
    exact Steps.refl _
  · show Q_rm_get_25 Z x0 x1 x2 kc0 kc1 w_I1 w_I2 h0 n0 _ T459.heap _
    rw [e459]
    exact ⟨rfl, N0, rfl⟩
theorem ef_rm_free_26 (m : MethodId) (x0 : Addr) : entryFrame m #[(.ref x0), (.int 0)] 2 = mkF m 0 #[rv x0, iv 0] [] := by first | (simp [entryFrame, mkF, argsToLocals, Value.category]; done) | rfl
def Q_rm_free_26 (Z : State) (x0 : Addr) (x1 : Addr) (x2 : Addr) (x3 : Addr) (kc0 : ClassId) (kc1 : ClassId) (kc2 : ClassId) (w_I2 : Addr) (w_I1 : Addr) (h0 : Heap) (n0 : Nat) (v : Option Value) (h : Heap) (L : List Loc) : Prop := v = none ∧ Fr n0 L ∧ Keep h0 h [x1, x2, x0, x3] ∧ Arv Z h x1 kc0 (.object oc9) (2 : Int32) [.null, (.ref w_I2)] .null ∧ Arv Z h x2 kc1 .long (2 : Int32) [(.long 0), (.long 2)] (.long 0) ∧ Exa Z h x0 oc8 ∧ Fld Z h x0 oc8 "requests" "[Ljava/lang/Object;" (.ref x1) ∧ Fld Z h x0 oc8 "sequences" "[J" (.ref x2) ∧ Fld Z h x0 oc8 "free" "[I" (.ref x3) ∧ Fld Z h x0 oc8 "freeCount" "I" (.int 1) ∧ Fld Z h x0 oc8 "lastSequence" "J" (.long 2) ∧ Arv Z h x3 kc2 .int (2 : Int32) [(.int 0), (.int 0)] (.int 0)
set_option maxRecDepth 65536 in
set_option maxHeartbeats 40000000 in
theorem rm_free_26 (l : Launch) (Z : State) (a0 : Array Value) (hw : ∀ d ∈ tables_1, d.before a0 Z = true) (ws : List Jvm.Cond) (x0 : Addr) (x1 : Addr) (x2 : Addr) (x3 : Addr) (kc0 : ClassId) (kc1 : ClassId) (kc2 : ClassId) (w_I2 : Addr) (w_I1 : Addr) (h0 : Heap) (n0 : Nat) (O0 : Old Z n0 h0) (E_x0 : Exa Z h0 x0 oc8) (F_x0_requests : Fld Z h0 x0 oc8 "requests" "[Ljava/lang/Object;" (.ref x1)) (F_x0_sequences : Fld Z h0 x0 oc8 "sequences" "[J" (.ref x2)) (F_x0_free : Fld Z h0 x0 oc8 "free" "[I" (.ref x3)) (F_x0_freeCount : Fld Z h0 x0 oc8 "freeCount" "I" (.int 0)) (F_x0_lastSequence : Fld Z h0 x0 oc8 "lastSequence" "J" (.long 2)) (ge_x0 : n0 ≤ x0) (O_x1 : Ovr Z kc0 oc9) (V_x1 : Arv Z h0 x1 kc0 (.object oc9) (2 : Int32) [(.ref w_I1), (.ref w_I2)] .null) (ge_x1 : n0 ≤ x1) (V_x2 : Arv Z h0 x2 kc1 .long (2 : Int32) [(.long 1), (.long 2)] (.long 0)) (ge_x2 : n0 ≤ x2) (V_x3 : Arv Z h0 x3 kc2 .int (2 : Int32) [(.int 1), (.int 0)] (.int 0)) (ge_x3 : n0 ≤ x3) (ne_x0_x1 : x0 ≠ x1) (ne_x0_x2 : x0 ≠ x2) (ne_x0_x3 : x0 ≠ x3) (ne_x1_x2 : x1 ≠ x2) (ne_x1_x3 : x1 ≠ x3) (ne_x2_x3 : x2 ≠ x3)  :
    oM l oy7 prog_29_method_8_code 2 none ws ({ frames := 0, cells := 0, slots := 0, locals := 0 } : Room) Z #[(.ref x0), (.int 0)] h0 (Q_rm_free_26 Z x0 x1 x2 x3 kc0 kc1 kc2 w_I2 w_I1 h0 n0) := by
  refine MetFree.of_bodySF (plainFor_of_name pn_com_example_wend_wend_Slots) hisR ?_
  intro p e s m args below meth c s₁ Bd hml0 hP hK
  obtain ⟨rfl, hZ, hh⟩ := hP
  have hx := Bd.exec
  have hby := Bd.bytes
  have hml : c.maxLocals = 2 := hml0
  have hown : s.vm.findClass oc8 = some m.cls := findClass_of_methodNamed Bd.named
  have hnm := (name_of_methodNamed Bd.named Bd.method).1
  have X0 : Stand p l e ({ frames := 0, cells := 0, slots := 0, locals := 0 } : Room) s m #[(.ref x0), (.int 0)] below meth c s₁ [] 0 0 := Stand.of_body Bd
  have e0 : s₁.heap = h0 := by rw [← hh, Bd.state]; rfl
  have N0 := Fr.nil n0
  have pre0 : ∀ t, oS p e below m s₁ 0 #[rv x0, iv 0] [] t → oT p e below s₁ (entryFrame m #[(.ref x0), (.int 0)] 2) t := fun t k => castTop (ef_rm_free_26 m x0) k
  have K0 := Keep.refl h0 [x1, x2, x0, x3]
  obtain ⟨T465, X465, e465, st465⟩ := getF X0 hx hZ hown (host := "") (Or.inl (own_w hw 16 rfl)) Via.refl e0 F_x0_requests (g := (mkF m 1 #[rv x0, iv 0] [(.ref x0)])) rfl rfl (hb hby dh_1)
  have vt466 := V_x1
  obtain ⟨cl466, Ar466, q466, S466, Ng466, Ha466, G466⟩ := vt466
  have hin466 : ¬ ((0 : Int32) < 0 ∨ cl466.slots.size ≤ ((0 : Int32)).toNatClampNeg) := inb_of S466 ⟨by decide, by decide⟩
  obtain ⟨T467, h467, X467, e467, W467, st467⟩ := stR X465 hx hZ e465 Ar466 (j := (0 : Int32)) hin466 rfl (Or.inl rfl) (g := (mkF m 6 #[rv x0, iv 0] [.null, (.int 0), (.ref x1)])) rfl rfl (hb hby dh_6)
  have V_x1 : Arv Z h467 x1 kc0 (.object oc9) (2 : Int32) [.null, (.ref w_I2)] .null := Arv.set Ar466 q466 S466 Ng466 Ha466 G466 rfl W467 0 rfl (Nat.le_of_ble_eq_true rfl)
  have E_x0 := E_x0.wr W467
  have F_x0_requests := F_x0_requests.other W467 (Or.inl ne_x0_x1)
  have F_x0_sequences := F_x0_sequences.other W467 (Or.inl ne_x0_x1)
  have F_x0_free := F_x0_free.other W467 (Or.inl ne_x0_x1)
  have F_x0_freeCount := F_x0_freeCount.other W467 (Or.inl ne_x0_x1)
  have F_x0_lastSequence := F_x0_lastSequence.other W467 (Or.inl ne_x0_x1)
  have V_x2 := V_x2.other W467 (Ne.symm ne_x1_x2)
  have V_x3 := V_x3.other W467 (Ne.symm ne_x1_x3)
  have O467 := O0.wr W467 ge_x1
  have K467 := K0.wr W467 (Or.inl (List.mem_of_getElem? (i := 0) rfl))
  have N467 := Fr.snoc X467 N0 ge_x1
  obtain ⟨T468, X468, e468, st468⟩ := getF X467 hx hZ hown (host := "") (Or.inl (own_w hw 19 rfl)) Via.refl e467 F_x0_sequences (g := (mkF m 8 #[rv x0, iv 0] [(.ref x0)])) rfl rfl (hb hby dh_8)
  have vt469 := V_x2
  obtain ⟨cl469, Ar469, q469, S469, Ng469, Ha469, G469⟩ := vt469
  have hin469 : ¬ ((0 : Int32) < 0 ∨ cl469.slots.size ≤ ((0 : Int32)).toNatClampNeg) := inb_of S469 ⟨by decide, by decide⟩
  obtain ⟨T470, h470, X470, e470, W470, st470⟩ := stJ X468 hx hZ e468 Ar469 (j := (0 : Int32)) hin469 (g := (mkF m 13 #[rv x0, iv 0] [(.long 0), (.int 0), (.ref x2)])) rfl rfl (hb hby dh_13)
  have V_x2 : Arv Z h470 x2 kc1 .long (2 : Int32) [(.long 0), (.long 2)] (.long 0) := Arv.set Ar469 q469 S469 Ng469 Ha469 G469 rfl W470 0 rfl (Nat.le_of_ble_eq_true rfl)
  have E_x0 := E_x0.wr W470
  have F_x0_requests := F_x0_requests.other W470 (Or.inl ne_x0_x2)
  have F_x0_sequences := F_x0_sequences.other W470 (Or.inl ne_x0_x2)
  have F_x0_free := F_x0_free.other W470 (Or.inl ne_x0_x2)
  have F_x0_freeCount := F_x0_freeCount.other W470 (Or.inl ne_x0_x2)
  have F_x0_lastSequence := F_x0_lastSequence.other W470 (Or.inl ne_x0_x2)
  have V_x1 := V_x1.other W470 ne_x1_x2
  have V_x3 := V_x3.other W470 (Ne.symm ne_x2_x3)
  have O470 := O467.wr W470 ge_x2
  have K470 := K467.wr W470 (Or.inl (List.mem_of_getElem? (i := 1) rfl))
  have N470 := Fr.snoc X470 N467 ge_x2
  obtain ⟨T471, X471, e471, st471⟩ := getF X470 hx hZ hown (host := "") (Or.inl (own_w hw 22 rfl)) Via.refl e470 F_x0_free (g := (mkF m 15 #[rv x0, iv 0] [(.ref x0)])) rfl rfl (hb hby dh_15)
  obtain ⟨T472, X472, e472, st472⟩ := getF X471 hx hZ hown (host := "") (Or.inl (own_w hw 24 rfl)) Via.refl e471 F_x0_freeCount (g := (mkF m 20 #[rv x0, iv 0] [(.ref x0), (.ref x0), (.ref x3)])) rfl rfl (hb hby dh_20)
  have pre473 : ∀ t, oS p e below m T472 26 #[rv x0, iv 0] [(.int ((0 : Int32) + (1 : Int32))), (.ref x0), (.int 0), (.ref x3)] t → oT p e below s₁ (entryFrame m #[(.ref x0), (.int 0)] 2) t := by
    intro t kt
    refine pre0 t ?_
    show oS p e below m s₁ 0 #[rv x0, iv 0] [] _
    refine XS.aloadN X0.here hx rfl (hb hby dh_0) rfl rfl ?_
    show oS p e below m s₁ 1 #[rv x0, iv 0] [(.ref x0)] _
    refine st465 _ ?_
    show oS p e below m T465 4 #[rv x0, iv 0] [(.ref x1)] _
    refine XS.iloadN X465.here hx rfl (hb hby dh_4) rfl ?_
    refine XS.aconstNull X465.here hx rfl (hb hby dh_5) ?_
    show oS p e below m T465 6 #[rv x0, iv 0] [.null, (.int 0), (.ref x1)] _
    refine st467 _ ?_
    show oS p e below m T467 7 #[rv x0, iv 0] [] _
    refine XS.aloadN X467.here hx rfl (hb hby dh_7) rfl rfl ?_
    show oS p e below m T467 8 #[rv x0, iv 0] [(.ref x0)] _
    refine st468 _ ?_
    show oS p e below m T468 11 #[rv x0, iv 0] [(.ref x2)] _
    refine XS.iloadN X468.here hx rfl (hb hby dh_11) rfl ?_
    refine XS.lconst X468.here hx rfl (hb hby dh_12) ?_
    show oS p e below m T468 13 #[rv x0, iv 0] [(.long 0), (.int 0), (.ref x2)] _
    refine st470 _ ?_
    show oS p e below m T470 14 #[rv x0, iv 0] [] _
    refine XS.aloadN X470.here hx rfl (hb hby dh_14) rfl rfl ?_
    show oS p e below m T470 15 #[rv x0, iv 0] [(.ref x0)] _
    refine st471 _ ?_
    show oS p e below m T471 18 #[rv x0, iv 0] [(.ref x3)] _
    refine XS.aloadN X471.here hx rfl (hb hby dh_18) rfl rfl ?_
    refine XS.dup X471.here hx rfl (hb hby dh_19) rfl rfl ?_
    show oS p e below m T471 20 #[rv x0, iv 0] [(.ref x0), (.ref x0), (.ref x3)] _
    refine st472 _ ?_
    show oS p e below m T472 23 #[rv x0, iv 0] [(.int 0), (.ref x0), (.ref x3)] _
    refine XS.dupX1 X472.here hx rfl (hb hby dh_23) rfl rfl rfl ?_
    refine XS.iconst X472.here hx rfl (hb hby dh_24) ?_
    show oS p e below m T472 25 #[rv x0, iv 0] [(.int 1), (.int 0), (.ref x0), (.int 0), (.ref x3)] _
    refine XS.iadd X472.here hx rfl (hb hby dh_25) rfl ?_
    exact kt
  rw [show ((0 : Int32) + (1 : Int32)) = (1 : Int32) from by decide] at pre473
  obtain ⟨T474, h474, X474, e474, W474, st474⟩ := putF X472 hx hZ hown (host := "") (Or.inl (own_w hw 24 rfl)) Via.refl e472 F_x0_freeCount E_x0 (Or.inl (own_w hw 25 rfl)) (own_w hw 5 rfl) (ty := .int) (by decide) rfl rfl (g := (mkF m 26 #[rv x0, iv 0] [(.int 1), (.ref x0), (.int 0), (.ref x3)])) rfl rfl (hb hby dh_26)
  have F_x0_freeCount := F_x0_freeCount.same W474
  have E_x0 := E_x0.wr W474
  have F_x0_requests := F_x0_requests.other W474 (Or.inr (osn_Slots_requests_freeCount hw))
  have F_x0_sequences := F_x0_sequences.other W474 (Or.inr (osn_Slots_sequences_freeCount hw))
  have F_x0_free := F_x0_free.other W474 (Or.inr (osn_Slots_free_freeCount hw))
  have F_x0_lastSequence := F_x0_lastSequence.other W474 (Or.inr (osn_Slots_lastSequence_freeCount hw))
  have V_x1 := V_x1.other W474 (Ne.symm ne_x0_x1)
  have V_x2 := V_x2.other W474 (Ne.symm ne_x0_x2)
  have V_x3 := V_x3.other W474 (Ne.symm ne_x0_x3)
  have O474 := O470.wr W474 ge_x0
  have K474 := K470.wr W474 (Or.inl (List.mem_of_getElem? (i := 2) rfl))
  have N474 := Fr.snoc X474 N470 ge_x0
  have vt475 := V_x3
  obtain ⟨cl475, Ar475, q475, S475, Ng475, Ha475, G475⟩ := vt475
  have hin475 : ¬ ((0 : Int32) < 0 ∨ cl475.slots.size ≤ ((0 : Int32)).toNatClampNeg) := inb_of S475 ⟨by decide, by decide⟩
  obtain ⟨T476, h476, X476, e476, W476, st476⟩ := stI X474 hx hZ e474 Ar475 (j := (0 : Int32)) hin475 (g := (mkF m 30 #[rv x0, iv 0] [(.int 0), (.int 0), (.ref x3)])) rfl rfl (hb hby dh_30)
  have V_x3 : Arv Z h476 x3 kc2 .int (2 : Int32) [(.int 0), (.int 0)] (.int 0) := Arv.set Ar475 q475 S475 Ng475 Ha475 G475 rfl W476 0 rfl (Nat.le_of_ble_eq_true rfl)
  have E_x0 := E_x0.wr W476
  have F_x0_requests := F_x0_requests.other W476 (Or.inl ne_x0_x3)
  have F_x0_sequences := F_x0_sequences.other W476 (Or.inl ne_x0_x3)
  have F_x0_free := F_x0_free.other W476 (Or.inl ne_x0_x3)
  have F_x0_freeCount := F_x0_freeCount.other W476 (Or.inl ne_x0_x3)
  have F_x0_lastSequence := F_x0_lastSequence.other W476 (Or.inl ne_x0_x3)
  have V_x1 := V_x1.other W476 ne_x1_x3
  have V_x2 := V_x2.other W476 ne_x2_x3
  have O476 := O474.wr W476 ge_x3
  have K476 := K474.wr W476 (Or.inl (List.mem_of_getElem? (i := 3) rfl))
  have N476 := Fr.snoc X476 N474 ge_x3
  have pre477 : ∀ t, oS p e below m T476 31 #[rv x0, iv 0] [] t → oT p e below s₁ (entryFrame m #[(.ref x0), (.int 0)] 2) t := by
    intro t kt
    refine pre473 t ?_
    show oS p e below m T472 26 #[rv x0, iv 0] [(.int 1), (.ref x0), (.int 0), (.ref x3)] _
    refine st474 _ ?_
    show oS p e below m T474 29 #[rv x0, iv 0] [(.int 0), (.ref x3)] _
    refine XS.iloadN X474.here hx rfl (hb hby dh_29) rfl ?_
    show oS p e below m T474 30 #[rv x0, iv 0] [(.int 0), (.int 0), (.ref x3)] _
    refine st476 _ ?_
    exact kt
  obtain ⟨fs, hr, hrun, hended, hW, hsame⟩ := X476.leave (v := none) (fun _ => rfl)
  refine ⟨_, _, pre477 _ ?_, hrun, hended, _, _, rfl, ?_, ⟨_, rfl⟩, hW, hsame.mono (by decide) (by decide)⟩
  · show oS p e below m T476 31 #[rv x0, iv 0] [] _
    exact X476.returnOut hx Bd.returns (hb hby dh_31) hr
  · show Q_rm_free_26 Z x0 x1 x2 x3 kc0 kc1 kc2 w_I2 w_I1 h0 n0 _ T476.heap _
    rw [e476]
    exact ⟨rfl, N476, K476, V_x1, V_x2, E_x0, F_x0_requests, F_x0_sequences, F_x0_free, F_x0_freeCount, F_x0_lastSequence, V_x3⟩
theorem ef_rm_release_24 (m : MethodId) (x0 : Addr) : entryFrame m #[(.ref x0), (.long 1048576)] 4 = mkF m 0 (oL3 x0) [] := by first | (simp [entryFrame, mkF, argsToLocals, Value.category]; done) | rfl
def Q_rm_release_24 (Z : State) (x0 : Addr) (x1 : Addr) (x2 : Addr) (x3 : Addr) (kc0 : ClassId) (kc1 : ClassId) (kc2 : ClassId) (w_I2 : Addr) (w_I1 : Addr) (h0 : Heap) (n0 : Nat) (v : Option Value) (h : Heap) (L : List Loc) : Prop := v = some (.ref w_I1) ∧ Fr n0 L ∧ Keep h0 h [x3, x0, x2, x1] ∧ Arv Z h x3 kc2 .int (2 : Int32) [(.int 0), (.int 0)] (.int 0) ∧ Exa Z h x0 oc8 ∧ Fld Z h x0 oc8 "requests" "[Ljava/lang/Object;" (.ref x1) ∧ Fld Z h x0 oc8 "sequences" "[J" (.ref x2) ∧ Fld Z h x0 oc8 "free" "[I" (.ref x3) ∧ Fld Z h x0 oc8 "freeCount" "I" (.int 1) ∧ Fld Z h x0 oc8 "lastSequence" "J" (.long 2) ∧ Arv Z h x2 kc1 .long (2 : Int32) [(.long 0), (.long 2)] (.long 0) ∧ Arv Z h x1 kc0 (.object oc9) (2 : Int32) [.null, (.ref w_I2)] .null
set_option maxRecDepth 65536 in
set_option maxHeartbeats 40000000 in
theorem rm_release_24 (l : Launch) (Z : State) (a0 : Array Value) (hw : ∀ d ∈ tables_1, d.before a0 Z = true) (ws : List Jvm.Cond) (x0 : Addr) (x1 : Addr) (x2 : Addr) (x3 : Addr) (kc0 : ClassId) (kc1 : ClassId) (kc2 : ClassId) (w_I2 : Addr) (w_I1 : Addr) (h0 : Heap) (n0 : Nat) (O0 : Old Z n0 h0) (E_x0 : Exa Z h0 x0 oc8) (F_x0_requests : Fld Z h0 x0 oc8 "requests" "[Ljava/lang/Object;" (.ref x1)) (F_x0_sequences : Fld Z h0 x0 oc8 "sequences" "[J" (.ref x2)) (F_x0_free : Fld Z h0 x0 oc8 "free" "[I" (.ref x3)) (F_x0_freeCount : Fld Z h0 x0 oc8 "freeCount" "I" (.int 0)) (F_x0_lastSequence : Fld Z h0 x0 oc8 "lastSequence" "J" (.long 2)) (ge_x0 : n0 ≤ x0) (O_x1 : Ovr Z kc0 oc9) (V_x1 : Arv Z h0 x1 kc0 (.object oc9) (2 : Int32) [(.ref w_I1), (.ref w_I2)] .null) (ge_x1 : n0 ≤ x1) (V_x2 : Arv Z h0 x2 kc1 .long (2 : Int32) [(.long 1), (.long 2)] (.long 0)) (ge_x2 : n0 ≤ x2) (V_x3 : Arv Z h0 x3 kc2 .int (2 : Int32) [(.int 1), (.int 0)] (.int 0)) (ge_x3 : n0 ≤ x3) (ne_x0_x1 : x0 ≠ x1) (ne_x0_x2 : x0 ≠ x2) (ne_x0_x3 : x0 ≠ x3) (ne_x1_x2 : x1 ≠ x2) (ne_x1_x3 : x1 ≠ x3) (ne_x2_x3 : x2 ≠ x3)  :
    oM l oy5 prog_29_method_6_code 4 (some (.object oc9)) ws ({ frames := 1, cells := 0, slots := 0, locals := 18 } : Room) Z #[(.ref x0), (.long 1048576)] h0 (Q_rm_release_24 Z x0 x1 x2 x3 kc0 kc1 kc2 w_I2 w_I1 h0 n0) := by
  refine MetFree.of_bodySF (plainFor_of_name pn_com_example_wend_wend_Slots) hisR ?_
  intro p e s m args below meth c s₁ Bd hml0 hP hK
  obtain ⟨rfl, hZ, hh⟩ := hP
  have hx := Bd.exec
  have hby := Bd.bytes
  have hml : c.maxLocals = 4 := hml0
  have hown : s.vm.findClass oc8 = some m.cls := findClass_of_methodNamed Bd.named
  have hnm := (name_of_methodNamed Bd.named Bd.method).1
  have X0 : Stand p l e ({ frames := 1, cells := 0, slots := 0, locals := 18 } : Room) s m #[(.ref x0), (.long 1048576)] below meth c s₁ [] 0 0 := Stand.of_body Bd
  have e0 : s₁.heap = h0 := by rw [← hh, Bd.state]; rfl
  have N0 := Fr.nil n0
  have pre0 : ∀ t, oS p e below m s₁ 0 (oL3 x0) [] t → oT p e below s₁ (entryFrame m #[(.ref x0), (.long 1048576)] 4) t := fun t k => castTop (ef_rm_release_24 m x0) k
  have K0 := Keep.refl h0 [x3, x0, x2, x1]
  obtain ⟨cq447, kq447, q447a, q447b, q447c⟩ := isOf hZ e0 E_x0
  obtain ⟨_, _, ⟨T447, L447, k447, n447⟩, -, X447, ⟨Lc447, hQ447, l447, y447, z447⟩, st447⟩ := X0.virtualBack hx (y := oy6) (z := oy6) hown (mvT hZ (own_w hw 52 rfl)) (mvT hZ (own_w hw 53 rfl)) (notFace_of_selects (args := #[]) (mvT hZ (own_w hw 55 rfl))) (mvT hZ (own_w hw 55 rfl)) (mvT hZ (own_w hw 54 rfl)) (by decide) (backOf (W := 0) (rm_get_25 l Z a0 hw [] x0 x1 x2 kc0 kc1 w_I1 w_I2 h0 n0 O0 F_x0_requests F_x0_sequences V_x1 V_x2 ) hZ (own_w hw 56 rfl) (own_w hw 6 rfl) (by decide) (by decide)) q447a q447c (g := (mkF m 2 (oL3 x0) [(.long 1048576), (.ref x0)])) rfl (by rw [hml]; rfl) (Steps.refl _) (argsL := [(.long 1048576)]) (rest := []) (lenOf pd__J_Ljava_lang_Object_ rfl) rfl (by show 2 * 0 + _ ≤ _; exact Nat.le_of_eq rfl) (hb hby dg_2) (fun _ _ => ⟨rfl, e0, (by decide : 0 + 0 ≤ _), (by decide : 0 + 0 ≤ _)⟩)
  dsimp only [Pt.U, Pt.locs, Pt.cells, Pt.slots] at X447 l447 y447 z447 st447 hQ447
  subst l447 y447 z447
  obtain ⟨rfl, N447q, e447⟩ := hQ447
  have N447 := Fr.app N0 N447q
  have pre462 : ∀ t, oS p e below m T447 16 (oL2 x0 w_I1) [(.long ((1048576 : Int64) &&& (1048575 : Int64))), (.ref x0)] t → oT p e below s₁ (entryFrame m #[(.ref x0), (.long 1048576)] 4) t := by
    intro t kt
    refine pre0 t ?_
    show oS p e below m s₁ 0 (oL3 x0) [] _
    refine XS.aloadN X0.here hx rfl (hb hby dg_0) rfl rfl ?_
    refine XS.lloadN X0.here hx rfl (hb hby dg_1) rfl ?_
    show oS p e below m s₁ 2 (oL3 x0) [(.long 1048576), (.ref x0)] _
    refine st447.trans ?_
    show oS p e below m T447 5 (oL3 x0) [(.ref w_I1)] _
    refine XS.astoreN X447.here hx rfl (hb hby dg_5) rfl rfl (l' := (oL2 x0 w_I1)) rfl ?_
    refine XS.aloadN X447.here hx rfl (hb hby dg_6) rfl rfl ?_
    show oS p e below m T447 7 (oL2 x0 w_I1) [(.ref w_I1)] _
    refine XS.ifnullNo X447.here hx rfl (hb hby dg_7) rfl ?_
    refine XS.aloadN X447.here hx rfl (hb hby dg_10) rfl rfl ?_
    show oS p e below m T447 11 (oL2 x0 w_I1) [(.ref x0)] _
    refine XS.lloadN X447.here hx rfl (hb hby dg_11) rfl ?_
    show oS p e below m T447 12 (oL2 x0 w_I1) [(.long 1048576), (.ref x0)] _
    refine X447.ldc2Long hx hown (mvT hZ (own_w hw 57 rfl)) (g := (mkF m 12 (oL2 x0 w_I1) [(.long 1048576), (.ref x0)])) rfl (hb hby dg_12) _ ?_
    show oS p e below m T447 15 (oL2 x0 w_I1) [(.long 1048575), (.long 1048576), (.ref x0)] _
    refine XS.land X447.here hx rfl (hb hby dg_15) rfl ?_
    exact kt
  rw [show ((1048576 : Int64) &&& (1048575 : Int64)) = (0 : Int64) from by decide] at pre462
  have pre463 : ∀ t, oS p e below m T447 17 (oL2 x0 w_I1) [(.int ((0 : Int64).toInt32)), (.ref x0)] t → oT p e below s₁ (entryFrame m #[(.ref x0), (.long 1048576)] 4) t := by
    intro t kt
    refine pre462 t ?_
    show oS p e below m T447 16 (oL2 x0 w_I1) [(.long 0), (.ref x0)] _
    refine XS.l2i X447.here hx rfl (hb hby dg_16) rfl ?_
    exact kt
  rw [show ((0 : Int64).toInt32) = (0 : Int32) from by decide] at pre463
  obtain ⟨cq464, q464, q464'⟩ := E_x0.cell
  obtain ⟨_, _, ⟨T464, L464, k464, n464⟩, -, X464, ⟨Lc464, hQ464, l464, y464, z464⟩, st464⟩ := X447.privateBack hx (y := oy7) hown (mvT hZ (own_w hw 58 rfl)) (mvT hZ (own_w hw 59 rfl)) (own_priv hZ (own_w hw 59 rfl) (own_w hw 60 rfl) (own_w hw 5 rfl) (by decide)) (Cond.privateMethod_at (mvP hZ (own_w hw 60 rfl) (args := #[]))) (mvT hZ (own_w hw 61 rfl)) (by decide) (backOf (W := 0) (rm_free_26 l Z a0 hw [] x0 x1 x2 x3 kc0 kc1 kc2 w_I2 w_I1 h0 n0 O0 E_x0 F_x0_requests F_x0_sequences F_x0_free F_x0_freeCount F_x0_lastSequence ge_x0 O_x1 V_x1 ge_x1 V_x2 ge_x2 V_x3 ge_x3 ne_x0_x1 ne_x0_x2 ne_x0_x3 ne_x1_x2 ne_x1_x3 ne_x2_x3 ) hZ (own_w hw 61 rfl) (own_w hw 6 rfl) (by decide) (by decide)) (g := (mkF m 17 (oL2 x0 w_I1) [(.int 0), (.ref x0)])) rfl (by rw [hml]; rfl) (Steps.refl _) (a := x0) (by rw [e447]; exact q464) q464' (argsL := [(.int 0)]) (rest := []) (lenOf pd__I_V rfl) rfl (by show 2 * 0 + _ ≤ _; exact Nat.le_of_eq rfl) (hb hby dg_17) (fun _ _ => ⟨rfl, e447, (by decide : 0 + 0 ≤ _), (by decide : 0 + 0 ≤ _)⟩)
  dsimp only [Pt.U, Pt.locs, Pt.cells, Pt.slots] at X464 l464 y464 z464 st464 hQ464
  subst l464 y464 z464
  obtain ⟨rfl, N464q, Kc464, u464_0, u464_1, u464_2, u464_3, u464_4, u464_5, u464_6, u464_7, u464_8⟩ := hQ464
  have N464 := Fr.app N447 N464q
  have O464 := O0.keep Kc464 (allS ge_x1 (allS ge_x2 (allS ge_x0 (allS ge_x3 all0))))
  have K464 := K0.trans Kc464 (allS (Or.inl (List.mem_of_getElem? (i := 3) rfl)) (allS (Or.inl (List.mem_of_getElem? (i := 2) rfl)) (allS (Or.inl (List.mem_of_getElem? (i := 1) rfl)) (allS (Or.inl (List.mem_of_getElem? (i := 0) rfl)) all0))))
  have pre478 : ∀ t, oS p e below m T464 21 (oL2 x0 w_I1) [(.ref w_I1)] t → oT p e below s₁ (entryFrame m #[(.ref x0), (.long 1048576)] 4) t := by
    intro t kt
    refine pre463 t ?_
    show oS p e below m T447 17 (oL2 x0 w_I1) [(.int 0), (.ref x0)] _
    refine st464.trans ?_
    show oS p e below m T464 20 (oL2 x0 w_I1) [] _
    refine XS.aloadN X464.here hx rfl (hb hby dg_20) rfl rfl ?_
    exact kt
  obtain ⟨fs, hr, hrun, hended, hW, hsame⟩ := X464.leave (v := some (.ref w_I1)) (fun h => by rw [Bd.returns] at h; cases h)
  refine ⟨_, _, pre478 _ ?_, hrun, hended, _, _, rfl, ?_, ⟨_, rfl⟩, hW, hsame.mono (by decide) (by decide)⟩
  · show oS p e below m T464 21 (oL2 x0 w_I1) [(.ref w_I1)] _
    jvm_step X464.here [X464.here.top, hx, (hb hby dg_21), X464.method', Bd.returns, Value.isRef, FieldType.isReference]
    first | (intro acts; rw [hr _ acts rfl rfl rfl]) | rw [hr _ _ rfl rfl rfl]
    exact Steps.refl _
  · show Q_rm_release_24 Z x0 x1 x2 x3 kc0 kc1 kc2 w_I2 w_I1 h0 n0 _ T464.heap _
    exact ⟨rfl, N464, K464, u464_8, u464_2, u464_3, u464_4, u464_5, u464_6, u464_7, u464_1, u464_0⟩
theorem ef_rm_take_27 (m : MethodId) (x0 : Addr) (w_I4 : Addr) : entryFrame m #[(.ref x0), (.ref w_I4)] 3 = mkF m 0 #[rv x0, rv w_I4, .unset] [] := by first | (simp [entryFrame, mkF, argsToLocals, Value.category]; done) | rfl
def Q_rm_take_27 (Z : State) (x0 : Addr) (x1 : Addr) (x2 : Addr) (x3 : Addr) (kc0 : ClassId) (kc1 : ClassId) (kc2 : ClassId) (w_I4 : Addr) (w_I2 : Addr) (h0 : Heap) (n0 : Nat) (v : Option Value) (h : Heap) (L : List Loc) : Prop := v = some (.long 3145728) ∧ Fr n0 L ∧ Keep h0 h [x0, x1, x2] ∧ Exa Z h x0 oc8 ∧ Fld Z h x0 oc8 "requests" "[Ljava/lang/Object;" (.ref x1) ∧ Fld Z h x0 oc8 "sequences" "[J" (.ref x2) ∧ Fld Z h x0 oc8 "free" "[I" (.ref x3) ∧ Fld Z h x0 oc8 "freeCount" "I" (.int 0) ∧ Fld Z h x0 oc8 "lastSequence" "J" (.long 3) ∧ Arv Z h x1 kc0 (.object oc9) (2 : Int32) [(.ref w_I4), (.ref w_I2)] .null ∧ Arv Z h x2 kc1 .long (2 : Int32) [(.long 3), (.long 2)] (.long 0)
set_option maxRecDepth 65536 in
set_option maxHeartbeats 40000000 in
theorem rm_take_27 (l : Launch) (Z : State) (a0 : Array Value) (hw : ∀ d ∈ tables_1, d.before a0 Z = true) (ws : List Jvm.Cond) (x0 : Addr) (x1 : Addr) (x2 : Addr) (x3 : Addr) (kc0 : ClassId) (kc1 : ClassId) (kc2 : ClassId) (w_I4 : Addr) (w_I2 : Addr) (h0 : Heap) (n0 : Nat) (O0 : Old Z n0 h0) (E_x0 : Exa Z h0 x0 oc8) (F_x0_requests : Fld Z h0 x0 oc8 "requests" "[Ljava/lang/Object;" (.ref x1)) (F_x0_sequences : Fld Z h0 x0 oc8 "sequences" "[J" (.ref x2)) (F_x0_free : Fld Z h0 x0 oc8 "free" "[I" (.ref x3)) (F_x0_freeCount : Fld Z h0 x0 oc8 "freeCount" "I" (.int 1)) (F_x0_lastSequence : Fld Z h0 x0 oc8 "lastSequence" "J" (.long 2)) (ge_x0 : n0 ≤ x0) (O_x1 : Ovr Z kc0 oc9) (V_x1 : Arv Z h0 x1 kc0 (.object oc9) (2 : Int32) [.null, (.ref w_I2)] .null) (ge_x1 : n0 ≤ x1) (V_x2 : Arv Z h0 x2 kc1 .long (2 : Int32) [(.long 0), (.long 2)] (.long 0)) (ge_x2 : n0 ≤ x2) (V_x3 : Arv Z h0 x3 kc2 .int (2 : Int32) [(.int 0), (.int 0)] (.int 0)) (ge_x3 : n0 ≤ x3) (ne_x0_x1 : x0 ≠ x1) (ne_x0_x2 : x0 ≠ x2) (ne_x0_x3 : x0 ≠ x3) (ne_x1_x2 : x1 ≠ x2) (ne_x1_x3 : x1 ≠ x3) (ne_x2_x3 : x2 ≠ x3) (E_I4 : Exa Z Z.heap w_I4 oc10) :
    oM l oy4 prog_29_method_4_code 3 (some .long) ws ({ frames := 0, cells := 0, slots := 0, locals := 0 } : Room) Z #[(.ref x0), (.ref w_I4)] h0 (Q_rm_take_27 Z x0 x1 x2 x3 kc0 kc1 kc2 w_I4 w_I2 h0 n0) := by
  refine MetFree.of_bodySF (plainFor_of_name pn_com_example_wend_wend_Slots) hisR ?_
  intro p e s m args below meth c s₁ Bd hml0 hP hK
  obtain ⟨rfl, hZ, hh⟩ := hP
  have hx := Bd.exec
  have hby := Bd.bytes
  have hml : c.maxLocals = 3 := hml0
  have hown : s.vm.findClass oc8 = some m.cls := findClass_of_methodNamed Bd.named
  have hnm := (name_of_methodNamed Bd.named Bd.method).1
  have X0 : Stand p l e ({ frames := 0, cells := 0, slots := 0, locals := 0 } : Room) s m #[(.ref x0), (.ref w_I4)] below meth c s₁ [] 0 0 := Stand.of_body Bd
  have e0 : s₁.heap = h0 := by rw [← hh, Bd.state]; rfl
  have N0 := Fr.nil n0
  have pre0 : ∀ t, oS p e below m s₁ 0 #[rv x0, rv w_I4, .unset] [] t → oT p e below s₁ (entryFrame m #[(.ref x0), (.ref w_I4)] 3) t := fun t k => castTop (ef_rm_take_27 m x0 w_I4) k
  have K0 := Keep.refl h0 [x0, x1, x2]
  obtain ⟨T492, X492, e492, st492⟩ := getF X0 hx hZ hown (host := "") (Or.inl (own_w hw 24 rfl)) Via.refl e0 F_x0_freeCount (g := (mkF m 1 #[rv x0, rv w_I4, .unset] [(.ref x0)])) rfl rfl (hb hby de_1)
  obtain ⟨T494, X494, e494, st494⟩ := getF X492 hx hZ hown (host := "") (Or.inl (own_w hw 22 rfl)) Via.refl e492 F_x0_free (g := (mkF m 18 #[rv x0, rv w_I4, .unset] [(.ref x0)])) rfl rfl (hb hby de_18)
  obtain ⟨T495, X495, e495, st495⟩ := getF X494 hx hZ hown (host := "") (Or.inl (own_w hw 24 rfl)) Via.refl e494 F_x0_freeCount (g := (mkF m 23 #[rv x0, rv w_I4, .unset] [(.ref x0), (.ref x0), (.ref x3)])) rfl rfl (hb hby de_23)
  have pre496 : ∀ t, oS p e below m T495 28 #[rv x0, rv w_I4, .unset] [(.int ((1 : Int32) - (1 : Int32))), (.ref x0), (.ref x3)] t → oT p e below s₁ (entryFrame m #[(.ref x0), (.ref w_I4)] 3) t := by
    intro t kt
    refine pre0 t ?_
    show oS p e below m s₁ 0 #[rv x0, rv w_I4, .unset] [] _
    refine XS.aloadN X0.here hx rfl (hb hby de_0) rfl rfl ?_
    show oS p e below m s₁ 1 #[rv x0, rv w_I4, .unset] [(.ref x0)] _
    refine st492 _ ?_
    show oS p e below m T492 4 #[rv x0, rv w_I4, .unset] [(.int 1)] _
    refine XS.ifYes X492.here hx rfl (pc0 := 4) (pc' := 17) rfl (hb hby de_4) rfl ((if0 _ _).trans (feq (by decide : ¬ ((1 : Int32) = (0 : Int32)))).2) (by decide) (by decide) ?_
    refine XS.aloadN X492.here hx rfl (hb hby de_17) rfl rfl ?_
    show oS p e below m T492 18 #[rv x0, rv w_I4, .unset] [(.ref x0)] _
    refine st494 _ ?_
    show oS p e below m T494 21 #[rv x0, rv w_I4, .unset] [(.ref x3)] _
    refine XS.aloadN X494.here hx rfl (hb hby de_21) rfl rfl ?_
    refine XS.dup X494.here hx rfl (hb hby de_22) rfl rfl ?_
    show oS p e below m T494 23 #[rv x0, rv w_I4, .unset] [(.ref x0), (.ref x0), (.ref x3)] _
    refine st495 _ ?_
    show oS p e below m T495 26 #[rv x0, rv w_I4, .unset] [(.int 1), (.ref x0), (.ref x3)] _
    refine XS.iconst X495.here hx rfl (hb hby de_26) ?_
    refine XS.isub X495.here hx rfl (hb hby de_27) rfl ?_
    exact kt
  rw [show ((1 : Int32) - (1 : Int32)) = (0 : Int32) from by decide] at pre496
  obtain ⟨T497, h497, X497, e497, W497, st497⟩ := putF X495 hx hZ hown (host := "") (Or.inl (own_w hw 24 rfl)) Via.refl e495 F_x0_freeCount E_x0 (Or.inl (own_w hw 25 rfl)) (own_w hw 5 rfl) (ty := .int) (by decide) rfl rfl (g := (mkF m 29 #[rv x0, rv w_I4, .unset] [(.int 0), (.ref x0), (.int 0), (.ref x3)])) rfl rfl (hb hby de_29)
  have F_x0_freeCount := F_x0_freeCount.same W497
  have E_x0 := E_x0.wr W497
  have F_x0_requests := F_x0_requests.other W497 (Or.inr (osn_Slots_requests_freeCount hw))
  have F_x0_sequences := F_x0_sequences.other W497 (Or.inr (osn_Slots_sequences_freeCount hw))
  have F_x0_free := F_x0_free.other W497 (Or.inr (osn_Slots_free_freeCount hw))
  have F_x0_lastSequence := F_x0_lastSequence.other W497 (Or.inr (osn_Slots_lastSequence_freeCount hw))
  have V_x1 := V_x1.other W497 (Ne.symm ne_x0_x1)
  have V_x2 := V_x2.other W497 (Ne.symm ne_x0_x2)
  have V_x3 := V_x3.other W497 (Ne.symm ne_x0_x3)
  have O497 := O0.wr W497 ge_x0
  have K497 := K0.wr W497 (Or.inl (List.mem_of_getElem? (i := 0) rfl))
  have N497 := Fr.snoc X497 N0 ge_x0
  have vt498 := V_x3
  obtain ⟨cl498, Ar498, q498, S498, Ng498, Ha498, G498⟩ := vt498
  have hin498 : ¬ ((0 : Int32) < 0 ∨ cl498.slots.size ≤ ((0 : Int32)).toNatClampNeg) := inb_of S498 ⟨by decide, by decide⟩
  have hat498 : cl498.slots[((0 : Int32)).toNatClampNeg]? = some (.int 0) := Ha498.at hin498 rfl
  obtain ⟨T499, X499, e499, st499⟩ := getF X497 hx hZ hown (host := "") (Or.inl (own_w hw 43 rfl)) Via.refl e497 F_x0_lastSequence (g := (mkF m 36 #[rv x0, rv w_I4, iv 0] [(.ref x0), (.ref x0)])) rfl rfl (hb hby de_36)
  have pre500 : ∀ t, oS p e below m T499 43 #[rv x0, rv w_I4, iv 0] [(.int (lcmpW (2 : Int64) (17592186044415 : Int64))), (.ref x0)] t → oT p e below s₁ (entryFrame m #[(.ref x0), (.ref w_I4)] 3) t := by
    intro t kt
    refine pre496 t ?_
    show oS p e below m T495 28 #[rv x0, rv w_I4, .unset] [(.int 0), (.ref x0), (.ref x3)] _
    refine XS.dupX1 X495.here hx rfl (hb hby de_28) rfl rfl rfl ?_
    show oS p e below m T495 29 #[rv x0, rv w_I4, .unset] [(.int 0), (.ref x0), (.int 0), (.ref x3)] _
    refine st497 _ ?_
    show oS p e below m T497 32 #[rv x0, rv w_I4, .unset] [(.int 0), (.ref x3)] _
    refine X497.iaload hx (j := (0 : Int32)) (v := (.int 0)) (by rw [e497]; exact Ar498.1) (State.isArrayOf_alike hZ.alike Ar498.2.1) Ar498.2.2 hin498 hat498 (g := (mkF m 32 #[rv x0, rv w_I4, .unset] [(.int 0), (.ref x3)])) rfl rfl (hb hby de_32) _ ?_
    show oS p e below m T497 33 #[rv x0, rv w_I4, .unset] [(.int 0)] _
    refine XS.istoreN X497.here hx rfl (hb hby de_33) rfl (l' := #[rv x0, rv w_I4, iv 0]) rfl ?_
    refine XS.aloadN X497.here hx rfl (hb hby de_34) rfl rfl ?_
    show oS p e below m T497 35 #[rv x0, rv w_I4, iv 0] [(.ref x0)] _
    refine XS.aloadN X497.here hx rfl (hb hby de_35) rfl rfl ?_
    show oS p e below m T497 36 #[rv x0, rv w_I4, iv 0] [(.ref x0), (.ref x0)] _
    refine st499 _ ?_
    show oS p e below m T499 39 #[rv x0, rv w_I4, iv 0] [(.long 2), (.ref x0)] _
    refine X499.ldc2Long hx hown (mvT hZ (own_w hw 45 rfl)) (g := (mkF m 39 #[rv x0, rv w_I4, iv 0] [(.long 2), (.ref x0)])) rfl (hb hby de_39) _ ?_
    show oS p e below m T499 42 #[rv x0, rv w_I4, iv 0] [(.long 17592186044415), (.long 2), (.ref x0)] _
    refine XS.lcmp X499.here hx rfl (hb hby de_42) rfl ?_
    exact kt
  rw [show (lcmpW (2 : Int64) (17592186044415 : Int64)) = (-1 : Int32) from by decide] at pre500
  obtain ⟨T502, X502, e502, st502⟩ := getF X499 hx hZ hown (host := "") (Or.inl (own_w hw 43 rfl)) Via.refl e499 F_x0_lastSequence (g := (mkF m 51 #[rv x0, rv w_I4, iv 0] [(.ref x0), (.ref x0)])) rfl rfl (hb hby de_51)
  have pre503 : ∀ t, oS p e below m T502 56 #[rv x0, rv w_I4, iv 0] [(.long ((2 : Int64) + (1 : Int64))), (.ref x0)] t → oT p e below s₁ (entryFrame m #[(.ref x0), (.ref w_I4)] 3) t := by
    intro t kt
    refine pre500 t ?_
    show oS p e below m T499 43 #[rv x0, rv w_I4, iv 0] [(.int (-1 : Int32)), (.ref x0)] _
    refine XS.ifYes X499.here hx rfl (pc0 := 43) (pc' := 50) rfl (hb hby de_43) rfl ((if0 _ _).trans (feq (by decide : ¬ ((-1 : Int32) = (0 : Int32)))).2) (by decide) (by decide) ?_
    refine XS.aloadN X499.here hx rfl (hb hby de_50) rfl rfl ?_
    show oS p e below m T499 51 #[rv x0, rv w_I4, iv 0] [(.ref x0), (.ref x0)] _
    refine st502 _ ?_
    show oS p e below m T502 54 #[rv x0, rv w_I4, iv 0] [(.long 2), (.ref x0)] _
    refine XS.lconst X502.here hx rfl (hb hby de_54) ?_
    refine XS.ladd X502.here hx rfl (hb hby de_55) rfl ?_
    exact kt
  rw [show ((2 : Int64) + (1 : Int64)) = (3 : Int64) from by decide] at pre503
  obtain ⟨T504, h504, X504, e504, W504, st504⟩ := putF X502 hx hZ hown (host := "") (Or.inl (own_w hw 43 rfl)) Via.refl e502 F_x0_lastSequence E_x0 (Or.inl (own_w hw 44 rfl)) (own_w hw 5 rfl) (ty := .long) (by decide) rfl rfl (g := (mkF m 56 #[rv x0, rv w_I4, iv 0] [(.long 3), (.ref x0)])) rfl rfl (hb hby de_56)
  have F_x0_lastSequence := F_x0_lastSequence.same W504
  have E_x0 := E_x0.wr W504
  have F_x0_requests := F_x0_requests.other W504 (Or.inr (osn_Slots_requests_lastSequence hw))
  have F_x0_sequences := F_x0_sequences.other W504 (Or.inr (osn_Slots_sequences_lastSequence hw))
  have F_x0_free := F_x0_free.other W504 (Or.inr (osn_Slots_free_lastSequence hw))
  have F_x0_freeCount := F_x0_freeCount.other W504 (Or.inr (osn_Slots_freeCount_lastSequence hw))
  have V_x1 := V_x1.other W504 (Ne.symm ne_x0_x1)
  have V_x2 := V_x2.other W504 (Ne.symm ne_x0_x2)
  have V_x3 := V_x3.other W504 (Ne.symm ne_x0_x3)
  have O504 := O497.wr W504 ge_x0
  have K504 := K497.wr W504 (Or.inl (List.mem_of_getElem? (i := 0) rfl))
  have N504 := Fr.snoc X504 N497 ge_x0
  obtain ⟨T505, X505, e505, st505⟩ := getF X504 hx hZ hown (host := "") (Or.inl (own_w hw 16 rfl)) Via.refl e504 F_x0_requests (g := (mkF m 60 #[rv x0, rv w_I4, iv 0] [(.ref x0)])) rfl rfl (hb hby de_60)
  have vt506 := V_x1
  obtain ⟨cl506, Ar506, q506, S506, Ng506, Ha506, G506⟩ := vt506
  have hin506 : ¬ ((0 : Int32) < 0 ∨ cl506.slots.size ≤ ((0 : Int32)).toNatClampNeg) := inb_of S506 ⟨by decide, by decide⟩
  obtain ⟨T507, h507, X507, e507, W507, st507⟩ := stR X505 hx hZ e505 Ar506 (j := (0 : Int32)) hin506 rfl (Sto.ofV Ar506 q506 O_x1 (Ins.of_exa (E_I4.ext O504.2) (own_w hw 46 rfl))) (g := (mkF m 65 #[rv x0, rv w_I4, iv 0] [(.ref w_I4), (.int 0), (.ref x1)])) rfl rfl (hb hby de_65)
  have V_x1 : Arv Z h507 x1 kc0 (.object oc9) (2 : Int32) [(.ref w_I4), (.ref w_I2)] .null := Arv.set Ar506 q506 S506 Ng506 Ha506 G506 rfl W507 0 rfl (Nat.le_of_ble_eq_true rfl)
  have E_x0 := E_x0.wr W507
  have F_x0_requests := F_x0_requests.other W507 (Or.inl ne_x0_x1)
  have F_x0_sequences := F_x0_sequences.other W507 (Or.inl ne_x0_x1)
  have F_x0_free := F_x0_free.other W507 (Or.inl ne_x0_x1)
  have F_x0_freeCount := F_x0_freeCount.other W507 (Or.inl ne_x0_x1)
  have F_x0_lastSequence := F_x0_lastSequence.other W507 (Or.inl ne_x0_x1)
  have V_x2 := V_x2.other W507 (Ne.symm ne_x1_x2)
  have V_x3 := V_x3.other W507 (Ne.symm ne_x1_x3)
  have O507 := O504.wr W507 ge_x1
  have K507 := K504.wr W507 (Or.inl (List.mem_of_getElem? (i := 1) rfl))
  have N507 := Fr.snoc X507 N504 ge_x1
  obtain ⟨T508, X508, e508, st508⟩ := getF X507 hx hZ hown (host := "") (Or.inl (own_w hw 19 rfl)) Via.refl e507 F_x0_sequences (g := (mkF m 67 #[rv x0, rv w_I4, iv 0] [(.ref x0)])) rfl rfl (hb hby de_67)
  obtain ⟨T509, X509, e509, st509⟩ := getF X508 hx hZ hown (host := "") (Or.inl (own_w hw 43 rfl)) Via.refl e508 F_x0_lastSequence (g := (mkF m 72 #[rv x0, rv w_I4, iv 0] [(.ref x0), (.int 0), (.ref x2)])) rfl rfl (hb hby de_72)
  have vt510 := V_x2
  obtain ⟨cl510, Ar510, q510, S510, Ng510, Ha510, G510⟩ := vt510
  have hin510 : ¬ ((0 : Int32) < 0 ∨ cl510.slots.size ≤ ((0 : Int32)).toNatClampNeg) := inb_of S510 ⟨by decide, by decide⟩
  obtain ⟨T511, h511, X511, e511, W511, st511⟩ := stJ X509 hx hZ e509 Ar510 (j := (0 : Int32)) hin510 (g := (mkF m 75 #[rv x0, rv w_I4, iv 0] [(.long 3), (.int 0), (.ref x2)])) rfl rfl (hb hby de_75)
  have V_x2 : Arv Z h511 x2 kc1 .long (2 : Int32) [(.long 3), (.long 2)] (.long 0) := Arv.set Ar510 q510 S510 Ng510 Ha510 G510 rfl W511 0 rfl (Nat.le_of_ble_eq_true rfl)
  have E_x0 := E_x0.wr W511
  have F_x0_requests := F_x0_requests.other W511 (Or.inl ne_x0_x2)
  have F_x0_sequences := F_x0_sequences.other W511 (Or.inl ne_x0_x2)
  have F_x0_free := F_x0_free.other W511 (Or.inl ne_x0_x2)
  have F_x0_freeCount := F_x0_freeCount.other W511 (Or.inl ne_x0_x2)
  have F_x0_lastSequence := F_x0_lastSequence.other W511 (Or.inl ne_x0_x2)
  have V_x1 := V_x1.other W511 ne_x1_x2
  have V_x3 := V_x3.other W511 (Ne.symm ne_x2_x3)
  have O511 := O507.wr W511 ge_x2
  have K511 := K507.wr W511 (Or.inl (List.mem_of_getElem? (i := 2) rfl))
  have N511 := Fr.snoc X511 N507 ge_x2
  obtain ⟨T512, X512, e512, st512⟩ := getF X511 hx hZ hown (host := "") (Or.inl (own_w hw 43 rfl)) Via.refl e511 F_x0_lastSequence (g := (mkF m 77 #[rv x0, rv w_I4, iv 0] [(.ref x0)])) rfl rfl (hb hby de_77)
  have pre513 : ∀ t, oS p e below m T512 83 #[rv x0, rv w_I4, iv 0] [(.long ((3 : Int64) <<< ((20 : Int32) &&& 0x3f).toInt64))] t → oT p e below s₁ (entryFrame m #[(.ref x0), (.ref w_I4)] 3) t := by
    intro t kt
    refine pre503 t ?_
    show oS p e below m T502 56 #[rv x0, rv w_I4, iv 0] [(.long 3), (.ref x0)] _
    refine st504 _ ?_
    show oS p e below m T504 59 #[rv x0, rv w_I4, iv 0] [] _
    refine XS.aloadN X504.here hx rfl (hb hby de_59) rfl rfl ?_
    show oS p e below m T504 60 #[rv x0, rv w_I4, iv 0] [(.ref x0)] _
    refine st505 _ ?_
    show oS p e below m T505 63 #[rv x0, rv w_I4, iv 0] [(.ref x1)] _
    refine XS.iloadN X505.here hx rfl (hb hby de_63) rfl ?_
    refine XS.aloadN X505.here hx rfl (hb hby de_64) rfl rfl ?_
    show oS p e below m T505 65 #[rv x0, rv w_I4, iv 0] [(.ref w_I4), (.int 0), (.ref x1)] _
    refine st507 _ ?_
    show oS p e below m T507 66 #[rv x0, rv w_I4, iv 0] [] _
    refine XS.aloadN X507.here hx rfl (hb hby de_66) rfl rfl ?_
    show oS p e below m T507 67 #[rv x0, rv w_I4, iv 0] [(.ref x0)] _
    refine st508 _ ?_
    show oS p e below m T508 70 #[rv x0, rv w_I4, iv 0] [(.ref x2)] _
    refine XS.iloadN X508.here hx rfl (hb hby de_70) rfl ?_
    refine XS.aloadN X508.here hx rfl (hb hby de_71) rfl rfl ?_
    show oS p e below m T508 72 #[rv x0, rv w_I4, iv 0] [(.ref x0), (.int 0), (.ref x2)] _
    refine st509 _ ?_
    show oS p e below m T509 75 #[rv x0, rv w_I4, iv 0] [(.long 3), (.int 0), (.ref x2)] _
    refine st511 _ ?_
    show oS p e below m T511 76 #[rv x0, rv w_I4, iv 0] [] _
    refine XS.aloadN X511.here hx rfl (hb hby de_76) rfl rfl ?_
    show oS p e below m T511 77 #[rv x0, rv w_I4, iv 0] [(.ref x0)] _
    refine st512 _ ?_
    show oS p e below m T512 80 #[rv x0, rv w_I4, iv 0] [(.long 3)] _
    refine XS.bipush X512.here hx rfl (hb hby de_80) ?_
    refine XS.lshl X512.here hx rfl (hb hby de_82) rfl ?_
    exact kt
  rw [show ((3 : Int64) <<< ((20 : Int32) &&& 0x3f).toInt64) = (3145728 : Int64) from by decide] at pre513
  have pre514 : ∀ t, oS p e below m T512 85 #[rv x0, rv w_I4, iv 0] [(.long ((0 : Int32).toInt64)), (.long 3145728)] t → oT p e below s₁ (entryFrame m #[(.ref x0), (.ref w_I4)] 3) t := by
    intro t kt
    refine pre513 t ?_
    show oS p e below m T512 83 #[rv x0, rv w_I4, iv 0] [(.long 3145728)] _
    refine XS.iloadN X512.here hx rfl (hb hby de_83) rfl ?_
    refine XS.i2l X512.here hx rfl (hb hby de_84) rfl ?_
    exact kt
  rw [show ((0 : Int32).toInt64) = (0 : Int64) from by decide] at pre514
  have pre515 : ∀ t, oS p e below m T512 86 #[rv x0, rv w_I4, iv 0] [(.long ((3145728 : Int64) ||| (0 : Int64)))] t → oT p e below s₁ (entryFrame m #[(.ref x0), (.ref w_I4)] 3) t := by
    intro t kt
    refine pre514 t ?_
    show oS p e below m T512 85 #[rv x0, rv w_I4, iv 0] [(.long 0), (.long 3145728)] _
    refine XS.lor X512.here hx rfl (hb hby de_85) rfl ?_
    exact kt
  rw [show ((3145728 : Int64) ||| (0 : Int64)) = (3145728 : Int64) from by decide] at pre515
  obtain ⟨fs, hr, hrun, hended, hW, hsame⟩ := X512.leave (v := some (.long 3145728)) (fun h => by rw [Bd.returns] at h; cases h)
  refine ⟨_, _, pre515 _ ?_, hrun, hended, _, _, rfl, ?_, ⟨_, rfl⟩, hW, hsame.mono (by decide) (by decide)⟩
  · show oS p e below m T512 86 #[rv x0, rv w_I4, iv 0] [(.long 3145728)] _
    jvm_step X512.here [X512.here.top, hx, (hb hby de_86), X512.method', Bd.returns, narrow]
    first | (intro acts; rw [hr _ acts rfl rfl rfl]) | rw [hr _ _ rfl rfl rfl]
    exact Steps.refl _
  · show Q_rm_take_27 Z x0 x1 x2 x3 kc0 kc1 kc2 w_I4 w_I2 h0 n0 _ T512.heap _
    rw [e512]
    exact ⟨rfl, N511, K511, E_x0, F_x0_requests, F_x0_sequences, F_x0_free, F_x0_freeCount, F_x0_lastSequence, V_x1, V_x2⟩
theorem ef_rm_get_29 (m : MethodId) (x0 : Addr) : entryFrame m #[(.ref x0), (.long 1048576)] 7 = mkF m 0 (oL1 x0) [] := by first | (simp [entryFrame, mkF, argsToLocals, Value.category]; done) | rfl
def Q_rm_get_29 (Z : State) (x0 : Addr) (x1 : Addr) (x2 : Addr) (kc0 : ClassId) (kc1 : ClassId) (w_I2 : Addr) (h0 : Heap) (n0 : Nat) (v : Option Value) (h : Heap) (L : List Loc) : Prop := v = some .null ∧ Fr n0 L ∧ h = h0
set_option maxRecDepth 65536 in
set_option maxHeartbeats 40000000 in
theorem rm_get_29 (l : Launch) (Z : State) (a0 : Array Value) (hw : ∀ d ∈ tables_1, d.before a0 Z = true) (ws : List Jvm.Cond) (x0 : Addr) (x1 : Addr) (x2 : Addr) (kc0 : ClassId) (kc1 : ClassId) (w_I2 : Addr) (h0 : Heap) (n0 : Nat) (O0 : Old Z n0 h0) (F_x0_requests : Fld Z h0 x0 oc8 "requests" "[Ljava/lang/Object;" (.ref x1)) (F_x0_sequences : Fld Z h0 x0 oc8 "sequences" "[J" (.ref x2)) (V_x1 : Arv Z h0 x1 kc0 (.object oc9) (2 : Int32) [.null, (.ref w_I2)] .null) (V_x2 : Arv Z h0 x2 kc1 .long (2 : Int32) [(.long 0), (.long 2)] (.long 0))  :
    oM l oy6 prog_29_method_5_code 7 (some (.object oc9)) ws ({ frames := 0, cells := 0, slots := 0, locals := 0 } : Room) Z #[(.ref x0), (.long 1048576)] h0 (Q_rm_get_29 Z x0 x1 x2 kc0 kc1 w_I2 h0 n0) := by
  refine MetFree.of_bodySF (plainFor_of_name pn_com_example_wend_wend_Slots) hisR ?_
  intro p e s m args below meth c s₁ Bd hml0 hP hK
  obtain ⟨rfl, hZ, hh⟩ := hP
  have hx := Bd.exec
  have hby := Bd.bytes
  have hml : c.maxLocals = 7 := hml0
  have hown : s.vm.findClass oc8 = some m.cls := findClass_of_methodNamed Bd.named
  have hnm := (name_of_methodNamed Bd.named Bd.method).1
  have X0 : Stand p l e ({ frames := 0, cells := 0, slots := 0, locals := 0 } : Room) s m #[(.ref x0), (.long 1048576)] below meth c s₁ [] 0 0 := Stand.of_body Bd
  have e0 : s₁.heap = h0 := by rw [← hh, Bd.state]; rfl
  have N0 := Fr.nil n0
  have pre0 : ∀ t, oS p e below m s₁ 0 (oL1 x0) [] t → oT p e below s₁ (entryFrame m #[(.ref x0), (.long 1048576)] 7) t := fun t k => castTop (ef_rm_get_29 m x0) k
  have K0 := Keep.refl h0 []
  have pre527 : ∀ t, oS p e below m s₁ 5 (oL1 x0) [(.long ((1048576 : Int64) &&& (1048575 : Int64)))] t → oT p e below s₁ (entryFrame m #[(.ref x0), (.long 1048576)] 7) t := by
    intro t kt
    refine pre0 t ?_
    show oS p e below m s₁ 0 (oL1 x0) [] _
    refine XS.lloadN X0.here hx rfl (hb hby df_0) rfl ?_
    show oS p e below m s₁ 1 (oL1 x0) [(.long 1048576)] _
    refine X0.ldc2Long hx hown (mvT hZ (own_w hw 57 rfl)) (g := (mkF m 1 (oL1 x0) [(.long 1048576)])) rfl (hb hby df_1) _ ?_
    show oS p e below m s₁ 4 (oL1 x0) [(.long 1048575), (.long 1048576)] _
    refine XS.land X0.here hx rfl (hb hby df_4) rfl ?_
    exact kt
  rw [show ((1048576 : Int64) &&& (1048575 : Int64)) = (0 : Int64) from by decide] at pre527
  have pre528 : ∀ t, oS p e below m s₁ 6 (oL1 x0) [(.int ((0 : Int64).toInt32))] t → oT p e below s₁ (entryFrame m #[(.ref x0), (.long 1048576)] 7) t := by
    intro t kt
    refine pre527 t ?_
    show oS p e below m s₁ 5 (oL1 x0) [(.long 0)] _
    refine XS.l2i X0.here hx rfl (hb hby df_5) rfl ?_
    exact kt
  rw [show ((0 : Int64).toInt32) = (0 : Int32) from by decide] at pre528
  have pre529 : ∀ t, oS p e below m s₁ 11 (oL4 x0) [(.long (((1048576 : Int64).toUInt64 >>> ((20 : Int32) &&& 0x3f).toInt64.toUInt64).toInt64))] t → oT p e below s₁ (entryFrame m #[(.ref x0), (.long 1048576)] 7) t := by
    intro t kt
    refine pre528 t ?_
    show oS p e below m s₁ 6 (oL1 x0) [(.int 0)] _
    refine XS.istoreN X0.here hx rfl (hb hby df_6) rfl (l' := (oL4 x0)) rfl ?_
    refine XS.lloadN X0.here hx rfl (hb hby df_7) rfl ?_
    show oS p e below m s₁ 8 (oL4 x0) [(.long 1048576)] _
    refine XS.bipush X0.here hx rfl (hb hby df_8) ?_
    refine XS.lushr X0.here hx rfl (hb hby df_10) rfl ?_
    exact kt
  rw [show (((1048576 : Int64).toUInt64 >>> ((20 : Int32) &&& 0x3f).toInt64.toUInt64).toInt64) = (1 : Int64) from by decide] at pre529
  obtain ⟨T530, X530, e530, st530⟩ := getF X0 hx hZ hown (host := "") (Or.inl (own_w hw 16 rfl)) Via.refl e0 F_x0_requests (g := (mkF m 15 (oL0 x0) [(.ref x0), (.int 0)])) rfl rfl (hb hby df_15)
  have vt531 := V_x1
  obtain ⟨cl531, Ar531, q531, S531, Ng531, Ha531, G531⟩ := vt531
  obtain ⟨T533, X533, e533, st533⟩ := getF X530 hx hZ hown (host := "") (Or.inl (own_w hw 19 rfl)) Via.refl e530 F_x0_sequences (g := (mkF m 23 (oL0 x0) [(.ref x0)])) rfl rfl (hb hby df_23)
  have vt534 := V_x2
  obtain ⟨cl534, Ar534, q534, S534, Ng534, Ha534, G534⟩ := vt534
  have hin534 : ¬ ((0 : Int32) < 0 ∨ cl534.slots.size ≤ ((0 : Int32)).toNatClampNeg) := inb_of S534 ⟨by decide, by decide⟩
  have hat534 : cl534.slots[((0 : Int32)).toNatClampNeg]? = some (.long 0) := Ha534.at hin534 rfl
  have pre535 : ∀ t, oS p e below m T533 31 (oL0 x0) [(.int (lcmpW (0 : Int64) (1 : Int64)))] t → oT p e below s₁ (entryFrame m #[(.ref x0), (.long 1048576)] 7) t := by
    intro t kt
    refine pre529 t ?_
    show oS p e below m s₁ 11 (oL4 x0) [(.long 1)] _
    refine XS.lstore X0.here hx rfl (hb hby df_11) rfl (l' := (oL0 x0)) rfl ?_
    refine XS.iloadN X0.here hx rfl (hb hby df_13) rfl ?_
    show oS p e below m s₁ 14 (oL0 x0) [(.int 0)] _
    refine XS.aloadN X0.here hx rfl (hb hby df_14) rfl rfl ?_
    show oS p e below m s₁ 15 (oL0 x0) [(.ref x0), (.int 0)] _
    refine st530 _ ?_
    show oS p e below m T530 18 (oL0 x0) [(.ref x1), (.int 0)] _
    refine X530.arraylength hx (by rw [e530]; exact Ar531.1) (State.isArrayOf_alike hZ.alike Ar531.2.1) (g := (mkF m 18 (oL0 x0) [(.ref x1), (.int 0)])) rfl rfl (hb hby df_18) _ ?_
    rw [len_of S531 Ng531]
    show oS p e below m T530 19 (oL0 x0) [(.int 2), (.int 0)] _
    refine XS.icmpNo X530.here hx rfl (hb hby df_19) rfl (tlt (by decide : (0 : Int32) < (2 : Int32))).2.1 ?_
    refine XS.aloadN X530.here hx rfl (hb hby df_22) rfl rfl ?_
    show oS p e below m T530 23 (oL0 x0) [(.ref x0)] _
    refine st533 _ ?_
    show oS p e below m T533 26 (oL0 x0) [(.ref x2)] _
    refine XS.iloadN X533.here hx rfl (hb hby df_26) rfl ?_
    show oS p e below m T533 27 (oL0 x0) [(.int 0), (.ref x2)] _
    refine X533.laload hx (j := (0 : Int32)) (v := (.long 0)) (by rw [e533]; exact Ar534.1) (State.isArrayOf_alike hZ.alike Ar534.2.1) Ar534.2.2 hin534 hat534 (g := (mkF m 27 (oL0 x0) [(.int 0), (.ref x2)])) rfl rfl (hb hby df_27) _ ?_
    show oS p e below m T533 28 (oL0 x0) [(.long 0)] _
    refine XS.lload X533.here hx rfl (hb hby df_28) rfl ?_
    refine XS.lcmp X533.here hx rfl (hb hby df_30) rfl ?_
    exact kt
  rw [show (lcmpW (0 : Int64) (1 : Int64)) = (-1 : Int32) from by decide] at pre535
  have pre538 : ∀ t, oS p e below m T533 56 (oL12 x0) [.null] t → oT p e below s₁ (entryFrame m #[(.ref x0), (.long 1048576)] 7) t := by
    intro t kt
    refine pre535 t ?_
    show oS p e below m T533 31 (oL0 x0) [(.int (-1 : Int32))] _
    refine XS.ifYes X533.here hx rfl (pc0 := 31) (pc' := 38) rfl (hb hby df_31) rfl ((if0 _ _).trans (feq (by decide : ¬ ((-1 : Int32) = (0 : Int32)))).2) (by decide) (by decide) ?_
    refine XS.iconst X533.here hx rfl (hb hby df_38) ?_
    show oS p e below m T533 39 (oL0 x0) [(.int 0)] _
    refine XS.istore X533.here hx rfl (hb hby df_39) rfl (l' := (oL12 x0)) rfl ?_
    refine XS.iload X533.here hx rfl (hb hby df_41) rfl ?_
    show oS p e below m T533 43 (oL12 x0) [(.int 0)] _
    refine XS.ifYes X533.here hx rfl (pc0 := 43) (pc' := 55) rfl (hb hby df_43) rfl ((if0 _ _).trans (teq (by decide : (0 : Int32) = (0 : Int32))).1) (by decide) (by decide) ?_
    refine XS.aconstNull X533.here hx rfl (hb hby df_55) ?_
    exact kt
  obtain ⟨fs, hr, hrun, hended, hW, hsame⟩ := X533.leave (v := some .null) (fun h => by rw [Bd.returns] at h; cases h)
  refine ⟨_, _, pre538 _ ?_, hrun, hended, _, _, rfl, ?_, ⟨_, rfl⟩, hW, hsame.mono (by decide) (by decide)⟩
  · show oS p e below m T533 56 (oL12 x0) [.null] _
    jvm_step X533.here [X533.here.top, hx, (hb hby df_56), X533.method', Bd.returns, Value.isRef, FieldType.isReference]
    first | (intro acts; rw [hr _ acts rfl rfl rfl]) | rw [hr _ _ rfl rfl rfl]
    exact Steps.refl _
  · show Q_rm_get_29 Z x0 x1 x2 kc0 kc1 w_I2 h0 n0 _ T533.heap _
    rw [e533]
    exact ⟨rfl, N0, rfl⟩
theorem ef_rm_release_28 (m : MethodId) (x0 : Addr) : entryFrame m #[(.ref x0), (.long 1048576)] 4 = mkF m 0 (oL3 x0) [] := by first | (simp [entryFrame, mkF, argsToLocals, Value.category]; done) | rfl
def Q_rm_release_28 (Z : State) (x0 : Addr) (x1 : Addr) (x2 : Addr) (x3 : Addr) (kc0 : ClassId) (kc1 : ClassId) (w_I2 : Addr) (h0 : Heap) (n0 : Nat) (v : Option Value) (h : Heap) (L : List Loc) : Prop := v = some .null ∧ Fr n0 L ∧ h = h0
set_option maxRecDepth 65536 in
set_option maxHeartbeats 40000000 in
theorem rm_release_28 (l : Launch) (Z : State) (a0 : Array Value) (hw : ∀ d ∈ tables_1, d.before a0 Z = true) (ws : List Jvm.Cond) (x0 : Addr) (x1 : Addr) (x2 : Addr) (x3 : Addr) (kc0 : ClassId) (kc1 : ClassId) (w_I2 : Addr) (h0 : Heap) (n0 : Nat) (O0 : Old Z n0 h0) (E_x0 : Exa Z h0 x0 oc8) (F_x0_requests : Fld Z h0 x0 oc8 "requests" "[Ljava/lang/Object;" (.ref x1)) (F_x0_sequences : Fld Z h0 x0 oc8 "sequences" "[J" (.ref x2)) (V_x1 : Arv Z h0 x1 kc0 (.object oc9) (2 : Int32) [.null, (.ref w_I2)] .null) (V_x2 : Arv Z h0 x2 kc1 .long (2 : Int32) [(.long 0), (.long 2)] (.long 0)) (ne_x0_x1 : x0 ≠ x1) (ne_x0_x2 : x0 ≠ x2) (ne_x0_x3 : x0 ≠ x3) (ne_x1_x2 : x1 ≠ x2) (ne_x1_x3 : x1 ≠ x3) (ne_x2_x3 : x2 ≠ x3)  :
    oM l oy5 prog_29_method_6_code 4 (some (.object oc9)) ws ({ frames := 1, cells := 0, slots := 0, locals := 18 } : Room) Z #[(.ref x0), (.long 1048576)] h0 (Q_rm_release_28 Z x0 x1 x2 x3 kc0 kc1 w_I2 h0 n0) := by
  refine MetFree.of_bodySF (plainFor_of_name pn_com_example_wend_wend_Slots) hisR ?_
  intro p e s m args below meth c s₁ Bd hml0 hP hK
  obtain ⟨rfl, hZ, hh⟩ := hP
  have hx := Bd.exec
  have hby := Bd.bytes
  have hml : c.maxLocals = 4 := hml0
  have hown : s.vm.findClass oc8 = some m.cls := findClass_of_methodNamed Bd.named
  have hnm := (name_of_methodNamed Bd.named Bd.method).1
  have X0 : Stand p l e ({ frames := 1, cells := 0, slots := 0, locals := 18 } : Room) s m #[(.ref x0), (.long 1048576)] below meth c s₁ [] 0 0 := Stand.of_body Bd
  have e0 : s₁.heap = h0 := by rw [← hh, Bd.state]; rfl
  have N0 := Fr.nil n0
  have pre0 : ∀ t, oS p e below m s₁ 0 (oL3 x0) [] t → oT p e below s₁ (entryFrame m #[(.ref x0), (.long 1048576)] 4) t := fun t k => castTop (ef_rm_release_28 m x0) k
  have K0 := Keep.refl h0 []
  obtain ⟨cq526, kq526, q526a, q526b, q526c⟩ := isOf hZ e0 E_x0
  obtain ⟨_, _, ⟨T526, L526, k526, n526⟩, -, X526, ⟨Lc526, hQ526, l526, y526, z526⟩, st526⟩ := X0.virtualBack hx (y := oy6) (z := oy6) hown (mvT hZ (own_w hw 52 rfl)) (mvT hZ (own_w hw 53 rfl)) (notFace_of_selects (args := #[]) (mvT hZ (own_w hw 55 rfl))) (mvT hZ (own_w hw 55 rfl)) (mvT hZ (own_w hw 54 rfl)) (by decide) (backOf (W := 0) (rm_get_29 l Z a0 hw [] x0 x1 x2 kc0 kc1 w_I2 h0 n0 O0 F_x0_requests F_x0_sequences V_x1 V_x2 ) hZ (own_w hw 56 rfl) (own_w hw 6 rfl) (by decide) (by decide)) q526a q526c (g := (mkF m 2 (oL3 x0) [(.long 1048576), (.ref x0)])) rfl (by rw [hml]; rfl) (Steps.refl _) (argsL := [(.long 1048576)]) (rest := []) (lenOf pd__J_Ljava_lang_Object_ rfl) rfl (by show 2 * 0 + _ ≤ _; exact Nat.le_of_eq rfl) (hb hby dg_2) (fun _ _ => ⟨rfl, e0, (by decide : 0 + 0 ≤ _), (by decide : 0 + 0 ≤ _)⟩)
  dsimp only [Pt.U, Pt.locs, Pt.cells, Pt.slots] at X526 l526 y526 z526 st526 hQ526
  subst l526 y526 z526
  obtain ⟨rfl, N526q, e526⟩ := hQ526
  have N526 := Fr.app N0 N526q
  have pre539 : ∀ t, oS p e below m T526 21 (oL13 x0) [.null] t → oT p e below s₁ (entryFrame m #[(.ref x0), (.long 1048576)] 4) t := by
    intro t kt
    refine pre0 t ?_
    show oS p e below m s₁ 0 (oL3 x0) [] _
    refine XS.aloadN X0.here hx rfl (hb hby dg_0) rfl rfl ?_
    refine XS.lloadN X0.here hx rfl (hb hby dg_1) rfl ?_
    show oS p e below m s₁ 2 (oL3 x0) [(.long 1048576), (.ref x0)] _
    refine st526.trans ?_
    show oS p e below m T526 5 (oL3 x0) [.null] _
    refine XS.astoreN X526.here hx rfl (hb hby dg_5) rfl rfl (l' := (oL13 x0)) rfl ?_
    refine XS.aloadN X526.here hx rfl (hb hby dg_6) rfl rfl ?_
    show oS p e below m T526 7 (oL13 x0) [.null] _
    refine XS.ifnullYes X526.here hx rfl (pc0 := 7) (pc' := 20) rfl (hb hby dg_7) rfl (by decide) (by decide) ?_
    refine XS.aloadN X526.here hx rfl (hb hby dg_20) rfl rfl ?_
    exact kt
  obtain ⟨fs, hr, hrun, hended, hW, hsame⟩ := X526.leave (v := some .null) (fun h => by rw [Bd.returns] at h; cases h)
  refine ⟨_, _, pre539 _ ?_, hrun, hended, _, _, rfl, ?_, ⟨_, rfl⟩, hW, hsame.mono (by decide) (by decide)⟩
  · show oS p e below m T526 21 (oL13 x0) [.null] _
    jvm_step X526.here [X526.here.top, hx, (hb hby dg_21), X526.method', Bd.returns, Value.isRef, FieldType.isReference]
    first | (intro acts; rw [hr _ acts rfl rfl rfl]) | rw [hr _ _ rfl rfl rfl]
    exact Steps.refl _
  · show Q_rm_release_28 Z x0 x1 x2 x3 kc0 kc1 w_I2 h0 n0 _ T526.heap _
    rw [e526]
    exact ⟨rfl, N526, rfl⟩
theorem ef_rm_init_30 (m : MethodId) (x0 : Addr) : entryFrame m #[(.ref x0), (.int 3)] 3 = mkF m 0 #[rv x0, iv 3, .unset] [] := by first | (simp [entryFrame, mkF, argsToLocals, Value.category]; done) | rfl
def Q_rm_init_30 (Z : State) (x0 : Addr) (h0 : Heap) (n0 : Nat) (v : Option Value) (h : Heap) (L : List Loc) : Prop := ∃ (b549 : Addr) (b551 : Addr) (b553 : Addr) (k549 : ClassId) (k551 : ClassId) (k553 : ClassId), v = none ∧ Fr n0 L ∧ Keep h0 h [x0] ∧ Exa Z h x0 oc8 ∧ Fld Z h x0 oc8 "requests" "[Ljava/lang/Object;" (.ref b549) ∧ Fld Z h x0 oc8 "sequences" "[J" (.ref b551) ∧ Fld Z h x0 oc8 "free" "[I" (.ref b553) ∧ Fld Z h x0 oc8 "freeCount" "I" (.int 3) ∧ Fld Z h x0 oc8 "lastSequence" "J" (.long 0) ∧ Arv Z h b549 k549 (.object oc9) (3 : Int32) [.null, .null, .null] .null ∧ Ovr Z k549 oc9 ∧ n0 ≤ b549 ∧ h0.size ≤ b549 ∧ Arv Z h b551 k551 .long (3 : Int32) [(.long 0), (.long 0), (.long 0)] (.long 0) ∧ n0 ≤ b551 ∧ h0.size ≤ b551 ∧ Arv Z h b553 k553 .int (3 : Int32) [(.int 2), (.int 1), (.int 0)] (.int 0) ∧ n0 ≤ b553 ∧ h0.size ≤ b553 ∧ b549 ≠ b551 ∧ b549 ≠ b553 ∧ b551 ≠ b553
set_option maxRecDepth 65536 in
set_option maxHeartbeats 40000000 in
theorem rm_init_30 (l : Launch) (Z : State) (a0 : Array Value) (hw : ∀ d ∈ tables_1, d.before a0 Z = true) (ws : List Jvm.Cond) (x0 : Addr) (h0 : Heap) (n0 : Nat) (O0 : Old Z n0 h0) (E_x0 : Exa Z h0 x0 oc8) (F_x0_requests : Fld Z h0 x0 oc8 "requests" "[Ljava/lang/Object;" .null) (F_x0_sequences : Fld Z h0 x0 oc8 "sequences" "[J" .null) (F_x0_free : Fld Z h0 x0 oc8 "free" "[I" .null) (F_x0_freeCount : Fld Z h0 x0 oc8 "freeCount" "I" (.int 0)) (F_x0_lastSequence : Fld Z h0 x0 oc8 "lastSequence" "J" (.long 0)) (ge_x0 : n0 ≤ x0)  :
    oM l oy1 prog_29_method_1_code 3 none ws ({ frames := 1, cells := 3, slots := 9, locals := 12 } : Room) Z #[(.ref x0), (.int 3)] h0 (Q_rm_init_30 Z x0 h0 n0) := by
  refine MetFree.of_bodySF (plainFor_of_name pn_com_example_wend_wend_Slots) hisR ?_
  intro p e s m args below meth c s₁ Bd hml0 hP hK
  obtain ⟨rfl, hZ, hh⟩ := hP
  have hx := Bd.exec
  have hby := Bd.bytes
  have hml : c.maxLocals = 3 := hml0
  have hown : s.vm.findClass oc8 = some m.cls := findClass_of_methodNamed Bd.named
  have hnm := (name_of_methodNamed Bd.named Bd.method).1
  have X0 : Stand p l e ({ frames := 1, cells := 3, slots := 9, locals := 12 } : Room) s m #[(.ref x0), (.int 3)] below meth c s₁ [] 0 0 := Stand.of_body Bd
  have e0 : s₁.heap = h0 := by rw [← hh, Bd.state]; rfl
  have N0 := Fr.nil n0
  have pre0 : ∀ t, oS p e below m s₁ 0 #[rv x0, iv 3, .unset] [] t → oT p e below s₁ (entryFrame m #[(.ref x0), (.int 3)] 3) t := fun t k => castTop (ef_rm_init_30 m x0) k
  have K0 := Keep.refl h0 [x0]
  obtain ⟨T546, X546, e546, st546⟩ := initO X0 hx hZ hown (own_w hw 10 rfl) (own_w hw 11 rfl) (own_w hw 12 rfl) e0 (g := (mkF m 1 #[rv x0, iv 3, .unset] [(.ref x0)])) rfl (by rw [hml]; rfl) rfl (hb hby dc_1) (by decide) (W := 0) (by show 2 * 0 + _ ≤ _; exact Nat.le_of_eq rfl) (by decide)
  obtain ⟨T549, h549, k549, X549, e549, E549, A549, Ov549, st549⟩ := newR X546 hx hZ hown (own_w hw 14 rfl) (own_w hw 15 rfl) e546 (g := (mkF m 31 #[rv x0, iv 3, .unset] [(.int 3), (.ref x0)])) rfl (hb hby dc_31) rfl (by decide) (cap := 3) (by decide) (by decide) (by decide) (by decide)
  obtain ⟨b549, g549⟩ : ∃ z, z = h0.size := ⟨_, rfl⟩
  have ne_x0_b549 : x0 ≠ b549 := Nat.ne_of_lt (Nat.lt_of_lt_of_le E_x0.lt (Nat.le_of_eq g549.symm))
  have ge_b549 : n0 ≤ b549 := Nat.le_trans (own_z O0) (Nat.le_of_eq g549.symm)
  have sz_b549 : h0.size ≤ b549 := Nat.le_trans K0.1 (Nat.le_of_eq g549.symm)
  rw [← g549] at A549 st549
  have E_x0 := E_x0.ext E549
  have F_x0_requests := F_x0_requests.ext E549
  have F_x0_sequences := F_x0_sequences.ext E549
  have F_x0_free := F_x0_free.ext E549
  have F_x0_freeCount := F_x0_freeCount.ext E549
  have F_x0_lastSequence := F_x0_lastSequence.ext E549
  have O549 := O0.ext E549
  have K549 := K0.ext E549
  have V_b549 : Arv Z h549 b549 k549 (.object oc9) (3 : Int32) [.null, .null, .null] .null := (Arv.new A549 (by decide)).pad (pad_rep [] .null 3)
  obtain ⟨T550, h550, X550, e550, W550, st550⟩ := putF X549 hx hZ hown (host := "") (Or.inl (own_w hw 16 rfl)) Via.refl e549 F_x0_requests E_x0 (Or.inr ⟨(own_w hw 17 rfl), rfl, hnm⟩) (own_w hw 5 rfl) (ty := (.array (.object oc9))) (by decide) rfl rfl (g := (mkF m 34 #[rv x0, iv 3, .unset] [(.ref b549), (.ref x0)])) rfl rfl (hb hby dc_34)
  have F_x0_requests := F_x0_requests.same W550
  have E_x0 := E_x0.wr W550
  have F_x0_sequences := F_x0_sequences.other W550 (Or.inr (osn_Slots_sequences_requests hw))
  have F_x0_free := F_x0_free.other W550 (Or.inr (osn_Slots_free_requests hw))
  have F_x0_freeCount := F_x0_freeCount.other W550 (Or.inr (osn_Slots_freeCount_requests hw))
  have F_x0_lastSequence := F_x0_lastSequence.other W550 (Or.inr (osn_Slots_lastSequence_requests hw))
  have V_b549 := V_b549.other W550 (Ne.symm ne_x0_b549)
  have O550 := O549.wr W550 ge_x0
  have K550 := K549.wr W550 (Or.inl (List.mem_of_getElem? (i := 0) rfl))
  have N550 := Fr.snoc X550 N0 ge_x0
  obtain ⟨T551, h551, k551, X551, e551, E551, A551, st551⟩ := newP X550 hx hZ (own_w hw 18 rfl) e550 (g := (mkF m 39 #[rv x0, iv 3, .unset] [(.int 3), (.ref x0)])) rfl (hb hby dc_39) rfl (by decide) (cap := 3) (by decide) (by decide) (by decide) (by decide)
  obtain ⟨b551, g551⟩ : ∃ z, z = h550.size := ⟨_, rfl⟩
  have ne_x0_b551 : x0 ≠ b551 := Nat.ne_of_lt (Nat.lt_of_lt_of_le E_x0.lt (Nat.le_of_eq g551.symm))
  have ne_b549_b551 : b549 ≠ b551 := Nat.ne_of_lt (Nat.lt_of_lt_of_le V_b549.lt (Nat.le_of_eq g551.symm))
  have ge_b551 : n0 ≤ b551 := Nat.le_trans (own_z O550) (Nat.le_of_eq g551.symm)
  have sz_b551 : h0.size ≤ b551 := Nat.le_trans K550.1 (Nat.le_of_eq g551.symm)
  rw [← g551] at A551 st551
  have E_x0 := E_x0.ext E551
  have F_x0_requests := F_x0_requests.ext E551
  have F_x0_sequences := F_x0_sequences.ext E551
  have F_x0_free := F_x0_free.ext E551
  have F_x0_freeCount := F_x0_freeCount.ext E551
  have F_x0_lastSequence := F_x0_lastSequence.ext E551
  have V_b549 := V_b549.ext E551
  have O551 := O550.ext E551
  have K551 := K550.ext E551
  have V_b551 : Arv Z h551 b551 k551 .long (3 : Int32) [(.long 0), (.long 0), (.long 0)] (.long 0) := (Arv.new A551 (by decide)).pad (pad_rep [] (.long 0) 3)
  obtain ⟨T552, h552, X552, e552, W552, st552⟩ := putF X551 hx hZ hown (host := "") (Or.inl (own_w hw 19 rfl)) Via.refl e551 F_x0_sequences E_x0 (Or.inr ⟨(own_w hw 20 rfl), rfl, hnm⟩) (own_w hw 5 rfl) (ty := (.array .long)) (by decide) rfl rfl (g := (mkF m 41 #[rv x0, iv 3, .unset] [(.ref b551), (.ref x0)])) rfl rfl (hb hby dc_41)
  have F_x0_sequences := F_x0_sequences.same W552
  have E_x0 := E_x0.wr W552
  have F_x0_requests := F_x0_requests.other W552 (Or.inr (osn_Slots_requests_sequences hw))
  have F_x0_free := F_x0_free.other W552 (Or.inr (osn_Slots_free_sequences hw))
  have F_x0_freeCount := F_x0_freeCount.other W552 (Or.inr (osn_Slots_freeCount_sequences hw))
  have F_x0_lastSequence := F_x0_lastSequence.other W552 (Or.inr (osn_Slots_lastSequence_sequences hw))
  have V_b549 := V_b549.other W552 (Ne.symm ne_x0_b549)
  have V_b551 := V_b551.other W552 (Ne.symm ne_x0_b551)
  have O552 := O551.wr W552 ge_x0
  have K552 := K551.wr W552 (Or.inl (List.mem_of_getElem? (i := 0) rfl))
  have N552 := Fr.snoc X552 N550 ge_x0
  obtain ⟨T553, h553, k553, X553, e553, E553, A553, st553⟩ := newP X552 hx hZ (own_w hw 21 rfl) e552 (g := (mkF m 46 #[rv x0, iv 3, .unset] [(.int 3), (.ref x0)])) rfl (hb hby dc_46) rfl (by decide) (cap := 3) (by decide) (by decide) (by decide) (by decide)
  obtain ⟨b553, g553⟩ : ∃ z, z = h552.size := ⟨_, rfl⟩
  have ne_x0_b553 : x0 ≠ b553 := Nat.ne_of_lt (Nat.lt_of_lt_of_le E_x0.lt (Nat.le_of_eq g553.symm))
  have ne_b549_b553 : b549 ≠ b553 := Nat.ne_of_lt (Nat.lt_of_lt_of_le V_b549.lt (Nat.le_of_eq g553.symm))
  have ne_b551_b553 : b551 ≠ b553 := Nat.ne_of_lt (Nat.lt_of_lt_of_le V_b551.lt (Nat.le_of_eq g553.symm))
  have ge_b553 : n0 ≤ b553 := Nat.le_trans (own_z O552) (Nat.le_of_eq g553.symm)
  have sz_b553 : h0.size ≤ b553 := Nat.le_trans K552.1 (Nat.le_of_eq g553.symm)
  rw [← g553] at A553 st553
  have E_x0 := E_x0.ext E553
  have F_x0_requests := F_x0_requests.ext E553
  have F_x0_sequences := F_x0_sequences.ext E553
  have F_x0_free := F_x0_free.ext E553
  have F_x0_freeCount := F_x0_freeCount.ext E553
  have F_x0_lastSequence := F_x0_lastSequence.ext E553
  have V_b549 := V_b549.ext E553
  have V_b551 := V_b551.ext E553
  have O553 := O552.ext E553
  have K553 := K552.ext E553
  have V_b553 : Arv Z h553 b553 k553 .int (3 : Int32) [(.int 0), (.int 0), (.int 0)] (.int 0) := (Arv.new A553 (by decide)).pad (pad_rep [] (.int 0) 3)
  obtain ⟨T554, h554, X554, e554, W554, st554⟩ := putF X553 hx hZ hown (host := "") (Or.inl (own_w hw 22 rfl)) Via.refl e553 F_x0_free E_x0 (Or.inr ⟨(own_w hw 23 rfl), rfl, hnm⟩) (own_w hw 5 rfl) (ty := (.array .int)) (by decide) rfl rfl (g := (mkF m 48 #[rv x0, iv 3, .unset] [(.ref b553), (.ref x0)])) rfl rfl (hb hby dc_48)
  have F_x0_free := F_x0_free.same W554
  have E_x0 := E_x0.wr W554
  have F_x0_requests := F_x0_requests.other W554 (Or.inr (osn_Slots_requests_free hw))
  have F_x0_sequences := F_x0_sequences.other W554 (Or.inr (osn_Slots_sequences_free hw))
  have F_x0_freeCount := F_x0_freeCount.other W554 (Or.inr (osn_Slots_freeCount_free hw))
  have F_x0_lastSequence := F_x0_lastSequence.other W554 (Or.inr (osn_Slots_lastSequence_free hw))
  have V_b549 := V_b549.other W554 (Ne.symm ne_x0_b549)
  have V_b551 := V_b551.other W554 (Ne.symm ne_x0_b551)
  have V_b553 := V_b553.other W554 (Ne.symm ne_x0_b553)
  have O554 := O553.wr W554 ge_x0
  have K554 := K553.wr W554 (Or.inl (List.mem_of_getElem? (i := 0) rfl))
  have N554 := Fr.snoc X554 N552 ge_x0
  obtain ⟨T556, X556, e556, st556⟩ := getF X554 hx hZ hown (host := "") (Or.inl (own_w hw 22 rfl)) Via.refl e554 F_x0_free (g := (mkF m 59 #[rv x0, iv 3, iv 0] [(.ref x0)])) rfl rfl (hb hby dc_59)
  have pre557 : ∀ t, oS p e below m T556 65 #[rv x0, iv 3, iv 0] [(.int ((3 : Int32) - (1 : Int32))), (.ref b553)] t → oT p e below s₁ (entryFrame m #[(.ref x0), (.int 3)] 3) t := by
    intro t kt
    refine pre0 t ?_
    show oS p e below m s₁ 0 #[rv x0, iv 3, .unset] [] _
    refine XS.aloadN X0.here hx rfl (hb hby dc_0) rfl rfl ?_
    show oS p e below m s₁ 1 #[rv x0, iv 3, .unset] [(.ref x0)] _
    refine st546 _ ?_
    show oS p e below m T546 4 #[rv x0, iv 3, .unset] [] _
    refine XS.iloadN X546.here hx rfl (hb hby dc_4) rfl ?_
    refine XS.iconst X546.here hx rfl (hb hby dc_5) ?_
    show oS p e below m T546 6 #[rv x0, iv 3, .unset] [(.int 1), (.int 3)] _
    refine XS.icmpNo X546.here hx rfl (hb hby dc_6) rfl (flt (by decide : ¬ ((3 : Int32) < (1 : Int32)))).1 ?_
    refine XS.iloadN X546.here hx rfl (hb hby dc_9) rfl ?_
    show oS p e below m T546 10 #[rv x0, iv 3, .unset] [(.int 3)] _
    refine X546.ldcInt hx hown (mvT hZ (own_w hw 13 rfl)) (g := (mkF m 10 #[rv x0, iv 3, .unset] [(.int 3)])) rfl (hb hby dc_10) _ ?_
    show oS p e below m T546 12 #[rv x0, iv 3, .unset] [(.int 1048576), (.int 3)] _
    refine XS.icmpYes X546.here hx rfl (pc0 := 12) (pc' := 29) rfl (hb hby dc_12) rfl (flt (by decide : ¬ ((1048576 : Int32) < (3 : Int32)))).2.2.2 (by decide) (by decide) ?_
    refine XS.aloadN X546.here hx rfl (hb hby dc_29) rfl rfl ?_
    show oS p e below m T546 30 #[rv x0, iv 3, .unset] [(.ref x0)] _
    refine XS.iloadN X546.here hx rfl (hb hby dc_30) rfl ?_
    show oS p e below m T546 31 #[rv x0, iv 3, .unset] [(.int 3), (.ref x0)] _
    refine st549 _ ?_
    show oS p e below m T549 34 #[rv x0, iv 3, .unset] [(.ref b549), (.ref x0)] _
    refine st550 _ ?_
    show oS p e below m T550 37 #[rv x0, iv 3, .unset] [] _
    refine XS.aloadN X550.here hx rfl (hb hby dc_37) rfl rfl ?_
    refine XS.iloadN X550.here hx rfl (hb hby dc_38) rfl ?_
    show oS p e below m T550 39 #[rv x0, iv 3, .unset] [(.int 3), (.ref x0)] _
    refine st551 _ ?_
    show oS p e below m T551 41 #[rv x0, iv 3, .unset] [(.ref b551), (.ref x0)] _
    refine st552 _ ?_
    show oS p e below m T552 44 #[rv x0, iv 3, .unset] [] _
    refine XS.aloadN X552.here hx rfl (hb hby dc_44) rfl rfl ?_
    refine XS.iloadN X552.here hx rfl (hb hby dc_45) rfl ?_
    show oS p e below m T552 46 #[rv x0, iv 3, .unset] [(.int 3), (.ref x0)] _
    refine st553 _ ?_
    show oS p e below m T553 48 #[rv x0, iv 3, .unset] [(.ref b553), (.ref x0)] _
    refine st554 _ ?_
    show oS p e below m T554 51 #[rv x0, iv 3, .unset] [] _
    refine XS.iconst X554.here hx rfl (hb hby dc_51) ?_
    refine XS.istoreN X554.here hx rfl (hb hby dc_52) rfl (l' := #[rv x0, iv 3, iv 0]) rfl ?_
    show oS p e below m T554 53 #[rv x0, iv 3, iv 0] [] _
    refine XS.iloadN X554.here hx rfl (hb hby dc_53) rfl ?_
    refine XS.iloadN X554.here hx rfl (hb hby dc_54) rfl ?_
    show oS p e below m T554 55 #[rv x0, iv 3, iv 0] [(.int 3), (.int 0)] _
    refine XS.icmpNo X554.here hx rfl (hb hby dc_55) rfl (tlt (by decide : (0 : Int32) < (3 : Int32))).2.1 ?_
    refine XS.aloadN X554.here hx rfl (hb hby dc_58) rfl rfl ?_
    show oS p e below m T554 59 #[rv x0, iv 3, iv 0] [(.ref x0)] _
    refine st556 _ ?_
    show oS p e below m T556 62 #[rv x0, iv 3, iv 0] [(.ref b553)] _
    refine XS.iloadN X556.here hx rfl (hb hby dc_62) rfl ?_
    refine XS.iconst X556.here hx rfl (hb hby dc_63) ?_
    show oS p e below m T556 64 #[rv x0, iv 3, iv 0] [(.int 1), (.int 3), (.ref b553)] _
    refine XS.isub X556.here hx rfl (hb hby dc_64) rfl ?_
    exact kt
  rw [show ((3 : Int32) - (1 : Int32)) = (2 : Int32) from by decide] at pre557
  have pre558 : ∀ t, oS p e below m T556 67 #[rv x0, iv 3, iv 0] [(.int ((2 : Int32) - (0 : Int32))), (.ref b553)] t → oT p e below s₁ (entryFrame m #[(.ref x0), (.int 3)] 3) t := by
    intro t kt
    refine pre557 t ?_
    show oS p e below m T556 65 #[rv x0, iv 3, iv 0] [(.int 2), (.ref b553)] _
    refine XS.iloadN X556.here hx rfl (hb hby dc_65) rfl ?_
    refine XS.isub X556.here hx rfl (hb hby dc_66) rfl ?_
    exact kt
  rw [show ((2 : Int32) - (0 : Int32)) = (2 : Int32) from by decide] at pre558
  have vt559 := V_b553
  obtain ⟨cl559, Ar559, q559, S559, Ng559, Ha559, G559⟩ := vt559
  have hin559 : ¬ ((2 : Int32) < 0 ∨ cl559.slots.size ≤ ((2 : Int32)).toNatClampNeg) := inb_of S559 ⟨by decide, by decide⟩
  obtain ⟨T560, h560, X560, e560, W560, st560⟩ := stI X556 hx hZ e556 Ar559 (j := (2 : Int32)) hin559 (g := (mkF m 68 #[rv x0, iv 3, iv 0] [(.int 0), (.int 2), (.ref b553)])) rfl rfl (hb hby dc_68)
  have V_b553 : Arv Z h560 b553 k553 .int (3 : Int32) [(.int 0), (.int 0), (.int 0)] (.int 0) := Arv.set Ar559 q559 S559 Ng559 Ha559 G559 rfl W560 2 rfl (Nat.le_of_ble_eq_true rfl)
  have E_x0 := E_x0.wr W560
  have F_x0_requests := F_x0_requests.other W560 (Or.inl ne_x0_b553)
  have F_x0_sequences := F_x0_sequences.other W560 (Or.inl ne_x0_b553)
  have F_x0_free := F_x0_free.other W560 (Or.inl ne_x0_b553)
  have F_x0_freeCount := F_x0_freeCount.other W560 (Or.inl ne_x0_b553)
  have F_x0_lastSequence := F_x0_lastSequence.other W560 (Or.inl ne_x0_b553)
  have V_b549 := V_b549.other W560 ne_b549_b553
  have V_b551 := V_b551.other W560 ne_b551_b553
  have O560 := O554.wr W560 ge_b553
  have K560 := K554.wr W560 (Or.inr sz_b553)
  have N560 := Fr.snoc X560 N554 ge_b553
  have pre561 : ∀ t, oS p e below m T560 72 #[rv x0, iv 3, .val (.int ((0 : Int32) + (1 : Int32)))] [] t → oT p e below s₁ (entryFrame m #[(.ref x0), (.int 3)] 3) t := by
    intro t kt
    refine pre558 t ?_
    show oS p e below m T556 67 #[rv x0, iv 3, iv 0] [(.int 2), (.ref b553)] _
    refine XS.iloadN X556.here hx rfl (hb hby dc_67) rfl ?_
    show oS p e below m T556 68 #[rv x0, iv 3, iv 0] [(.int 0), (.int 2), (.ref b553)] _
    refine st560 _ ?_
    show oS p e below m T560 69 #[rv x0, iv 3, iv 0] [] _
    refine XS.iinc X560.here hx rfl (hb hby dc_69) rfl (l' := #[rv x0, iv 3, .val (.int ((0 : Int32) + (1 : Int32)))]) rfl ?_
    exact kt
  rw [show ((0 : Int32) + (1 : Int32)) = (1 : Int32) from by decide] at pre561
  obtain ⟨T563, X563, e563, st563⟩ := getF X560 hx hZ hown (host := "") (Or.inl (own_w hw 22 rfl)) Via.refl e560 F_x0_free (g := (mkF m 59 #[rv x0, iv 3, iv 1] [(.ref x0)])) rfl rfl (hb hby dc_59)
  have pre564 : ∀ t, oS p e below m T563 65 #[rv x0, iv 3, iv 1] [(.int ((3 : Int32) - (1 : Int32))), (.ref b553)] t → oT p e below s₁ (entryFrame m #[(.ref x0), (.int 3)] 3) t := by
    intro t kt
    refine pre561 t ?_
    show oS p e below m T560 72 #[rv x0, iv 3, iv 1] [] _
    refine XS.goto X560.here hx rfl (pc0 := 72) (pc' := 53) rfl (hb hby dc_72) (by decide) (by decide) ?_
    refine XS.iloadN X560.here hx rfl (hb hby dc_53) rfl ?_
    show oS p e below m T560 54 #[rv x0, iv 3, iv 1] [(.int 1)] _
    refine XS.iloadN X560.here hx rfl (hb hby dc_54) rfl ?_
    refine XS.icmpNo X560.here hx rfl (hb hby dc_55) rfl (tlt (by decide : (1 : Int32) < (3 : Int32))).2.1 ?_
    show oS p e below m T560 58 #[rv x0, iv 3, iv 1] [] _
    refine XS.aloadN X560.here hx rfl (hb hby dc_58) rfl rfl ?_
    show oS p e below m T560 59 #[rv x0, iv 3, iv 1] [(.ref x0)] _
    refine st563 _ ?_
    show oS p e below m T563 62 #[rv x0, iv 3, iv 1] [(.ref b553)] _
    refine XS.iloadN X563.here hx rfl (hb hby dc_62) rfl ?_
    refine XS.iconst X563.here hx rfl (hb hby dc_63) ?_
    show oS p e below m T563 64 #[rv x0, iv 3, iv 1] [(.int 1), (.int 3), (.ref b553)] _
    refine XS.isub X563.here hx rfl (hb hby dc_64) rfl ?_
    exact kt
  rw [show ((3 : Int32) - (1 : Int32)) = (2 : Int32) from by decide] at pre564
  have pre565 : ∀ t, oS p e below m T563 67 #[rv x0, iv 3, iv 1] [(.int ((2 : Int32) - (1 : Int32))), (.ref b553)] t → oT p e below s₁ (entryFrame m #[(.ref x0), (.int 3)] 3) t := by
    intro t kt
    refine pre564 t ?_
    show oS p e below m T563 65 #[rv x0, iv 3, iv 1] [(.int 2), (.ref b553)] _
    refine XS.iloadN X563.here hx rfl (hb hby dc_65) rfl ?_
    refine XS.isub X563.here hx rfl (hb hby dc_66) rfl ?_
    exact kt
  rw [show ((2 : Int32) - (1 : Int32)) = (1 : Int32) from by decide] at pre565
  have vt566 := V_b553
  obtain ⟨cl566, Ar566, q566, S566, Ng566, Ha566, G566⟩ := vt566
  have hin566 : ¬ ((1 : Int32) < 0 ∨ cl566.slots.size ≤ ((1 : Int32)).toNatClampNeg) := inb_of S566 ⟨by decide, by decide⟩
  obtain ⟨T567, h567, X567, e567, W567, st567⟩ := stI X563 hx hZ e563 Ar566 (j := (1 : Int32)) hin566 (g := (mkF m 68 #[rv x0, iv 3, iv 1] [(.int 1), (.int 1), (.ref b553)])) rfl rfl (hb hby dc_68)
  have V_b553 : Arv Z h567 b553 k553 .int (3 : Int32) [(.int 0), (.int 1), (.int 0)] (.int 0) := Arv.set Ar566 q566 S566 Ng566 Ha566 G566 rfl W567 1 rfl (Nat.le_of_ble_eq_true rfl)
  have E_x0 := E_x0.wr W567
  have F_x0_requests := F_x0_requests.other W567 (Or.inl ne_x0_b553)
  have F_x0_sequences := F_x0_sequences.other W567 (Or.inl ne_x0_b553)
  have F_x0_free := F_x0_free.other W567 (Or.inl ne_x0_b553)
  have F_x0_freeCount := F_x0_freeCount.other W567 (Or.inl ne_x0_b553)
  have F_x0_lastSequence := F_x0_lastSequence.other W567 (Or.inl ne_x0_b553)
  have V_b549 := V_b549.other W567 ne_b549_b553
  have V_b551 := V_b551.other W567 ne_b551_b553
  have O567 := O560.wr W567 ge_b553
  have K567 := K560.wr W567 (Or.inr sz_b553)
  have N567 := Fr.snoc X567 N560 ge_b553
  have pre568 : ∀ t, oS p e below m T567 72 #[rv x0, iv 3, .val (.int ((1 : Int32) + (1 : Int32)))] [] t → oT p e below s₁ (entryFrame m #[(.ref x0), (.int 3)] 3) t := by
    intro t kt
    refine pre565 t ?_
    show oS p e below m T563 67 #[rv x0, iv 3, iv 1] [(.int 1), (.ref b553)] _
    refine XS.iloadN X563.here hx rfl (hb hby dc_67) rfl ?_
    show oS p e below m T563 68 #[rv x0, iv 3, iv 1] [(.int 1), (.int 1), (.ref b553)] _
    refine st567 _ ?_
    show oS p e below m T567 69 #[rv x0, iv 3, iv 1] [] _
    refine XS.iinc X567.here hx rfl (hb hby dc_69) rfl (l' := #[rv x0, iv 3, .val (.int ((1 : Int32) + (1 : Int32)))]) rfl ?_
    exact kt
  rw [show ((1 : Int32) + (1 : Int32)) = (2 : Int32) from by decide] at pre568
  obtain ⟨T570, X570, e570, st570⟩ := getF X567 hx hZ hown (host := "") (Or.inl (own_w hw 22 rfl)) Via.refl e567 F_x0_free (g := (mkF m 59 #[rv x0, iv 3, iv 2] [(.ref x0)])) rfl rfl (hb hby dc_59)
  have pre571 : ∀ t, oS p e below m T570 65 #[rv x0, iv 3, iv 2] [(.int ((3 : Int32) - (1 : Int32))), (.ref b553)] t → oT p e below s₁ (entryFrame m #[(.ref x0), (.int 3)] 3) t := by
    intro t kt
    refine pre568 t ?_
    show oS p e below m T567 72 #[rv x0, iv 3, iv 2] [] _
    refine XS.goto X567.here hx rfl (pc0 := 72) (pc' := 53) rfl (hb hby dc_72) (by decide) (by decide) ?_
    refine XS.iloadN X567.here hx rfl (hb hby dc_53) rfl ?_
    show oS p e below m T567 54 #[rv x0, iv 3, iv 2] [(.int 2)] _
    refine XS.iloadN X567.here hx rfl (hb hby dc_54) rfl ?_
    refine XS.icmpNo X567.here hx rfl (hb hby dc_55) rfl (tlt (by decide : (2 : Int32) < (3 : Int32))).2.1 ?_
    show oS p e below m T567 58 #[rv x0, iv 3, iv 2] [] _
    refine XS.aloadN X567.here hx rfl (hb hby dc_58) rfl rfl ?_
    show oS p e below m T567 59 #[rv x0, iv 3, iv 2] [(.ref x0)] _
    refine st570 _ ?_
    show oS p e below m T570 62 #[rv x0, iv 3, iv 2] [(.ref b553)] _
    refine XS.iloadN X570.here hx rfl (hb hby dc_62) rfl ?_
    refine XS.iconst X570.here hx rfl (hb hby dc_63) ?_
    show oS p e below m T570 64 #[rv x0, iv 3, iv 2] [(.int 1), (.int 3), (.ref b553)] _
    refine XS.isub X570.here hx rfl (hb hby dc_64) rfl ?_
    exact kt
  rw [show ((3 : Int32) - (1 : Int32)) = (2 : Int32) from by decide] at pre571
  have pre572 : ∀ t, oS p e below m T570 67 #[rv x0, iv 3, iv 2] [(.int ((2 : Int32) - (2 : Int32))), (.ref b553)] t → oT p e below s₁ (entryFrame m #[(.ref x0), (.int 3)] 3) t := by
    intro t kt
    refine pre571 t ?_
    show oS p e below m T570 65 #[rv x0, iv 3, iv 2] [(.int 2), (.ref b553)] _
    refine XS.iloadN X570.here hx rfl (hb hby dc_65) rfl ?_
    refine XS.isub X570.here hx rfl (hb hby dc_66) rfl ?_
    exact kt
  rw [show ((2 : Int32) - (2 : Int32)) = (0 : Int32) from by decide] at pre572
  have vt573 := V_b553
  obtain ⟨cl573, Ar573, q573, S573, Ng573, Ha573, G573⟩ := vt573
  have hin573 : ¬ ((0 : Int32) < 0 ∨ cl573.slots.size ≤ ((0 : Int32)).toNatClampNeg) := inb_of S573 ⟨by decide, by decide⟩
  obtain ⟨T574, h574, X574, e574, W574, st574⟩ := stI X570 hx hZ e570 Ar573 (j := (0 : Int32)) hin573 (g := (mkF m 68 #[rv x0, iv 3, iv 2] [(.int 2), (.int 0), (.ref b553)])) rfl rfl (hb hby dc_68)
  have V_b553 : Arv Z h574 b553 k553 .int (3 : Int32) [(.int 2), (.int 1), (.int 0)] (.int 0) := Arv.set Ar573 q573 S573 Ng573 Ha573 G573 rfl W574 0 rfl (Nat.le_of_ble_eq_true rfl)
  have E_x0 := E_x0.wr W574
  have F_x0_requests := F_x0_requests.other W574 (Or.inl ne_x0_b553)
  have F_x0_sequences := F_x0_sequences.other W574 (Or.inl ne_x0_b553)
  have F_x0_free := F_x0_free.other W574 (Or.inl ne_x0_b553)
  have F_x0_freeCount := F_x0_freeCount.other W574 (Or.inl ne_x0_b553)
  have F_x0_lastSequence := F_x0_lastSequence.other W574 (Or.inl ne_x0_b553)
  have V_b549 := V_b549.other W574 ne_b549_b553
  have V_b551 := V_b551.other W574 ne_b551_b553
  have O574 := O567.wr W574 ge_b553
  have K574 := K567.wr W574 (Or.inr sz_b553)
  have N574 := Fr.snoc X574 N567 ge_b553
  have pre575 : ∀ t, oS p e below m T574 72 #[rv x0, iv 3, .val (.int ((2 : Int32) + (1 : Int32)))] [] t → oT p e below s₁ (entryFrame m #[(.ref x0), (.int 3)] 3) t := by
    intro t kt
    refine pre572 t ?_
    show oS p e below m T570 67 #[rv x0, iv 3, iv 2] [(.int 0), (.ref b553)] _
    refine XS.iloadN X570.here hx rfl (hb hby dc_67) rfl ?_
    show oS p e below m T570 68 #[rv x0, iv 3, iv 2] [(.int 2), (.int 0), (.ref b553)] _
    refine st574 _ ?_
    show oS p e below m T574 69 #[rv x0, iv 3, iv 2] [] _
    refine XS.iinc X574.here hx rfl (hb hby dc_69) rfl (l' := #[rv x0, iv 3, .val (.int ((2 : Int32) + (1 : Int32)))]) rfl ?_
    exact kt
  rw [show ((2 : Int32) + (1 : Int32)) = (3 : Int32) from by decide] at pre575
  obtain ⟨T577, h577, X577, e577, W577, st577⟩ := putF X574 hx hZ hown (host := "") (Or.inl (own_w hw 24 rfl)) Via.refl e574 F_x0_freeCount E_x0 (Or.inl (own_w hw 25 rfl)) (own_w hw 5 rfl) (ty := .int) (by decide) rfl rfl (g := (mkF m 77 #[rv x0, iv 3, iv 3] [(.int 3), (.ref x0)])) rfl rfl (hb hby dc_77)
  have F_x0_freeCount := F_x0_freeCount.same W577
  have E_x0 := E_x0.wr W577
  have F_x0_requests := F_x0_requests.other W577 (Or.inr (osn_Slots_requests_freeCount hw))
  have F_x0_sequences := F_x0_sequences.other W577 (Or.inr (osn_Slots_sequences_freeCount hw))
  have F_x0_free := F_x0_free.other W577 (Or.inr (osn_Slots_free_freeCount hw))
  have F_x0_lastSequence := F_x0_lastSequence.other W577 (Or.inr (osn_Slots_lastSequence_freeCount hw))
  have V_b549 := V_b549.other W577 (Ne.symm ne_x0_b549)
  have V_b551 := V_b551.other W577 (Ne.symm ne_x0_b551)
  have V_b553 := V_b553.other W577 (Ne.symm ne_x0_b553)
  have O577 := O574.wr W577 ge_x0
  have K577 := K574.wr W577 (Or.inl (List.mem_of_getElem? (i := 0) rfl))
  have N577 := Fr.snoc X577 N574 ge_x0
  have pre578 : ∀ t, oS p e below m T577 80 #[rv x0, iv 3, iv 3] [] t → oT p e below s₁ (entryFrame m #[(.ref x0), (.int 3)] 3) t := by
    intro t kt
    refine pre575 t ?_
    show oS p e below m T574 72 #[rv x0, iv 3, iv 3] [] _
    refine XS.goto X574.here hx rfl (pc0 := 72) (pc' := 53) rfl (hb hby dc_72) (by decide) (by decide) ?_
    refine XS.iloadN X574.here hx rfl (hb hby dc_53) rfl ?_
    show oS p e below m T574 54 #[rv x0, iv 3, iv 3] [(.int 3)] _
    refine XS.iloadN X574.here hx rfl (hb hby dc_54) rfl ?_
    refine XS.icmpYes X574.here hx rfl (pc0 := 55) (pc' := 75) rfl (hb hby dc_55) rfl (flt (by decide : ¬ ((3 : Int32) < (3 : Int32)))).2.1 (by decide) (by decide) ?_
    show oS p e below m T574 75 #[rv x0, iv 3, iv 3] [] _
    refine XS.aloadN X574.here hx rfl (hb hby dc_75) rfl rfl ?_
    refine XS.iloadN X574.here hx rfl (hb hby dc_76) rfl ?_
    show oS p e below m T574 77 #[rv x0, iv 3, iv 3] [(.int 3), (.ref x0)] _
    refine st577 _ ?_
    exact kt
  obtain ⟨fs, hr, hrun, hended, hW, hsame⟩ := X577.leave (v := none) (fun _ => rfl)
  refine ⟨_, _, pre578 _ ?_, hrun, hended, _, _, rfl, ?_, ⟨_, rfl⟩, hW, hsame.mono (by decide) (by decide)⟩
  · show oS p e below m T577 80 #[rv x0, iv 3, iv 3] [] _
    exact X577.returnOut hx Bd.returns (hb hby dc_80) hr
  · show Q_rm_init_30 Z x0 h0 n0 _ T577.heap _
    rw [e577]
    exact ⟨b549, b551, b553, k549, k551, k553, rfl, N577, K577, E_x0, F_x0_requests, F_x0_sequences, F_x0_free, F_x0_freeCount, F_x0_lastSequence, V_b549, Ov549, ge_b549, sz_b549, V_b551, ge_b551, sz_b551, V_b553, ge_b553, sz_b553, ne_b549_b551, ne_b549_b553, ne_b551_b553⟩
theorem ef_rm_hasFree_31 (m : MethodId) (x0 : Addr) : entryFrame m #[(.ref x0)] 1 = mkF m 0 #[rv x0] [] := by first | (simp [entryFrame, mkF, argsToLocals, Value.category]; done) | rfl
def Q_rm_hasFree_31 (Z : State) (x0 : Addr) (h0 : Heap) (n0 : Nat) (v : Option Value) (h : Heap) (L : List Loc) : Prop := v = some (.int 1) ∧ Fr n0 L ∧ h = h0
set_option maxRecDepth 65536 in
set_option maxHeartbeats 40000000 in
theorem rm_hasFree_31 (l : Launch) (Z : State) (a0 : Array Value) (hw : ∀ d ∈ tables_1, d.before a0 Z = true) (ws : List Jvm.Cond) (x0 : Addr) (h0 : Heap) (n0 : Nat) (O0 : Old Z n0 h0) (F_x0_freeCount : Fld Z h0 x0 oc8 "freeCount" "I" (.int 3))  :
    oM l oy2 prog_29_method_3_code 1 (some .boolean) ws ({ frames := 0, cells := 0, slots := 0, locals := 0 } : Room) Z #[(.ref x0)] h0 (Q_rm_hasFree_31 Z x0 h0 n0) := by
  refine MetFree.of_bodySF (plainFor_of_name pn_com_example_wend_wend_Slots) hisR ?_
  intro p e s m args below meth c s₁ Bd hml0 hP hK
  obtain ⟨rfl, hZ, hh⟩ := hP
  have hx := Bd.exec
  have hby := Bd.bytes
  have hml : c.maxLocals = 1 := hml0
  have hown : s.vm.findClass oc8 = some m.cls := findClass_of_methodNamed Bd.named
  have hnm := (name_of_methodNamed Bd.named Bd.method).1
  have X0 : Stand p l e ({ frames := 0, cells := 0, slots := 0, locals := 0 } : Room) s m #[(.ref x0)] below meth c s₁ [] 0 0 := Stand.of_body Bd
  have e0 : s₁.heap = h0 := by rw [← hh, Bd.state]; rfl
  have N0 := Fr.nil n0
  have pre0 : ∀ t, oS p e below m s₁ 0 #[rv x0] [] t → oT p e below s₁ (entryFrame m #[(.ref x0)] 1) t := fun t k => castTop (ef_rm_hasFree_31 m x0) k
  have K0 := Keep.refl h0 []
  obtain ⟨T580, X580, e580, st580⟩ := getF X0 hx hZ hown (host := "") (Or.inl (own_w hw 24 rfl)) Via.refl e0 F_x0_freeCount (g := (mkF m 1 #[rv x0] [(.ref x0)])) rfl rfl (hb hby dd_1)
  have pre582 : ∀ t, oS p e below m T580 12 #[rv x0] [(.int 1)] t → oT p e below s₁ (entryFrame m #[(.ref x0)] 1) t := by
    intro t kt
    refine pre0 t ?_
    show oS p e below m s₁ 0 #[rv x0] [] _
    refine XS.aloadN X0.here hx rfl (hb hby dd_0) rfl rfl ?_
    show oS p e below m s₁ 1 #[rv x0] [(.ref x0)] _
    refine st580 _ ?_
    show oS p e below m T580 4 #[rv x0] [(.int 3)] _
    refine XS.ifNo X580.here hx rfl (hb hby dd_4) rfl ((if0 _ _).trans (tlt (by decide : (0 : Int32) < (3 : Int32))).2.2.2) ?_
    refine XS.iconst X580.here hx rfl (hb hby dd_7) ?_
    show oS p e below m T580 8 #[rv x0] [(.int 1)] _
    refine XS.goto X580.here hx rfl (pc0 := 8) (pc' := 12) rfl (hb hby dd_8) (by decide) (by decide) ?_
    exact kt
  obtain ⟨fs, hr, hrun, hended, hW, hsame⟩ := X580.leave (v := some (.int 1)) (fun h => by rw [Bd.returns] at h; cases h)
  refine ⟨_, _, pre582 _ ?_, hrun, hended, _, _, rfl, ?_, ⟨_, rfl⟩, hW, hsame.mono (by decide) (by decide)⟩
  · show oS p e below m T580 12 #[rv x0] [(.int 1)] _
    exact retN X580 hx (t := .boolean) Bd.returns (by simp) (hb hby dd_12) hr
  · show Q_rm_hasFree_31 Z x0 h0 n0 _ T580.heap _
    rw [e580]
    exact ⟨rfl, N0, rfl⟩
theorem ef_rm_take_32 (m : MethodId) (x0 : Addr) (w_I1 : Addr) : entryFrame m #[(.ref x0), (.ref w_I1)] 3 = mkF m 0 #[rv x0, rv w_I1, .unset] [] := by first | (simp [entryFrame, mkF, argsToLocals, Value.category]; done) | rfl
def Q_rm_take_32 (Z : State) (x0 : Addr) (x1 : Addr) (x2 : Addr) (x3 : Addr) (kc0 : ClassId) (kc1 : ClassId) (kc2 : ClassId) (w_I1 : Addr) (h0 : Heap) (n0 : Nat) (v : Option Value) (h : Heap) (L : List Loc) : Prop := v = some (.long 1048576) ∧ Fr n0 L ∧ Keep h0 h [x0, x1, x2] ∧ Exa Z h x0 oc8 ∧ Fld Z h x0 oc8 "requests" "[Ljava/lang/Object;" (.ref x1) ∧ Fld Z h x0 oc8 "sequences" "[J" (.ref x2) ∧ Fld Z h x0 oc8 "free" "[I" (.ref x3) ∧ Fld Z h x0 oc8 "freeCount" "I" (.int 2) ∧ Fld Z h x0 oc8 "lastSequence" "J" (.long 1) ∧ Arv Z h x1 kc0 (.object oc9) (3 : Int32) [(.ref w_I1), .null, .null] .null ∧ Arv Z h x2 kc1 .long (3 : Int32) [(.long 1), (.long 0), (.long 0)] (.long 0)
set_option maxRecDepth 65536 in
set_option maxHeartbeats 40000000 in
theorem rm_take_32 (l : Launch) (Z : State) (a0 : Array Value) (hw : ∀ d ∈ tables_1, d.before a0 Z = true) (ws : List Jvm.Cond) (x0 : Addr) (x1 : Addr) (x2 : Addr) (x3 : Addr) (kc0 : ClassId) (kc1 : ClassId) (kc2 : ClassId) (w_I1 : Addr) (h0 : Heap) (n0 : Nat) (O0 : Old Z n0 h0) (E_x0 : Exa Z h0 x0 oc8) (F_x0_requests : Fld Z h0 x0 oc8 "requests" "[Ljava/lang/Object;" (.ref x1)) (F_x0_sequences : Fld Z h0 x0 oc8 "sequences" "[J" (.ref x2)) (F_x0_free : Fld Z h0 x0 oc8 "free" "[I" (.ref x3)) (F_x0_freeCount : Fld Z h0 x0 oc8 "freeCount" "I" (.int 3)) (F_x0_lastSequence : Fld Z h0 x0 oc8 "lastSequence" "J" (.long 0)) (ge_x0 : n0 ≤ x0) (V_x1 : Arv Z h0 x1 kc0 (.object oc9) (3 : Int32) [.null, .null, .null] .null) (O_x1 : Ovr Z kc0 oc9) (ge_x1 : n0 ≤ x1) (V_x2 : Arv Z h0 x2 kc1 .long (3 : Int32) [(.long 0), (.long 0), (.long 0)] (.long 0)) (ge_x2 : n0 ≤ x2) (V_x3 : Arv Z h0 x3 kc2 .int (3 : Int32) [(.int 2), (.int 1), (.int 0)] (.int 0)) (ge_x3 : n0 ≤ x3) (ne_x0_x1 : x0 ≠ x1) (ne_x0_x2 : x0 ≠ x2) (ne_x0_x3 : x0 ≠ x3) (ne_x1_x2 : x1 ≠ x2) (ne_x1_x3 : x1 ≠ x3) (ne_x2_x3 : x2 ≠ x3) (E_I1 : Exa Z Z.heap w_I1 oc10) :
    oM l oy4 prog_29_method_4_code 3 (some .long) ws ({ frames := 0, cells := 0, slots := 0, locals := 0 } : Room) Z #[(.ref x0), (.ref w_I1)] h0 (Q_rm_take_32 Z x0 x1 x2 x3 kc0 kc1 kc2 w_I1 h0 n0) := by
  refine MetFree.of_bodySF (plainFor_of_name pn_com_example_wend_wend_Slots) hisR ?_
  intro p e s m args below meth c s₁ Bd hml0 hP hK
  obtain ⟨rfl, hZ, hh⟩ := hP
  have hx := Bd.exec
  have hby := Bd.bytes
  have hml : c.maxLocals = 3 := hml0
  have hown : s.vm.findClass oc8 = some m.cls := findClass_of_methodNamed Bd.named
  have hnm := (name_of_methodNamed Bd.named Bd.method).1
  have X0 : Stand p l e ({ frames := 0, cells := 0, slots := 0, locals := 0 } : Room) s m #[(.ref x0), (.ref w_I1)] below meth c s₁ [] 0 0 := Stand.of_body Bd
  have e0 : s₁.heap = h0 := by rw [← hh, Bd.state]; rfl
  have N0 := Fr.nil n0
  have pre0 : ∀ t, oS p e below m s₁ 0 #[rv x0, rv w_I1, .unset] [] t → oT p e below s₁ (entryFrame m #[(.ref x0), (.ref w_I1)] 3) t := fun t k => castTop (ef_rm_take_32 m x0 w_I1) k
  have K0 := Keep.refl h0 [x0, x1, x2]
  obtain ⟨T603, X603, e603, st603⟩ := getF X0 hx hZ hown (host := "") (Or.inl (own_w hw 24 rfl)) Via.refl e0 F_x0_freeCount (g := (mkF m 1 #[rv x0, rv w_I1, .unset] [(.ref x0)])) rfl rfl (hb hby de_1)
  obtain ⟨T605, X605, e605, st605⟩ := getF X603 hx hZ hown (host := "") (Or.inl (own_w hw 22 rfl)) Via.refl e603 F_x0_free (g := (mkF m 18 #[rv x0, rv w_I1, .unset] [(.ref x0)])) rfl rfl (hb hby de_18)
  obtain ⟨T606, X606, e606, st606⟩ := getF X605 hx hZ hown (host := "") (Or.inl (own_w hw 24 rfl)) Via.refl e605 F_x0_freeCount (g := (mkF m 23 #[rv x0, rv w_I1, .unset] [(.ref x0), (.ref x0), (.ref x3)])) rfl rfl (hb hby de_23)
  have pre607 : ∀ t, oS p e below m T606 28 #[rv x0, rv w_I1, .unset] [(.int ((3 : Int32) - (1 : Int32))), (.ref x0), (.ref x3)] t → oT p e below s₁ (entryFrame m #[(.ref x0), (.ref w_I1)] 3) t := by
    intro t kt
    refine pre0 t ?_
    show oS p e below m s₁ 0 #[rv x0, rv w_I1, .unset] [] _
    refine XS.aloadN X0.here hx rfl (hb hby de_0) rfl rfl ?_
    show oS p e below m s₁ 1 #[rv x0, rv w_I1, .unset] [(.ref x0)] _
    refine st603 _ ?_
    show oS p e below m T603 4 #[rv x0, rv w_I1, .unset] [(.int 3)] _
    refine XS.ifYes X603.here hx rfl (pc0 := 4) (pc' := 17) rfl (hb hby de_4) rfl ((if0 _ _).trans (feq (by decide : ¬ ((3 : Int32) = (0 : Int32)))).2) (by decide) (by decide) ?_
    refine XS.aloadN X603.here hx rfl (hb hby de_17) rfl rfl ?_
    show oS p e below m T603 18 #[rv x0, rv w_I1, .unset] [(.ref x0)] _
    refine st605 _ ?_
    show oS p e below m T605 21 #[rv x0, rv w_I1, .unset] [(.ref x3)] _
    refine XS.aloadN X605.here hx rfl (hb hby de_21) rfl rfl ?_
    refine XS.dup X605.here hx rfl (hb hby de_22) rfl rfl ?_
    show oS p e below m T605 23 #[rv x0, rv w_I1, .unset] [(.ref x0), (.ref x0), (.ref x3)] _
    refine st606 _ ?_
    show oS p e below m T606 26 #[rv x0, rv w_I1, .unset] [(.int 3), (.ref x0), (.ref x3)] _
    refine XS.iconst X606.here hx rfl (hb hby de_26) ?_
    refine XS.isub X606.here hx rfl (hb hby de_27) rfl ?_
    exact kt
  rw [show ((3 : Int32) - (1 : Int32)) = (2 : Int32) from by decide] at pre607
  obtain ⟨T608, h608, X608, e608, W608, st608⟩ := putF X606 hx hZ hown (host := "") (Or.inl (own_w hw 24 rfl)) Via.refl e606 F_x0_freeCount E_x0 (Or.inl (own_w hw 25 rfl)) (own_w hw 5 rfl) (ty := .int) (by decide) rfl rfl (g := (mkF m 29 #[rv x0, rv w_I1, .unset] [(.int 2), (.ref x0), (.int 2), (.ref x3)])) rfl rfl (hb hby de_29)
  have F_x0_freeCount := F_x0_freeCount.same W608
  have E_x0 := E_x0.wr W608
  have F_x0_requests := F_x0_requests.other W608 (Or.inr (osn_Slots_requests_freeCount hw))
  have F_x0_sequences := F_x0_sequences.other W608 (Or.inr (osn_Slots_sequences_freeCount hw))
  have F_x0_free := F_x0_free.other W608 (Or.inr (osn_Slots_free_freeCount hw))
  have F_x0_lastSequence := F_x0_lastSequence.other W608 (Or.inr (osn_Slots_lastSequence_freeCount hw))
  have V_x1 := V_x1.other W608 (Ne.symm ne_x0_x1)
  have V_x2 := V_x2.other W608 (Ne.symm ne_x0_x2)
  have V_x3 := V_x3.other W608 (Ne.symm ne_x0_x3)
  have O608 := O0.wr W608 ge_x0
  have K608 := K0.wr W608 (Or.inl (List.mem_of_getElem? (i := 0) rfl))
  have N608 := Fr.snoc X608 N0 ge_x0
  have vt609 := V_x3
  obtain ⟨cl609, Ar609, q609, S609, Ng609, Ha609, G609⟩ := vt609
  have hin609 : ¬ ((2 : Int32) < 0 ∨ cl609.slots.size ≤ ((2 : Int32)).toNatClampNeg) := inb_of S609 ⟨by decide, by decide⟩
  have hat609 : cl609.slots[((2 : Int32)).toNatClampNeg]? = some (.int 0) := Ha609.at hin609 rfl
  obtain ⟨T610, X610, e610, st610⟩ := getF X608 hx hZ hown (host := "") (Or.inl (own_w hw 43 rfl)) Via.refl e608 F_x0_lastSequence (g := (mkF m 36 #[rv x0, rv w_I1, iv 0] [(.ref x0), (.ref x0)])) rfl rfl (hb hby de_36)
  have pre611 : ∀ t, oS p e below m T610 43 #[rv x0, rv w_I1, iv 0] [(.int (lcmpW (0 : Int64) (17592186044415 : Int64))), (.ref x0)] t → oT p e below s₁ (entryFrame m #[(.ref x0), (.ref w_I1)] 3) t := by
    intro t kt
    refine pre607 t ?_
    show oS p e below m T606 28 #[rv x0, rv w_I1, .unset] [(.int 2), (.ref x0), (.ref x3)] _
    refine XS.dupX1 X606.here hx rfl (hb hby de_28) rfl rfl rfl ?_
    show oS p e below m T606 29 #[rv x0, rv w_I1, .unset] [(.int 2), (.ref x0), (.int 2), (.ref x3)] _
    refine st608 _ ?_
    show oS p e below m T608 32 #[rv x0, rv w_I1, .unset] [(.int 2), (.ref x3)] _
    refine X608.iaload hx (j := (2 : Int32)) (v := (.int 0)) (by rw [e608]; exact Ar609.1) (State.isArrayOf_alike hZ.alike Ar609.2.1) Ar609.2.2 hin609 hat609 (g := (mkF m 32 #[rv x0, rv w_I1, .unset] [(.int 2), (.ref x3)])) rfl rfl (hb hby de_32) _ ?_
    show oS p e below m T608 33 #[rv x0, rv w_I1, .unset] [(.int 0)] _
    refine XS.istoreN X608.here hx rfl (hb hby de_33) rfl (l' := #[rv x0, rv w_I1, iv 0]) rfl ?_
    refine XS.aloadN X608.here hx rfl (hb hby de_34) rfl rfl ?_
    show oS p e below m T608 35 #[rv x0, rv w_I1, iv 0] [(.ref x0)] _
    refine XS.aloadN X608.here hx rfl (hb hby de_35) rfl rfl ?_
    show oS p e below m T608 36 #[rv x0, rv w_I1, iv 0] [(.ref x0), (.ref x0)] _
    refine st610 _ ?_
    show oS p e below m T610 39 #[rv x0, rv w_I1, iv 0] [(.long 0), (.ref x0)] _
    refine X610.ldc2Long hx hown (mvT hZ (own_w hw 45 rfl)) (g := (mkF m 39 #[rv x0, rv w_I1, iv 0] [(.long 0), (.ref x0)])) rfl (hb hby de_39) _ ?_
    show oS p e below m T610 42 #[rv x0, rv w_I1, iv 0] [(.long 17592186044415), (.long 0), (.ref x0)] _
    refine XS.lcmp X610.here hx rfl (hb hby de_42) rfl ?_
    exact kt
  rw [show (lcmpW (0 : Int64) (17592186044415 : Int64)) = (-1 : Int32) from by decide] at pre611
  obtain ⟨T613, X613, e613, st613⟩ := getF X610 hx hZ hown (host := "") (Or.inl (own_w hw 43 rfl)) Via.refl e610 F_x0_lastSequence (g := (mkF m 51 #[rv x0, rv w_I1, iv 0] [(.ref x0), (.ref x0)])) rfl rfl (hb hby de_51)
  have pre614 : ∀ t, oS p e below m T613 56 #[rv x0, rv w_I1, iv 0] [(.long ((0 : Int64) + (1 : Int64))), (.ref x0)] t → oT p e below s₁ (entryFrame m #[(.ref x0), (.ref w_I1)] 3) t := by
    intro t kt
    refine pre611 t ?_
    show oS p e below m T610 43 #[rv x0, rv w_I1, iv 0] [(.int (-1 : Int32)), (.ref x0)] _
    refine XS.ifYes X610.here hx rfl (pc0 := 43) (pc' := 50) rfl (hb hby de_43) rfl ((if0 _ _).trans (feq (by decide : ¬ ((-1 : Int32) = (0 : Int32)))).2) (by decide) (by decide) ?_
    refine XS.aloadN X610.here hx rfl (hb hby de_50) rfl rfl ?_
    show oS p e below m T610 51 #[rv x0, rv w_I1, iv 0] [(.ref x0), (.ref x0)] _
    refine st613 _ ?_
    show oS p e below m T613 54 #[rv x0, rv w_I1, iv 0] [(.long 0), (.ref x0)] _
    refine XS.lconst X613.here hx rfl (hb hby de_54) ?_
    refine XS.ladd X613.here hx rfl (hb hby de_55) rfl ?_
    exact kt
  rw [show ((0 : Int64) + (1 : Int64)) = (1 : Int64) from by decide] at pre614
  obtain ⟨T615, h615, X615, e615, W615, st615⟩ := putF X613 hx hZ hown (host := "") (Or.inl (own_w hw 43 rfl)) Via.refl e613 F_x0_lastSequence E_x0 (Or.inl (own_w hw 44 rfl)) (own_w hw 5 rfl) (ty := .long) (by decide) rfl rfl (g := (mkF m 56 #[rv x0, rv w_I1, iv 0] [(.long 1), (.ref x0)])) rfl rfl (hb hby de_56)
  have F_x0_lastSequence := F_x0_lastSequence.same W615
  have E_x0 := E_x0.wr W615
  have F_x0_requests := F_x0_requests.other W615 (Or.inr (osn_Slots_requests_lastSequence hw))
  have F_x0_sequences := F_x0_sequences.other W615 (Or.inr (osn_Slots_sequences_lastSequence hw))
  have F_x0_free := F_x0_free.other W615 (Or.inr (osn_Slots_free_lastSequence hw))
  have F_x0_freeCount := F_x0_freeCount.other W615 (Or.inr (osn_Slots_freeCount_lastSequence hw))
  have V_x1 := V_x1.other W615 (Ne.symm ne_x0_x1)
  have V_x2 := V_x2.other W615 (Ne.symm ne_x0_x2)
  have V_x3 := V_x3.other W615 (Ne.symm ne_x0_x3)
  have O615 := O608.wr W615 ge_x0
  have K615 := K608.wr W615 (Or.inl (List.mem_of_getElem? (i := 0) rfl))
  have N615 := Fr.snoc X615 N608 ge_x0
  obtain ⟨T616, X616, e616, st616⟩ := getF X615 hx hZ hown (host := "") (Or.inl (own_w hw 16 rfl)) Via.refl e615 F_x0_requests (g := (mkF m 60 #[rv x0, rv w_I1, iv 0] [(.ref x0)])) rfl rfl (hb hby de_60)
  have vt617 := V_x1
  obtain ⟨cl617, Ar617, q617, S617, Ng617, Ha617, G617⟩ := vt617
  have hin617 : ¬ ((0 : Int32) < 0 ∨ cl617.slots.size ≤ ((0 : Int32)).toNatClampNeg) := inb_of S617 ⟨by decide, by decide⟩
  obtain ⟨T618, h618, X618, e618, W618, st618⟩ := stR X616 hx hZ e616 Ar617 (j := (0 : Int32)) hin617 rfl (Sto.ofV Ar617 q617 O_x1 (Ins.of_exa (E_I1.ext O615.2) (own_w hw 46 rfl))) (g := (mkF m 65 #[rv x0, rv w_I1, iv 0] [(.ref w_I1), (.int 0), (.ref x1)])) rfl rfl (hb hby de_65)
  have V_x1 : Arv Z h618 x1 kc0 (.object oc9) (3 : Int32) [(.ref w_I1), .null, .null] .null := Arv.set Ar617 q617 S617 Ng617 Ha617 G617 rfl W618 0 rfl (Nat.le_of_ble_eq_true rfl)
  have E_x0 := E_x0.wr W618
  have F_x0_requests := F_x0_requests.other W618 (Or.inl ne_x0_x1)
  have F_x0_sequences := F_x0_sequences.other W618 (Or.inl ne_x0_x1)
  have F_x0_free := F_x0_free.other W618 (Or.inl ne_x0_x1)
  have F_x0_freeCount := F_x0_freeCount.other W618 (Or.inl ne_x0_x1)
  have F_x0_lastSequence := F_x0_lastSequence.other W618 (Or.inl ne_x0_x1)
  have V_x2 := V_x2.other W618 (Ne.symm ne_x1_x2)
  have V_x3 := V_x3.other W618 (Ne.symm ne_x1_x3)
  have O618 := O615.wr W618 ge_x1
  have K618 := K615.wr W618 (Or.inl (List.mem_of_getElem? (i := 1) rfl))
  have N618 := Fr.snoc X618 N615 ge_x1
  obtain ⟨T619, X619, e619, st619⟩ := getF X618 hx hZ hown (host := "") (Or.inl (own_w hw 19 rfl)) Via.refl e618 F_x0_sequences (g := (mkF m 67 #[rv x0, rv w_I1, iv 0] [(.ref x0)])) rfl rfl (hb hby de_67)
  obtain ⟨T620, X620, e620, st620⟩ := getF X619 hx hZ hown (host := "") (Or.inl (own_w hw 43 rfl)) Via.refl e619 F_x0_lastSequence (g := (mkF m 72 #[rv x0, rv w_I1, iv 0] [(.ref x0), (.int 0), (.ref x2)])) rfl rfl (hb hby de_72)
  have vt621 := V_x2
  obtain ⟨cl621, Ar621, q621, S621, Ng621, Ha621, G621⟩ := vt621
  have hin621 : ¬ ((0 : Int32) < 0 ∨ cl621.slots.size ≤ ((0 : Int32)).toNatClampNeg) := inb_of S621 ⟨by decide, by decide⟩
  obtain ⟨T622, h622, X622, e622, W622, st622⟩ := stJ X620 hx hZ e620 Ar621 (j := (0 : Int32)) hin621 (g := (mkF m 75 #[rv x0, rv w_I1, iv 0] [(.long 1), (.int 0), (.ref x2)])) rfl rfl (hb hby de_75)
  have V_x2 : Arv Z h622 x2 kc1 .long (3 : Int32) [(.long 1), (.long 0), (.long 0)] (.long 0) := Arv.set Ar621 q621 S621 Ng621 Ha621 G621 rfl W622 0 rfl (Nat.le_of_ble_eq_true rfl)
  have E_x0 := E_x0.wr W622
  have F_x0_requests := F_x0_requests.other W622 (Or.inl ne_x0_x2)
  have F_x0_sequences := F_x0_sequences.other W622 (Or.inl ne_x0_x2)
  have F_x0_free := F_x0_free.other W622 (Or.inl ne_x0_x2)
  have F_x0_freeCount := F_x0_freeCount.other W622 (Or.inl ne_x0_x2)
  have F_x0_lastSequence := F_x0_lastSequence.other W622 (Or.inl ne_x0_x2)
  have V_x1 := V_x1.other W622 ne_x1_x2
  have V_x3 := V_x3.other W622 (Ne.symm ne_x2_x3)
  have O622 := O618.wr W622 ge_x2
  have K622 := K618.wr W622 (Or.inl (List.mem_of_getElem? (i := 2) rfl))
  have N622 := Fr.snoc X622 N618 ge_x2
  obtain ⟨T623, X623, e623, st623⟩ := getF X622 hx hZ hown (host := "") (Or.inl (own_w hw 43 rfl)) Via.refl e622 F_x0_lastSequence (g := (mkF m 77 #[rv x0, rv w_I1, iv 0] [(.ref x0)])) rfl rfl (hb hby de_77)
  have pre624 : ∀ t, oS p e below m T623 83 #[rv x0, rv w_I1, iv 0] [(.long ((1 : Int64) <<< ((20 : Int32) &&& 0x3f).toInt64))] t → oT p e below s₁ (entryFrame m #[(.ref x0), (.ref w_I1)] 3) t := by
    intro t kt
    refine pre614 t ?_
    show oS p e below m T613 56 #[rv x0, rv w_I1, iv 0] [(.long 1), (.ref x0)] _
    refine st615 _ ?_
    show oS p e below m T615 59 #[rv x0, rv w_I1, iv 0] [] _
    refine XS.aloadN X615.here hx rfl (hb hby de_59) rfl rfl ?_
    show oS p e below m T615 60 #[rv x0, rv w_I1, iv 0] [(.ref x0)] _
    refine st616 _ ?_
    show oS p e below m T616 63 #[rv x0, rv w_I1, iv 0] [(.ref x1)] _
    refine XS.iloadN X616.here hx rfl (hb hby de_63) rfl ?_
    refine XS.aloadN X616.here hx rfl (hb hby de_64) rfl rfl ?_
    show oS p e below m T616 65 #[rv x0, rv w_I1, iv 0] [(.ref w_I1), (.int 0), (.ref x1)] _
    refine st618 _ ?_
    show oS p e below m T618 66 #[rv x0, rv w_I1, iv 0] [] _
    refine XS.aloadN X618.here hx rfl (hb hby de_66) rfl rfl ?_
    show oS p e below m T618 67 #[rv x0, rv w_I1, iv 0] [(.ref x0)] _
    refine st619 _ ?_
    show oS p e below m T619 70 #[rv x0, rv w_I1, iv 0] [(.ref x2)] _
    refine XS.iloadN X619.here hx rfl (hb hby de_70) rfl ?_
    refine XS.aloadN X619.here hx rfl (hb hby de_71) rfl rfl ?_
    show oS p e below m T619 72 #[rv x0, rv w_I1, iv 0] [(.ref x0), (.int 0), (.ref x2)] _
    refine st620 _ ?_
    show oS p e below m T620 75 #[rv x0, rv w_I1, iv 0] [(.long 1), (.int 0), (.ref x2)] _
    refine st622 _ ?_
    show oS p e below m T622 76 #[rv x0, rv w_I1, iv 0] [] _
    refine XS.aloadN X622.here hx rfl (hb hby de_76) rfl rfl ?_
    show oS p e below m T622 77 #[rv x0, rv w_I1, iv 0] [(.ref x0)] _
    refine st623 _ ?_
    show oS p e below m T623 80 #[rv x0, rv w_I1, iv 0] [(.long 1)] _
    refine XS.bipush X623.here hx rfl (hb hby de_80) ?_
    refine XS.lshl X623.here hx rfl (hb hby de_82) rfl ?_
    exact kt
  rw [show ((1 : Int64) <<< ((20 : Int32) &&& 0x3f).toInt64) = (1048576 : Int64) from by decide] at pre624
  have pre625 : ∀ t, oS p e below m T623 85 #[rv x0, rv w_I1, iv 0] [(.long ((0 : Int32).toInt64)), (.long 1048576)] t → oT p e below s₁ (entryFrame m #[(.ref x0), (.ref w_I1)] 3) t := by
    intro t kt
    refine pre624 t ?_
    show oS p e below m T623 83 #[rv x0, rv w_I1, iv 0] [(.long 1048576)] _
    refine XS.iloadN X623.here hx rfl (hb hby de_83) rfl ?_
    refine XS.i2l X623.here hx rfl (hb hby de_84) rfl ?_
    exact kt
  rw [show ((0 : Int32).toInt64) = (0 : Int64) from by decide] at pre625
  have pre626 : ∀ t, oS p e below m T623 86 #[rv x0, rv w_I1, iv 0] [(.long ((1048576 : Int64) ||| (0 : Int64)))] t → oT p e below s₁ (entryFrame m #[(.ref x0), (.ref w_I1)] 3) t := by
    intro t kt
    refine pre625 t ?_
    show oS p e below m T623 85 #[rv x0, rv w_I1, iv 0] [(.long 0), (.long 1048576)] _
    refine XS.lor X623.here hx rfl (hb hby de_85) rfl ?_
    exact kt
  rw [show ((1048576 : Int64) ||| (0 : Int64)) = (1048576 : Int64) from by decide] at pre626
  obtain ⟨fs, hr, hrun, hended, hW, hsame⟩ := X623.leave (v := some (.long 1048576)) (fun h => by rw [Bd.returns] at h; cases h)
  refine ⟨_, _, pre626 _ ?_, hrun, hended, _, _, rfl, ?_, ⟨_, rfl⟩, hW, hsame.mono (by decide) (by decide)⟩
  · show oS p e below m T623 86 #[rv x0, rv w_I1, iv 0] [(.long 1048576)] _
    jvm_step X623.here [X623.here.top, hx, (hb hby de_86), X623.method', Bd.returns, narrow]
    first | (intro acts; rw [hr _ acts rfl rfl rfl]) | rw [hr _ _ rfl rfl rfl]
    exact Steps.refl _
  · show Q_rm_take_32 Z x0 x1 x2 x3 kc0 kc1 kc2 w_I1 h0 n0 _ T623.heap _
    rw [e623]
    exact ⟨rfl, N622, K622, E_x0, F_x0_requests, F_x0_sequences, F_x0_free, F_x0_freeCount, F_x0_lastSequence, V_x1, V_x2⟩
theorem ef_rm_get_34 (m : MethodId) (x0 : Addr) : entryFrame m #[(.ref x0), (.long 1048576)] 7 = mkF m 0 (oL1 x0) [] := by first | (simp [entryFrame, mkF, argsToLocals, Value.category]; done) | rfl
def Q_rm_get_34 (Z : State) (x0 : Addr) (x1 : Addr) (x2 : Addr) (kc0 : ClassId) (kc1 : ClassId) (w_I1 : Addr) (h0 : Heap) (n0 : Nat) (v : Option Value) (h : Heap) (L : List Loc) : Prop := v = some (.ref w_I1) ∧ Fr n0 L ∧ h = h0
set_option maxRecDepth 65536 in
set_option maxHeartbeats 40000000 in
theorem rm_get_34 (l : Launch) (Z : State) (a0 : Array Value) (hw : ∀ d ∈ tables_1, d.before a0 Z = true) (ws : List Jvm.Cond) (x0 : Addr) (x1 : Addr) (x2 : Addr) (kc0 : ClassId) (kc1 : ClassId) (w_I1 : Addr) (h0 : Heap) (n0 : Nat) (O0 : Old Z n0 h0) (F_x0_requests : Fld Z h0 x0 oc8 "requests" "[Ljava/lang/Object;" (.ref x1)) (F_x0_sequences : Fld Z h0 x0 oc8 "sequences" "[J" (.ref x2)) (V_x1 : Arv Z h0 x1 kc0 (.object oc9) (3 : Int32) [(.ref w_I1), .null, .null] .null) (V_x2 : Arv Z h0 x2 kc1 .long (3 : Int32) [(.long 1), (.long 0), (.long 0)] (.long 0))  :
    oM l oy6 prog_29_method_5_code 7 (some (.object oc9)) ws ({ frames := 0, cells := 0, slots := 0, locals := 0 } : Room) Z #[(.ref x0), (.long 1048576)] h0 (Q_rm_get_34 Z x0 x1 x2 kc0 kc1 w_I1 h0 n0) := by
  refine MetFree.of_bodySF (plainFor_of_name pn_com_example_wend_wend_Slots) hisR ?_
  intro p e s m args below meth c s₁ Bd hml0 hP hK
  obtain ⟨rfl, hZ, hh⟩ := hP
  have hx := Bd.exec
  have hby := Bd.bytes
  have hml : c.maxLocals = 7 := hml0
  have hown : s.vm.findClass oc8 = some m.cls := findClass_of_methodNamed Bd.named
  have hnm := (name_of_methodNamed Bd.named Bd.method).1
  have X0 : Stand p l e ({ frames := 0, cells := 0, slots := 0, locals := 0 } : Room) s m #[(.ref x0), (.long 1048576)] below meth c s₁ [] 0 0 := Stand.of_body Bd
  have e0 : s₁.heap = h0 := by rw [← hh, Bd.state]; rfl
  have N0 := Fr.nil n0
  have pre0 : ∀ t, oS p e below m s₁ 0 (oL1 x0) [] t → oT p e below s₁ (entryFrame m #[(.ref x0), (.long 1048576)] 7) t := fun t k => castTop (ef_rm_get_34 m x0) k
  have K0 := Keep.refl h0 []
  have pre643 : ∀ t, oS p e below m s₁ 5 (oL1 x0) [(.long ((1048576 : Int64) &&& (1048575 : Int64)))] t → oT p e below s₁ (entryFrame m #[(.ref x0), (.long 1048576)] 7) t := by
    intro t kt
    refine pre0 t ?_
    show oS p e below m s₁ 0 (oL1 x0) [] _
    refine XS.lloadN X0.here hx rfl (hb hby df_0) rfl ?_
    show oS p e below m s₁ 1 (oL1 x0) [(.long 1048576)] _
    refine X0.ldc2Long hx hown (mvT hZ (own_w hw 57 rfl)) (g := (mkF m 1 (oL1 x0) [(.long 1048576)])) rfl (hb hby df_1) _ ?_
    show oS p e below m s₁ 4 (oL1 x0) [(.long 1048575), (.long 1048576)] _
    refine XS.land X0.here hx rfl (hb hby df_4) rfl ?_
    exact kt
  rw [show ((1048576 : Int64) &&& (1048575 : Int64)) = (0 : Int64) from by decide] at pre643
  have pre644 : ∀ t, oS p e below m s₁ 6 (oL1 x0) [(.int ((0 : Int64).toInt32))] t → oT p e below s₁ (entryFrame m #[(.ref x0), (.long 1048576)] 7) t := by
    intro t kt
    refine pre643 t ?_
    show oS p e below m s₁ 5 (oL1 x0) [(.long 0)] _
    refine XS.l2i X0.here hx rfl (hb hby df_5) rfl ?_
    exact kt
  rw [show ((0 : Int64).toInt32) = (0 : Int32) from by decide] at pre644
  have pre645 : ∀ t, oS p e below m s₁ 11 (oL4 x0) [(.long (((1048576 : Int64).toUInt64 >>> ((20 : Int32) &&& 0x3f).toInt64.toUInt64).toInt64))] t → oT p e below s₁ (entryFrame m #[(.ref x0), (.long 1048576)] 7) t := by
    intro t kt
    refine pre644 t ?_
    show oS p e below m s₁ 6 (oL1 x0) [(.int 0)] _
    refine XS.istoreN X0.here hx rfl (hb hby df_6) rfl (l' := (oL4 x0)) rfl ?_
    refine XS.lloadN X0.here hx rfl (hb hby df_7) rfl ?_
    show oS p e below m s₁ 8 (oL4 x0) [(.long 1048576)] _
    refine XS.bipush X0.here hx rfl (hb hby df_8) ?_
    refine XS.lushr X0.here hx rfl (hb hby df_10) rfl ?_
    exact kt
  rw [show (((1048576 : Int64).toUInt64 >>> ((20 : Int32) &&& 0x3f).toInt64.toUInt64).toInt64) = (1 : Int64) from by decide] at pre645
  obtain ⟨T646, X646, e646, st646⟩ := getF X0 hx hZ hown (host := "") (Or.inl (own_w hw 16 rfl)) Via.refl e0 F_x0_requests (g := (mkF m 15 (oL0 x0) [(.ref x0), (.int 0)])) rfl rfl (hb hby df_15)
  have vt647 := V_x1
  obtain ⟨cl647, Ar647, q647, S647, Ng647, Ha647, G647⟩ := vt647
  obtain ⟨T649, X649, e649, st649⟩ := getF X646 hx hZ hown (host := "") (Or.inl (own_w hw 19 rfl)) Via.refl e646 F_x0_sequences (g := (mkF m 23 (oL0 x0) [(.ref x0)])) rfl rfl (hb hby df_23)
  have vt650 := V_x2
  obtain ⟨cl650, Ar650, q650, S650, Ng650, Ha650, G650⟩ := vt650
  have hin650 : ¬ ((0 : Int32) < 0 ∨ cl650.slots.size ≤ ((0 : Int32)).toNatClampNeg) := inb_of S650 ⟨by decide, by decide⟩
  have hat650 : cl650.slots[((0 : Int32)).toNatClampNeg]? = some (.long 1) := Ha650.at hin650 rfl
  have pre651 : ∀ t, oS p e below m T649 31 (oL0 x0) [(.int (lcmpW (1 : Int64) (1 : Int64)))] t → oT p e below s₁ (entryFrame m #[(.ref x0), (.long 1048576)] 7) t := by
    intro t kt
    refine pre645 t ?_
    show oS p e below m s₁ 11 (oL4 x0) [(.long 1)] _
    refine XS.lstore X0.here hx rfl (hb hby df_11) rfl (l' := (oL0 x0)) rfl ?_
    refine XS.iloadN X0.here hx rfl (hb hby df_13) rfl ?_
    show oS p e below m s₁ 14 (oL0 x0) [(.int 0)] _
    refine XS.aloadN X0.here hx rfl (hb hby df_14) rfl rfl ?_
    show oS p e below m s₁ 15 (oL0 x0) [(.ref x0), (.int 0)] _
    refine st646 _ ?_
    show oS p e below m T646 18 (oL0 x0) [(.ref x1), (.int 0)] _
    refine X646.arraylength hx (by rw [e646]; exact Ar647.1) (State.isArrayOf_alike hZ.alike Ar647.2.1) (g := (mkF m 18 (oL0 x0) [(.ref x1), (.int 0)])) rfl rfl (hb hby df_18) _ ?_
    rw [len_of S647 Ng647]
    show oS p e below m T646 19 (oL0 x0) [(.int 3), (.int 0)] _
    refine XS.icmpNo X646.here hx rfl (hb hby df_19) rfl (tlt (by decide : (0 : Int32) < (3 : Int32))).2.1 ?_
    refine XS.aloadN X646.here hx rfl (hb hby df_22) rfl rfl ?_
    show oS p e below m T646 23 (oL0 x0) [(.ref x0)] _
    refine st649 _ ?_
    show oS p e below m T649 26 (oL0 x0) [(.ref x2)] _
    refine XS.iloadN X649.here hx rfl (hb hby df_26) rfl ?_
    show oS p e below m T649 27 (oL0 x0) [(.int 0), (.ref x2)] _
    refine X649.laload hx (j := (0 : Int32)) (v := (.long 1)) (by rw [e649]; exact Ar650.1) (State.isArrayOf_alike hZ.alike Ar650.2.1) Ar650.2.2 hin650 hat650 (g := (mkF m 27 (oL0 x0) [(.int 0), (.ref x2)])) rfl rfl (hb hby df_27) _ ?_
    show oS p e below m T649 28 (oL0 x0) [(.long 1)] _
    refine XS.lload X649.here hx rfl (hb hby df_28) rfl ?_
    refine XS.lcmp X649.here hx rfl (hb hby df_30) rfl ?_
    exact kt
  rw [show (lcmpW (1 : Int64) (1 : Int64)) = (0 : Int32) from by decide] at pre651
  obtain ⟨T654, X654, e654, st654⟩ := getF X649 hx hZ hown (host := "") (Or.inl (own_w hw 16 rfl)) Via.refl e649 F_x0_requests (g := (mkF m 47 (oL5 x0) [(.ref x0)])) rfl rfl (hb hby df_47)
  have vt655 := V_x1
  obtain ⟨cl655, Ar655, q655, S655, Ng655, Ha655, G655⟩ := vt655
  have hin655 : ¬ ((0 : Int32) < 0 ∨ cl655.slots.size ≤ ((0 : Int32)).toNatClampNeg) := inb_of S655 ⟨by decide, by decide⟩
  have hat655 : cl655.slots[((0 : Int32)).toNatClampNeg]? = some (.ref w_I1) := Ha655.at hin655 rfl
  have pre656 : ∀ t, oS p e below m T654 56 (oL5 x0) [(.ref w_I1)] t → oT p e below s₁ (entryFrame m #[(.ref x0), (.long 1048576)] 7) t := by
    intro t kt
    refine pre651 t ?_
    show oS p e below m T649 31 (oL0 x0) [(.int 0)] _
    refine XS.ifNo X649.here hx rfl (hb hby df_31) rfl ((if0 _ _).trans (teq (by decide : (0 : Int32) = (0 : Int32))).2) ?_
    refine XS.iconst X649.here hx rfl (hb hby df_34) ?_
    show oS p e below m T649 35 (oL0 x0) [(.int 1)] _
    refine XS.goto X649.here hx rfl (pc0 := 35) (pc' := 39) rfl (hb hby df_35) (by decide) (by decide) ?_
    refine XS.istore X649.here hx rfl (hb hby df_39) rfl (l' := (oL5 x0)) rfl ?_
    show oS p e below m T649 41 (oL5 x0) [] _
    refine XS.iload X649.here hx rfl (hb hby df_41) rfl ?_
    refine XS.ifNo X649.here hx rfl (hb hby df_43) rfl ((if0 _ _).trans (feq (by decide : ¬ ((1 : Int32) = (0 : Int32)))).1) ?_
    show oS p e below m T649 46 (oL5 x0) [] _
    refine XS.aloadN X649.here hx rfl (hb hby df_46) rfl rfl ?_
    show oS p e below m T649 47 (oL5 x0) [(.ref x0)] _
    refine st654 _ ?_
    show oS p e below m T654 50 (oL5 x0) [(.ref x1)] _
    refine XS.iloadN X654.here hx rfl (hb hby df_50) rfl ?_
    show oS p e below m T654 51 (oL5 x0) [(.int 0), (.ref x1)] _
    refine X654.aaload hx (j := (0 : Int32)) (v := (.ref w_I1)) (by rw [e654]; exact Ar655.1) (State.isArrayOf_alike hZ.alike Ar655.2.1) rfl Ar655.2.2 hin655 hat655 (g := (mkF m 51 (oL5 x0) [(.int 0), (.ref x1)])) rfl rfl (hb hby df_51) _ ?_
    show oS p e below m T654 52 (oL5 x0) [(.ref w_I1)] _
    refine XS.goto X654.here hx rfl (pc0 := 52) (pc' := 56) rfl (hb hby df_52) (by decide) (by decide) ?_
    exact kt
  obtain ⟨fs, hr, hrun, hended, hW, hsame⟩ := X654.leave (v := some (.ref w_I1)) (fun h => by rw [Bd.returns] at h; cases h)
  refine ⟨_, _, pre656 _ ?_, hrun, hended, _, _, rfl, ?_, ⟨_, rfl⟩, hW, hsame.mono (by decide) (by decide)⟩
  · show oS p e below m T654 56 (oL5 x0) [(.ref w_I1)] _
    jvm_step X654.here [X654.here.top, hx, (hb hby df_56), X654.method', Bd.returns, Value.isRef, FieldType.isReference]
    first | (intro acts; rw [hr _ acts rfl rfl rfl]) | rw [hr _ _ rfl rfl rfl]
    exact Steps.refl _
  · show Q_rm_get_34 Z x0 x1 x2 kc0 kc1 w_I1 h0 n0 _ T654.heap _
    rw [e654]
    exact ⟨rfl, N0, rfl⟩
theorem ef_rm_free_35 (m : MethodId) (x0 : Addr) : entryFrame m #[(.ref x0), (.int 0)] 2 = mkF m 0 #[rv x0, iv 0] [] := by first | (simp [entryFrame, mkF, argsToLocals, Value.category]; done) | rfl
def Q_rm_free_35 (Z : State) (x0 : Addr) (x1 : Addr) (x2 : Addr) (x3 : Addr) (kc0 : ClassId) (kc1 : ClassId) (kc2 : ClassId) (w_I1 : Addr) (h0 : Heap) (n0 : Nat) (v : Option Value) (h : Heap) (L : List Loc) : Prop := v = none ∧ Fr n0 L ∧ Keep h0 h [x1, x2, x0, x3] ∧ Arv Z h x1 kc0 (.object oc9) (3 : Int32) [.null, .null, .null] .null ∧ Arv Z h x2 kc1 .long (3 : Int32) [(.long 0), (.long 0), (.long 0)] (.long 0) ∧ Exa Z h x0 oc8 ∧ Fld Z h x0 oc8 "requests" "[Ljava/lang/Object;" (.ref x1) ∧ Fld Z h x0 oc8 "sequences" "[J" (.ref x2) ∧ Fld Z h x0 oc8 "free" "[I" (.ref x3) ∧ Fld Z h x0 oc8 "freeCount" "I" (.int 3) ∧ Fld Z h x0 oc8 "lastSequence" "J" (.long 1) ∧ Arv Z h x3 kc2 .int (3 : Int32) [(.int 2), (.int 1), (.int 0)] (.int 0)
set_option maxRecDepth 65536 in
set_option maxHeartbeats 40000000 in
theorem rm_free_35 (l : Launch) (Z : State) (a0 : Array Value) (hw : ∀ d ∈ tables_1, d.before a0 Z = true) (ws : List Jvm.Cond) (x0 : Addr) (x1 : Addr) (x2 : Addr) (x3 : Addr) (kc0 : ClassId) (kc1 : ClassId) (kc2 : ClassId) (w_I1 : Addr) (h0 : Heap) (n0 : Nat) (O0 : Old Z n0 h0) (E_x0 : Exa Z h0 x0 oc8) (F_x0_requests : Fld Z h0 x0 oc8 "requests" "[Ljava/lang/Object;" (.ref x1)) (F_x0_sequences : Fld Z h0 x0 oc8 "sequences" "[J" (.ref x2)) (F_x0_free : Fld Z h0 x0 oc8 "free" "[I" (.ref x3)) (F_x0_freeCount : Fld Z h0 x0 oc8 "freeCount" "I" (.int 2)) (F_x0_lastSequence : Fld Z h0 x0 oc8 "lastSequence" "J" (.long 1)) (ge_x0 : n0 ≤ x0) (O_x1 : Ovr Z kc0 oc9) (V_x1 : Arv Z h0 x1 kc0 (.object oc9) (3 : Int32) [(.ref w_I1), .null, .null] .null) (ge_x1 : n0 ≤ x1) (V_x2 : Arv Z h0 x2 kc1 .long (3 : Int32) [(.long 1), (.long 0), (.long 0)] (.long 0)) (ge_x2 : n0 ≤ x2) (V_x3 : Arv Z h0 x3 kc2 .int (3 : Int32) [(.int 2), (.int 1), (.int 0)] (.int 0)) (ge_x3 : n0 ≤ x3) (ne_x0_x1 : x0 ≠ x1) (ne_x0_x2 : x0 ≠ x2) (ne_x0_x3 : x0 ≠ x3) (ne_x1_x2 : x1 ≠ x2) (ne_x1_x3 : x1 ≠ x3) (ne_x2_x3 : x2 ≠ x3)  :
    oM l oy7 prog_29_method_8_code 2 none ws ({ frames := 0, cells := 0, slots := 0, locals := 0 } : Room) Z #[(.ref x0), (.int 0)] h0 (Q_rm_free_35 Z x0 x1 x2 x3 kc0 kc1 kc2 w_I1 h0 n0) := by
  refine MetFree.of_bodySF (plainFor_of_name pn_com_example_wend_wend_Slots) hisR ?_
  intro p e s m args below meth c s₁ Bd hml0 hP hK
  obtain ⟨rfl, hZ, hh⟩ := hP
  have hx := Bd.exec
  have hby := Bd.bytes
  have hml : c.maxLocals = 2 := hml0
  have hown : s.vm.findClass oc8 = some m.cls := findClass_of_methodNamed Bd.named
  have hnm := (name_of_methodNamed Bd.named Bd.method).1
  have X0 : Stand p l e ({ frames := 0, cells := 0, slots := 0, locals := 0 } : Room) s m #[(.ref x0), (.int 0)] below meth c s₁ [] 0 0 := Stand.of_body Bd
  have e0 : s₁.heap = h0 := by rw [← hh, Bd.state]; rfl
  have N0 := Fr.nil n0
  have pre0 : ∀ t, oS p e below m s₁ 0 #[rv x0, iv 0] [] t → oT p e below s₁ (entryFrame m #[(.ref x0), (.int 0)] 2) t := fun t k => castTop (ef_rm_free_35 m x0) k
  have K0 := Keep.refl h0 [x1, x2, x0, x3]
  obtain ⟨T660, X660, e660, st660⟩ := getF X0 hx hZ hown (host := "") (Or.inl (own_w hw 16 rfl)) Via.refl e0 F_x0_requests (g := (mkF m 1 #[rv x0, iv 0] [(.ref x0)])) rfl rfl (hb hby dh_1)
  have vt661 := V_x1
  obtain ⟨cl661, Ar661, q661, S661, Ng661, Ha661, G661⟩ := vt661
  have hin661 : ¬ ((0 : Int32) < 0 ∨ cl661.slots.size ≤ ((0 : Int32)).toNatClampNeg) := inb_of S661 ⟨by decide, by decide⟩
  obtain ⟨T662, h662, X662, e662, W662, st662⟩ := stR X660 hx hZ e660 Ar661 (j := (0 : Int32)) hin661 rfl (Or.inl rfl) (g := (mkF m 6 #[rv x0, iv 0] [.null, (.int 0), (.ref x1)])) rfl rfl (hb hby dh_6)
  have V_x1 : Arv Z h662 x1 kc0 (.object oc9) (3 : Int32) [.null, .null, .null] .null := Arv.set Ar661 q661 S661 Ng661 Ha661 G661 rfl W662 0 rfl (Nat.le_of_ble_eq_true rfl)
  have E_x0 := E_x0.wr W662
  have F_x0_requests := F_x0_requests.other W662 (Or.inl ne_x0_x1)
  have F_x0_sequences := F_x0_sequences.other W662 (Or.inl ne_x0_x1)
  have F_x0_free := F_x0_free.other W662 (Or.inl ne_x0_x1)
  have F_x0_freeCount := F_x0_freeCount.other W662 (Or.inl ne_x0_x1)
  have F_x0_lastSequence := F_x0_lastSequence.other W662 (Or.inl ne_x0_x1)
  have V_x2 := V_x2.other W662 (Ne.symm ne_x1_x2)
  have V_x3 := V_x3.other W662 (Ne.symm ne_x1_x3)
  have O662 := O0.wr W662 ge_x1
  have K662 := K0.wr W662 (Or.inl (List.mem_of_getElem? (i := 0) rfl))
  have N662 := Fr.snoc X662 N0 ge_x1
  obtain ⟨T663, X663, e663, st663⟩ := getF X662 hx hZ hown (host := "") (Or.inl (own_w hw 19 rfl)) Via.refl e662 F_x0_sequences (g := (mkF m 8 #[rv x0, iv 0] [(.ref x0)])) rfl rfl (hb hby dh_8)
  have vt664 := V_x2
  obtain ⟨cl664, Ar664, q664, S664, Ng664, Ha664, G664⟩ := vt664
  have hin664 : ¬ ((0 : Int32) < 0 ∨ cl664.slots.size ≤ ((0 : Int32)).toNatClampNeg) := inb_of S664 ⟨by decide, by decide⟩
  obtain ⟨T665, h665, X665, e665, W665, st665⟩ := stJ X663 hx hZ e663 Ar664 (j := (0 : Int32)) hin664 (g := (mkF m 13 #[rv x0, iv 0] [(.long 0), (.int 0), (.ref x2)])) rfl rfl (hb hby dh_13)
  have V_x2 : Arv Z h665 x2 kc1 .long (3 : Int32) [(.long 0), (.long 0), (.long 0)] (.long 0) := Arv.set Ar664 q664 S664 Ng664 Ha664 G664 rfl W665 0 rfl (Nat.le_of_ble_eq_true rfl)
  have E_x0 := E_x0.wr W665
  have F_x0_requests := F_x0_requests.other W665 (Or.inl ne_x0_x2)
  have F_x0_sequences := F_x0_sequences.other W665 (Or.inl ne_x0_x2)
  have F_x0_free := F_x0_free.other W665 (Or.inl ne_x0_x2)
  have F_x0_freeCount := F_x0_freeCount.other W665 (Or.inl ne_x0_x2)
  have F_x0_lastSequence := F_x0_lastSequence.other W665 (Or.inl ne_x0_x2)
  have V_x1 := V_x1.other W665 ne_x1_x2
  have V_x3 := V_x3.other W665 (Ne.symm ne_x2_x3)
  have O665 := O662.wr W665 ge_x2
  have K665 := K662.wr W665 (Or.inl (List.mem_of_getElem? (i := 1) rfl))
  have N665 := Fr.snoc X665 N662 ge_x2
  obtain ⟨T666, X666, e666, st666⟩ := getF X665 hx hZ hown (host := "") (Or.inl (own_w hw 22 rfl)) Via.refl e665 F_x0_free (g := (mkF m 15 #[rv x0, iv 0] [(.ref x0)])) rfl rfl (hb hby dh_15)
  obtain ⟨T667, X667, e667, st667⟩ := getF X666 hx hZ hown (host := "") (Or.inl (own_w hw 24 rfl)) Via.refl e666 F_x0_freeCount (g := (mkF m 20 #[rv x0, iv 0] [(.ref x0), (.ref x0), (.ref x3)])) rfl rfl (hb hby dh_20)
  have pre668 : ∀ t, oS p e below m T667 26 #[rv x0, iv 0] [(.int ((2 : Int32) + (1 : Int32))), (.ref x0), (.int 2), (.ref x3)] t → oT p e below s₁ (entryFrame m #[(.ref x0), (.int 0)] 2) t := by
    intro t kt
    refine pre0 t ?_
    show oS p e below m s₁ 0 #[rv x0, iv 0] [] _
    refine XS.aloadN X0.here hx rfl (hb hby dh_0) rfl rfl ?_
    show oS p e below m s₁ 1 #[rv x0, iv 0] [(.ref x0)] _
    refine st660 _ ?_
    show oS p e below m T660 4 #[rv x0, iv 0] [(.ref x1)] _
    refine XS.iloadN X660.here hx rfl (hb hby dh_4) rfl ?_
    refine XS.aconstNull X660.here hx rfl (hb hby dh_5) ?_
    show oS p e below m T660 6 #[rv x0, iv 0] [.null, (.int 0), (.ref x1)] _
    refine st662 _ ?_
    show oS p e below m T662 7 #[rv x0, iv 0] [] _
    refine XS.aloadN X662.here hx rfl (hb hby dh_7) rfl rfl ?_
    show oS p e below m T662 8 #[rv x0, iv 0] [(.ref x0)] _
    refine st663 _ ?_
    show oS p e below m T663 11 #[rv x0, iv 0] [(.ref x2)] _
    refine XS.iloadN X663.here hx rfl (hb hby dh_11) rfl ?_
    refine XS.lconst X663.here hx rfl (hb hby dh_12) ?_
    show oS p e below m T663 13 #[rv x0, iv 0] [(.long 0), (.int 0), (.ref x2)] _
    refine st665 _ ?_
    show oS p e below m T665 14 #[rv x0, iv 0] [] _
    refine XS.aloadN X665.here hx rfl (hb hby dh_14) rfl rfl ?_
    show oS p e below m T665 15 #[rv x0, iv 0] [(.ref x0)] _
    refine st666 _ ?_
    show oS p e below m T666 18 #[rv x0, iv 0] [(.ref x3)] _
    refine XS.aloadN X666.here hx rfl (hb hby dh_18) rfl rfl ?_
    refine XS.dup X666.here hx rfl (hb hby dh_19) rfl rfl ?_
    show oS p e below m T666 20 #[rv x0, iv 0] [(.ref x0), (.ref x0), (.ref x3)] _
    refine st667 _ ?_
    show oS p e below m T667 23 #[rv x0, iv 0] [(.int 2), (.ref x0), (.ref x3)] _
    refine XS.dupX1 X667.here hx rfl (hb hby dh_23) rfl rfl rfl ?_
    refine XS.iconst X667.here hx rfl (hb hby dh_24) ?_
    show oS p e below m T667 25 #[rv x0, iv 0] [(.int 1), (.int 2), (.ref x0), (.int 2), (.ref x3)] _
    refine XS.iadd X667.here hx rfl (hb hby dh_25) rfl ?_
    exact kt
  rw [show ((2 : Int32) + (1 : Int32)) = (3 : Int32) from by decide] at pre668
  obtain ⟨T669, h669, X669, e669, W669, st669⟩ := putF X667 hx hZ hown (host := "") (Or.inl (own_w hw 24 rfl)) Via.refl e667 F_x0_freeCount E_x0 (Or.inl (own_w hw 25 rfl)) (own_w hw 5 rfl) (ty := .int) (by decide) rfl rfl (g := (mkF m 26 #[rv x0, iv 0] [(.int 3), (.ref x0), (.int 2), (.ref x3)])) rfl rfl (hb hby dh_26)
  have F_x0_freeCount := F_x0_freeCount.same W669
  have E_x0 := E_x0.wr W669
  have F_x0_requests := F_x0_requests.other W669 (Or.inr (osn_Slots_requests_freeCount hw))
  have F_x0_sequences := F_x0_sequences.other W669 (Or.inr (osn_Slots_sequences_freeCount hw))
  have F_x0_free := F_x0_free.other W669 (Or.inr (osn_Slots_free_freeCount hw))
  have F_x0_lastSequence := F_x0_lastSequence.other W669 (Or.inr (osn_Slots_lastSequence_freeCount hw))
  have V_x1 := V_x1.other W669 (Ne.symm ne_x0_x1)
  have V_x2 := V_x2.other W669 (Ne.symm ne_x0_x2)
  have V_x3 := V_x3.other W669 (Ne.symm ne_x0_x3)
  have O669 := O665.wr W669 ge_x0
  have K669 := K665.wr W669 (Or.inl (List.mem_of_getElem? (i := 2) rfl))
  have N669 := Fr.snoc X669 N665 ge_x0
  have vt670 := V_x3
  obtain ⟨cl670, Ar670, q670, S670, Ng670, Ha670, G670⟩ := vt670
  have hin670 : ¬ ((2 : Int32) < 0 ∨ cl670.slots.size ≤ ((2 : Int32)).toNatClampNeg) := inb_of S670 ⟨by decide, by decide⟩
  obtain ⟨T671, h671, X671, e671, W671, st671⟩ := stI X669 hx hZ e669 Ar670 (j := (2 : Int32)) hin670 (g := (mkF m 30 #[rv x0, iv 0] [(.int 0), (.int 2), (.ref x3)])) rfl rfl (hb hby dh_30)
  have V_x3 : Arv Z h671 x3 kc2 .int (3 : Int32) [(.int 2), (.int 1), (.int 0)] (.int 0) := Arv.set Ar670 q670 S670 Ng670 Ha670 G670 rfl W671 2 rfl (Nat.le_of_ble_eq_true rfl)
  have E_x0 := E_x0.wr W671
  have F_x0_requests := F_x0_requests.other W671 (Or.inl ne_x0_x3)
  have F_x0_sequences := F_x0_sequences.other W671 (Or.inl ne_x0_x3)
  have F_x0_free := F_x0_free.other W671 (Or.inl ne_x0_x3)
  have F_x0_freeCount := F_x0_freeCount.other W671 (Or.inl ne_x0_x3)
  have F_x0_lastSequence := F_x0_lastSequence.other W671 (Or.inl ne_x0_x3)
  have V_x1 := V_x1.other W671 ne_x1_x3
  have V_x2 := V_x2.other W671 ne_x2_x3
  have O671 := O669.wr W671 ge_x3
  have K671 := K669.wr W671 (Or.inl (List.mem_of_getElem? (i := 3) rfl))
  have N671 := Fr.snoc X671 N669 ge_x3
  have pre672 : ∀ t, oS p e below m T671 31 #[rv x0, iv 0] [] t → oT p e below s₁ (entryFrame m #[(.ref x0), (.int 0)] 2) t := by
    intro t kt
    refine pre668 t ?_
    show oS p e below m T667 26 #[rv x0, iv 0] [(.int 3), (.ref x0), (.int 2), (.ref x3)] _
    refine st669 _ ?_
    show oS p e below m T669 29 #[rv x0, iv 0] [(.int 2), (.ref x3)] _
    refine XS.iloadN X669.here hx rfl (hb hby dh_29) rfl ?_
    show oS p e below m T669 30 #[rv x0, iv 0] [(.int 0), (.int 2), (.ref x3)] _
    refine st671 _ ?_
    exact kt
  obtain ⟨fs, hr, hrun, hended, hW, hsame⟩ := X671.leave (v := none) (fun _ => rfl)
  refine ⟨_, _, pre672 _ ?_, hrun, hended, _, _, rfl, ?_, ⟨_, rfl⟩, hW, hsame.mono (by decide) (by decide)⟩
  · show oS p e below m T671 31 #[rv x0, iv 0] [] _
    exact X671.returnOut hx Bd.returns (hb hby dh_31) hr
  · show Q_rm_free_35 Z x0 x1 x2 x3 kc0 kc1 kc2 w_I1 h0 n0 _ T671.heap _
    rw [e671]
    exact ⟨rfl, N671, K671, V_x1, V_x2, E_x0, F_x0_requests, F_x0_sequences, F_x0_free, F_x0_freeCount, F_x0_lastSequence, V_x3⟩
theorem ef_rm_release_33 (m : MethodId) (x0 : Addr) : entryFrame m #[(.ref x0), (.long 1048576)] 4 = mkF m 0 (oL3 x0) [] := by first | (simp [entryFrame, mkF, argsToLocals, Value.category]; done) | rfl
def Q_rm_release_33 (Z : State) (x0 : Addr) (x1 : Addr) (x2 : Addr) (x3 : Addr) (kc0 : ClassId) (kc1 : ClassId) (kc2 : ClassId) (w_I1 : Addr) (h0 : Heap) (n0 : Nat) (v : Option Value) (h : Heap) (L : List Loc) : Prop := v = some (.ref w_I1) ∧ Fr n0 L ∧ Keep h0 h [x3, x0, x2, x1] ∧ Arv Z h x3 kc2 .int (3 : Int32) [(.int 2), (.int 1), (.int 0)] (.int 0) ∧ Exa Z h x0 oc8 ∧ Fld Z h x0 oc8 "requests" "[Ljava/lang/Object;" (.ref x1) ∧ Fld Z h x0 oc8 "sequences" "[J" (.ref x2) ∧ Fld Z h x0 oc8 "free" "[I" (.ref x3) ∧ Fld Z h x0 oc8 "freeCount" "I" (.int 3) ∧ Fld Z h x0 oc8 "lastSequence" "J" (.long 1) ∧ Arv Z h x2 kc1 .long (3 : Int32) [(.long 0), (.long 0), (.long 0)] (.long 0) ∧ Arv Z h x1 kc0 (.object oc9) (3 : Int32) [.null, .null, .null] .null
set_option maxRecDepth 65536 in
set_option maxHeartbeats 40000000 in
theorem rm_release_33 (l : Launch) (Z : State) (a0 : Array Value) (hw : ∀ d ∈ tables_1, d.before a0 Z = true) (ws : List Jvm.Cond) (x0 : Addr) (x1 : Addr) (x2 : Addr) (x3 : Addr) (kc0 : ClassId) (kc1 : ClassId) (kc2 : ClassId) (w_I1 : Addr) (h0 : Heap) (n0 : Nat) (O0 : Old Z n0 h0) (E_x0 : Exa Z h0 x0 oc8) (F_x0_requests : Fld Z h0 x0 oc8 "requests" "[Ljava/lang/Object;" (.ref x1)) (F_x0_sequences : Fld Z h0 x0 oc8 "sequences" "[J" (.ref x2)) (F_x0_free : Fld Z h0 x0 oc8 "free" "[I" (.ref x3)) (F_x0_freeCount : Fld Z h0 x0 oc8 "freeCount" "I" (.int 2)) (F_x0_lastSequence : Fld Z h0 x0 oc8 "lastSequence" "J" (.long 1)) (ge_x0 : n0 ≤ x0) (O_x1 : Ovr Z kc0 oc9) (V_x1 : Arv Z h0 x1 kc0 (.object oc9) (3 : Int32) [(.ref w_I1), .null, .null] .null) (ge_x1 : n0 ≤ x1) (V_x2 : Arv Z h0 x2 kc1 .long (3 : Int32) [(.long 1), (.long 0), (.long 0)] (.long 0)) (ge_x2 : n0 ≤ x2) (V_x3 : Arv Z h0 x3 kc2 .int (3 : Int32) [(.int 2), (.int 1), (.int 0)] (.int 0)) (ge_x3 : n0 ≤ x3) (ne_x0_x1 : x0 ≠ x1) (ne_x0_x2 : x0 ≠ x2) (ne_x0_x3 : x0 ≠ x3) (ne_x1_x2 : x1 ≠ x2) (ne_x1_x3 : x1 ≠ x3) (ne_x2_x3 : x2 ≠ x3)  :
    oM l oy5 prog_29_method_6_code 4 (some (.object oc9)) ws ({ frames := 1, cells := 0, slots := 0, locals := 18 } : Room) Z #[(.ref x0), (.long 1048576)] h0 (Q_rm_release_33 Z x0 x1 x2 x3 kc0 kc1 kc2 w_I1 h0 n0) := by
  refine MetFree.of_bodySF (plainFor_of_name pn_com_example_wend_wend_Slots) hisR ?_
  intro p e s m args below meth c s₁ Bd hml0 hP hK
  obtain ⟨rfl, hZ, hh⟩ := hP
  have hx := Bd.exec
  have hby := Bd.bytes
  have hml : c.maxLocals = 4 := hml0
  have hown : s.vm.findClass oc8 = some m.cls := findClass_of_methodNamed Bd.named
  have hnm := (name_of_methodNamed Bd.named Bd.method).1
  have X0 : Stand p l e ({ frames := 1, cells := 0, slots := 0, locals := 18 } : Room) s m #[(.ref x0), (.long 1048576)] below meth c s₁ [] 0 0 := Stand.of_body Bd
  have e0 : s₁.heap = h0 := by rw [← hh, Bd.state]; rfl
  have N0 := Fr.nil n0
  have pre0 : ∀ t, oS p e below m s₁ 0 (oL3 x0) [] t → oT p e below s₁ (entryFrame m #[(.ref x0), (.long 1048576)] 4) t := fun t k => castTop (ef_rm_release_33 m x0) k
  have K0 := Keep.refl h0 [x3, x0, x2, x1]
  obtain ⟨cq642, kq642, q642a, q642b, q642c⟩ := isOf hZ e0 E_x0
  obtain ⟨_, _, ⟨T642, L642, k642, n642⟩, -, X642, ⟨Lc642, hQ642, l642, y642, z642⟩, st642⟩ := X0.virtualBack hx (y := oy6) (z := oy6) hown (mvT hZ (own_w hw 52 rfl)) (mvT hZ (own_w hw 53 rfl)) (notFace_of_selects (args := #[]) (mvT hZ (own_w hw 55 rfl))) (mvT hZ (own_w hw 55 rfl)) (mvT hZ (own_w hw 54 rfl)) (by decide) (backOf (W := 0) (rm_get_34 l Z a0 hw [] x0 x1 x2 kc0 kc1 w_I1 h0 n0 O0 F_x0_requests F_x0_sequences V_x1 V_x2 ) hZ (own_w hw 56 rfl) (own_w hw 6 rfl) (by decide) (by decide)) q642a q642c (g := (mkF m 2 (oL3 x0) [(.long 1048576), (.ref x0)])) rfl (by rw [hml]; rfl) (Steps.refl _) (argsL := [(.long 1048576)]) (rest := []) (lenOf pd__J_Ljava_lang_Object_ rfl) rfl (by show 2 * 0 + _ ≤ _; exact Nat.le_of_eq rfl) (hb hby dg_2) (fun _ _ => ⟨rfl, e0, (by decide : 0 + 0 ≤ _), (by decide : 0 + 0 ≤ _)⟩)
  dsimp only [Pt.U, Pt.locs, Pt.cells, Pt.slots] at X642 l642 y642 z642 st642 hQ642
  subst l642 y642 z642
  obtain ⟨rfl, N642q, e642⟩ := hQ642
  have N642 := Fr.app N0 N642q
  have pre657 : ∀ t, oS p e below m T642 16 (oL2 x0 w_I1) [(.long ((1048576 : Int64) &&& (1048575 : Int64))), (.ref x0)] t → oT p e below s₁ (entryFrame m #[(.ref x0), (.long 1048576)] 4) t := by
    intro t kt
    refine pre0 t ?_
    show oS p e below m s₁ 0 (oL3 x0) [] _
    refine XS.aloadN X0.here hx rfl (hb hby dg_0) rfl rfl ?_
    refine XS.lloadN X0.here hx rfl (hb hby dg_1) rfl ?_
    show oS p e below m s₁ 2 (oL3 x0) [(.long 1048576), (.ref x0)] _
    refine st642.trans ?_
    show oS p e below m T642 5 (oL3 x0) [(.ref w_I1)] _
    refine XS.astoreN X642.here hx rfl (hb hby dg_5) rfl rfl (l' := (oL2 x0 w_I1)) rfl ?_
    refine XS.aloadN X642.here hx rfl (hb hby dg_6) rfl rfl ?_
    show oS p e below m T642 7 (oL2 x0 w_I1) [(.ref w_I1)] _
    refine XS.ifnullNo X642.here hx rfl (hb hby dg_7) rfl ?_
    refine XS.aloadN X642.here hx rfl (hb hby dg_10) rfl rfl ?_
    show oS p e below m T642 11 (oL2 x0 w_I1) [(.ref x0)] _
    refine XS.lloadN X642.here hx rfl (hb hby dg_11) rfl ?_
    show oS p e below m T642 12 (oL2 x0 w_I1) [(.long 1048576), (.ref x0)] _
    refine X642.ldc2Long hx hown (mvT hZ (own_w hw 57 rfl)) (g := (mkF m 12 (oL2 x0 w_I1) [(.long 1048576), (.ref x0)])) rfl (hb hby dg_12) _ ?_
    show oS p e below m T642 15 (oL2 x0 w_I1) [(.long 1048575), (.long 1048576), (.ref x0)] _
    refine XS.land X642.here hx rfl (hb hby dg_15) rfl ?_
    exact kt
  rw [show ((1048576 : Int64) &&& (1048575 : Int64)) = (0 : Int64) from by decide] at pre657
  have pre658 : ∀ t, oS p e below m T642 17 (oL2 x0 w_I1) [(.int ((0 : Int64).toInt32)), (.ref x0)] t → oT p e below s₁ (entryFrame m #[(.ref x0), (.long 1048576)] 4) t := by
    intro t kt
    refine pre657 t ?_
    show oS p e below m T642 16 (oL2 x0 w_I1) [(.long 0), (.ref x0)] _
    refine XS.l2i X642.here hx rfl (hb hby dg_16) rfl ?_
    exact kt
  rw [show ((0 : Int64).toInt32) = (0 : Int32) from by decide] at pre658
  obtain ⟨cq659, q659, q659'⟩ := E_x0.cell
  obtain ⟨_, _, ⟨T659, L659, k659, n659⟩, -, X659, ⟨Lc659, hQ659, l659, y659, z659⟩, st659⟩ := X642.privateBack hx (y := oy7) hown (mvT hZ (own_w hw 58 rfl)) (mvT hZ (own_w hw 59 rfl)) (own_priv hZ (own_w hw 59 rfl) (own_w hw 60 rfl) (own_w hw 5 rfl) (by decide)) (Cond.privateMethod_at (mvP hZ (own_w hw 60 rfl) (args := #[]))) (mvT hZ (own_w hw 61 rfl)) (by decide) (backOf (W := 0) (rm_free_35 l Z a0 hw [] x0 x1 x2 x3 kc0 kc1 kc2 w_I1 h0 n0 O0 E_x0 F_x0_requests F_x0_sequences F_x0_free F_x0_freeCount F_x0_lastSequence ge_x0 O_x1 V_x1 ge_x1 V_x2 ge_x2 V_x3 ge_x3 ne_x0_x1 ne_x0_x2 ne_x0_x3 ne_x1_x2 ne_x1_x3 ne_x2_x3 ) hZ (own_w hw 61 rfl) (own_w hw 6 rfl) (by decide) (by decide)) (g := (mkF m 17 (oL2 x0 w_I1) [(.int 0), (.ref x0)])) rfl (by rw [hml]; rfl) (Steps.refl _) (a := x0) (by rw [e642]; exact q659) q659' (argsL := [(.int 0)]) (rest := []) (lenOf pd__I_V rfl) rfl (by show 2 * 0 + _ ≤ _; exact Nat.le_of_eq rfl) (hb hby dg_17) (fun _ _ => ⟨rfl, e642, (by decide : 0 + 0 ≤ _), (by decide : 0 + 0 ≤ _)⟩)
  dsimp only [Pt.U, Pt.locs, Pt.cells, Pt.slots] at X659 l659 y659 z659 st659 hQ659
  subst l659 y659 z659
  obtain ⟨rfl, N659q, Kc659, u659_0, u659_1, u659_2, u659_3, u659_4, u659_5, u659_6, u659_7, u659_8⟩ := hQ659
  have N659 := Fr.app N642 N659q
  have O659 := O0.keep Kc659 (allS ge_x1 (allS ge_x2 (allS ge_x0 (allS ge_x3 all0))))
  have K659 := K0.trans Kc659 (allS (Or.inl (List.mem_of_getElem? (i := 3) rfl)) (allS (Or.inl (List.mem_of_getElem? (i := 2) rfl)) (allS (Or.inl (List.mem_of_getElem? (i := 1) rfl)) (allS (Or.inl (List.mem_of_getElem? (i := 0) rfl)) all0))))
  have pre673 : ∀ t, oS p e below m T659 21 (oL2 x0 w_I1) [(.ref w_I1)] t → oT p e below s₁ (entryFrame m #[(.ref x0), (.long 1048576)] 4) t := by
    intro t kt
    refine pre658 t ?_
    show oS p e below m T642 17 (oL2 x0 w_I1) [(.int 0), (.ref x0)] _
    refine st659.trans ?_
    show oS p e below m T659 20 (oL2 x0 w_I1) [] _
    refine XS.aloadN X659.here hx rfl (hb hby dg_20) rfl rfl ?_
    exact kt
  obtain ⟨fs, hr, hrun, hended, hW, hsame⟩ := X659.leave (v := some (.ref w_I1)) (fun h => by rw [Bd.returns] at h; cases h)
  refine ⟨_, _, pre673 _ ?_, hrun, hended, _, _, rfl, ?_, ⟨_, rfl⟩, hW, hsame.mono (by decide) (by decide)⟩
  · show oS p e below m T659 21 (oL2 x0 w_I1) [(.ref w_I1)] _
    jvm_step X659.here [X659.here.top, hx, (hb hby dg_21), X659.method', Bd.returns, Value.isRef, FieldType.isReference]
    first | (intro acts; rw [hr _ acts rfl rfl rfl]) | rw [hr _ _ rfl rfl rfl]
    exact Steps.refl _
  · show Q_rm_release_33 Z x0 x1 x2 x3 kc0 kc1 kc2 w_I1 h0 n0 _ T659.heap _
    exact ⟨rfl, N659, K659, u659_8, u659_2, u659_3, u659_4, u659_5, u659_6, u659_7, u659_1, u659_0⟩
theorem ef_rm_take_36 (m : MethodId) (x0 : Addr) (w_I4 : Addr) : entryFrame m #[(.ref x0), (.ref w_I4)] 3 = mkF m 0 #[rv x0, rv w_I4, .unset] [] := by first | (simp [entryFrame, mkF, argsToLocals, Value.category]; done) | rfl
def Q_rm_take_36 (Z : State) (x0 : Addr) (x1 : Addr) (x2 : Addr) (x3 : Addr) (kc0 : ClassId) (kc1 : ClassId) (kc2 : ClassId) (w_I4 : Addr) (h0 : Heap) (n0 : Nat) (v : Option Value) (h : Heap) (L : List Loc) : Prop := v = some (.long 2097152) ∧ Fr n0 L ∧ Keep h0 h [x0, x1, x2] ∧ Exa Z h x0 oc8 ∧ Fld Z h x0 oc8 "requests" "[Ljava/lang/Object;" (.ref x1) ∧ Fld Z h x0 oc8 "sequences" "[J" (.ref x2) ∧ Fld Z h x0 oc8 "free" "[I" (.ref x3) ∧ Fld Z h x0 oc8 "freeCount" "I" (.int 2) ∧ Fld Z h x0 oc8 "lastSequence" "J" (.long 2) ∧ Arv Z h x1 kc0 (.object oc9) (3 : Int32) [(.ref w_I4), .null, .null] .null ∧ Arv Z h x2 kc1 .long (3 : Int32) [(.long 2), (.long 0), (.long 0)] (.long 0)
set_option maxRecDepth 65536 in
set_option maxHeartbeats 40000000 in
theorem rm_take_36 (l : Launch) (Z : State) (a0 : Array Value) (hw : ∀ d ∈ tables_1, d.before a0 Z = true) (ws : List Jvm.Cond) (x0 : Addr) (x1 : Addr) (x2 : Addr) (x3 : Addr) (kc0 : ClassId) (kc1 : ClassId) (kc2 : ClassId) (w_I4 : Addr) (h0 : Heap) (n0 : Nat) (O0 : Old Z n0 h0) (E_x0 : Exa Z h0 x0 oc8) (F_x0_requests : Fld Z h0 x0 oc8 "requests" "[Ljava/lang/Object;" (.ref x1)) (F_x0_sequences : Fld Z h0 x0 oc8 "sequences" "[J" (.ref x2)) (F_x0_free : Fld Z h0 x0 oc8 "free" "[I" (.ref x3)) (F_x0_freeCount : Fld Z h0 x0 oc8 "freeCount" "I" (.int 3)) (F_x0_lastSequence : Fld Z h0 x0 oc8 "lastSequence" "J" (.long 1)) (ge_x0 : n0 ≤ x0) (O_x1 : Ovr Z kc0 oc9) (V_x1 : Arv Z h0 x1 kc0 (.object oc9) (3 : Int32) [.null, .null, .null] .null) (ge_x1 : n0 ≤ x1) (V_x2 : Arv Z h0 x2 kc1 .long (3 : Int32) [(.long 0), (.long 0), (.long 0)] (.long 0)) (ge_x2 : n0 ≤ x2) (V_x3 : Arv Z h0 x3 kc2 .int (3 : Int32) [(.int 2), (.int 1), (.int 0)] (.int 0)) (ge_x3 : n0 ≤ x3) (ne_x0_x1 : x0 ≠ x1) (ne_x0_x2 : x0 ≠ x2) (ne_x0_x3 : x0 ≠ x3) (ne_x1_x2 : x1 ≠ x2) (ne_x1_x3 : x1 ≠ x3) (ne_x2_x3 : x2 ≠ x3) (E_I4 : Exa Z Z.heap w_I4 oc10) :
    oM l oy4 prog_29_method_4_code 3 (some .long) ws ({ frames := 0, cells := 0, slots := 0, locals := 0 } : Room) Z #[(.ref x0), (.ref w_I4)] h0 (Q_rm_take_36 Z x0 x1 x2 x3 kc0 kc1 kc2 w_I4 h0 n0) := by
  refine MetFree.of_bodySF (plainFor_of_name pn_com_example_wend_wend_Slots) hisR ?_
  intro p e s m args below meth c s₁ Bd hml0 hP hK
  obtain ⟨rfl, hZ, hh⟩ := hP
  have hx := Bd.exec
  have hby := Bd.bytes
  have hml : c.maxLocals = 3 := hml0
  have hown : s.vm.findClass oc8 = some m.cls := findClass_of_methodNamed Bd.named
  have hnm := (name_of_methodNamed Bd.named Bd.method).1
  have X0 : Stand p l e ({ frames := 0, cells := 0, slots := 0, locals := 0 } : Room) s m #[(.ref x0), (.ref w_I4)] below meth c s₁ [] 0 0 := Stand.of_body Bd
  have e0 : s₁.heap = h0 := by rw [← hh, Bd.state]; rfl
  have N0 := Fr.nil n0
  have pre0 : ∀ t, oS p e below m s₁ 0 #[rv x0, rv w_I4, .unset] [] t → oT p e below s₁ (entryFrame m #[(.ref x0), (.ref w_I4)] 3) t := fun t k => castTop (ef_rm_take_36 m x0 w_I4) k
  have K0 := Keep.refl h0 [x0, x1, x2]
  obtain ⟨T687, X687, e687, st687⟩ := getF X0 hx hZ hown (host := "") (Or.inl (own_w hw 24 rfl)) Via.refl e0 F_x0_freeCount (g := (mkF m 1 #[rv x0, rv w_I4, .unset] [(.ref x0)])) rfl rfl (hb hby de_1)
  obtain ⟨T689, X689, e689, st689⟩ := getF X687 hx hZ hown (host := "") (Or.inl (own_w hw 22 rfl)) Via.refl e687 F_x0_free (g := (mkF m 18 #[rv x0, rv w_I4, .unset] [(.ref x0)])) rfl rfl (hb hby de_18)
  obtain ⟨T690, X690, e690, st690⟩ := getF X689 hx hZ hown (host := "") (Or.inl (own_w hw 24 rfl)) Via.refl e689 F_x0_freeCount (g := (mkF m 23 #[rv x0, rv w_I4, .unset] [(.ref x0), (.ref x0), (.ref x3)])) rfl rfl (hb hby de_23)
  have pre691 : ∀ t, oS p e below m T690 28 #[rv x0, rv w_I4, .unset] [(.int ((3 : Int32) - (1 : Int32))), (.ref x0), (.ref x3)] t → oT p e below s₁ (entryFrame m #[(.ref x0), (.ref w_I4)] 3) t := by
    intro t kt
    refine pre0 t ?_
    show oS p e below m s₁ 0 #[rv x0, rv w_I4, .unset] [] _
    refine XS.aloadN X0.here hx rfl (hb hby de_0) rfl rfl ?_
    show oS p e below m s₁ 1 #[rv x0, rv w_I4, .unset] [(.ref x0)] _
    refine st687 _ ?_
    show oS p e below m T687 4 #[rv x0, rv w_I4, .unset] [(.int 3)] _
    refine XS.ifYes X687.here hx rfl (pc0 := 4) (pc' := 17) rfl (hb hby de_4) rfl ((if0 _ _).trans (feq (by decide : ¬ ((3 : Int32) = (0 : Int32)))).2) (by decide) (by decide) ?_
    refine XS.aloadN X687.here hx rfl (hb hby de_17) rfl rfl ?_
    show oS p e below m T687 18 #[rv x0, rv w_I4, .unset] [(.ref x0)] _
    refine st689 _ ?_
    show oS p e below m T689 21 #[rv x0, rv w_I4, .unset] [(.ref x3)] _
    refine XS.aloadN X689.here hx rfl (hb hby de_21) rfl rfl ?_
    refine XS.dup X689.here hx rfl (hb hby de_22) rfl rfl ?_
    show oS p e below m T689 23 #[rv x0, rv w_I4, .unset] [(.ref x0), (.ref x0), (.ref x3)] _
    refine st690 _ ?_
    show oS p e below m T690 26 #[rv x0, rv w_I4, .unset] [(.int 3), (.ref x0), (.ref x3)] _
    refine XS.iconst X690.here hx rfl (hb hby de_26) ?_
    refine XS.isub X690.here hx rfl (hb hby de_27) rfl ?_
    exact kt
  rw [show ((3 : Int32) - (1 : Int32)) = (2 : Int32) from by decide] at pre691
  obtain ⟨T692, h692, X692, e692, W692, st692⟩ := putF X690 hx hZ hown (host := "") (Or.inl (own_w hw 24 rfl)) Via.refl e690 F_x0_freeCount E_x0 (Or.inl (own_w hw 25 rfl)) (own_w hw 5 rfl) (ty := .int) (by decide) rfl rfl (g := (mkF m 29 #[rv x0, rv w_I4, .unset] [(.int 2), (.ref x0), (.int 2), (.ref x3)])) rfl rfl (hb hby de_29)
  have F_x0_freeCount := F_x0_freeCount.same W692
  have E_x0 := E_x0.wr W692
  have F_x0_requests := F_x0_requests.other W692 (Or.inr (osn_Slots_requests_freeCount hw))
  have F_x0_sequences := F_x0_sequences.other W692 (Or.inr (osn_Slots_sequences_freeCount hw))
  have F_x0_free := F_x0_free.other W692 (Or.inr (osn_Slots_free_freeCount hw))
  have F_x0_lastSequence := F_x0_lastSequence.other W692 (Or.inr (osn_Slots_lastSequence_freeCount hw))
  have V_x1 := V_x1.other W692 (Ne.symm ne_x0_x1)
  have V_x2 := V_x2.other W692 (Ne.symm ne_x0_x2)
  have V_x3 := V_x3.other W692 (Ne.symm ne_x0_x3)
  have O692 := O0.wr W692 ge_x0
  have K692 := K0.wr W692 (Or.inl (List.mem_of_getElem? (i := 0) rfl))
  have N692 := Fr.snoc X692 N0 ge_x0
  have vt693 := V_x3
  obtain ⟨cl693, Ar693, q693, S693, Ng693, Ha693, G693⟩ := vt693
  have hin693 : ¬ ((2 : Int32) < 0 ∨ cl693.slots.size ≤ ((2 : Int32)).toNatClampNeg) := inb_of S693 ⟨by decide, by decide⟩
  have hat693 : cl693.slots[((2 : Int32)).toNatClampNeg]? = some (.int 0) := Ha693.at hin693 rfl
  obtain ⟨T694, X694, e694, st694⟩ := getF X692 hx hZ hown (host := "") (Or.inl (own_w hw 43 rfl)) Via.refl e692 F_x0_lastSequence (g := (mkF m 36 #[rv x0, rv w_I4, iv 0] [(.ref x0), (.ref x0)])) rfl rfl (hb hby de_36)
  have pre695 : ∀ t, oS p e below m T694 43 #[rv x0, rv w_I4, iv 0] [(.int (lcmpW (1 : Int64) (17592186044415 : Int64))), (.ref x0)] t → oT p e below s₁ (entryFrame m #[(.ref x0), (.ref w_I4)] 3) t := by
    intro t kt
    refine pre691 t ?_
    show oS p e below m T690 28 #[rv x0, rv w_I4, .unset] [(.int 2), (.ref x0), (.ref x3)] _
    refine XS.dupX1 X690.here hx rfl (hb hby de_28) rfl rfl rfl ?_
    show oS p e below m T690 29 #[rv x0, rv w_I4, .unset] [(.int 2), (.ref x0), (.int 2), (.ref x3)] _
    refine st692 _ ?_
    show oS p e below m T692 32 #[rv x0, rv w_I4, .unset] [(.int 2), (.ref x3)] _
    refine X692.iaload hx (j := (2 : Int32)) (v := (.int 0)) (by rw [e692]; exact Ar693.1) (State.isArrayOf_alike hZ.alike Ar693.2.1) Ar693.2.2 hin693 hat693 (g := (mkF m 32 #[rv x0, rv w_I4, .unset] [(.int 2), (.ref x3)])) rfl rfl (hb hby de_32) _ ?_
    show oS p e below m T692 33 #[rv x0, rv w_I4, .unset] [(.int 0)] _
    refine XS.istoreN X692.here hx rfl (hb hby de_33) rfl (l' := #[rv x0, rv w_I4, iv 0]) rfl ?_
    refine XS.aloadN X692.here hx rfl (hb hby de_34) rfl rfl ?_
    show oS p e below m T692 35 #[rv x0, rv w_I4, iv 0] [(.ref x0)] _
    refine XS.aloadN X692.here hx rfl (hb hby de_35) rfl rfl ?_
    show oS p e below m T692 36 #[rv x0, rv w_I4, iv 0] [(.ref x0), (.ref x0)] _
    refine st694 _ ?_
    show oS p e below m T694 39 #[rv x0, rv w_I4, iv 0] [(.long 1), (.ref x0)] _
    refine X694.ldc2Long hx hown (mvT hZ (own_w hw 45 rfl)) (g := (mkF m 39 #[rv x0, rv w_I4, iv 0] [(.long 1), (.ref x0)])) rfl (hb hby de_39) _ ?_
    show oS p e below m T694 42 #[rv x0, rv w_I4, iv 0] [(.long 17592186044415), (.long 1), (.ref x0)] _
    refine XS.lcmp X694.here hx rfl (hb hby de_42) rfl ?_
    exact kt
  rw [show (lcmpW (1 : Int64) (17592186044415 : Int64)) = (-1 : Int32) from by decide] at pre695
  obtain ⟨T697, X697, e697, st697⟩ := getF X694 hx hZ hown (host := "") (Or.inl (own_w hw 43 rfl)) Via.refl e694 F_x0_lastSequence (g := (mkF m 51 #[rv x0, rv w_I4, iv 0] [(.ref x0), (.ref x0)])) rfl rfl (hb hby de_51)
  have pre698 : ∀ t, oS p e below m T697 56 #[rv x0, rv w_I4, iv 0] [(.long ((1 : Int64) + (1 : Int64))), (.ref x0)] t → oT p e below s₁ (entryFrame m #[(.ref x0), (.ref w_I4)] 3) t := by
    intro t kt
    refine pre695 t ?_
    show oS p e below m T694 43 #[rv x0, rv w_I4, iv 0] [(.int (-1 : Int32)), (.ref x0)] _
    refine XS.ifYes X694.here hx rfl (pc0 := 43) (pc' := 50) rfl (hb hby de_43) rfl ((if0 _ _).trans (feq (by decide : ¬ ((-1 : Int32) = (0 : Int32)))).2) (by decide) (by decide) ?_
    refine XS.aloadN X694.here hx rfl (hb hby de_50) rfl rfl ?_
    show oS p e below m T694 51 #[rv x0, rv w_I4, iv 0] [(.ref x0), (.ref x0)] _
    refine st697 _ ?_
    show oS p e below m T697 54 #[rv x0, rv w_I4, iv 0] [(.long 1), (.ref x0)] _
    refine XS.lconst X697.here hx rfl (hb hby de_54) ?_
    refine XS.ladd X697.here hx rfl (hb hby de_55) rfl ?_
    exact kt
  rw [show ((1 : Int64) + (1 : Int64)) = (2 : Int64) from by decide] at pre698
  obtain ⟨T699, h699, X699, e699, W699, st699⟩ := putF X697 hx hZ hown (host := "") (Or.inl (own_w hw 43 rfl)) Via.refl e697 F_x0_lastSequence E_x0 (Or.inl (own_w hw 44 rfl)) (own_w hw 5 rfl) (ty := .long) (by decide) rfl rfl (g := (mkF m 56 #[rv x0, rv w_I4, iv 0] [(.long 2), (.ref x0)])) rfl rfl (hb hby de_56)
  have F_x0_lastSequence := F_x0_lastSequence.same W699
  have E_x0 := E_x0.wr W699
  have F_x0_requests := F_x0_requests.other W699 (Or.inr (osn_Slots_requests_lastSequence hw))
  have F_x0_sequences := F_x0_sequences.other W699 (Or.inr (osn_Slots_sequences_lastSequence hw))
  have F_x0_free := F_x0_free.other W699 (Or.inr (osn_Slots_free_lastSequence hw))
  have F_x0_freeCount := F_x0_freeCount.other W699 (Or.inr (osn_Slots_freeCount_lastSequence hw))
  have V_x1 := V_x1.other W699 (Ne.symm ne_x0_x1)
  have V_x2 := V_x2.other W699 (Ne.symm ne_x0_x2)
  have V_x3 := V_x3.other W699 (Ne.symm ne_x0_x3)
  have O699 := O692.wr W699 ge_x0
  have K699 := K692.wr W699 (Or.inl (List.mem_of_getElem? (i := 0) rfl))
  have N699 := Fr.snoc X699 N692 ge_x0
  obtain ⟨T700, X700, e700, st700⟩ := getF X699 hx hZ hown (host := "") (Or.inl (own_w hw 16 rfl)) Via.refl e699 F_x0_requests (g := (mkF m 60 #[rv x0, rv w_I4, iv 0] [(.ref x0)])) rfl rfl (hb hby de_60)
  have vt701 := V_x1
  obtain ⟨cl701, Ar701, q701, S701, Ng701, Ha701, G701⟩ := vt701
  have hin701 : ¬ ((0 : Int32) < 0 ∨ cl701.slots.size ≤ ((0 : Int32)).toNatClampNeg) := inb_of S701 ⟨by decide, by decide⟩
  obtain ⟨T702, h702, X702, e702, W702, st702⟩ := stR X700 hx hZ e700 Ar701 (j := (0 : Int32)) hin701 rfl (Sto.ofV Ar701 q701 O_x1 (Ins.of_exa (E_I4.ext O699.2) (own_w hw 46 rfl))) (g := (mkF m 65 #[rv x0, rv w_I4, iv 0] [(.ref w_I4), (.int 0), (.ref x1)])) rfl rfl (hb hby de_65)
  have V_x1 : Arv Z h702 x1 kc0 (.object oc9) (3 : Int32) [(.ref w_I4), .null, .null] .null := Arv.set Ar701 q701 S701 Ng701 Ha701 G701 rfl W702 0 rfl (Nat.le_of_ble_eq_true rfl)
  have E_x0 := E_x0.wr W702
  have F_x0_requests := F_x0_requests.other W702 (Or.inl ne_x0_x1)
  have F_x0_sequences := F_x0_sequences.other W702 (Or.inl ne_x0_x1)
  have F_x0_free := F_x0_free.other W702 (Or.inl ne_x0_x1)
  have F_x0_freeCount := F_x0_freeCount.other W702 (Or.inl ne_x0_x1)
  have F_x0_lastSequence := F_x0_lastSequence.other W702 (Or.inl ne_x0_x1)
  have V_x2 := V_x2.other W702 (Ne.symm ne_x1_x2)
  have V_x3 := V_x3.other W702 (Ne.symm ne_x1_x3)
  have O702 := O699.wr W702 ge_x1
  have K702 := K699.wr W702 (Or.inl (List.mem_of_getElem? (i := 1) rfl))
  have N702 := Fr.snoc X702 N699 ge_x1
  obtain ⟨T703, X703, e703, st703⟩ := getF X702 hx hZ hown (host := "") (Or.inl (own_w hw 19 rfl)) Via.refl e702 F_x0_sequences (g := (mkF m 67 #[rv x0, rv w_I4, iv 0] [(.ref x0)])) rfl rfl (hb hby de_67)
  obtain ⟨T704, X704, e704, st704⟩ := getF X703 hx hZ hown (host := "") (Or.inl (own_w hw 43 rfl)) Via.refl e703 F_x0_lastSequence (g := (mkF m 72 #[rv x0, rv w_I4, iv 0] [(.ref x0), (.int 0), (.ref x2)])) rfl rfl (hb hby de_72)
  have vt705 := V_x2
  obtain ⟨cl705, Ar705, q705, S705, Ng705, Ha705, G705⟩ := vt705
  have hin705 : ¬ ((0 : Int32) < 0 ∨ cl705.slots.size ≤ ((0 : Int32)).toNatClampNeg) := inb_of S705 ⟨by decide, by decide⟩
  obtain ⟨T706, h706, X706, e706, W706, st706⟩ := stJ X704 hx hZ e704 Ar705 (j := (0 : Int32)) hin705 (g := (mkF m 75 #[rv x0, rv w_I4, iv 0] [(.long 2), (.int 0), (.ref x2)])) rfl rfl (hb hby de_75)
  have V_x2 : Arv Z h706 x2 kc1 .long (3 : Int32) [(.long 2), (.long 0), (.long 0)] (.long 0) := Arv.set Ar705 q705 S705 Ng705 Ha705 G705 rfl W706 0 rfl (Nat.le_of_ble_eq_true rfl)
  have E_x0 := E_x0.wr W706
  have F_x0_requests := F_x0_requests.other W706 (Or.inl ne_x0_x2)
  have F_x0_sequences := F_x0_sequences.other W706 (Or.inl ne_x0_x2)
  have F_x0_free := F_x0_free.other W706 (Or.inl ne_x0_x2)
  have F_x0_freeCount := F_x0_freeCount.other W706 (Or.inl ne_x0_x2)
  have F_x0_lastSequence := F_x0_lastSequence.other W706 (Or.inl ne_x0_x2)
  have V_x1 := V_x1.other W706 ne_x1_x2
  have V_x3 := V_x3.other W706 (Ne.symm ne_x2_x3)
  have O706 := O702.wr W706 ge_x2
  have K706 := K702.wr W706 (Or.inl (List.mem_of_getElem? (i := 2) rfl))
  have N706 := Fr.snoc X706 N702 ge_x2
  obtain ⟨T707, X707, e707, st707⟩ := getF X706 hx hZ hown (host := "") (Or.inl (own_w hw 43 rfl)) Via.refl e706 F_x0_lastSequence (g := (mkF m 77 #[rv x0, rv w_I4, iv 0] [(.ref x0)])) rfl rfl (hb hby de_77)
  have pre708 : ∀ t, oS p e below m T707 83 #[rv x0, rv w_I4, iv 0] [(.long ((2 : Int64) <<< ((20 : Int32) &&& 0x3f).toInt64))] t → oT p e below s₁ (entryFrame m #[(.ref x0), (.ref w_I4)] 3) t := by
    intro t kt
    refine pre698 t ?_
    show oS p e below m T697 56 #[rv x0, rv w_I4, iv 0] [(.long 2), (.ref x0)] _
    refine st699 _ ?_
    show oS p e below m T699 59 #[rv x0, rv w_I4, iv 0] [] _
    refine XS.aloadN X699.here hx rfl (hb hby de_59) rfl rfl ?_
    show oS p e below m T699 60 #[rv x0, rv w_I4, iv 0] [(.ref x0)] _
    refine st700 _ ?_
    show oS p e below m T700 63 #[rv x0, rv w_I4, iv 0] [(.ref x1)] _
    refine XS.iloadN X700.here hx rfl (hb hby de_63) rfl ?_
    refine XS.aloadN X700.here hx rfl (hb hby de_64) rfl rfl ?_
    show oS p e below m T700 65 #[rv x0, rv w_I4, iv 0] [(.ref w_I4), (.int 0), (.ref x1)] _
    refine st702 _ ?_
    show oS p e below m T702 66 #[rv x0, rv w_I4, iv 0] [] _
    refine XS.aloadN X702.here hx rfl (hb hby de_66) rfl rfl ?_
    show oS p e below m T702 67 #[rv x0, rv w_I4, iv 0] [(.ref x0)] _
    refine st703 _ ?_
    show oS p e below m T703 70 #[rv x0, rv w_I4, iv 0] [(.ref x2)] _
    refine XS.iloadN X703.here hx rfl (hb hby de_70) rfl ?_
    refine XS.aloadN X703.here hx rfl (hb hby de_71) rfl rfl ?_
    show oS p e below m T703 72 #[rv x0, rv w_I4, iv 0] [(.ref x0), (.int 0), (.ref x2)] _
    refine st704 _ ?_
    show oS p e below m T704 75 #[rv x0, rv w_I4, iv 0] [(.long 2), (.int 0), (.ref x2)] _
    refine st706 _ ?_
    show oS p e below m T706 76 #[rv x0, rv w_I4, iv 0] [] _
    refine XS.aloadN X706.here hx rfl (hb hby de_76) rfl rfl ?_
    show oS p e below m T706 77 #[rv x0, rv w_I4, iv 0] [(.ref x0)] _
    refine st707 _ ?_
    show oS p e below m T707 80 #[rv x0, rv w_I4, iv 0] [(.long 2)] _
    refine XS.bipush X707.here hx rfl (hb hby de_80) ?_
    refine XS.lshl X707.here hx rfl (hb hby de_82) rfl ?_
    exact kt
  rw [show ((2 : Int64) <<< ((20 : Int32) &&& 0x3f).toInt64) = (2097152 : Int64) from by decide] at pre708
  have pre709 : ∀ t, oS p e below m T707 85 #[rv x0, rv w_I4, iv 0] [(.long ((0 : Int32).toInt64)), (.long 2097152)] t → oT p e below s₁ (entryFrame m #[(.ref x0), (.ref w_I4)] 3) t := by
    intro t kt
    refine pre708 t ?_
    show oS p e below m T707 83 #[rv x0, rv w_I4, iv 0] [(.long 2097152)] _
    refine XS.iloadN X707.here hx rfl (hb hby de_83) rfl ?_
    refine XS.i2l X707.here hx rfl (hb hby de_84) rfl ?_
    exact kt
  rw [show ((0 : Int32).toInt64) = (0 : Int64) from by decide] at pre709
  have pre710 : ∀ t, oS p e below m T707 86 #[rv x0, rv w_I4, iv 0] [(.long ((2097152 : Int64) ||| (0 : Int64)))] t → oT p e below s₁ (entryFrame m #[(.ref x0), (.ref w_I4)] 3) t := by
    intro t kt
    refine pre709 t ?_
    show oS p e below m T707 85 #[rv x0, rv w_I4, iv 0] [(.long 0), (.long 2097152)] _
    refine XS.lor X707.here hx rfl (hb hby de_85) rfl ?_
    exact kt
  rw [show ((2097152 : Int64) ||| (0 : Int64)) = (2097152 : Int64) from by decide] at pre710
  obtain ⟨fs, hr, hrun, hended, hW, hsame⟩ := X707.leave (v := some (.long 2097152)) (fun h => by rw [Bd.returns] at h; cases h)
  refine ⟨_, _, pre710 _ ?_, hrun, hended, _, _, rfl, ?_, ⟨_, rfl⟩, hW, hsame.mono (by decide) (by decide)⟩
  · show oS p e below m T707 86 #[rv x0, rv w_I4, iv 0] [(.long 2097152)] _
    jvm_step X707.here [X707.here.top, hx, (hb hby de_86), X707.method', Bd.returns, narrow]
    first | (intro acts; rw [hr _ acts rfl rfl rfl]) | rw [hr _ _ rfl rfl rfl]
    exact Steps.refl _
  · show Q_rm_take_36 Z x0 x1 x2 x3 kc0 kc1 kc2 w_I4 h0 n0 _ T707.heap _
    rw [e707]
    exact ⟨rfl, N706, K706, E_x0, F_x0_requests, F_x0_sequences, F_x0_free, F_x0_freeCount, F_x0_lastSequence, V_x1, V_x2⟩
theorem ef_rm_get_38 (m : MethodId) (x0 : Addr) : entryFrame m #[(.ref x0), (.long 1048576)] 7 = mkF m 0 (oL1 x0) [] := by first | (simp [entryFrame, mkF, argsToLocals, Value.category]; done) | rfl
def Q_rm_get_38 (Z : State) (x0 : Addr) (x1 : Addr) (x2 : Addr) (kc0 : ClassId) (kc1 : ClassId) (h0 : Heap) (n0 : Nat) (v : Option Value) (h : Heap) (L : List Loc) : Prop := v = some .null ∧ Fr n0 L ∧ h = h0
set_option maxRecDepth 65536 in
set_option maxHeartbeats 40000000 in
theorem rm_get_38 (l : Launch) (Z : State) (a0 : Array Value) (hw : ∀ d ∈ tables_1, d.before a0 Z = true) (ws : List Jvm.Cond) (x0 : Addr) (x1 : Addr) (x2 : Addr) (kc0 : ClassId) (kc1 : ClassId) (h0 : Heap) (n0 : Nat) (O0 : Old Z n0 h0) (F_x0_requests : Fld Z h0 x0 oc8 "requests" "[Ljava/lang/Object;" (.ref x1)) (F_x0_sequences : Fld Z h0 x0 oc8 "sequences" "[J" (.ref x2)) (V_x1 : Arv Z h0 x1 kc0 (.object oc9) (3 : Int32) [.null, .null, .null] .null) (V_x2 : Arv Z h0 x2 kc1 .long (3 : Int32) [(.long 0), (.long 0), (.long 0)] (.long 0))  :
    oM l oy6 prog_29_method_5_code 7 (some (.object oc9)) ws ({ frames := 0, cells := 0, slots := 0, locals := 0 } : Room) Z #[(.ref x0), (.long 1048576)] h0 (Q_rm_get_38 Z x0 x1 x2 kc0 kc1 h0 n0) := by
  refine MetFree.of_bodySF (plainFor_of_name pn_com_example_wend_wend_Slots) hisR ?_
  intro p e s m args below meth c s₁ Bd hml0 hP hK
  obtain ⟨rfl, hZ, hh⟩ := hP
  have hx := Bd.exec
  have hby := Bd.bytes
  have hml : c.maxLocals = 7 := hml0
  have hown : s.vm.findClass oc8 = some m.cls := findClass_of_methodNamed Bd.named
  have hnm := (name_of_methodNamed Bd.named Bd.method).1
  have X0 : Stand p l e ({ frames := 0, cells := 0, slots := 0, locals := 0 } : Room) s m #[(.ref x0), (.long 1048576)] below meth c s₁ [] 0 0 := Stand.of_body Bd
  have e0 : s₁.heap = h0 := by rw [← hh, Bd.state]; rfl
  have N0 := Fr.nil n0
  have pre0 : ∀ t, oS p e below m s₁ 0 (oL1 x0) [] t → oT p e below s₁ (entryFrame m #[(.ref x0), (.long 1048576)] 7) t := fun t k => castTop (ef_rm_get_38 m x0) k
  have K0 := Keep.refl h0 []
  have pre722 : ∀ t, oS p e below m s₁ 5 (oL1 x0) [(.long ((1048576 : Int64) &&& (1048575 : Int64)))] t → oT p e below s₁ (entryFrame m #[(.ref x0), (.long 1048576)] 7) t := by
    intro t kt
    refine pre0 t ?_
    show oS p e below m s₁ 0 (oL1 x0) [] _
    refine XS.lloadN X0.here hx rfl (hb hby df_0) rfl ?_
    show oS p e below m s₁ 1 (oL1 x0) [(.long 1048576)] _
    refine X0.ldc2Long hx hown (mvT hZ (own_w hw 57 rfl)) (g := (mkF m 1 (oL1 x0) [(.long 1048576)])) rfl (hb hby df_1) _ ?_
    show oS p e below m s₁ 4 (oL1 x0) [(.long 1048575), (.long 1048576)] _
    refine XS.land X0.here hx rfl (hb hby df_4) rfl ?_
    exact kt
  rw [show ((1048576 : Int64) &&& (1048575 : Int64)) = (0 : Int64) from by decide] at pre722
  have pre723 : ∀ t, oS p e below m s₁ 6 (oL1 x0) [(.int ((0 : Int64).toInt32))] t → oT p e below s₁ (entryFrame m #[(.ref x0), (.long 1048576)] 7) t := by
    intro t kt
    refine pre722 t ?_
    show oS p e below m s₁ 5 (oL1 x0) [(.long 0)] _
    refine XS.l2i X0.here hx rfl (hb hby df_5) rfl ?_
    exact kt
  rw [show ((0 : Int64).toInt32) = (0 : Int32) from by decide] at pre723
  have pre724 : ∀ t, oS p e below m s₁ 11 (oL4 x0) [(.long (((1048576 : Int64).toUInt64 >>> ((20 : Int32) &&& 0x3f).toInt64.toUInt64).toInt64))] t → oT p e below s₁ (entryFrame m #[(.ref x0), (.long 1048576)] 7) t := by
    intro t kt
    refine pre723 t ?_
    show oS p e below m s₁ 6 (oL1 x0) [(.int 0)] _
    refine XS.istoreN X0.here hx rfl (hb hby df_6) rfl (l' := (oL4 x0)) rfl ?_
    refine XS.lloadN X0.here hx rfl (hb hby df_7) rfl ?_
    show oS p e below m s₁ 8 (oL4 x0) [(.long 1048576)] _
    refine XS.bipush X0.here hx rfl (hb hby df_8) ?_
    refine XS.lushr X0.here hx rfl (hb hby df_10) rfl ?_
    exact kt
  rw [show (((1048576 : Int64).toUInt64 >>> ((20 : Int32) &&& 0x3f).toInt64.toUInt64).toInt64) = (1 : Int64) from by decide] at pre724
  obtain ⟨T725, X725, e725, st725⟩ := getF X0 hx hZ hown (host := "") (Or.inl (own_w hw 16 rfl)) Via.refl e0 F_x0_requests (g := (mkF m 15 (oL0 x0) [(.ref x0), (.int 0)])) rfl rfl (hb hby df_15)
  have vt726 := V_x1
  obtain ⟨cl726, Ar726, q726, S726, Ng726, Ha726, G726⟩ := vt726
  obtain ⟨T728, X728, e728, st728⟩ := getF X725 hx hZ hown (host := "") (Or.inl (own_w hw 19 rfl)) Via.refl e725 F_x0_sequences (g := (mkF m 23 (oL0 x0) [(.ref x0)])) rfl rfl (hb hby df_23)
  have vt729 := V_x2
  obtain ⟨cl729, Ar729, q729, S729, Ng729, Ha729, G729⟩ := vt729
  have hin729 : ¬ ((0 : Int32) < 0 ∨ cl729.slots.size ≤ ((0 : Int32)).toNatClampNeg) := inb_of S729 ⟨by decide, by decide⟩
  have hat729 : cl729.slots[((0 : Int32)).toNatClampNeg]? = some (.long 0) := Ha729.at hin729 rfl
  have pre730 : ∀ t, oS p e below m T728 31 (oL0 x0) [(.int (lcmpW (0 : Int64) (1 : Int64)))] t → oT p e below s₁ (entryFrame m #[(.ref x0), (.long 1048576)] 7) t := by
    intro t kt
    refine pre724 t ?_
    show oS p e below m s₁ 11 (oL4 x0) [(.long 1)] _
    refine XS.lstore X0.here hx rfl (hb hby df_11) rfl (l' := (oL0 x0)) rfl ?_
    refine XS.iloadN X0.here hx rfl (hb hby df_13) rfl ?_
    show oS p e below m s₁ 14 (oL0 x0) [(.int 0)] _
    refine XS.aloadN X0.here hx rfl (hb hby df_14) rfl rfl ?_
    show oS p e below m s₁ 15 (oL0 x0) [(.ref x0), (.int 0)] _
    refine st725 _ ?_
    show oS p e below m T725 18 (oL0 x0) [(.ref x1), (.int 0)] _
    refine X725.arraylength hx (by rw [e725]; exact Ar726.1) (State.isArrayOf_alike hZ.alike Ar726.2.1) (g := (mkF m 18 (oL0 x0) [(.ref x1), (.int 0)])) rfl rfl (hb hby df_18) _ ?_
    rw [len_of S726 Ng726]
    show oS p e below m T725 19 (oL0 x0) [(.int 3), (.int 0)] _
    refine XS.icmpNo X725.here hx rfl (hb hby df_19) rfl (tlt (by decide : (0 : Int32) < (3 : Int32))).2.1 ?_
    refine XS.aloadN X725.here hx rfl (hb hby df_22) rfl rfl ?_
    show oS p e below m T725 23 (oL0 x0) [(.ref x0)] _
    refine st728 _ ?_
    show oS p e below m T728 26 (oL0 x0) [(.ref x2)] _
    refine XS.iloadN X728.here hx rfl (hb hby df_26) rfl ?_
    show oS p e below m T728 27 (oL0 x0) [(.int 0), (.ref x2)] _
    refine X728.laload hx (j := (0 : Int32)) (v := (.long 0)) (by rw [e728]; exact Ar729.1) (State.isArrayOf_alike hZ.alike Ar729.2.1) Ar729.2.2 hin729 hat729 (g := (mkF m 27 (oL0 x0) [(.int 0), (.ref x2)])) rfl rfl (hb hby df_27) _ ?_
    show oS p e below m T728 28 (oL0 x0) [(.long 0)] _
    refine XS.lload X728.here hx rfl (hb hby df_28) rfl ?_
    refine XS.lcmp X728.here hx rfl (hb hby df_30) rfl ?_
    exact kt
  rw [show (lcmpW (0 : Int64) (1 : Int64)) = (-1 : Int32) from by decide] at pre730
  have pre733 : ∀ t, oS p e below m T728 56 (oL12 x0) [.null] t → oT p e below s₁ (entryFrame m #[(.ref x0), (.long 1048576)] 7) t := by
    intro t kt
    refine pre730 t ?_
    show oS p e below m T728 31 (oL0 x0) [(.int (-1 : Int32))] _
    refine XS.ifYes X728.here hx rfl (pc0 := 31) (pc' := 38) rfl (hb hby df_31) rfl ((if0 _ _).trans (feq (by decide : ¬ ((-1 : Int32) = (0 : Int32)))).2) (by decide) (by decide) ?_
    refine XS.iconst X728.here hx rfl (hb hby df_38) ?_
    show oS p e below m T728 39 (oL0 x0) [(.int 0)] _
    refine XS.istore X728.here hx rfl (hb hby df_39) rfl (l' := (oL12 x0)) rfl ?_
    refine XS.iload X728.here hx rfl (hb hby df_41) rfl ?_
    show oS p e below m T728 43 (oL12 x0) [(.int 0)] _
    refine XS.ifYes X728.here hx rfl (pc0 := 43) (pc' := 55) rfl (hb hby df_43) rfl ((if0 _ _).trans (teq (by decide : (0 : Int32) = (0 : Int32))).1) (by decide) (by decide) ?_
    refine XS.aconstNull X728.here hx rfl (hb hby df_55) ?_
    exact kt
  obtain ⟨fs, hr, hrun, hended, hW, hsame⟩ := X728.leave (v := some .null) (fun h => by rw [Bd.returns] at h; cases h)
  refine ⟨_, _, pre733 _ ?_, hrun, hended, _, _, rfl, ?_, ⟨_, rfl⟩, hW, hsame.mono (by decide) (by decide)⟩
  · show oS p e below m T728 56 (oL12 x0) [.null] _
    jvm_step X728.here [X728.here.top, hx, (hb hby df_56), X728.method', Bd.returns, Value.isRef, FieldType.isReference]
    first | (intro acts; rw [hr _ acts rfl rfl rfl]) | rw [hr _ _ rfl rfl rfl]
    exact Steps.refl _
  · show Q_rm_get_38 Z x0 x1 x2 kc0 kc1 h0 n0 _ T728.heap _
    rw [e728]
    exact ⟨rfl, N0, rfl⟩
theorem ef_rm_release_37 (m : MethodId) (x0 : Addr) : entryFrame m #[(.ref x0), (.long 1048576)] 4 = mkF m 0 (oL3 x0) [] := by first | (simp [entryFrame, mkF, argsToLocals, Value.category]; done) | rfl
def Q_rm_release_37 (Z : State) (x0 : Addr) (x1 : Addr) (x2 : Addr) (x3 : Addr) (kc0 : ClassId) (kc1 : ClassId) (h0 : Heap) (n0 : Nat) (v : Option Value) (h : Heap) (L : List Loc) : Prop := v = some .null ∧ Fr n0 L ∧ h = h0
set_option maxRecDepth 65536 in
set_option maxHeartbeats 40000000 in
theorem rm_release_37 (l : Launch) (Z : State) (a0 : Array Value) (hw : ∀ d ∈ tables_1, d.before a0 Z = true) (ws : List Jvm.Cond) (x0 : Addr) (x1 : Addr) (x2 : Addr) (x3 : Addr) (kc0 : ClassId) (kc1 : ClassId) (h0 : Heap) (n0 : Nat) (O0 : Old Z n0 h0) (E_x0 : Exa Z h0 x0 oc8) (F_x0_requests : Fld Z h0 x0 oc8 "requests" "[Ljava/lang/Object;" (.ref x1)) (F_x0_sequences : Fld Z h0 x0 oc8 "sequences" "[J" (.ref x2)) (V_x1 : Arv Z h0 x1 kc0 (.object oc9) (3 : Int32) [.null, .null, .null] .null) (V_x2 : Arv Z h0 x2 kc1 .long (3 : Int32) [(.long 0), (.long 0), (.long 0)] (.long 0)) (ne_x0_x1 : x0 ≠ x1) (ne_x0_x2 : x0 ≠ x2) (ne_x0_x3 : x0 ≠ x3) (ne_x1_x2 : x1 ≠ x2) (ne_x1_x3 : x1 ≠ x3) (ne_x2_x3 : x2 ≠ x3)  :
    oM l oy5 prog_29_method_6_code 4 (some (.object oc9)) ws ({ frames := 1, cells := 0, slots := 0, locals := 18 } : Room) Z #[(.ref x0), (.long 1048576)] h0 (Q_rm_release_37 Z x0 x1 x2 x3 kc0 kc1 h0 n0) := by
  refine MetFree.of_bodySF (plainFor_of_name pn_com_example_wend_wend_Slots) hisR ?_
  intro p e s m args below meth c s₁ Bd hml0 hP hK
  obtain ⟨rfl, hZ, hh⟩ := hP
  have hx := Bd.exec
  have hby := Bd.bytes
  have hml : c.maxLocals = 4 := hml0
  have hown : s.vm.findClass oc8 = some m.cls := findClass_of_methodNamed Bd.named
  have hnm := (name_of_methodNamed Bd.named Bd.method).1
  have X0 : Stand p l e ({ frames := 1, cells := 0, slots := 0, locals := 18 } : Room) s m #[(.ref x0), (.long 1048576)] below meth c s₁ [] 0 0 := Stand.of_body Bd
  have e0 : s₁.heap = h0 := by rw [← hh, Bd.state]; rfl
  have N0 := Fr.nil n0
  have pre0 : ∀ t, oS p e below m s₁ 0 (oL3 x0) [] t → oT p e below s₁ (entryFrame m #[(.ref x0), (.long 1048576)] 4) t := fun t k => castTop (ef_rm_release_37 m x0) k
  have K0 := Keep.refl h0 []
  obtain ⟨cq721, kq721, q721a, q721b, q721c⟩ := isOf hZ e0 E_x0
  obtain ⟨_, _, ⟨T721, L721, k721, n721⟩, -, X721, ⟨Lc721, hQ721, l721, y721, z721⟩, st721⟩ := X0.virtualBack hx (y := oy6) (z := oy6) hown (mvT hZ (own_w hw 52 rfl)) (mvT hZ (own_w hw 53 rfl)) (notFace_of_selects (args := #[]) (mvT hZ (own_w hw 55 rfl))) (mvT hZ (own_w hw 55 rfl)) (mvT hZ (own_w hw 54 rfl)) (by decide) (backOf (W := 0) (rm_get_38 l Z a0 hw [] x0 x1 x2 kc0 kc1 h0 n0 O0 F_x0_requests F_x0_sequences V_x1 V_x2 ) hZ (own_w hw 56 rfl) (own_w hw 6 rfl) (by decide) (by decide)) q721a q721c (g := (mkF m 2 (oL3 x0) [(.long 1048576), (.ref x0)])) rfl (by rw [hml]; rfl) (Steps.refl _) (argsL := [(.long 1048576)]) (rest := []) (lenOf pd__J_Ljava_lang_Object_ rfl) rfl (by show 2 * 0 + _ ≤ _; exact Nat.le_of_eq rfl) (hb hby dg_2) (fun _ _ => ⟨rfl, e0, (by decide : 0 + 0 ≤ _), (by decide : 0 + 0 ≤ _)⟩)
  dsimp only [Pt.U, Pt.locs, Pt.cells, Pt.slots] at X721 l721 y721 z721 st721 hQ721
  subst l721 y721 z721
  obtain ⟨rfl, N721q, e721⟩ := hQ721
  have N721 := Fr.app N0 N721q
  have pre734 : ∀ t, oS p e below m T721 21 (oL13 x0) [.null] t → oT p e below s₁ (entryFrame m #[(.ref x0), (.long 1048576)] 4) t := by
    intro t kt
    refine pre0 t ?_
    show oS p e below m s₁ 0 (oL3 x0) [] _
    refine XS.aloadN X0.here hx rfl (hb hby dg_0) rfl rfl ?_
    refine XS.lloadN X0.here hx rfl (hb hby dg_1) rfl ?_
    show oS p e below m s₁ 2 (oL3 x0) [(.long 1048576), (.ref x0)] _
    refine st721.trans ?_
    show oS p e below m T721 5 (oL3 x0) [.null] _
    refine XS.astoreN X721.here hx rfl (hb hby dg_5) rfl rfl (l' := (oL13 x0)) rfl ?_
    refine XS.aloadN X721.here hx rfl (hb hby dg_6) rfl rfl ?_
    show oS p e below m T721 7 (oL13 x0) [.null] _
    refine XS.ifnullYes X721.here hx rfl (pc0 := 7) (pc' := 20) rfl (hb hby dg_7) rfl (by decide) (by decide) ?_
    refine XS.aloadN X721.here hx rfl (hb hby dg_20) rfl rfl ?_
    exact kt
  obtain ⟨fs, hr, hrun, hended, hW, hsame⟩ := X721.leave (v := some .null) (fun h => by rw [Bd.returns] at h; cases h)
  refine ⟨_, _, pre734 _ ?_, hrun, hended, _, _, rfl, ?_, ⟨_, rfl⟩, hW, hsame.mono (by decide) (by decide)⟩
  · show oS p e below m T721 21 (oL13 x0) [.null] _
    jvm_step X721.here [X721.here.top, hx, (hb hby dg_21), X721.method', Bd.returns, Value.isRef, FieldType.isReference]
    first | (intro acts; rw [hr _ acts rfl rfl rfl]) | rw [hr _ _ rfl rfl rfl]
    exact Steps.refl _
  · show Q_rm_release_37 Z x0 x1 x2 x3 kc0 kc1 h0 n0 _ T721.heap _
    rw [e721]
    exact ⟨rfl, N721, rfl⟩
theorem ef_rm_take_39 (m : MethodId) (x0 : Addr) (w_I2 : Addr) : entryFrame m #[(.ref x0), (.ref w_I2)] 3 = mkF m 0 #[rv x0, rv w_I2, .unset] [] := by first | (simp [entryFrame, mkF, argsToLocals, Value.category]; done) | rfl
def Q_rm_take_39 (Z : State) (x0 : Addr) (x1 : Addr) (x2 : Addr) (x3 : Addr) (kc0 : ClassId) (kc1 : ClassId) (kc2 : ClassId) (w_I2 : Addr) (w_I1 : Addr) (h0 : Heap) (n0 : Nat) (v : Option Value) (h : Heap) (L : List Loc) : Prop := v = some (.long 2097153) ∧ Fr n0 L ∧ Keep h0 h [x0, x1, x2] ∧ Exa Z h x0 oc8 ∧ Fld Z h x0 oc8 "requests" "[Ljava/lang/Object;" (.ref x1) ∧ Fld Z h x0 oc8 "sequences" "[J" (.ref x2) ∧ Fld Z h x0 oc8 "free" "[I" (.ref x3) ∧ Fld Z h x0 oc8 "freeCount" "I" (.int 1) ∧ Fld Z h x0 oc8 "lastSequence" "J" (.long 2) ∧ Arv Z h x1 kc0 (.object oc9) (3 : Int32) [(.ref w_I1), (.ref w_I2), .null] .null ∧ Arv Z h x2 kc1 .long (3 : Int32) [(.long 1), (.long 2), (.long 0)] (.long 0)
set_option maxRecDepth 65536 in
set_option maxHeartbeats 40000000 in
theorem rm_take_39 (l : Launch) (Z : State) (a0 : Array Value) (hw : ∀ d ∈ tables_1, d.before a0 Z = true) (ws : List Jvm.Cond) (x0 : Addr) (x1 : Addr) (x2 : Addr) (x3 : Addr) (kc0 : ClassId) (kc1 : ClassId) (kc2 : ClassId) (w_I2 : Addr) (w_I1 : Addr) (h0 : Heap) (n0 : Nat) (O0 : Old Z n0 h0) (E_x0 : Exa Z h0 x0 oc8) (F_x0_requests : Fld Z h0 x0 oc8 "requests" "[Ljava/lang/Object;" (.ref x1)) (F_x0_sequences : Fld Z h0 x0 oc8 "sequences" "[J" (.ref x2)) (F_x0_free : Fld Z h0 x0 oc8 "free" "[I" (.ref x3)) (F_x0_freeCount : Fld Z h0 x0 oc8 "freeCount" "I" (.int 2)) (F_x0_lastSequence : Fld Z h0 x0 oc8 "lastSequence" "J" (.long 1)) (ge_x0 : n0 ≤ x0) (O_x1 : Ovr Z kc0 oc9) (V_x1 : Arv Z h0 x1 kc0 (.object oc9) (3 : Int32) [(.ref w_I1), .null, .null] .null) (ge_x1 : n0 ≤ x1) (V_x2 : Arv Z h0 x2 kc1 .long (3 : Int32) [(.long 1), (.long 0), (.long 0)] (.long 0)) (ge_x2 : n0 ≤ x2) (V_x3 : Arv Z h0 x3 kc2 .int (3 : Int32) [(.int 2), (.int 1), (.int 0)] (.int 0)) (ge_x3 : n0 ≤ x3) (ne_x0_x1 : x0 ≠ x1) (ne_x0_x2 : x0 ≠ x2) (ne_x0_x3 : x0 ≠ x3) (ne_x1_x2 : x1 ≠ x2) (ne_x1_x3 : x1 ≠ x3) (ne_x2_x3 : x2 ≠ x3) (E_I2 : Exa Z Z.heap w_I2 oc10) :
    oM l oy4 prog_29_method_4_code 3 (some .long) ws ({ frames := 0, cells := 0, slots := 0, locals := 0 } : Room) Z #[(.ref x0), (.ref w_I2)] h0 (Q_rm_take_39 Z x0 x1 x2 x3 kc0 kc1 kc2 w_I2 w_I1 h0 n0) := by
  refine MetFree.of_bodySF (plainFor_of_name pn_com_example_wend_wend_Slots) hisR ?_
  intro p e s m args below meth c s₁ Bd hml0 hP hK
  obtain ⟨rfl, hZ, hh⟩ := hP
  have hx := Bd.exec
  have hby := Bd.bytes
  have hml : c.maxLocals = 3 := hml0
  have hown : s.vm.findClass oc8 = some m.cls := findClass_of_methodNamed Bd.named
  have hnm := (name_of_methodNamed Bd.named Bd.method).1
  have X0 : Stand p l e ({ frames := 0, cells := 0, slots := 0, locals := 0 } : Room) s m #[(.ref x0), (.ref w_I2)] below meth c s₁ [] 0 0 := Stand.of_body Bd
  have e0 : s₁.heap = h0 := by rw [← hh, Bd.state]; rfl
  have N0 := Fr.nil n0
  have pre0 : ∀ t, oS p e below m s₁ 0 #[rv x0, rv w_I2, .unset] [] t → oT p e below s₁ (entryFrame m #[(.ref x0), (.ref w_I2)] 3) t := fun t k => castTop (ef_rm_take_39 m x0 w_I2) k
  have K0 := Keep.refl h0 [x0, x1, x2]
  obtain ⟨T747, X747, e747, st747⟩ := getF X0 hx hZ hown (host := "") (Or.inl (own_w hw 24 rfl)) Via.refl e0 F_x0_freeCount (g := (mkF m 1 #[rv x0, rv w_I2, .unset] [(.ref x0)])) rfl rfl (hb hby de_1)
  obtain ⟨T749, X749, e749, st749⟩ := getF X747 hx hZ hown (host := "") (Or.inl (own_w hw 22 rfl)) Via.refl e747 F_x0_free (g := (mkF m 18 #[rv x0, rv w_I2, .unset] [(.ref x0)])) rfl rfl (hb hby de_18)
  obtain ⟨T750, X750, e750, st750⟩ := getF X749 hx hZ hown (host := "") (Or.inl (own_w hw 24 rfl)) Via.refl e749 F_x0_freeCount (g := (mkF m 23 #[rv x0, rv w_I2, .unset] [(.ref x0), (.ref x0), (.ref x3)])) rfl rfl (hb hby de_23)
  have pre751 : ∀ t, oS p e below m T750 28 #[rv x0, rv w_I2, .unset] [(.int ((2 : Int32) - (1 : Int32))), (.ref x0), (.ref x3)] t → oT p e below s₁ (entryFrame m #[(.ref x0), (.ref w_I2)] 3) t := by
    intro t kt
    refine pre0 t ?_
    show oS p e below m s₁ 0 #[rv x0, rv w_I2, .unset] [] _
    refine XS.aloadN X0.here hx rfl (hb hby de_0) rfl rfl ?_
    show oS p e below m s₁ 1 #[rv x0, rv w_I2, .unset] [(.ref x0)] _
    refine st747 _ ?_
    show oS p e below m T747 4 #[rv x0, rv w_I2, .unset] [(.int 2)] _
    refine XS.ifYes X747.here hx rfl (pc0 := 4) (pc' := 17) rfl (hb hby de_4) rfl ((if0 _ _).trans (feq (by decide : ¬ ((2 : Int32) = (0 : Int32)))).2) (by decide) (by decide) ?_
    refine XS.aloadN X747.here hx rfl (hb hby de_17) rfl rfl ?_
    show oS p e below m T747 18 #[rv x0, rv w_I2, .unset] [(.ref x0)] _
    refine st749 _ ?_
    show oS p e below m T749 21 #[rv x0, rv w_I2, .unset] [(.ref x3)] _
    refine XS.aloadN X749.here hx rfl (hb hby de_21) rfl rfl ?_
    refine XS.dup X749.here hx rfl (hb hby de_22) rfl rfl ?_
    show oS p e below m T749 23 #[rv x0, rv w_I2, .unset] [(.ref x0), (.ref x0), (.ref x3)] _
    refine st750 _ ?_
    show oS p e below m T750 26 #[rv x0, rv w_I2, .unset] [(.int 2), (.ref x0), (.ref x3)] _
    refine XS.iconst X750.here hx rfl (hb hby de_26) ?_
    refine XS.isub X750.here hx rfl (hb hby de_27) rfl ?_
    exact kt
  rw [show ((2 : Int32) - (1 : Int32)) = (1 : Int32) from by decide] at pre751
  obtain ⟨T752, h752, X752, e752, W752, st752⟩ := putF X750 hx hZ hown (host := "") (Or.inl (own_w hw 24 rfl)) Via.refl e750 F_x0_freeCount E_x0 (Or.inl (own_w hw 25 rfl)) (own_w hw 5 rfl) (ty := .int) (by decide) rfl rfl (g := (mkF m 29 #[rv x0, rv w_I2, .unset] [(.int 1), (.ref x0), (.int 1), (.ref x3)])) rfl rfl (hb hby de_29)
  have F_x0_freeCount := F_x0_freeCount.same W752
  have E_x0 := E_x0.wr W752
  have F_x0_requests := F_x0_requests.other W752 (Or.inr (osn_Slots_requests_freeCount hw))
  have F_x0_sequences := F_x0_sequences.other W752 (Or.inr (osn_Slots_sequences_freeCount hw))
  have F_x0_free := F_x0_free.other W752 (Or.inr (osn_Slots_free_freeCount hw))
  have F_x0_lastSequence := F_x0_lastSequence.other W752 (Or.inr (osn_Slots_lastSequence_freeCount hw))
  have V_x1 := V_x1.other W752 (Ne.symm ne_x0_x1)
  have V_x2 := V_x2.other W752 (Ne.symm ne_x0_x2)
  have V_x3 := V_x3.other W752 (Ne.symm ne_x0_x3)
  have O752 := O0.wr W752 ge_x0
  have K752 := K0.wr W752 (Or.inl (List.mem_of_getElem? (i := 0) rfl))
  have N752 := Fr.snoc X752 N0 ge_x0
  have vt753 := V_x3
  obtain ⟨cl753, Ar753, q753, S753, Ng753, Ha753, G753⟩ := vt753
  have hin753 : ¬ ((1 : Int32) < 0 ∨ cl753.slots.size ≤ ((1 : Int32)).toNatClampNeg) := inb_of S753 ⟨by decide, by decide⟩
  have hat753 : cl753.slots[((1 : Int32)).toNatClampNeg]? = some (.int 1) := Ha753.at hin753 rfl
  obtain ⟨T754, X754, e754, st754⟩ := getF X752 hx hZ hown (host := "") (Or.inl (own_w hw 43 rfl)) Via.refl e752 F_x0_lastSequence (g := (mkF m 36 #[rv x0, rv w_I2, iv 1] [(.ref x0), (.ref x0)])) rfl rfl (hb hby de_36)
  have pre755 : ∀ t, oS p e below m T754 43 #[rv x0, rv w_I2, iv 1] [(.int (lcmpW (1 : Int64) (17592186044415 : Int64))), (.ref x0)] t → oT p e below s₁ (entryFrame m #[(.ref x0), (.ref w_I2)] 3) t := by
    intro t kt
    refine pre751 t ?_
    show oS p e below m T750 28 #[rv x0, rv w_I2, .unset] [(.int 1), (.ref x0), (.ref x3)] _
    refine XS.dupX1 X750.here hx rfl (hb hby de_28) rfl rfl rfl ?_
    show oS p e below m T750 29 #[rv x0, rv w_I2, .unset] [(.int 1), (.ref x0), (.int 1), (.ref x3)] _
    refine st752 _ ?_
    show oS p e below m T752 32 #[rv x0, rv w_I2, .unset] [(.int 1), (.ref x3)] _
    refine X752.iaload hx (j := (1 : Int32)) (v := (.int 1)) (by rw [e752]; exact Ar753.1) (State.isArrayOf_alike hZ.alike Ar753.2.1) Ar753.2.2 hin753 hat753 (g := (mkF m 32 #[rv x0, rv w_I2, .unset] [(.int 1), (.ref x3)])) rfl rfl (hb hby de_32) _ ?_
    show oS p e below m T752 33 #[rv x0, rv w_I2, .unset] [(.int 1)] _
    refine XS.istoreN X752.here hx rfl (hb hby de_33) rfl (l' := #[rv x0, rv w_I2, iv 1]) rfl ?_
    refine XS.aloadN X752.here hx rfl (hb hby de_34) rfl rfl ?_
    show oS p e below m T752 35 #[rv x0, rv w_I2, iv 1] [(.ref x0)] _
    refine XS.aloadN X752.here hx rfl (hb hby de_35) rfl rfl ?_
    show oS p e below m T752 36 #[rv x0, rv w_I2, iv 1] [(.ref x0), (.ref x0)] _
    refine st754 _ ?_
    show oS p e below m T754 39 #[rv x0, rv w_I2, iv 1] [(.long 1), (.ref x0)] _
    refine X754.ldc2Long hx hown (mvT hZ (own_w hw 45 rfl)) (g := (mkF m 39 #[rv x0, rv w_I2, iv 1] [(.long 1), (.ref x0)])) rfl (hb hby de_39) _ ?_
    show oS p e below m T754 42 #[rv x0, rv w_I2, iv 1] [(.long 17592186044415), (.long 1), (.ref x0)] _
    refine XS.lcmp X754.here hx rfl (hb hby de_42) rfl ?_
    exact kt
  rw [show (lcmpW (1 : Int64) (17592186044415 : Int64)) = (-1 : Int32) from by decide] at pre755
  obtain ⟨T757, X757, e757, st757⟩ := getF X754 hx hZ hown (host := "") (Or.inl (own_w hw 43 rfl)) Via.refl e754 F_x0_lastSequence (g := (mkF m 51 #[rv x0, rv w_I2, iv 1] [(.ref x0), (.ref x0)])) rfl rfl (hb hby de_51)
  have pre758 : ∀ t, oS p e below m T757 56 #[rv x0, rv w_I2, iv 1] [(.long ((1 : Int64) + (1 : Int64))), (.ref x0)] t → oT p e below s₁ (entryFrame m #[(.ref x0), (.ref w_I2)] 3) t := by
    intro t kt
    refine pre755 t ?_
    show oS p e below m T754 43 #[rv x0, rv w_I2, iv 1] [(.int (-1 : Int32)), (.ref x0)] _
    refine XS.ifYes X754.here hx rfl (pc0 := 43) (pc' := 50) rfl (hb hby de_43) rfl ((if0 _ _).trans (feq (by decide : ¬ ((-1 : Int32) = (0 : Int32)))).2) (by decide) (by decide) ?_
    refine XS.aloadN X754.here hx rfl (hb hby de_50) rfl rfl ?_
    show oS p e below m T754 51 #[rv x0, rv w_I2, iv 1] [(.ref x0), (.ref x0)] _
    refine st757 _ ?_
    show oS p e below m T757 54 #[rv x0, rv w_I2, iv 1] [(.long 1), (.ref x0)] _
    refine XS.lconst X757.here hx rfl (hb hby de_54) ?_
    refine XS.ladd X757.here hx rfl (hb hby de_55) rfl ?_
    exact kt
  rw [show ((1 : Int64) + (1 : Int64)) = (2 : Int64) from by decide] at pre758
  obtain ⟨T759, h759, X759, e759, W759, st759⟩ := putF X757 hx hZ hown (host := "") (Or.inl (own_w hw 43 rfl)) Via.refl e757 F_x0_lastSequence E_x0 (Or.inl (own_w hw 44 rfl)) (own_w hw 5 rfl) (ty := .long) (by decide) rfl rfl (g := (mkF m 56 #[rv x0, rv w_I2, iv 1] [(.long 2), (.ref x0)])) rfl rfl (hb hby de_56)
  have F_x0_lastSequence := F_x0_lastSequence.same W759
  have E_x0 := E_x0.wr W759
  have F_x0_requests := F_x0_requests.other W759 (Or.inr (osn_Slots_requests_lastSequence hw))
  have F_x0_sequences := F_x0_sequences.other W759 (Or.inr (osn_Slots_sequences_lastSequence hw))
  have F_x0_free := F_x0_free.other W759 (Or.inr (osn_Slots_free_lastSequence hw))
  have F_x0_freeCount := F_x0_freeCount.other W759 (Or.inr (osn_Slots_freeCount_lastSequence hw))
  have V_x1 := V_x1.other W759 (Ne.symm ne_x0_x1)
  have V_x2 := V_x2.other W759 (Ne.symm ne_x0_x2)
  have V_x3 := V_x3.other W759 (Ne.symm ne_x0_x3)
  have O759 := O752.wr W759 ge_x0
  have K759 := K752.wr W759 (Or.inl (List.mem_of_getElem? (i := 0) rfl))
  have N759 := Fr.snoc X759 N752 ge_x0
  obtain ⟨T760, X760, e760, st760⟩ := getF X759 hx hZ hown (host := "") (Or.inl (own_w hw 16 rfl)) Via.refl e759 F_x0_requests (g := (mkF m 60 #[rv x0, rv w_I2, iv 1] [(.ref x0)])) rfl rfl (hb hby de_60)
  have vt761 := V_x1
  obtain ⟨cl761, Ar761, q761, S761, Ng761, Ha761, G761⟩ := vt761
  have hin761 : ¬ ((1 : Int32) < 0 ∨ cl761.slots.size ≤ ((1 : Int32)).toNatClampNeg) := inb_of S761 ⟨by decide, by decide⟩
  obtain ⟨T762, h762, X762, e762, W762, st762⟩ := stR X760 hx hZ e760 Ar761 (j := (1 : Int32)) hin761 rfl (Sto.ofV Ar761 q761 O_x1 (Ins.of_exa (E_I2.ext O759.2) (own_w hw 46 rfl))) (g := (mkF m 65 #[rv x0, rv w_I2, iv 1] [(.ref w_I2), (.int 1), (.ref x1)])) rfl rfl (hb hby de_65)
  have V_x1 : Arv Z h762 x1 kc0 (.object oc9) (3 : Int32) [(.ref w_I1), (.ref w_I2), .null] .null := Arv.set Ar761 q761 S761 Ng761 Ha761 G761 rfl W762 1 rfl (Nat.le_of_ble_eq_true rfl)
  have E_x0 := E_x0.wr W762
  have F_x0_requests := F_x0_requests.other W762 (Or.inl ne_x0_x1)
  have F_x0_sequences := F_x0_sequences.other W762 (Or.inl ne_x0_x1)
  have F_x0_free := F_x0_free.other W762 (Or.inl ne_x0_x1)
  have F_x0_freeCount := F_x0_freeCount.other W762 (Or.inl ne_x0_x1)
  have F_x0_lastSequence := F_x0_lastSequence.other W762 (Or.inl ne_x0_x1)
  have V_x2 := V_x2.other W762 (Ne.symm ne_x1_x2)
  have V_x3 := V_x3.other W762 (Ne.symm ne_x1_x3)
  have O762 := O759.wr W762 ge_x1
  have K762 := K759.wr W762 (Or.inl (List.mem_of_getElem? (i := 1) rfl))
  have N762 := Fr.snoc X762 N759 ge_x1
  obtain ⟨T763, X763, e763, st763⟩ := getF X762 hx hZ hown (host := "") (Or.inl (own_w hw 19 rfl)) Via.refl e762 F_x0_sequences (g := (mkF m 67 #[rv x0, rv w_I2, iv 1] [(.ref x0)])) rfl rfl (hb hby de_67)
  obtain ⟨T764, X764, e764, st764⟩ := getF X763 hx hZ hown (host := "") (Or.inl (own_w hw 43 rfl)) Via.refl e763 F_x0_lastSequence (g := (mkF m 72 #[rv x0, rv w_I2, iv 1] [(.ref x0), (.int 1), (.ref x2)])) rfl rfl (hb hby de_72)
  have vt765 := V_x2
  obtain ⟨cl765, Ar765, q765, S765, Ng765, Ha765, G765⟩ := vt765
  have hin765 : ¬ ((1 : Int32) < 0 ∨ cl765.slots.size ≤ ((1 : Int32)).toNatClampNeg) := inb_of S765 ⟨by decide, by decide⟩
  obtain ⟨T766, h766, X766, e766, W766, st766⟩ := stJ X764 hx hZ e764 Ar765 (j := (1 : Int32)) hin765 (g := (mkF m 75 #[rv x0, rv w_I2, iv 1] [(.long 2), (.int 1), (.ref x2)])) rfl rfl (hb hby de_75)
  have V_x2 : Arv Z h766 x2 kc1 .long (3 : Int32) [(.long 1), (.long 2), (.long 0)] (.long 0) := Arv.set Ar765 q765 S765 Ng765 Ha765 G765 rfl W766 1 rfl (Nat.le_of_ble_eq_true rfl)
  have E_x0 := E_x0.wr W766
  have F_x0_requests := F_x0_requests.other W766 (Or.inl ne_x0_x2)
  have F_x0_sequences := F_x0_sequences.other W766 (Or.inl ne_x0_x2)
  have F_x0_free := F_x0_free.other W766 (Or.inl ne_x0_x2)
  have F_x0_freeCount := F_x0_freeCount.other W766 (Or.inl ne_x0_x2)
  have F_x0_lastSequence := F_x0_lastSequence.other W766 (Or.inl ne_x0_x2)
  have V_x1 := V_x1.other W766 ne_x1_x2
  have V_x3 := V_x3.other W766 (Ne.symm ne_x2_x3)
  have O766 := O762.wr W766 ge_x2
  have K766 := K762.wr W766 (Or.inl (List.mem_of_getElem? (i := 2) rfl))
  have N766 := Fr.snoc X766 N762 ge_x2
  obtain ⟨T767, X767, e767, st767⟩ := getF X766 hx hZ hown (host := "") (Or.inl (own_w hw 43 rfl)) Via.refl e766 F_x0_lastSequence (g := (mkF m 77 #[rv x0, rv w_I2, iv 1] [(.ref x0)])) rfl rfl (hb hby de_77)
  have pre768 : ∀ t, oS p e below m T767 83 #[rv x0, rv w_I2, iv 1] [(.long ((2 : Int64) <<< ((20 : Int32) &&& 0x3f).toInt64))] t → oT p e below s₁ (entryFrame m #[(.ref x0), (.ref w_I2)] 3) t := by
    intro t kt
    refine pre758 t ?_
    show oS p e below m T757 56 #[rv x0, rv w_I2, iv 1] [(.long 2), (.ref x0)] _
    refine st759 _ ?_
    show oS p e below m T759 59 #[rv x0, rv w_I2, iv 1] [] _
    refine XS.aloadN X759.here hx rfl (hb hby de_59) rfl rfl ?_
    show oS p e below m T759 60 #[rv x0, rv w_I2, iv 1] [(.ref x0)] _
    refine st760 _ ?_
    show oS p e below m T760 63 #[rv x0, rv w_I2, iv 1] [(.ref x1)] _
    refine XS.iloadN X760.here hx rfl (hb hby de_63) rfl ?_
    refine XS.aloadN X760.here hx rfl (hb hby de_64) rfl rfl ?_
    show oS p e below m T760 65 #[rv x0, rv w_I2, iv 1] [(.ref w_I2), (.int 1), (.ref x1)] _
    refine st762 _ ?_
    show oS p e below m T762 66 #[rv x0, rv w_I2, iv 1] [] _
    refine XS.aloadN X762.here hx rfl (hb hby de_66) rfl rfl ?_
    show oS p e below m T762 67 #[rv x0, rv w_I2, iv 1] [(.ref x0)] _
    refine st763 _ ?_
    show oS p e below m T763 70 #[rv x0, rv w_I2, iv 1] [(.ref x2)] _
    refine XS.iloadN X763.here hx rfl (hb hby de_70) rfl ?_
    refine XS.aloadN X763.here hx rfl (hb hby de_71) rfl rfl ?_
    show oS p e below m T763 72 #[rv x0, rv w_I2, iv 1] [(.ref x0), (.int 1), (.ref x2)] _
    refine st764 _ ?_
    show oS p e below m T764 75 #[rv x0, rv w_I2, iv 1] [(.long 2), (.int 1), (.ref x2)] _
    refine st766 _ ?_
    show oS p e below m T766 76 #[rv x0, rv w_I2, iv 1] [] _
    refine XS.aloadN X766.here hx rfl (hb hby de_76) rfl rfl ?_
    show oS p e below m T766 77 #[rv x0, rv w_I2, iv 1] [(.ref x0)] _
    refine st767 _ ?_
    show oS p e below m T767 80 #[rv x0, rv w_I2, iv 1] [(.long 2)] _
    refine XS.bipush X767.here hx rfl (hb hby de_80) ?_
    refine XS.lshl X767.here hx rfl (hb hby de_82) rfl ?_
    exact kt
  rw [show ((2 : Int64) <<< ((20 : Int32) &&& 0x3f).toInt64) = (2097152 : Int64) from by decide] at pre768
  have pre769 : ∀ t, oS p e below m T767 85 #[rv x0, rv w_I2, iv 1] [(.long ((1 : Int32).toInt64)), (.long 2097152)] t → oT p e below s₁ (entryFrame m #[(.ref x0), (.ref w_I2)] 3) t := by
    intro t kt
    refine pre768 t ?_
    show oS p e below m T767 83 #[rv x0, rv w_I2, iv 1] [(.long 2097152)] _
    refine XS.iloadN X767.here hx rfl (hb hby de_83) rfl ?_
    refine XS.i2l X767.here hx rfl (hb hby de_84) rfl ?_
    exact kt
  rw [show ((1 : Int32).toInt64) = (1 : Int64) from by decide] at pre769
  have pre770 : ∀ t, oS p e below m T767 86 #[rv x0, rv w_I2, iv 1] [(.long ((2097152 : Int64) ||| (1 : Int64)))] t → oT p e below s₁ (entryFrame m #[(.ref x0), (.ref w_I2)] 3) t := by
    intro t kt
    refine pre769 t ?_
    show oS p e below m T767 85 #[rv x0, rv w_I2, iv 1] [(.long 1), (.long 2097152)] _
    refine XS.lor X767.here hx rfl (hb hby de_85) rfl ?_
    exact kt
  rw [show ((2097152 : Int64) ||| (1 : Int64)) = (2097153 : Int64) from by decide] at pre770
  obtain ⟨fs, hr, hrun, hended, hW, hsame⟩ := X767.leave (v := some (.long 2097153)) (fun h => by rw [Bd.returns] at h; cases h)
  refine ⟨_, _, pre770 _ ?_, hrun, hended, _, _, rfl, ?_, ⟨_, rfl⟩, hW, hsame.mono (by decide) (by decide)⟩
  · show oS p e below m T767 86 #[rv x0, rv w_I2, iv 1] [(.long 2097153)] _
    jvm_step X767.here [X767.here.top, hx, (hb hby de_86), X767.method', Bd.returns, narrow]
    first | (intro acts; rw [hr _ acts rfl rfl rfl]) | rw [hr _ _ rfl rfl rfl]
    exact Steps.refl _
  · show Q_rm_take_39 Z x0 x1 x2 x3 kc0 kc1 kc2 w_I2 w_I1 h0 n0 _ T767.heap _
    rw [e767]
    exact ⟨rfl, N766, K766, E_x0, F_x0_requests, F_x0_sequences, F_x0_free, F_x0_freeCount, F_x0_lastSequence, V_x1, V_x2⟩
theorem ef_rm_get_41 (m : MethodId) (x0 : Addr) : entryFrame m #[(.ref x0), (.long 1048576)] 7 = mkF m 0 (oL1 x0) [] := by first | (simp [entryFrame, mkF, argsToLocals, Value.category]; done) | rfl
def Q_rm_get_41 (Z : State) (x0 : Addr) (x1 : Addr) (x2 : Addr) (kc0 : ClassId) (kc1 : ClassId) (w_I1 : Addr) (w_I2 : Addr) (h0 : Heap) (n0 : Nat) (v : Option Value) (h : Heap) (L : List Loc) : Prop := v = some (.ref w_I1) ∧ Fr n0 L ∧ h = h0
set_option maxRecDepth 65536 in
set_option maxHeartbeats 40000000 in
theorem rm_get_41 (l : Launch) (Z : State) (a0 : Array Value) (hw : ∀ d ∈ tables_1, d.before a0 Z = true) (ws : List Jvm.Cond) (x0 : Addr) (x1 : Addr) (x2 : Addr) (kc0 : ClassId) (kc1 : ClassId) (w_I1 : Addr) (w_I2 : Addr) (h0 : Heap) (n0 : Nat) (O0 : Old Z n0 h0) (F_x0_requests : Fld Z h0 x0 oc8 "requests" "[Ljava/lang/Object;" (.ref x1)) (F_x0_sequences : Fld Z h0 x0 oc8 "sequences" "[J" (.ref x2)) (V_x1 : Arv Z h0 x1 kc0 (.object oc9) (3 : Int32) [(.ref w_I1), (.ref w_I2), .null] .null) (V_x2 : Arv Z h0 x2 kc1 .long (3 : Int32) [(.long 1), (.long 2), (.long 0)] (.long 0))  :
    oM l oy6 prog_29_method_5_code 7 (some (.object oc9)) ws ({ frames := 0, cells := 0, slots := 0, locals := 0 } : Room) Z #[(.ref x0), (.long 1048576)] h0 (Q_rm_get_41 Z x0 x1 x2 kc0 kc1 w_I1 w_I2 h0 n0) := by
  refine MetFree.of_bodySF (plainFor_of_name pn_com_example_wend_wend_Slots) hisR ?_
  intro p e s m args below meth c s₁ Bd hml0 hP hK
  obtain ⟨rfl, hZ, hh⟩ := hP
  have hx := Bd.exec
  have hby := Bd.bytes
  have hml : c.maxLocals = 7 := hml0
  have hown : s.vm.findClass oc8 = some m.cls := findClass_of_methodNamed Bd.named
  have hnm := (name_of_methodNamed Bd.named Bd.method).1
  have X0 : Stand p l e ({ frames := 0, cells := 0, slots := 0, locals := 0 } : Room) s m #[(.ref x0), (.long 1048576)] below meth c s₁ [] 0 0 := Stand.of_body Bd
  have e0 : s₁.heap = h0 := by rw [← hh, Bd.state]; rfl
  have N0 := Fr.nil n0
  have pre0 : ∀ t, oS p e below m s₁ 0 (oL1 x0) [] t → oT p e below s₁ (entryFrame m #[(.ref x0), (.long 1048576)] 7) t := fun t k => castTop (ef_rm_get_41 m x0) k
  have K0 := Keep.refl h0 []
  have pre786 : ∀ t, oS p e below m s₁ 5 (oL1 x0) [(.long ((1048576 : Int64) &&& (1048575 : Int64)))] t → oT p e below s₁ (entryFrame m #[(.ref x0), (.long 1048576)] 7) t := by
    intro t kt
    refine pre0 t ?_
    show oS p e below m s₁ 0 (oL1 x0) [] _
    refine XS.lloadN X0.here hx rfl (hb hby df_0) rfl ?_
    show oS p e below m s₁ 1 (oL1 x0) [(.long 1048576)] _
    refine X0.ldc2Long hx hown (mvT hZ (own_w hw 57 rfl)) (g := (mkF m 1 (oL1 x0) [(.long 1048576)])) rfl (hb hby df_1) _ ?_
    show oS p e below m s₁ 4 (oL1 x0) [(.long 1048575), (.long 1048576)] _
    refine XS.land X0.here hx rfl (hb hby df_4) rfl ?_
    exact kt
  rw [show ((1048576 : Int64) &&& (1048575 : Int64)) = (0 : Int64) from by decide] at pre786
  have pre787 : ∀ t, oS p e below m s₁ 6 (oL1 x0) [(.int ((0 : Int64).toInt32))] t → oT p e below s₁ (entryFrame m #[(.ref x0), (.long 1048576)] 7) t := by
    intro t kt
    refine pre786 t ?_
    show oS p e below m s₁ 5 (oL1 x0) [(.long 0)] _
    refine XS.l2i X0.here hx rfl (hb hby df_5) rfl ?_
    exact kt
  rw [show ((0 : Int64).toInt32) = (0 : Int32) from by decide] at pre787
  have pre788 : ∀ t, oS p e below m s₁ 11 (oL4 x0) [(.long (((1048576 : Int64).toUInt64 >>> ((20 : Int32) &&& 0x3f).toInt64.toUInt64).toInt64))] t → oT p e below s₁ (entryFrame m #[(.ref x0), (.long 1048576)] 7) t := by
    intro t kt
    refine pre787 t ?_
    show oS p e below m s₁ 6 (oL1 x0) [(.int 0)] _
    refine XS.istoreN X0.here hx rfl (hb hby df_6) rfl (l' := (oL4 x0)) rfl ?_
    refine XS.lloadN X0.here hx rfl (hb hby df_7) rfl ?_
    show oS p e below m s₁ 8 (oL4 x0) [(.long 1048576)] _
    refine XS.bipush X0.here hx rfl (hb hby df_8) ?_
    refine XS.lushr X0.here hx rfl (hb hby df_10) rfl ?_
    exact kt
  rw [show (((1048576 : Int64).toUInt64 >>> ((20 : Int32) &&& 0x3f).toInt64.toUInt64).toInt64) = (1 : Int64) from by decide] at pre788
  obtain ⟨T789, X789, e789, st789⟩ := getF X0 hx hZ hown (host := "") (Or.inl (own_w hw 16 rfl)) Via.refl e0 F_x0_requests (g := (mkF m 15 (oL0 x0) [(.ref x0), (.int 0)])) rfl rfl (hb hby df_15)
  have vt790 := V_x1
  obtain ⟨cl790, Ar790, q790, S790, Ng790, Ha790, G790⟩ := vt790
  obtain ⟨T792, X792, e792, st792⟩ := getF X789 hx hZ hown (host := "") (Or.inl (own_w hw 19 rfl)) Via.refl e789 F_x0_sequences (g := (mkF m 23 (oL0 x0) [(.ref x0)])) rfl rfl (hb hby df_23)
  have vt793 := V_x2
  obtain ⟨cl793, Ar793, q793, S793, Ng793, Ha793, G793⟩ := vt793
  have hin793 : ¬ ((0 : Int32) < 0 ∨ cl793.slots.size ≤ ((0 : Int32)).toNatClampNeg) := inb_of S793 ⟨by decide, by decide⟩
  have hat793 : cl793.slots[((0 : Int32)).toNatClampNeg]? = some (.long 1) := Ha793.at hin793 rfl
  have pre794 : ∀ t, oS p e below m T792 31 (oL0 x0) [(.int (lcmpW (1 : Int64) (1 : Int64)))] t → oT p e below s₁ (entryFrame m #[(.ref x0), (.long 1048576)] 7) t := by
    intro t kt
    refine pre788 t ?_
    show oS p e below m s₁ 11 (oL4 x0) [(.long 1)] _
    refine XS.lstore X0.here hx rfl (hb hby df_11) rfl (l' := (oL0 x0)) rfl ?_
    refine XS.iloadN X0.here hx rfl (hb hby df_13) rfl ?_
    show oS p e below m s₁ 14 (oL0 x0) [(.int 0)] _
    refine XS.aloadN X0.here hx rfl (hb hby df_14) rfl rfl ?_
    show oS p e below m s₁ 15 (oL0 x0) [(.ref x0), (.int 0)] _
    refine st789 _ ?_
    show oS p e below m T789 18 (oL0 x0) [(.ref x1), (.int 0)] _
    refine X789.arraylength hx (by rw [e789]; exact Ar790.1) (State.isArrayOf_alike hZ.alike Ar790.2.1) (g := (mkF m 18 (oL0 x0) [(.ref x1), (.int 0)])) rfl rfl (hb hby df_18) _ ?_
    rw [len_of S790 Ng790]
    show oS p e below m T789 19 (oL0 x0) [(.int 3), (.int 0)] _
    refine XS.icmpNo X789.here hx rfl (hb hby df_19) rfl (tlt (by decide : (0 : Int32) < (3 : Int32))).2.1 ?_
    refine XS.aloadN X789.here hx rfl (hb hby df_22) rfl rfl ?_
    show oS p e below m T789 23 (oL0 x0) [(.ref x0)] _
    refine st792 _ ?_
    show oS p e below m T792 26 (oL0 x0) [(.ref x2)] _
    refine XS.iloadN X792.here hx rfl (hb hby df_26) rfl ?_
    show oS p e below m T792 27 (oL0 x0) [(.int 0), (.ref x2)] _
    refine X792.laload hx (j := (0 : Int32)) (v := (.long 1)) (by rw [e792]; exact Ar793.1) (State.isArrayOf_alike hZ.alike Ar793.2.1) Ar793.2.2 hin793 hat793 (g := (mkF m 27 (oL0 x0) [(.int 0), (.ref x2)])) rfl rfl (hb hby df_27) _ ?_
    show oS p e below m T792 28 (oL0 x0) [(.long 1)] _
    refine XS.lload X792.here hx rfl (hb hby df_28) rfl ?_
    refine XS.lcmp X792.here hx rfl (hb hby df_30) rfl ?_
    exact kt
  rw [show (lcmpW (1 : Int64) (1 : Int64)) = (0 : Int32) from by decide] at pre794
  obtain ⟨T797, X797, e797, st797⟩ := getF X792 hx hZ hown (host := "") (Or.inl (own_w hw 16 rfl)) Via.refl e792 F_x0_requests (g := (mkF m 47 (oL5 x0) [(.ref x0)])) rfl rfl (hb hby df_47)
  have vt798 := V_x1
  obtain ⟨cl798, Ar798, q798, S798, Ng798, Ha798, G798⟩ := vt798
  have hin798 : ¬ ((0 : Int32) < 0 ∨ cl798.slots.size ≤ ((0 : Int32)).toNatClampNeg) := inb_of S798 ⟨by decide, by decide⟩
  have hat798 : cl798.slots[((0 : Int32)).toNatClampNeg]? = some (.ref w_I1) := Ha798.at hin798 rfl
  have pre799 : ∀ t, oS p e below m T797 56 (oL5 x0) [(.ref w_I1)] t → oT p e below s₁ (entryFrame m #[(.ref x0), (.long 1048576)] 7) t := by
    intro t kt
    refine pre794 t ?_
    show oS p e below m T792 31 (oL0 x0) [(.int 0)] _
    refine XS.ifNo X792.here hx rfl (hb hby df_31) rfl ((if0 _ _).trans (teq (by decide : (0 : Int32) = (0 : Int32))).2) ?_
    refine XS.iconst X792.here hx rfl (hb hby df_34) ?_
    show oS p e below m T792 35 (oL0 x0) [(.int 1)] _
    refine XS.goto X792.here hx rfl (pc0 := 35) (pc' := 39) rfl (hb hby df_35) (by decide) (by decide) ?_
    refine XS.istore X792.here hx rfl (hb hby df_39) rfl (l' := (oL5 x0)) rfl ?_
    show oS p e below m T792 41 (oL5 x0) [] _
    refine XS.iload X792.here hx rfl (hb hby df_41) rfl ?_
    refine XS.ifNo X792.here hx rfl (hb hby df_43) rfl ((if0 _ _).trans (feq (by decide : ¬ ((1 : Int32) = (0 : Int32)))).1) ?_
    show oS p e below m T792 46 (oL5 x0) [] _
    refine XS.aloadN X792.here hx rfl (hb hby df_46) rfl rfl ?_
    show oS p e below m T792 47 (oL5 x0) [(.ref x0)] _
    refine st797 _ ?_
    show oS p e below m T797 50 (oL5 x0) [(.ref x1)] _
    refine XS.iloadN X797.here hx rfl (hb hby df_50) rfl ?_
    show oS p e below m T797 51 (oL5 x0) [(.int 0), (.ref x1)] _
    refine X797.aaload hx (j := (0 : Int32)) (v := (.ref w_I1)) (by rw [e797]; exact Ar798.1) (State.isArrayOf_alike hZ.alike Ar798.2.1) rfl Ar798.2.2 hin798 hat798 (g := (mkF m 51 (oL5 x0) [(.int 0), (.ref x1)])) rfl rfl (hb hby df_51) _ ?_
    show oS p e below m T797 52 (oL5 x0) [(.ref w_I1)] _
    refine XS.goto X797.here hx rfl (pc0 := 52) (pc' := 56) rfl (hb hby df_52) (by decide) (by decide) ?_
    exact kt
  obtain ⟨fs, hr, hrun, hended, hW, hsame⟩ := X797.leave (v := some (.ref w_I1)) (fun h => by rw [Bd.returns] at h; cases h)
  refine ⟨_, _, pre799 _ ?_, hrun, hended, _, _, rfl, ?_, ⟨_, rfl⟩, hW, hsame.mono (by decide) (by decide)⟩
  · show oS p e below m T797 56 (oL5 x0) [(.ref w_I1)] _
    jvm_step X797.here [X797.here.top, hx, (hb hby df_56), X797.method', Bd.returns, Value.isRef, FieldType.isReference]
    first | (intro acts; rw [hr _ acts rfl rfl rfl]) | rw [hr _ _ rfl rfl rfl]
    exact Steps.refl _
  · show Q_rm_get_41 Z x0 x1 x2 kc0 kc1 w_I1 w_I2 h0 n0 _ T797.heap _
    rw [e797]
    exact ⟨rfl, N0, rfl⟩
theorem ef_rm_free_42 (m : MethodId) (x0 : Addr) : entryFrame m #[(.ref x0), (.int 0)] 2 = mkF m 0 #[rv x0, iv 0] [] := by first | (simp [entryFrame, mkF, argsToLocals, Value.category]; done) | rfl
def Q_rm_free_42 (Z : State) (x0 : Addr) (x1 : Addr) (x2 : Addr) (x3 : Addr) (kc0 : ClassId) (kc1 : ClassId) (kc2 : ClassId) (w_I2 : Addr) (w_I1 : Addr) (h0 : Heap) (n0 : Nat) (v : Option Value) (h : Heap) (L : List Loc) : Prop := v = none ∧ Fr n0 L ∧ Keep h0 h [x1, x2, x0, x3] ∧ Arv Z h x1 kc0 (.object oc9) (3 : Int32) [.null, (.ref w_I2), .null] .null ∧ Arv Z h x2 kc1 .long (3 : Int32) [(.long 0), (.long 2), (.long 0)] (.long 0) ∧ Exa Z h x0 oc8 ∧ Fld Z h x0 oc8 "requests" "[Ljava/lang/Object;" (.ref x1) ∧ Fld Z h x0 oc8 "sequences" "[J" (.ref x2) ∧ Fld Z h x0 oc8 "free" "[I" (.ref x3) ∧ Fld Z h x0 oc8 "freeCount" "I" (.int 2) ∧ Fld Z h x0 oc8 "lastSequence" "J" (.long 2) ∧ Arv Z h x3 kc2 .int (3 : Int32) [(.int 2), (.int 0), (.int 0)] (.int 0)
set_option maxRecDepth 65536 in
set_option maxHeartbeats 40000000 in
theorem rm_free_42 (l : Launch) (Z : State) (a0 : Array Value) (hw : ∀ d ∈ tables_1, d.before a0 Z = true) (ws : List Jvm.Cond) (x0 : Addr) (x1 : Addr) (x2 : Addr) (x3 : Addr) (kc0 : ClassId) (kc1 : ClassId) (kc2 : ClassId) (w_I2 : Addr) (w_I1 : Addr) (h0 : Heap) (n0 : Nat) (O0 : Old Z n0 h0) (E_x0 : Exa Z h0 x0 oc8) (F_x0_requests : Fld Z h0 x0 oc8 "requests" "[Ljava/lang/Object;" (.ref x1)) (F_x0_sequences : Fld Z h0 x0 oc8 "sequences" "[J" (.ref x2)) (F_x0_free : Fld Z h0 x0 oc8 "free" "[I" (.ref x3)) (F_x0_freeCount : Fld Z h0 x0 oc8 "freeCount" "I" (.int 1)) (F_x0_lastSequence : Fld Z h0 x0 oc8 "lastSequence" "J" (.long 2)) (ge_x0 : n0 ≤ x0) (O_x1 : Ovr Z kc0 oc9) (V_x1 : Arv Z h0 x1 kc0 (.object oc9) (3 : Int32) [(.ref w_I1), (.ref w_I2), .null] .null) (ge_x1 : n0 ≤ x1) (V_x2 : Arv Z h0 x2 kc1 .long (3 : Int32) [(.long 1), (.long 2), (.long 0)] (.long 0)) (ge_x2 : n0 ≤ x2) (V_x3 : Arv Z h0 x3 kc2 .int (3 : Int32) [(.int 2), (.int 1), (.int 0)] (.int 0)) (ge_x3 : n0 ≤ x3) (ne_x0_x1 : x0 ≠ x1) (ne_x0_x2 : x0 ≠ x2) (ne_x0_x3 : x0 ≠ x3) (ne_x1_x2 : x1 ≠ x2) (ne_x1_x3 : x1 ≠ x3) (ne_x2_x3 : x2 ≠ x3)  :
    oM l oy7 prog_29_method_8_code 2 none ws ({ frames := 0, cells := 0, slots := 0, locals := 0 } : Room) Z #[(.ref x0), (.int 0)] h0 (Q_rm_free_42 Z x0 x1 x2 x3 kc0 kc1 kc2 w_I2 w_I1 h0 n0) := by
  refine MetFree.of_bodySF (plainFor_of_name pn_com_example_wend_wend_Slots) hisR ?_
  intro p e s m args below meth c s₁ Bd hml0 hP hK
  obtain ⟨rfl, hZ, hh⟩ := hP
  have hx := Bd.exec
  have hby := Bd.bytes
  have hml : c.maxLocals = 2 := hml0
  have hown : s.vm.findClass oc8 = some m.cls := findClass_of_methodNamed Bd.named
  have hnm := (name_of_methodNamed Bd.named Bd.method).1
  have X0 : Stand p l e ({ frames := 0, cells := 0, slots := 0, locals := 0 } : Room) s m #[(.ref x0), (.int 0)] below meth c s₁ [] 0 0 := Stand.of_body Bd
  have e0 : s₁.heap = h0 := by rw [← hh, Bd.state]; rfl
  have N0 := Fr.nil n0
  have pre0 : ∀ t, oS p e below m s₁ 0 #[rv x0, iv 0] [] t → oT p e below s₁ (entryFrame m #[(.ref x0), (.int 0)] 2) t := fun t k => castTop (ef_rm_free_42 m x0) k
  have K0 := Keep.refl h0 [x1, x2, x0, x3]
  obtain ⟨T803, X803, e803, st803⟩ := getF X0 hx hZ hown (host := "") (Or.inl (own_w hw 16 rfl)) Via.refl e0 F_x0_requests (g := (mkF m 1 #[rv x0, iv 0] [(.ref x0)])) rfl rfl (hb hby dh_1)
  have vt804 := V_x1
  obtain ⟨cl804, Ar804, q804, S804, Ng804, Ha804, G804⟩ := vt804
  have hin804 : ¬ ((0 : Int32) < 0 ∨ cl804.slots.size ≤ ((0 : Int32)).toNatClampNeg) := inb_of S804 ⟨by decide, by decide⟩
  obtain ⟨T805, h805, X805, e805, W805, st805⟩ := stR X803 hx hZ e803 Ar804 (j := (0 : Int32)) hin804 rfl (Or.inl rfl) (g := (mkF m 6 #[rv x0, iv 0] [.null, (.int 0), (.ref x1)])) rfl rfl (hb hby dh_6)
  have V_x1 : Arv Z h805 x1 kc0 (.object oc9) (3 : Int32) [.null, (.ref w_I2), .null] .null := Arv.set Ar804 q804 S804 Ng804 Ha804 G804 rfl W805 0 rfl (Nat.le_of_ble_eq_true rfl)
  have E_x0 := E_x0.wr W805
  have F_x0_requests := F_x0_requests.other W805 (Or.inl ne_x0_x1)
  have F_x0_sequences := F_x0_sequences.other W805 (Or.inl ne_x0_x1)
  have F_x0_free := F_x0_free.other W805 (Or.inl ne_x0_x1)
  have F_x0_freeCount := F_x0_freeCount.other W805 (Or.inl ne_x0_x1)
  have F_x0_lastSequence := F_x0_lastSequence.other W805 (Or.inl ne_x0_x1)
  have V_x2 := V_x2.other W805 (Ne.symm ne_x1_x2)
  have V_x3 := V_x3.other W805 (Ne.symm ne_x1_x3)
  have O805 := O0.wr W805 ge_x1
  have K805 := K0.wr W805 (Or.inl (List.mem_of_getElem? (i := 0) rfl))
  have N805 := Fr.snoc X805 N0 ge_x1
  obtain ⟨T806, X806, e806, st806⟩ := getF X805 hx hZ hown (host := "") (Or.inl (own_w hw 19 rfl)) Via.refl e805 F_x0_sequences (g := (mkF m 8 #[rv x0, iv 0] [(.ref x0)])) rfl rfl (hb hby dh_8)
  have vt807 := V_x2
  obtain ⟨cl807, Ar807, q807, S807, Ng807, Ha807, G807⟩ := vt807
  have hin807 : ¬ ((0 : Int32) < 0 ∨ cl807.slots.size ≤ ((0 : Int32)).toNatClampNeg) := inb_of S807 ⟨by decide, by decide⟩
  obtain ⟨T808, h808, X808, e808, W808, st808⟩ := stJ X806 hx hZ e806 Ar807 (j := (0 : Int32)) hin807 (g := (mkF m 13 #[rv x0, iv 0] [(.long 0), (.int 0), (.ref x2)])) rfl rfl (hb hby dh_13)
  have V_x2 : Arv Z h808 x2 kc1 .long (3 : Int32) [(.long 0), (.long 2), (.long 0)] (.long 0) := Arv.set Ar807 q807 S807 Ng807 Ha807 G807 rfl W808 0 rfl (Nat.le_of_ble_eq_true rfl)
  have E_x0 := E_x0.wr W808
  have F_x0_requests := F_x0_requests.other W808 (Or.inl ne_x0_x2)
  have F_x0_sequences := F_x0_sequences.other W808 (Or.inl ne_x0_x2)
  have F_x0_free := F_x0_free.other W808 (Or.inl ne_x0_x2)
  have F_x0_freeCount := F_x0_freeCount.other W808 (Or.inl ne_x0_x2)
  have F_x0_lastSequence := F_x0_lastSequence.other W808 (Or.inl ne_x0_x2)
  have V_x1 := V_x1.other W808 ne_x1_x2
  have V_x3 := V_x3.other W808 (Ne.symm ne_x2_x3)
  have O808 := O805.wr W808 ge_x2
  have K808 := K805.wr W808 (Or.inl (List.mem_of_getElem? (i := 1) rfl))
  have N808 := Fr.snoc X808 N805 ge_x2
  obtain ⟨T809, X809, e809, st809⟩ := getF X808 hx hZ hown (host := "") (Or.inl (own_w hw 22 rfl)) Via.refl e808 F_x0_free (g := (mkF m 15 #[rv x0, iv 0] [(.ref x0)])) rfl rfl (hb hby dh_15)
  obtain ⟨T810, X810, e810, st810⟩ := getF X809 hx hZ hown (host := "") (Or.inl (own_w hw 24 rfl)) Via.refl e809 F_x0_freeCount (g := (mkF m 20 #[rv x0, iv 0] [(.ref x0), (.ref x0), (.ref x3)])) rfl rfl (hb hby dh_20)
  have pre811 : ∀ t, oS p e below m T810 26 #[rv x0, iv 0] [(.int ((1 : Int32) + (1 : Int32))), (.ref x0), (.int 1), (.ref x3)] t → oT p e below s₁ (entryFrame m #[(.ref x0), (.int 0)] 2) t := by
    intro t kt
    refine pre0 t ?_
    show oS p e below m s₁ 0 #[rv x0, iv 0] [] _
    refine XS.aloadN X0.here hx rfl (hb hby dh_0) rfl rfl ?_
    show oS p e below m s₁ 1 #[rv x0, iv 0] [(.ref x0)] _
    refine st803 _ ?_
    show oS p e below m T803 4 #[rv x0, iv 0] [(.ref x1)] _
    refine XS.iloadN X803.here hx rfl (hb hby dh_4) rfl ?_
    refine XS.aconstNull X803.here hx rfl (hb hby dh_5) ?_
    show oS p e below m T803 6 #[rv x0, iv 0] [.null, (.int 0), (.ref x1)] _
    refine st805 _ ?_
    show oS p e below m T805 7 #[rv x0, iv 0] [] _
    refine XS.aloadN X805.here hx rfl (hb hby dh_7) rfl rfl ?_
    show oS p e below m T805 8 #[rv x0, iv 0] [(.ref x0)] _
    refine st806 _ ?_
    show oS p e below m T806 11 #[rv x0, iv 0] [(.ref x2)] _
    refine XS.iloadN X806.here hx rfl (hb hby dh_11) rfl ?_
    refine XS.lconst X806.here hx rfl (hb hby dh_12) ?_
    show oS p e below m T806 13 #[rv x0, iv 0] [(.long 0), (.int 0), (.ref x2)] _
    refine st808 _ ?_
    show oS p e below m T808 14 #[rv x0, iv 0] [] _
    refine XS.aloadN X808.here hx rfl (hb hby dh_14) rfl rfl ?_
    show oS p e below m T808 15 #[rv x0, iv 0] [(.ref x0)] _
    refine st809 _ ?_
    show oS p e below m T809 18 #[rv x0, iv 0] [(.ref x3)] _
    refine XS.aloadN X809.here hx rfl (hb hby dh_18) rfl rfl ?_
    refine XS.dup X809.here hx rfl (hb hby dh_19) rfl rfl ?_
    show oS p e below m T809 20 #[rv x0, iv 0] [(.ref x0), (.ref x0), (.ref x3)] _
    refine st810 _ ?_
    show oS p e below m T810 23 #[rv x0, iv 0] [(.int 1), (.ref x0), (.ref x3)] _
    refine XS.dupX1 X810.here hx rfl (hb hby dh_23) rfl rfl rfl ?_
    refine XS.iconst X810.here hx rfl (hb hby dh_24) ?_
    show oS p e below m T810 25 #[rv x0, iv 0] [(.int 1), (.int 1), (.ref x0), (.int 1), (.ref x3)] _
    refine XS.iadd X810.here hx rfl (hb hby dh_25) rfl ?_
    exact kt
  rw [show ((1 : Int32) + (1 : Int32)) = (2 : Int32) from by decide] at pre811
  obtain ⟨T812, h812, X812, e812, W812, st812⟩ := putF X810 hx hZ hown (host := "") (Or.inl (own_w hw 24 rfl)) Via.refl e810 F_x0_freeCount E_x0 (Or.inl (own_w hw 25 rfl)) (own_w hw 5 rfl) (ty := .int) (by decide) rfl rfl (g := (mkF m 26 #[rv x0, iv 0] [(.int 2), (.ref x0), (.int 1), (.ref x3)])) rfl rfl (hb hby dh_26)
  have F_x0_freeCount := F_x0_freeCount.same W812
  have E_x0 := E_x0.wr W812
  have F_x0_requests := F_x0_requests.other W812 (Or.inr (osn_Slots_requests_freeCount hw))
  have F_x0_sequences := F_x0_sequences.other W812 (Or.inr (osn_Slots_sequences_freeCount hw))
  have F_x0_free := F_x0_free.other W812 (Or.inr (osn_Slots_free_freeCount hw))
  have F_x0_lastSequence := F_x0_lastSequence.other W812 (Or.inr (osn_Slots_lastSequence_freeCount hw))
  have V_x1 := V_x1.other W812 (Ne.symm ne_x0_x1)
  have V_x2 := V_x2.other W812 (Ne.symm ne_x0_x2)
  have V_x3 := V_x3.other W812 (Ne.symm ne_x0_x3)
  have O812 := O808.wr W812 ge_x0
  have K812 := K808.wr W812 (Or.inl (List.mem_of_getElem? (i := 2) rfl))
  have N812 := Fr.snoc X812 N808 ge_x0
  have vt813 := V_x3
  obtain ⟨cl813, Ar813, q813, S813, Ng813, Ha813, G813⟩ := vt813
  have hin813 : ¬ ((1 : Int32) < 0 ∨ cl813.slots.size ≤ ((1 : Int32)).toNatClampNeg) := inb_of S813 ⟨by decide, by decide⟩
  obtain ⟨T814, h814, X814, e814, W814, st814⟩ := stI X812 hx hZ e812 Ar813 (j := (1 : Int32)) hin813 (g := (mkF m 30 #[rv x0, iv 0] [(.int 0), (.int 1), (.ref x3)])) rfl rfl (hb hby dh_30)
  have V_x3 : Arv Z h814 x3 kc2 .int (3 : Int32) [(.int 2), (.int 0), (.int 0)] (.int 0) := Arv.set Ar813 q813 S813 Ng813 Ha813 G813 rfl W814 1 rfl (Nat.le_of_ble_eq_true rfl)
  have E_x0 := E_x0.wr W814
  have F_x0_requests := F_x0_requests.other W814 (Or.inl ne_x0_x3)
  have F_x0_sequences := F_x0_sequences.other W814 (Or.inl ne_x0_x3)
  have F_x0_free := F_x0_free.other W814 (Or.inl ne_x0_x3)
  have F_x0_freeCount := F_x0_freeCount.other W814 (Or.inl ne_x0_x3)
  have F_x0_lastSequence := F_x0_lastSequence.other W814 (Or.inl ne_x0_x3)
  have V_x1 := V_x1.other W814 ne_x1_x3
  have V_x2 := V_x2.other W814 ne_x2_x3
  have O814 := O812.wr W814 ge_x3
  have K814 := K812.wr W814 (Or.inl (List.mem_of_getElem? (i := 3) rfl))
  have N814 := Fr.snoc X814 N812 ge_x3
  have pre815 : ∀ t, oS p e below m T814 31 #[rv x0, iv 0] [] t → oT p e below s₁ (entryFrame m #[(.ref x0), (.int 0)] 2) t := by
    intro t kt
    refine pre811 t ?_
    show oS p e below m T810 26 #[rv x0, iv 0] [(.int 2), (.ref x0), (.int 1), (.ref x3)] _
    refine st812 _ ?_
    show oS p e below m T812 29 #[rv x0, iv 0] [(.int 1), (.ref x3)] _
    refine XS.iloadN X812.here hx rfl (hb hby dh_29) rfl ?_
    show oS p e below m T812 30 #[rv x0, iv 0] [(.int 0), (.int 1), (.ref x3)] _
    refine st814 _ ?_
    exact kt
  obtain ⟨fs, hr, hrun, hended, hW, hsame⟩ := X814.leave (v := none) (fun _ => rfl)
  refine ⟨_, _, pre815 _ ?_, hrun, hended, _, _, rfl, ?_, ⟨_, rfl⟩, hW, hsame.mono (by decide) (by decide)⟩
  · show oS p e below m T814 31 #[rv x0, iv 0] [] _
    exact X814.returnOut hx Bd.returns (hb hby dh_31) hr
  · show Q_rm_free_42 Z x0 x1 x2 x3 kc0 kc1 kc2 w_I2 w_I1 h0 n0 _ T814.heap _
    rw [e814]
    exact ⟨rfl, N814, K814, V_x1, V_x2, E_x0, F_x0_requests, F_x0_sequences, F_x0_free, F_x0_freeCount, F_x0_lastSequence, V_x3⟩
theorem ef_rm_release_40 (m : MethodId) (x0 : Addr) : entryFrame m #[(.ref x0), (.long 1048576)] 4 = mkF m 0 (oL3 x0) [] := by first | (simp [entryFrame, mkF, argsToLocals, Value.category]; done) | rfl
def Q_rm_release_40 (Z : State) (x0 : Addr) (x1 : Addr) (x2 : Addr) (x3 : Addr) (kc0 : ClassId) (kc1 : ClassId) (kc2 : ClassId) (w_I2 : Addr) (w_I1 : Addr) (h0 : Heap) (n0 : Nat) (v : Option Value) (h : Heap) (L : List Loc) : Prop := v = some (.ref w_I1) ∧ Fr n0 L ∧ Keep h0 h [x3, x0, x2, x1] ∧ Arv Z h x3 kc2 .int (3 : Int32) [(.int 2), (.int 0), (.int 0)] (.int 0) ∧ Exa Z h x0 oc8 ∧ Fld Z h x0 oc8 "requests" "[Ljava/lang/Object;" (.ref x1) ∧ Fld Z h x0 oc8 "sequences" "[J" (.ref x2) ∧ Fld Z h x0 oc8 "free" "[I" (.ref x3) ∧ Fld Z h x0 oc8 "freeCount" "I" (.int 2) ∧ Fld Z h x0 oc8 "lastSequence" "J" (.long 2) ∧ Arv Z h x2 kc1 .long (3 : Int32) [(.long 0), (.long 2), (.long 0)] (.long 0) ∧ Arv Z h x1 kc0 (.object oc9) (3 : Int32) [.null, (.ref w_I2), .null] .null
set_option maxRecDepth 65536 in
set_option maxHeartbeats 40000000 in
theorem rm_release_40 (l : Launch) (Z : State) (a0 : Array Value) (hw : ∀ d ∈ tables_1, d.before a0 Z = true) (ws : List Jvm.Cond) (x0 : Addr) (x1 : Addr) (x2 : Addr) (x3 : Addr) (kc0 : ClassId) (kc1 : ClassId) (kc2 : ClassId) (w_I2 : Addr) (w_I1 : Addr) (h0 : Heap) (n0 : Nat) (O0 : Old Z n0 h0) (E_x0 : Exa Z h0 x0 oc8) (F_x0_requests : Fld Z h0 x0 oc8 "requests" "[Ljava/lang/Object;" (.ref x1)) (F_x0_sequences : Fld Z h0 x0 oc8 "sequences" "[J" (.ref x2)) (F_x0_free : Fld Z h0 x0 oc8 "free" "[I" (.ref x3)) (F_x0_freeCount : Fld Z h0 x0 oc8 "freeCount" "I" (.int 1)) (F_x0_lastSequence : Fld Z h0 x0 oc8 "lastSequence" "J" (.long 2)) (ge_x0 : n0 ≤ x0) (O_x1 : Ovr Z kc0 oc9) (V_x1 : Arv Z h0 x1 kc0 (.object oc9) (3 : Int32) [(.ref w_I1), (.ref w_I2), .null] .null) (ge_x1 : n0 ≤ x1) (V_x2 : Arv Z h0 x2 kc1 .long (3 : Int32) [(.long 1), (.long 2), (.long 0)] (.long 0)) (ge_x2 : n0 ≤ x2) (V_x3 : Arv Z h0 x3 kc2 .int (3 : Int32) [(.int 2), (.int 1), (.int 0)] (.int 0)) (ge_x3 : n0 ≤ x3) (ne_x0_x1 : x0 ≠ x1) (ne_x0_x2 : x0 ≠ x2) (ne_x0_x3 : x0 ≠ x3) (ne_x1_x2 : x1 ≠ x2) (ne_x1_x3 : x1 ≠ x3) (ne_x2_x3 : x2 ≠ x3)  :
    oM l oy5 prog_29_method_6_code 4 (some (.object oc9)) ws ({ frames := 1, cells := 0, slots := 0, locals := 18 } : Room) Z #[(.ref x0), (.long 1048576)] h0 (Q_rm_release_40 Z x0 x1 x2 x3 kc0 kc1 kc2 w_I2 w_I1 h0 n0) := by
  refine MetFree.of_bodySF (plainFor_of_name pn_com_example_wend_wend_Slots) hisR ?_
  intro p e s m args below meth c s₁ Bd hml0 hP hK
  obtain ⟨rfl, hZ, hh⟩ := hP
  have hx := Bd.exec
  have hby := Bd.bytes
  have hml : c.maxLocals = 4 := hml0
  have hown : s.vm.findClass oc8 = some m.cls := findClass_of_methodNamed Bd.named
  have hnm := (name_of_methodNamed Bd.named Bd.method).1
  have X0 : Stand p l e ({ frames := 1, cells := 0, slots := 0, locals := 18 } : Room) s m #[(.ref x0), (.long 1048576)] below meth c s₁ [] 0 0 := Stand.of_body Bd
  have e0 : s₁.heap = h0 := by rw [← hh, Bd.state]; rfl
  have N0 := Fr.nil n0
  have pre0 : ∀ t, oS p e below m s₁ 0 (oL3 x0) [] t → oT p e below s₁ (entryFrame m #[(.ref x0), (.long 1048576)] 4) t := fun t k => castTop (ef_rm_release_40 m x0) k
  have K0 := Keep.refl h0 [x3, x0, x2, x1]
  obtain ⟨cq785, kq785, q785a, q785b, q785c⟩ := isOf hZ e0 E_x0
  obtain ⟨_, _, ⟨T785, L785, k785, n785⟩, -, X785, ⟨Lc785, hQ785, l785, y785, z785⟩, st785⟩ := X0.virtualBack hx (y := oy6) (z := oy6) hown (mvT hZ (own_w hw 52 rfl)) (mvT hZ (own_w hw 53 rfl)) (notFace_of_selects (args := #[]) (mvT hZ (own_w hw 55 rfl))) (mvT hZ (own_w hw 55 rfl)) (mvT hZ (own_w hw 54 rfl)) (by decide) (backOf (W := 0) (rm_get_41 l Z a0 hw [] x0 x1 x2 kc0 kc1 w_I1 w_I2 h0 n0 O0 F_x0_requests F_x0_sequences V_x1 V_x2 ) hZ (own_w hw 56 rfl) (own_w hw 6 rfl) (by decide) (by decide)) q785a q785c (g := (mkF m 2 (oL3 x0) [(.long 1048576), (.ref x0)])) rfl (by rw [hml]; rfl) (Steps.refl _) (argsL := [(.long 1048576)]) (rest := []) (lenOf pd__J_Ljava_lang_Object_ rfl) rfl (by show 2 * 0 + _ ≤ _; exact Nat.le_of_eq rfl) (hb hby dg_2) (fun _ _ => ⟨rfl, e0, (by decide : 0 + 0 ≤ _), (by decide : 0 + 0 ≤ _)⟩)
  dsimp only [Pt.U, Pt.locs, Pt.cells, Pt.slots] at X785 l785 y785 z785 st785 hQ785
  subst l785 y785 z785
  obtain ⟨rfl, N785q, e785⟩ := hQ785
  have N785 := Fr.app N0 N785q
  have pre800 : ∀ t, oS p e below m T785 16 (oL2 x0 w_I1) [(.long ((1048576 : Int64) &&& (1048575 : Int64))), (.ref x0)] t → oT p e below s₁ (entryFrame m #[(.ref x0), (.long 1048576)] 4) t := by
    intro t kt
    refine pre0 t ?_
    show oS p e below m s₁ 0 (oL3 x0) [] _
    refine XS.aloadN X0.here hx rfl (hb hby dg_0) rfl rfl ?_
    refine XS.lloadN X0.here hx rfl (hb hby dg_1) rfl ?_
    show oS p e below m s₁ 2 (oL3 x0) [(.long 1048576), (.ref x0)] _
    refine st785.trans ?_
    show oS p e below m T785 5 (oL3 x0) [(.ref w_I1)] _
    refine XS.astoreN X785.here hx rfl (hb hby dg_5) rfl rfl (l' := (oL2 x0 w_I1)) rfl ?_
    refine XS.aloadN X785.here hx rfl (hb hby dg_6) rfl rfl ?_
    show oS p e below m T785 7 (oL2 x0 w_I1) [(.ref w_I1)] _
    refine XS.ifnullNo X785.here hx rfl (hb hby dg_7) rfl ?_
    refine XS.aloadN X785.here hx rfl (hb hby dg_10) rfl rfl ?_
    show oS p e below m T785 11 (oL2 x0 w_I1) [(.ref x0)] _
    refine XS.lloadN X785.here hx rfl (hb hby dg_11) rfl ?_
    show oS p e below m T785 12 (oL2 x0 w_I1) [(.long 1048576), (.ref x0)] _
    refine X785.ldc2Long hx hown (mvT hZ (own_w hw 57 rfl)) (g := (mkF m 12 (oL2 x0 w_I1) [(.long 1048576), (.ref x0)])) rfl (hb hby dg_12) _ ?_
    show oS p e below m T785 15 (oL2 x0 w_I1) [(.long 1048575), (.long 1048576), (.ref x0)] _
    refine XS.land X785.here hx rfl (hb hby dg_15) rfl ?_
    exact kt
  rw [show ((1048576 : Int64) &&& (1048575 : Int64)) = (0 : Int64) from by decide] at pre800
  have pre801 : ∀ t, oS p e below m T785 17 (oL2 x0 w_I1) [(.int ((0 : Int64).toInt32)), (.ref x0)] t → oT p e below s₁ (entryFrame m #[(.ref x0), (.long 1048576)] 4) t := by
    intro t kt
    refine pre800 t ?_
    show oS p e below m T785 16 (oL2 x0 w_I1) [(.long 0), (.ref x0)] _
    refine XS.l2i X785.here hx rfl (hb hby dg_16) rfl ?_
    exact kt
  rw [show ((0 : Int64).toInt32) = (0 : Int32) from by decide] at pre801
  obtain ⟨cq802, q802, q802'⟩ := E_x0.cell
  obtain ⟨_, _, ⟨T802, L802, k802, n802⟩, -, X802, ⟨Lc802, hQ802, l802, y802, z802⟩, st802⟩ := X785.privateBack hx (y := oy7) hown (mvT hZ (own_w hw 58 rfl)) (mvT hZ (own_w hw 59 rfl)) (own_priv hZ (own_w hw 59 rfl) (own_w hw 60 rfl) (own_w hw 5 rfl) (by decide)) (Cond.privateMethod_at (mvP hZ (own_w hw 60 rfl) (args := #[]))) (mvT hZ (own_w hw 61 rfl)) (by decide) (backOf (W := 0) (rm_free_42 l Z a0 hw [] x0 x1 x2 x3 kc0 kc1 kc2 w_I2 w_I1 h0 n0 O0 E_x0 F_x0_requests F_x0_sequences F_x0_free F_x0_freeCount F_x0_lastSequence ge_x0 O_x1 V_x1 ge_x1 V_x2 ge_x2 V_x3 ge_x3 ne_x0_x1 ne_x0_x2 ne_x0_x3 ne_x1_x2 ne_x1_x3 ne_x2_x3 ) hZ (own_w hw 61 rfl) (own_w hw 6 rfl) (by decide) (by decide)) (g := (mkF m 17 (oL2 x0 w_I1) [(.int 0), (.ref x0)])) rfl (by rw [hml]; rfl) (Steps.refl _) (a := x0) (by rw [e785]; exact q802) q802' (argsL := [(.int 0)]) (rest := []) (lenOf pd__I_V rfl) rfl (by show 2 * 0 + _ ≤ _; exact Nat.le_of_eq rfl) (hb hby dg_17) (fun _ _ => ⟨rfl, e785, (by decide : 0 + 0 ≤ _), (by decide : 0 + 0 ≤ _)⟩)
  dsimp only [Pt.U, Pt.locs, Pt.cells, Pt.slots] at X802 l802 y802 z802 st802 hQ802
  subst l802 y802 z802
  obtain ⟨rfl, N802q, Kc802, u802_0, u802_1, u802_2, u802_3, u802_4, u802_5, u802_6, u802_7, u802_8⟩ := hQ802
  have N802 := Fr.app N785 N802q
  have O802 := O0.keep Kc802 (allS ge_x1 (allS ge_x2 (allS ge_x0 (allS ge_x3 all0))))
  have K802 := K0.trans Kc802 (allS (Or.inl (List.mem_of_getElem? (i := 3) rfl)) (allS (Or.inl (List.mem_of_getElem? (i := 2) rfl)) (allS (Or.inl (List.mem_of_getElem? (i := 1) rfl)) (allS (Or.inl (List.mem_of_getElem? (i := 0) rfl)) all0))))
  have pre816 : ∀ t, oS p e below m T802 21 (oL2 x0 w_I1) [(.ref w_I1)] t → oT p e below s₁ (entryFrame m #[(.ref x0), (.long 1048576)] 4) t := by
    intro t kt
    refine pre801 t ?_
    show oS p e below m T785 17 (oL2 x0 w_I1) [(.int 0), (.ref x0)] _
    refine st802.trans ?_
    show oS p e below m T802 20 (oL2 x0 w_I1) [] _
    refine XS.aloadN X802.here hx rfl (hb hby dg_20) rfl rfl ?_
    exact kt
  obtain ⟨fs, hr, hrun, hended, hW, hsame⟩ := X802.leave (v := some (.ref w_I1)) (fun h => by rw [Bd.returns] at h; cases h)
  refine ⟨_, _, pre816 _ ?_, hrun, hended, _, _, rfl, ?_, ⟨_, rfl⟩, hW, hsame.mono (by decide) (by decide)⟩
  · show oS p e below m T802 21 (oL2 x0 w_I1) [(.ref w_I1)] _
    jvm_step X802.here [X802.here.top, hx, (hb hby dg_21), X802.method', Bd.returns, Value.isRef, FieldType.isReference]
    first | (intro acts; rw [hr _ acts rfl rfl rfl]) | rw [hr _ _ rfl rfl rfl]
    exact Steps.refl _
  · show Q_rm_release_40 Z x0 x1 x2 x3 kc0 kc1 kc2 w_I2 w_I1 h0 n0 _ T802.heap _
    exact ⟨rfl, N802, K802, u802_8, u802_2, u802_3, u802_4, u802_5, u802_6, u802_7, u802_1, u802_0⟩
theorem ef_rm_take_43 (m : MethodId) (x0 : Addr) (w_I4 : Addr) : entryFrame m #[(.ref x0), (.ref w_I4)] 3 = mkF m 0 #[rv x0, rv w_I4, .unset] [] := by first | (simp [entryFrame, mkF, argsToLocals, Value.category]; done) | rfl
def Q_rm_take_43 (Z : State) (x0 : Addr) (x1 : Addr) (x2 : Addr) (x3 : Addr) (kc0 : ClassId) (kc1 : ClassId) (kc2 : ClassId) (w_I4 : Addr) (w_I2 : Addr) (h0 : Heap) (n0 : Nat) (v : Option Value) (h : Heap) (L : List Loc) : Prop := v = some (.long 3145728) ∧ Fr n0 L ∧ Keep h0 h [x0, x1, x2] ∧ Exa Z h x0 oc8 ∧ Fld Z h x0 oc8 "requests" "[Ljava/lang/Object;" (.ref x1) ∧ Fld Z h x0 oc8 "sequences" "[J" (.ref x2) ∧ Fld Z h x0 oc8 "free" "[I" (.ref x3) ∧ Fld Z h x0 oc8 "freeCount" "I" (.int 1) ∧ Fld Z h x0 oc8 "lastSequence" "J" (.long 3) ∧ Arv Z h x1 kc0 (.object oc9) (3 : Int32) [(.ref w_I4), (.ref w_I2), .null] .null ∧ Arv Z h x2 kc1 .long (3 : Int32) [(.long 3), (.long 2), (.long 0)] (.long 0)
set_option maxRecDepth 65536 in
set_option maxHeartbeats 40000000 in
theorem rm_take_43 (l : Launch) (Z : State) (a0 : Array Value) (hw : ∀ d ∈ tables_1, d.before a0 Z = true) (ws : List Jvm.Cond) (x0 : Addr) (x1 : Addr) (x2 : Addr) (x3 : Addr) (kc0 : ClassId) (kc1 : ClassId) (kc2 : ClassId) (w_I4 : Addr) (w_I2 : Addr) (h0 : Heap) (n0 : Nat) (O0 : Old Z n0 h0) (E_x0 : Exa Z h0 x0 oc8) (F_x0_requests : Fld Z h0 x0 oc8 "requests" "[Ljava/lang/Object;" (.ref x1)) (F_x0_sequences : Fld Z h0 x0 oc8 "sequences" "[J" (.ref x2)) (F_x0_free : Fld Z h0 x0 oc8 "free" "[I" (.ref x3)) (F_x0_freeCount : Fld Z h0 x0 oc8 "freeCount" "I" (.int 2)) (F_x0_lastSequence : Fld Z h0 x0 oc8 "lastSequence" "J" (.long 2)) (ge_x0 : n0 ≤ x0) (O_x1 : Ovr Z kc0 oc9) (V_x1 : Arv Z h0 x1 kc0 (.object oc9) (3 : Int32) [.null, (.ref w_I2), .null] .null) (ge_x1 : n0 ≤ x1) (V_x2 : Arv Z h0 x2 kc1 .long (3 : Int32) [(.long 0), (.long 2), (.long 0)] (.long 0)) (ge_x2 : n0 ≤ x2) (V_x3 : Arv Z h0 x3 kc2 .int (3 : Int32) [(.int 2), (.int 0), (.int 0)] (.int 0)) (ge_x3 : n0 ≤ x3) (ne_x0_x1 : x0 ≠ x1) (ne_x0_x2 : x0 ≠ x2) (ne_x0_x3 : x0 ≠ x3) (ne_x1_x2 : x1 ≠ x2) (ne_x1_x3 : x1 ≠ x3) (ne_x2_x3 : x2 ≠ x3) (E_I4 : Exa Z Z.heap w_I4 oc10) :
    oM l oy4 prog_29_method_4_code 3 (some .long) ws ({ frames := 0, cells := 0, slots := 0, locals := 0 } : Room) Z #[(.ref x0), (.ref w_I4)] h0 (Q_rm_take_43 Z x0 x1 x2 x3 kc0 kc1 kc2 w_I4 w_I2 h0 n0) := by
  refine MetFree.of_bodySF (plainFor_of_name pn_com_example_wend_wend_Slots) hisR ?_
  intro p e s m args below meth c s₁ Bd hml0 hP hK
  obtain ⟨rfl, hZ, hh⟩ := hP
  have hx := Bd.exec
  have hby := Bd.bytes
  have hml : c.maxLocals = 3 := hml0
  have hown : s.vm.findClass oc8 = some m.cls := findClass_of_methodNamed Bd.named
  have hnm := (name_of_methodNamed Bd.named Bd.method).1
  have X0 : Stand p l e ({ frames := 0, cells := 0, slots := 0, locals := 0 } : Room) s m #[(.ref x0), (.ref w_I4)] below meth c s₁ [] 0 0 := Stand.of_body Bd
  have e0 : s₁.heap = h0 := by rw [← hh, Bd.state]; rfl
  have N0 := Fr.nil n0
  have pre0 : ∀ t, oS p e below m s₁ 0 #[rv x0, rv w_I4, .unset] [] t → oT p e below s₁ (entryFrame m #[(.ref x0), (.ref w_I4)] 3) t := fun t k => castTop (ef_rm_take_43 m x0 w_I4) k
  have K0 := Keep.refl h0 [x0, x1, x2]
  obtain ⟨T830, X830, e830, st830⟩ := getF X0 hx hZ hown (host := "") (Or.inl (own_w hw 24 rfl)) Via.refl e0 F_x0_freeCount (g := (mkF m 1 #[rv x0, rv w_I4, .unset] [(.ref x0)])) rfl rfl (hb hby de_1)
  obtain ⟨T832, X832, e832, st832⟩ := getF X830 hx hZ hown (host := "") (Or.inl (own_w hw 22 rfl)) Via.refl e830 F_x0_free (g := (mkF m 18 #[rv x0, rv w_I4, .unset] [(.ref x0)])) rfl rfl (hb hby de_18)
  obtain ⟨T833, X833, e833, st833⟩ := getF X832 hx hZ hown (host := "") (Or.inl (own_w hw 24 rfl)) Via.refl e832 F_x0_freeCount (g := (mkF m 23 #[rv x0, rv w_I4, .unset] [(.ref x0), (.ref x0), (.ref x3)])) rfl rfl (hb hby de_23)
  have pre834 : ∀ t, oS p e below m T833 28 #[rv x0, rv w_I4, .unset] [(.int ((2 : Int32) - (1 : Int32))), (.ref x0), (.ref x3)] t → oT p e below s₁ (entryFrame m #[(.ref x0), (.ref w_I4)] 3) t := by
    intro t kt
    refine pre0 t ?_
    show oS p e below m s₁ 0 #[rv x0, rv w_I4, .unset] [] _
    refine XS.aloadN X0.here hx rfl (hb hby de_0) rfl rfl ?_
    show oS p e below m s₁ 1 #[rv x0, rv w_I4, .unset] [(.ref x0)] _
    refine st830 _ ?_
    show oS p e below m T830 4 #[rv x0, rv w_I4, .unset] [(.int 2)] _
    refine XS.ifYes X830.here hx rfl (pc0 := 4) (pc' := 17) rfl (hb hby de_4) rfl ((if0 _ _).trans (feq (by decide : ¬ ((2 : Int32) = (0 : Int32)))).2) (by decide) (by decide) ?_
    refine XS.aloadN X830.here hx rfl (hb hby de_17) rfl rfl ?_
    show oS p e below m T830 18 #[rv x0, rv w_I4, .unset] [(.ref x0)] _
    refine st832 _ ?_
    show oS p e below m T832 21 #[rv x0, rv w_I4, .unset] [(.ref x3)] _
    refine XS.aloadN X832.here hx rfl (hb hby de_21) rfl rfl ?_
    refine XS.dup X832.here hx rfl (hb hby de_22) rfl rfl ?_
    show oS p e below m T832 23 #[rv x0, rv w_I4, .unset] [(.ref x0), (.ref x0), (.ref x3)] _
    refine st833 _ ?_
    show oS p e below m T833 26 #[rv x0, rv w_I4, .unset] [(.int 2), (.ref x0), (.ref x3)] _
    refine XS.iconst X833.here hx rfl (hb hby de_26) ?_
    refine XS.isub X833.here hx rfl (hb hby de_27) rfl ?_
    exact kt
  rw [show ((2 : Int32) - (1 : Int32)) = (1 : Int32) from by decide] at pre834
  obtain ⟨T835, h835, X835, e835, W835, st835⟩ := putF X833 hx hZ hown (host := "") (Or.inl (own_w hw 24 rfl)) Via.refl e833 F_x0_freeCount E_x0 (Or.inl (own_w hw 25 rfl)) (own_w hw 5 rfl) (ty := .int) (by decide) rfl rfl (g := (mkF m 29 #[rv x0, rv w_I4, .unset] [(.int 1), (.ref x0), (.int 1), (.ref x3)])) rfl rfl (hb hby de_29)
  have F_x0_freeCount := F_x0_freeCount.same W835
  have E_x0 := E_x0.wr W835
  have F_x0_requests := F_x0_requests.other W835 (Or.inr (osn_Slots_requests_freeCount hw))
  have F_x0_sequences := F_x0_sequences.other W835 (Or.inr (osn_Slots_sequences_freeCount hw))
  have F_x0_free := F_x0_free.other W835 (Or.inr (osn_Slots_free_freeCount hw))
  have F_x0_lastSequence := F_x0_lastSequence.other W835 (Or.inr (osn_Slots_lastSequence_freeCount hw))
  have V_x1 := V_x1.other W835 (Ne.symm ne_x0_x1)
  have V_x2 := V_x2.other W835 (Ne.symm ne_x0_x2)
  have V_x3 := V_x3.other W835 (Ne.symm ne_x0_x3)
  have O835 := O0.wr W835 ge_x0
  have K835 := K0.wr W835 (Or.inl (List.mem_of_getElem? (i := 0) rfl))
  have N835 := Fr.snoc X835 N0 ge_x0
  have vt836 := V_x3
  obtain ⟨cl836, Ar836, q836, S836, Ng836, Ha836, G836⟩ := vt836
  have hin836 : ¬ ((1 : Int32) < 0 ∨ cl836.slots.size ≤ ((1 : Int32)).toNatClampNeg) := inb_of S836 ⟨by decide, by decide⟩
  have hat836 : cl836.slots[((1 : Int32)).toNatClampNeg]? = some (.int 0) := Ha836.at hin836 rfl
  obtain ⟨T837, X837, e837, st837⟩ := getF X835 hx hZ hown (host := "") (Or.inl (own_w hw 43 rfl)) Via.refl e835 F_x0_lastSequence (g := (mkF m 36 #[rv x0, rv w_I4, iv 0] [(.ref x0), (.ref x0)])) rfl rfl (hb hby de_36)
  have pre838 : ∀ t, oS p e below m T837 43 #[rv x0, rv w_I4, iv 0] [(.int (lcmpW (2 : Int64) (17592186044415 : Int64))), (.ref x0)] t → oT p e below s₁ (entryFrame m #[(.ref x0), (.ref w_I4)] 3) t := by
    intro t kt
    refine pre834 t ?_
    show oS p e below m T833 28 #[rv x0, rv w_I4, .unset] [(.int 1), (.ref x0), (.ref x3)] _
    refine XS.dupX1 X833.here hx rfl (hb hby de_28) rfl rfl rfl ?_
    show oS p e below m T833 29 #[rv x0, rv w_I4, .unset] [(.int 1), (.ref x0), (.int 1), (.ref x3)] _
    refine st835 _ ?_
    show oS p e below m T835 32 #[rv x0, rv w_I4, .unset] [(.int 1), (.ref x3)] _
    refine X835.iaload hx (j := (1 : Int32)) (v := (.int 0)) (by rw [e835]; exact Ar836.1) (State.isArrayOf_alike hZ.alike Ar836.2.1) Ar836.2.2 hin836 hat836 (g := (mkF m 32 #[rv x0, rv w_I4, .unset] [(.int 1), (.ref x3)])) rfl rfl (hb hby de_32) _ ?_
    show oS p e below m T835 33 #[rv x0, rv w_I4, .unset] [(.int 0)] _
    refine XS.istoreN X835.here hx rfl (hb hby de_33) rfl (l' := #[rv x0, rv w_I4, iv 0]) rfl ?_
    refine XS.aloadN X835.here hx rfl (hb hby de_34) rfl rfl ?_
    show oS p e below m T835 35 #[rv x0, rv w_I4, iv 0] [(.ref x0)] _
    refine XS.aloadN X835.here hx rfl (hb hby de_35) rfl rfl ?_
    show oS p e below m T835 36 #[rv x0, rv w_I4, iv 0] [(.ref x0), (.ref x0)] _
    refine st837 _ ?_
    show oS p e below m T837 39 #[rv x0, rv w_I4, iv 0] [(.long 2), (.ref x0)] _
    refine X837.ldc2Long hx hown (mvT hZ (own_w hw 45 rfl)) (g := (mkF m 39 #[rv x0, rv w_I4, iv 0] [(.long 2), (.ref x0)])) rfl (hb hby de_39) _ ?_
    show oS p e below m T837 42 #[rv x0, rv w_I4, iv 0] [(.long 17592186044415), (.long 2), (.ref x0)] _
    refine XS.lcmp X837.here hx rfl (hb hby de_42) rfl ?_
    exact kt
  rw [show (lcmpW (2 : Int64) (17592186044415 : Int64)) = (-1 : Int32) from by decide] at pre838
  obtain ⟨T840, X840, e840, st840⟩ := getF X837 hx hZ hown (host := "") (Or.inl (own_w hw 43 rfl)) Via.refl e837 F_x0_lastSequence (g := (mkF m 51 #[rv x0, rv w_I4, iv 0] [(.ref x0), (.ref x0)])) rfl rfl (hb hby de_51)
  have pre841 : ∀ t, oS p e below m T840 56 #[rv x0, rv w_I4, iv 0] [(.long ((2 : Int64) + (1 : Int64))), (.ref x0)] t → oT p e below s₁ (entryFrame m #[(.ref x0), (.ref w_I4)] 3) t := by
    intro t kt
    refine pre838 t ?_
    show oS p e below m T837 43 #[rv x0, rv w_I4, iv 0] [(.int (-1 : Int32)), (.ref x0)] _
    refine XS.ifYes X837.here hx rfl (pc0 := 43) (pc' := 50) rfl (hb hby de_43) rfl ((if0 _ _).trans (feq (by decide : ¬ ((-1 : Int32) = (0 : Int32)))).2) (by decide) (by decide) ?_
    refine XS.aloadN X837.here hx rfl (hb hby de_50) rfl rfl ?_
    show oS p e below m T837 51 #[rv x0, rv w_I4, iv 0] [(.ref x0), (.ref x0)] _
    refine st840 _ ?_
    show oS p e below m T840 54 #[rv x0, rv w_I4, iv 0] [(.long 2), (.ref x0)] _
    refine XS.lconst X840.here hx rfl (hb hby de_54) ?_
    refine XS.ladd X840.here hx rfl (hb hby de_55) rfl ?_
    exact kt
  rw [show ((2 : Int64) + (1 : Int64)) = (3 : Int64) from by decide] at pre841
  obtain ⟨T842, h842, X842, e842, W842, st842⟩ := putF X840 hx hZ hown (host := "") (Or.inl (own_w hw 43 rfl)) Via.refl e840 F_x0_lastSequence E_x0 (Or.inl (own_w hw 44 rfl)) (own_w hw 5 rfl) (ty := .long) (by decide) rfl rfl (g := (mkF m 56 #[rv x0, rv w_I4, iv 0] [(.long 3), (.ref x0)])) rfl rfl (hb hby de_56)
  have F_x0_lastSequence := F_x0_lastSequence.same W842
  have E_x0 := E_x0.wr W842
  have F_x0_requests := F_x0_requests.other W842 (Or.inr (osn_Slots_requests_lastSequence hw))
  have F_x0_sequences := F_x0_sequences.other W842 (Or.inr (osn_Slots_sequences_lastSequence hw))
  have F_x0_free := F_x0_free.other W842 (Or.inr (osn_Slots_free_lastSequence hw))
  have F_x0_freeCount := F_x0_freeCount.other W842 (Or.inr (osn_Slots_freeCount_lastSequence hw))
  have V_x1 := V_x1.other W842 (Ne.symm ne_x0_x1)
  have V_x2 := V_x2.other W842 (Ne.symm ne_x0_x2)
  have V_x3 := V_x3.other W842 (Ne.symm ne_x0_x3)
  have O842 := O835.wr W842 ge_x0
  have K842 := K835.wr W842 (Or.inl (List.mem_of_getElem? (i := 0) rfl))
  have N842 := Fr.snoc X842 N835 ge_x0
  obtain ⟨T843, X843, e843, st843⟩ := getF X842 hx hZ hown (host := "") (Or.inl (own_w hw 16 rfl)) Via.refl e842 F_x0_requests (g := (mkF m 60 #[rv x0, rv w_I4, iv 0] [(.ref x0)])) rfl rfl (hb hby de_60)
  have vt844 := V_x1
  obtain ⟨cl844, Ar844, q844, S844, Ng844, Ha844, G844⟩ := vt844
  have hin844 : ¬ ((0 : Int32) < 0 ∨ cl844.slots.size ≤ ((0 : Int32)).toNatClampNeg) := inb_of S844 ⟨by decide, by decide⟩
  obtain ⟨T845, h845, X845, e845, W845, st845⟩ := stR X843 hx hZ e843 Ar844 (j := (0 : Int32)) hin844 rfl (Sto.ofV Ar844 q844 O_x1 (Ins.of_exa (E_I4.ext O842.2) (own_w hw 46 rfl))) (g := (mkF m 65 #[rv x0, rv w_I4, iv 0] [(.ref w_I4), (.int 0), (.ref x1)])) rfl rfl (hb hby de_65)
  have V_x1 : Arv Z h845 x1 kc0 (.object oc9) (3 : Int32) [(.ref w_I4), (.ref w_I2), .null] .null := Arv.set Ar844 q844 S844 Ng844 Ha844 G844 rfl W845 0 rfl (Nat.le_of_ble_eq_true rfl)
  have E_x0 := E_x0.wr W845
  have F_x0_requests := F_x0_requests.other W845 (Or.inl ne_x0_x1)
  have F_x0_sequences := F_x0_sequences.other W845 (Or.inl ne_x0_x1)
  have F_x0_free := F_x0_free.other W845 (Or.inl ne_x0_x1)
  have F_x0_freeCount := F_x0_freeCount.other W845 (Or.inl ne_x0_x1)
  have F_x0_lastSequence := F_x0_lastSequence.other W845 (Or.inl ne_x0_x1)
  have V_x2 := V_x2.other W845 (Ne.symm ne_x1_x2)
  have V_x3 := V_x3.other W845 (Ne.symm ne_x1_x3)
  have O845 := O842.wr W845 ge_x1
  have K845 := K842.wr W845 (Or.inl (List.mem_of_getElem? (i := 1) rfl))
  have N845 := Fr.snoc X845 N842 ge_x1
  obtain ⟨T846, X846, e846, st846⟩ := getF X845 hx hZ hown (host := "") (Or.inl (own_w hw 19 rfl)) Via.refl e845 F_x0_sequences (g := (mkF m 67 #[rv x0, rv w_I4, iv 0] [(.ref x0)])) rfl rfl (hb hby de_67)
  obtain ⟨T847, X847, e847, st847⟩ := getF X846 hx hZ hown (host := "") (Or.inl (own_w hw 43 rfl)) Via.refl e846 F_x0_lastSequence (g := (mkF m 72 #[rv x0, rv w_I4, iv 0] [(.ref x0), (.int 0), (.ref x2)])) rfl rfl (hb hby de_72)
  have vt848 := V_x2
  obtain ⟨cl848, Ar848, q848, S848, Ng848, Ha848, G848⟩ := vt848
  have hin848 : ¬ ((0 : Int32) < 0 ∨ cl848.slots.size ≤ ((0 : Int32)).toNatClampNeg) := inb_of S848 ⟨by decide, by decide⟩
  obtain ⟨T849, h849, X849, e849, W849, st849⟩ := stJ X847 hx hZ e847 Ar848 (j := (0 : Int32)) hin848 (g := (mkF m 75 #[rv x0, rv w_I4, iv 0] [(.long 3), (.int 0), (.ref x2)])) rfl rfl (hb hby de_75)
  have V_x2 : Arv Z h849 x2 kc1 .long (3 : Int32) [(.long 3), (.long 2), (.long 0)] (.long 0) := Arv.set Ar848 q848 S848 Ng848 Ha848 G848 rfl W849 0 rfl (Nat.le_of_ble_eq_true rfl)
  have E_x0 := E_x0.wr W849
  have F_x0_requests := F_x0_requests.other W849 (Or.inl ne_x0_x2)
  have F_x0_sequences := F_x0_sequences.other W849 (Or.inl ne_x0_x2)
  have F_x0_free := F_x0_free.other W849 (Or.inl ne_x0_x2)
  have F_x0_freeCount := F_x0_freeCount.other W849 (Or.inl ne_x0_x2)
  have F_x0_lastSequence := F_x0_lastSequence.other W849 (Or.inl ne_x0_x2)
  have V_x1 := V_x1.other W849 ne_x1_x2
  have V_x3 := V_x3.other W849 (Ne.symm ne_x2_x3)
  have O849 := O845.wr W849 ge_x2
  have K849 := K845.wr W849 (Or.inl (List.mem_of_getElem? (i := 2) rfl))
  have N849 := Fr.snoc X849 N845 ge_x2
  obtain ⟨T850, X850, e850, st850⟩ := getF X849 hx hZ hown (host := "") (Or.inl (own_w hw 43 rfl)) Via.refl e849 F_x0_lastSequence (g := (mkF m 77 #[rv x0, rv w_I4, iv 0] [(.ref x0)])) rfl rfl (hb hby de_77)
  have pre851 : ∀ t, oS p e below m T850 83 #[rv x0, rv w_I4, iv 0] [(.long ((3 : Int64) <<< ((20 : Int32) &&& 0x3f).toInt64))] t → oT p e below s₁ (entryFrame m #[(.ref x0), (.ref w_I4)] 3) t := by
    intro t kt
    refine pre841 t ?_
    show oS p e below m T840 56 #[rv x0, rv w_I4, iv 0] [(.long 3), (.ref x0)] _
    refine st842 _ ?_
    show oS p e below m T842 59 #[rv x0, rv w_I4, iv 0] [] _
    refine XS.aloadN X842.here hx rfl (hb hby de_59) rfl rfl ?_
    show oS p e below m T842 60 #[rv x0, rv w_I4, iv 0] [(.ref x0)] _
    refine st843 _ ?_
    show oS p e below m T843 63 #[rv x0, rv w_I4, iv 0] [(.ref x1)] _
    refine XS.iloadN X843.here hx rfl (hb hby de_63) rfl ?_
    refine XS.aloadN X843.here hx rfl (hb hby de_64) rfl rfl ?_
    show oS p e below m T843 65 #[rv x0, rv w_I4, iv 0] [(.ref w_I4), (.int 0), (.ref x1)] _
    refine st845 _ ?_
    show oS p e below m T845 66 #[rv x0, rv w_I4, iv 0] [] _
    refine XS.aloadN X845.here hx rfl (hb hby de_66) rfl rfl ?_
    show oS p e below m T845 67 #[rv x0, rv w_I4, iv 0] [(.ref x0)] _
    refine st846 _ ?_
    show oS p e below m T846 70 #[rv x0, rv w_I4, iv 0] [(.ref x2)] _
    refine XS.iloadN X846.here hx rfl (hb hby de_70) rfl ?_
    refine XS.aloadN X846.here hx rfl (hb hby de_71) rfl rfl ?_
    show oS p e below m T846 72 #[rv x0, rv w_I4, iv 0] [(.ref x0), (.int 0), (.ref x2)] _
    refine st847 _ ?_
    show oS p e below m T847 75 #[rv x0, rv w_I4, iv 0] [(.long 3), (.int 0), (.ref x2)] _
    refine st849 _ ?_
    show oS p e below m T849 76 #[rv x0, rv w_I4, iv 0] [] _
    refine XS.aloadN X849.here hx rfl (hb hby de_76) rfl rfl ?_
    show oS p e below m T849 77 #[rv x0, rv w_I4, iv 0] [(.ref x0)] _
    refine st850 _ ?_
    show oS p e below m T850 80 #[rv x0, rv w_I4, iv 0] [(.long 3)] _
    refine XS.bipush X850.here hx rfl (hb hby de_80) ?_
    refine XS.lshl X850.here hx rfl (hb hby de_82) rfl ?_
    exact kt
  rw [show ((3 : Int64) <<< ((20 : Int32) &&& 0x3f).toInt64) = (3145728 : Int64) from by decide] at pre851
  have pre852 : ∀ t, oS p e below m T850 85 #[rv x0, rv w_I4, iv 0] [(.long ((0 : Int32).toInt64)), (.long 3145728)] t → oT p e below s₁ (entryFrame m #[(.ref x0), (.ref w_I4)] 3) t := by
    intro t kt
    refine pre851 t ?_
    show oS p e below m T850 83 #[rv x0, rv w_I4, iv 0] [(.long 3145728)] _
    refine XS.iloadN X850.here hx rfl (hb hby de_83) rfl ?_
    refine XS.i2l X850.here hx rfl (hb hby de_84) rfl ?_
    exact kt
  rw [show ((0 : Int32).toInt64) = (0 : Int64) from by decide] at pre852
  have pre853 : ∀ t, oS p e below m T850 86 #[rv x0, rv w_I4, iv 0] [(.long ((3145728 : Int64) ||| (0 : Int64)))] t → oT p e below s₁ (entryFrame m #[(.ref x0), (.ref w_I4)] 3) t := by
    intro t kt
    refine pre852 t ?_
    show oS p e below m T850 85 #[rv x0, rv w_I4, iv 0] [(.long 0), (.long 3145728)] _
    refine XS.lor X850.here hx rfl (hb hby de_85) rfl ?_
    exact kt
  rw [show ((3145728 : Int64) ||| (0 : Int64)) = (3145728 : Int64) from by decide] at pre853
  obtain ⟨fs, hr, hrun, hended, hW, hsame⟩ := X850.leave (v := some (.long 3145728)) (fun h => by rw [Bd.returns] at h; cases h)
  refine ⟨_, _, pre853 _ ?_, hrun, hended, _, _, rfl, ?_, ⟨_, rfl⟩, hW, hsame.mono (by decide) (by decide)⟩
  · show oS p e below m T850 86 #[rv x0, rv w_I4, iv 0] [(.long 3145728)] _
    jvm_step X850.here [X850.here.top, hx, (hb hby de_86), X850.method', Bd.returns, narrow]
    first | (intro acts; rw [hr _ acts rfl rfl rfl]) | rw [hr _ _ rfl rfl rfl]
    exact Steps.refl _
  · show Q_rm_take_43 Z x0 x1 x2 x3 kc0 kc1 kc2 w_I4 w_I2 h0 n0 _ T850.heap _
    rw [e850]
    exact ⟨rfl, N849, K849, E_x0, F_x0_requests, F_x0_sequences, F_x0_free, F_x0_freeCount, F_x0_lastSequence, V_x1, V_x2⟩
theorem ef_rm_get_45 (m : MethodId) (x0 : Addr) : entryFrame m #[(.ref x0), (.long 1048576)] 7 = mkF m 0 (oL1 x0) [] := by first | (simp [entryFrame, mkF, argsToLocals, Value.category]; done) | rfl
def Q_rm_get_45 (Z : State) (x0 : Addr) (x1 : Addr) (x2 : Addr) (kc0 : ClassId) (kc1 : ClassId) (w_I2 : Addr) (h0 : Heap) (n0 : Nat) (v : Option Value) (h : Heap) (L : List Loc) : Prop := v = some .null ∧ Fr n0 L ∧ h = h0
set_option maxRecDepth 65536 in
set_option maxHeartbeats 40000000 in
theorem rm_get_45 (l : Launch) (Z : State) (a0 : Array Value) (hw : ∀ d ∈ tables_1, d.before a0 Z = true) (ws : List Jvm.Cond) (x0 : Addr) (x1 : Addr) (x2 : Addr) (kc0 : ClassId) (kc1 : ClassId) (w_I2 : Addr) (h0 : Heap) (n0 : Nat) (O0 : Old Z n0 h0) (F_x0_requests : Fld Z h0 x0 oc8 "requests" "[Ljava/lang/Object;" (.ref x1)) (F_x0_sequences : Fld Z h0 x0 oc8 "sequences" "[J" (.ref x2)) (V_x1 : Arv Z h0 x1 kc0 (.object oc9) (3 : Int32) [.null, (.ref w_I2), .null] .null) (V_x2 : Arv Z h0 x2 kc1 .long (3 : Int32) [(.long 0), (.long 2), (.long 0)] (.long 0))  :
    oM l oy6 prog_29_method_5_code 7 (some (.object oc9)) ws ({ frames := 0, cells := 0, slots := 0, locals := 0 } : Room) Z #[(.ref x0), (.long 1048576)] h0 (Q_rm_get_45 Z x0 x1 x2 kc0 kc1 w_I2 h0 n0) := by
  refine MetFree.of_bodySF (plainFor_of_name pn_com_example_wend_wend_Slots) hisR ?_
  intro p e s m args below meth c s₁ Bd hml0 hP hK
  obtain ⟨rfl, hZ, hh⟩ := hP
  have hx := Bd.exec
  have hby := Bd.bytes
  have hml : c.maxLocals = 7 := hml0
  have hown : s.vm.findClass oc8 = some m.cls := findClass_of_methodNamed Bd.named
  have hnm := (name_of_methodNamed Bd.named Bd.method).1
  have X0 : Stand p l e ({ frames := 0, cells := 0, slots := 0, locals := 0 } : Room) s m #[(.ref x0), (.long 1048576)] below meth c s₁ [] 0 0 := Stand.of_body Bd
  have e0 : s₁.heap = h0 := by rw [← hh, Bd.state]; rfl
  have N0 := Fr.nil n0
  have pre0 : ∀ t, oS p e below m s₁ 0 (oL1 x0) [] t → oT p e below s₁ (entryFrame m #[(.ref x0), (.long 1048576)] 7) t := fun t k => castTop (ef_rm_get_45 m x0) k
  have K0 := Keep.refl h0 []
  have pre865 : ∀ t, oS p e below m s₁ 5 (oL1 x0) [(.long ((1048576 : Int64) &&& (1048575 : Int64)))] t → oT p e below s₁ (entryFrame m #[(.ref x0), (.long 1048576)] 7) t := by
    intro t kt
    refine pre0 t ?_
    show oS p e below m s₁ 0 (oL1 x0) [] _
    refine XS.lloadN X0.here hx rfl (hb hby df_0) rfl ?_
    show oS p e below m s₁ 1 (oL1 x0) [(.long 1048576)] _
    refine X0.ldc2Long hx hown (mvT hZ (own_w hw 57 rfl)) (g := (mkF m 1 (oL1 x0) [(.long 1048576)])) rfl (hb hby df_1) _ ?_
    show oS p e below m s₁ 4 (oL1 x0) [(.long 1048575), (.long 1048576)] _
    refine XS.land X0.here hx rfl (hb hby df_4) rfl ?_
    exact kt
  rw [show ((1048576 : Int64) &&& (1048575 : Int64)) = (0 : Int64) from by decide] at pre865
  have pre866 : ∀ t, oS p e below m s₁ 6 (oL1 x0) [(.int ((0 : Int64).toInt32))] t → oT p e below s₁ (entryFrame m #[(.ref x0), (.long 1048576)] 7) t := by
    intro t kt
    refine pre865 t ?_
    show oS p e below m s₁ 5 (oL1 x0) [(.long 0)] _
    refine XS.l2i X0.here hx rfl (hb hby df_5) rfl ?_
    exact kt
  rw [show ((0 : Int64).toInt32) = (0 : Int32) from by decide] at pre866
  have pre867 : ∀ t, oS p e below m s₁ 11 (oL4 x0) [(.long (((1048576 : Int64).toUInt64 >>> ((20 : Int32) &&& 0x3f).toInt64.toUInt64).toInt64))] t → oT p e below s₁ (entryFrame m #[(.ref x0), (.long 1048576)] 7) t := by
    intro t kt
    refine pre866 t ?_
    show oS p e below m s₁ 6 (oL1 x0) [(.int 0)] _
    refine XS.istoreN X0.here hx rfl (hb hby df_6) rfl (l' := (oL4 x0)) rfl ?_
    refine XS.lloadN X0.here hx rfl (hb hby df_7) rfl ?_
    show oS p e below m s₁ 8 (oL4 x0) [(.long 1048576)] _
    refine XS.bipush X0.here hx rfl (hb hby df_8) ?_
    refine XS.lushr X0.here hx rfl (hb hby df_10) rfl ?_
    exact kt
  rw [show (((1048576 : Int64).toUInt64 >>> ((20 : Int32) &&& 0x3f).toInt64.toUInt64).toInt64) = (1 : Int64) from by decide] at pre867
  obtain ⟨T868, X868, e868, st868⟩ := getF X0 hx hZ hown (host := "") (Or.inl (own_w hw 16 rfl)) Via.refl e0 F_x0_requests (g := (mkF m 15 (oL0 x0) [(.ref x0), (.int 0)])) rfl rfl (hb hby df_15)
  have vt869 := V_x1
  obtain ⟨cl869, Ar869, q869, S869, Ng869, Ha869, G869⟩ := vt869
  obtain ⟨T871, X871, e871, st871⟩ := getF X868 hx hZ hown (host := "") (Or.inl (own_w hw 19 rfl)) Via.refl e868 F_x0_sequences (g := (mkF m 23 (oL0 x0) [(.ref x0)])) rfl rfl (hb hby df_23)
  have vt872 := V_x2
  obtain ⟨cl872, Ar872, q872, S872, Ng872, Ha872, G872⟩ := vt872
  have hin872 : ¬ ((0 : Int32) < 0 ∨ cl872.slots.size ≤ ((0 : Int32)).toNatClampNeg) := inb_of S872 ⟨by decide, by decide⟩
  have hat872 : cl872.slots[((0 : Int32)).toNatClampNeg]? = some (.long 0) := Ha872.at hin872 rfl
  have pre873 : ∀ t, oS p e below m T871 31 (oL0 x0) [(.int (lcmpW (0 : Int64) (1 : Int64)))] t → oT p e below s₁ (entryFrame m #[(.ref x0), (.long 1048576)] 7) t := by
    intro t kt
    refine pre867 t ?_
    show oS p e below m s₁ 11 (oL4 x0) [(.long 1)] _
    refine XS.lstore X0.here hx rfl (hb hby df_11) rfl (l' := (oL0 x0)) rfl ?_
    refine XS.iloadN X0.here hx rfl (hb hby df_13) rfl ?_
    show oS p e below m s₁ 14 (oL0 x0) [(.int 0)] _
    refine XS.aloadN X0.here hx rfl (hb hby df_14) rfl rfl ?_
    show oS p e below m s₁ 15 (oL0 x0) [(.ref x0), (.int 0)] _
    refine st868 _ ?_
    show oS p e below m T868 18 (oL0 x0) [(.ref x1), (.int 0)] _
    refine X868.arraylength hx (by rw [e868]; exact Ar869.1) (State.isArrayOf_alike hZ.alike Ar869.2.1) (g := (mkF m 18 (oL0 x0) [(.ref x1), (.int 0)])) rfl rfl (hb hby df_18) _ ?_
    rw [len_of S869 Ng869]
    show oS p e below m T868 19 (oL0 x0) [(.int 3), (.int 0)] _
    refine XS.icmpNo X868.here hx rfl (hb hby df_19) rfl (tlt (by decide : (0 : Int32) < (3 : Int32))).2.1 ?_
    refine XS.aloadN X868.here hx rfl (hb hby df_22) rfl rfl ?_
    show oS p e below m T868 23 (oL0 x0) [(.ref x0)] _
    refine st871 _ ?_
    show oS p e below m T871 26 (oL0 x0) [(.ref x2)] _
    refine XS.iloadN X871.here hx rfl (hb hby df_26) rfl ?_
    show oS p e below m T871 27 (oL0 x0) [(.int 0), (.ref x2)] _
    refine X871.laload hx (j := (0 : Int32)) (v := (.long 0)) (by rw [e871]; exact Ar872.1) (State.isArrayOf_alike hZ.alike Ar872.2.1) Ar872.2.2 hin872 hat872 (g := (mkF m 27 (oL0 x0) [(.int 0), (.ref x2)])) rfl rfl (hb hby df_27) _ ?_
    show oS p e below m T871 28 (oL0 x0) [(.long 0)] _
    refine XS.lload X871.here hx rfl (hb hby df_28) rfl ?_
    refine XS.lcmp X871.here hx rfl (hb hby df_30) rfl ?_
    exact kt
  rw [show (lcmpW (0 : Int64) (1 : Int64)) = (-1 : Int32) from by decide] at pre873
  have pre876 : ∀ t, oS p e below m T871 56 (oL12 x0) [.null] t → oT p e below s₁ (entryFrame m #[(.ref x0), (.long 1048576)] 7) t := by
    intro t kt
    refine pre873 t ?_
    show oS p e below m T871 31 (oL0 x0) [(.int (-1 : Int32))] _
    refine XS.ifYes X871.here hx rfl (pc0 := 31) (pc' := 38) rfl (hb hby df_31) rfl ((if0 _ _).trans (feq (by decide : ¬ ((-1 : Int32) = (0 : Int32)))).2) (by decide) (by decide) ?_
    refine XS.iconst X871.here hx rfl (hb hby df_38) ?_
    show oS p e below m T871 39 (oL0 x0) [(.int 0)] _
    refine XS.istore X871.here hx rfl (hb hby df_39) rfl (l' := (oL12 x0)) rfl ?_
    refine XS.iload X871.here hx rfl (hb hby df_41) rfl ?_
    show oS p e below m T871 43 (oL12 x0) [(.int 0)] _
    refine XS.ifYes X871.here hx rfl (pc0 := 43) (pc' := 55) rfl (hb hby df_43) rfl ((if0 _ _).trans (teq (by decide : (0 : Int32) = (0 : Int32))).1) (by decide) (by decide) ?_
    refine XS.aconstNull X871.here hx rfl (hb hby df_55) ?_
    exact kt
  obtain ⟨fs, hr, hrun, hended, hW, hsame⟩ := X871.leave (v := some .null) (fun h => by rw [Bd.returns] at h; cases h)
  refine ⟨_, _, pre876 _ ?_, hrun, hended, _, _, rfl, ?_, ⟨_, rfl⟩, hW, hsame.mono (by decide) (by decide)⟩
  · show oS p e below m T871 56 (oL12 x0) [.null] _
    jvm_step X871.here [X871.here.top, hx, (hb hby df_56), X871.method', Bd.returns, Value.isRef, FieldType.isReference]
    first | (intro acts; rw [hr _ acts rfl rfl rfl]) | rw [hr _ _ rfl rfl rfl]
    exact Steps.refl _
  · show Q_rm_get_45 Z x0 x1 x2 kc0 kc1 w_I2 h0 n0 _ T871.heap _
    rw [e871]
    exact ⟨rfl, N0, rfl⟩
theorem ef_rm_release_44 (m : MethodId) (x0 : Addr) : entryFrame m #[(.ref x0), (.long 1048576)] 4 = mkF m 0 (oL3 x0) [] := by first | (simp [entryFrame, mkF, argsToLocals, Value.category]; done) | rfl
def Q_rm_release_44 (Z : State) (x0 : Addr) (x1 : Addr) (x2 : Addr) (x3 : Addr) (kc0 : ClassId) (kc1 : ClassId) (w_I2 : Addr) (h0 : Heap) (n0 : Nat) (v : Option Value) (h : Heap) (L : List Loc) : Prop := v = some .null ∧ Fr n0 L ∧ h = h0
set_option maxRecDepth 65536 in
set_option maxHeartbeats 40000000 in
theorem rm_release_44 (l : Launch) (Z : State) (a0 : Array Value) (hw : ∀ d ∈ tables_1, d.before a0 Z = true) (ws : List Jvm.Cond) (x0 : Addr) (x1 : Addr) (x2 : Addr) (x3 : Addr) (kc0 : ClassId) (kc1 : ClassId) (w_I2 : Addr) (h0 : Heap) (n0 : Nat) (O0 : Old Z n0 h0) (E_x0 : Exa Z h0 x0 oc8) (F_x0_requests : Fld Z h0 x0 oc8 "requests" "[Ljava/lang/Object;" (.ref x1)) (F_x0_sequences : Fld Z h0 x0 oc8 "sequences" "[J" (.ref x2)) (V_x1 : Arv Z h0 x1 kc0 (.object oc9) (3 : Int32) [.null, (.ref w_I2), .null] .null) (V_x2 : Arv Z h0 x2 kc1 .long (3 : Int32) [(.long 0), (.long 2), (.long 0)] (.long 0)) (ne_x0_x1 : x0 ≠ x1) (ne_x0_x2 : x0 ≠ x2) (ne_x0_x3 : x0 ≠ x3) (ne_x1_x2 : x1 ≠ x2) (ne_x1_x3 : x1 ≠ x3) (ne_x2_x3 : x2 ≠ x3)  :
    oM l oy5 prog_29_method_6_code 4 (some (.object oc9)) ws ({ frames := 1, cells := 0, slots := 0, locals := 18 } : Room) Z #[(.ref x0), (.long 1048576)] h0 (Q_rm_release_44 Z x0 x1 x2 x3 kc0 kc1 w_I2 h0 n0) := by
  refine MetFree.of_bodySF (plainFor_of_name pn_com_example_wend_wend_Slots) hisR ?_
  intro p e s m args below meth c s₁ Bd hml0 hP hK
  obtain ⟨rfl, hZ, hh⟩ := hP
  have hx := Bd.exec
  have hby := Bd.bytes
  have hml : c.maxLocals = 4 := hml0
  have hown : s.vm.findClass oc8 = some m.cls := findClass_of_methodNamed Bd.named
  have hnm := (name_of_methodNamed Bd.named Bd.method).1
  have X0 : Stand p l e ({ frames := 1, cells := 0, slots := 0, locals := 18 } : Room) s m #[(.ref x0), (.long 1048576)] below meth c s₁ [] 0 0 := Stand.of_body Bd
  have e0 : s₁.heap = h0 := by rw [← hh, Bd.state]; rfl
  have N0 := Fr.nil n0
  have pre0 : ∀ t, oS p e below m s₁ 0 (oL3 x0) [] t → oT p e below s₁ (entryFrame m #[(.ref x0), (.long 1048576)] 4) t := fun t k => castTop (ef_rm_release_44 m x0) k
  have K0 := Keep.refl h0 []
  obtain ⟨cq864, kq864, q864a, q864b, q864c⟩ := isOf hZ e0 E_x0
  obtain ⟨_, _, ⟨T864, L864, k864, n864⟩, -, X864, ⟨Lc864, hQ864, l864, y864, z864⟩, st864⟩ := X0.virtualBack hx (y := oy6) (z := oy6) hown (mvT hZ (own_w hw 52 rfl)) (mvT hZ (own_w hw 53 rfl)) (notFace_of_selects (args := #[]) (mvT hZ (own_w hw 55 rfl))) (mvT hZ (own_w hw 55 rfl)) (mvT hZ (own_w hw 54 rfl)) (by decide) (backOf (W := 0) (rm_get_45 l Z a0 hw [] x0 x1 x2 kc0 kc1 w_I2 h0 n0 O0 F_x0_requests F_x0_sequences V_x1 V_x2 ) hZ (own_w hw 56 rfl) (own_w hw 6 rfl) (by decide) (by decide)) q864a q864c (g := (mkF m 2 (oL3 x0) [(.long 1048576), (.ref x0)])) rfl (by rw [hml]; rfl) (Steps.refl _) (argsL := [(.long 1048576)]) (rest := []) (lenOf pd__J_Ljava_lang_Object_ rfl) rfl (by show 2 * 0 + _ ≤ _; exact Nat.le_of_eq rfl) (hb hby dg_2) (fun _ _ => ⟨rfl, e0, (by decide : 0 + 0 ≤ _), (by decide : 0 + 0 ≤ _)⟩)
  dsimp only [Pt.U, Pt.locs, Pt.cells, Pt.slots] at X864 l864 y864 z864 st864 hQ864
  subst l864 y864 z864
  obtain ⟨rfl, N864q, e864⟩ := hQ864
  have N864 := Fr.app N0 N864q
  have pre877 : ∀ t, oS p e below m T864 21 (oL13 x0) [.null] t → oT p e below s₁ (entryFrame m #[(.ref x0), (.long 1048576)] 4) t := by
    intro t kt
    refine pre0 t ?_
    show oS p e below m s₁ 0 (oL3 x0) [] _
    refine XS.aloadN X0.here hx rfl (hb hby dg_0) rfl rfl ?_
    refine XS.lloadN X0.here hx rfl (hb hby dg_1) rfl ?_
    show oS p e below m s₁ 2 (oL3 x0) [(.long 1048576), (.ref x0)] _
    refine st864.trans ?_
    show oS p e below m T864 5 (oL3 x0) [.null] _
    refine XS.astoreN X864.here hx rfl (hb hby dg_5) rfl rfl (l' := (oL13 x0)) rfl ?_
    refine XS.aloadN X864.here hx rfl (hb hby dg_6) rfl rfl ?_
    show oS p e below m T864 7 (oL13 x0) [.null] _
    refine XS.ifnullYes X864.here hx rfl (pc0 := 7) (pc' := 20) rfl (hb hby dg_7) rfl (by decide) (by decide) ?_
    refine XS.aloadN X864.here hx rfl (hb hby dg_20) rfl rfl ?_
    exact kt
  obtain ⟨fs, hr, hrun, hended, hW, hsame⟩ := X864.leave (v := some .null) (fun h => by rw [Bd.returns] at h; cases h)
  refine ⟨_, _, pre877 _ ?_, hrun, hended, _, _, rfl, ?_, ⟨_, rfl⟩, hW, hsame.mono (by decide) (by decide)⟩
  · show oS p e below m T864 21 (oL13 x0) [.null] _
    jvm_step X864.here [X864.here.top, hx, (hb hby dg_21), X864.method', Bd.returns, Value.isRef, FieldType.isReference]
    first | (intro acts; rw [hr _ acts rfl rfl rfl]) | rw [hr _ _ rfl rfl rfl]
    exact Steps.refl _
  · show Q_rm_release_44 Z x0 x1 x2 x3 kc0 kc1 w_I2 h0 n0 _ T864.heap _
    rw [e864]
    exact ⟨rfl, N864, rfl⟩
theorem ef_rm_valueOf_46 (m : MethodId)  : entryFrame m #[(.int 3)] 1 = mkF m 0 #[iv 3] [] := by first | (simp [entryFrame, mkF, argsToLocals, Value.category]; done) | rfl
def Q_rm_valueOf_46 (Z : State) (w_cache : Addr) (cl_cache : Cell) (w_I3 : Addr) (h0 : Heap) (n0 : Nat) (v : Option Value) (h : Heap) (L : List Loc) : Prop := v = some (.ref w_I3) ∧ Fr n0 L ∧ h = h0
set_option maxRecDepth 65536 in
set_option maxHeartbeats 40000000 in
theorem rm_valueOf_46 (l : Launch) (Z : State) (a0 : Array Value) (hw : ∀ d ∈ tables_1, d.before a0 Z = true) (ws : List Jvm.Cond) (w_cache : Addr) (cl_cache : Cell) (w_I3 : Addr) (h0 : Heap) (n0 : Nat) (O0 : Old Z n0 h0)  (S_high : Sta Z Z.heap "java/lang/Integer$IntegerCache" "high" "I" (.int 127)) (S_cache : Sta Z Z.heap "java/lang/Integer$IntegerCache" "cache" "[Ljava/lang/Integer;" (.ref w_cache)) (AE_3 : cl_cache.slots[((131 : Int32)).toNatClampNeg]? = some (.ref w_I3)) (A_cache : Arr Z Z.heap w_cache cl_cache (.object oc10)) :
    oM l oy3 jdk_33_method_22_code 1 (some (.object oc10)) ws ({ frames := 0, cells := 0, slots := 0, locals := 0 } : Room) Z #[(.int 3)] h0 (Q_rm_valueOf_46 Z w_cache cl_cache w_I3 h0 n0) := by
  refine MetFree.of_bodySF (plainFor_of_name pn_java_lang_Integer) hisR ?_
  intro p e s m args below meth c s₁ Bd hml0 hP hK
  obtain ⟨rfl, hZ, hh⟩ := hP
  have hx := Bd.exec
  have hby := Bd.bytes
  have hml : c.maxLocals = 1 := hml0
  have hown : s.vm.findClass oc10 = some m.cls := findClass_of_methodNamed Bd.named
  have hnm := (name_of_methodNamed Bd.named Bd.method).1
  have X0 : Stand p l e ({ frames := 0, cells := 0, slots := 0, locals := 0 } : Room) s m #[(.int 3)] below meth c s₁ [] 0 0 := Stand.of_body Bd
  have e0 : s₁.heap = h0 := by rw [← hh, Bd.state]; rfl
  have N0 := Fr.nil n0
  have pre0 : ∀ t, oS p e below m s₁ 0 #[iv 3] [] t → oT p e below s₁ (entryFrame m #[(.int 3)] 1) t := fun t k => castTop (ef_rm_valueOf_46 m ) k
  have K0 := Keep.refl h0 []
  obtain ⟨T893, X893, e893, st893⟩ := getS2 X0 hx hZ hown (host := "") (Or.inl (own_w hw 35 rfl)) Via.refl e0 (S_high.ext O0.2) (g := (mkF m 7 #[iv 3] [(.int 3)])) rfl (hb hby db_7)
  obtain ⟨T895, X895, e895, st895⟩ := getS2 X893 hx hZ hown (host := "") (Or.inl (own_w hw 37 rfl)) Via.refl e893 (S_cache.ext O0.2) (g := (mkF m 13 #[iv 3] [])) rfl (hb hby db_13)
  have pre896 : ∀ t, oS p e below m T895 21 #[iv 3] [(.int ((3 : Int32) + (128 : Int32))), (.ref w_cache)] t → oT p e below s₁ (entryFrame m #[(.int 3)] 1) t := by
    intro t kt
    refine pre0 t ?_
    show oS p e below m s₁ 0 #[iv 3] [] _
    refine XS.iloadN X0.here hx rfl (hb hby db_0) rfl ?_
    refine XS.bipush X0.here hx rfl (hb hby db_1) ?_
    show oS p e below m s₁ 3 #[iv 3] [(.int (-128 : Int32)), (.int 3)] _
    refine XS.icmpNo X0.here hx rfl (hb hby db_3) rfl (flt (by decide : ¬ ((3 : Int32) < (-128 : Int32)))).1 ?_
    refine XS.iloadN X0.here hx rfl (hb hby db_6) rfl ?_
    show oS p e below m s₁ 7 #[iv 3] [(.int 3)] _
    refine st893 _ ?_
    show oS p e below m T893 10 #[iv 3] [(.int 127), (.int 3)] _
    refine XS.icmpNo X893.here hx rfl (hb hby db_10) rfl (flt (by decide : ¬ ((127 : Int32) < (3 : Int32)))).2.2.1 ?_
    show oS p e below m T893 13 #[iv 3] [] _
    refine st895 _ ?_
    show oS p e below m T895 16 #[iv 3] [(.ref w_cache)] _
    refine XS.iloadN X895.here hx rfl (hb hby db_16) rfl ?_
    refine XS.sipush X895.here hx rfl (hb hby db_17) ?_
    show oS p e below m T895 20 #[iv 3] [(.int 128), (.int 3), (.ref w_cache)] _
    refine XS.iadd X895.here hx rfl (hb hby db_20) rfl ?_
    exact kt
  rw [show ((3 : Int32) + (128 : Int32)) = (131 : Int32) from by decide] at pre896
  have Ar897 := (A_cache.ext O0.2)
  have hin897 := own_in AE_3 (by decide)
  have pre898 : ∀ t, oS p e below m T895 22 #[iv 3] [(.ref w_I3)] t → oT p e below s₁ (entryFrame m #[(.int 3)] 1) t := by
    intro t kt
    refine pre896 t ?_
    show oS p e below m T895 21 #[iv 3] [(.int 131), (.ref w_cache)] _
    refine X895.aaload hx (j := (131 : Int32)) (v := (.ref w_I3)) (by rw [e895]; exact Ar897.1) (State.isArrayOf_alike hZ.alike Ar897.2.1) rfl Ar897.2.2 hin897 AE_3 (g := (mkF m 21 #[iv 3] [(.int 131), (.ref w_cache)])) rfl rfl (hb hby db_21) _ ?_
    exact kt
  obtain ⟨fs, hr, hrun, hended, hW, hsame⟩ := X895.leave (v := some (.ref w_I3)) (fun h => by rw [Bd.returns] at h; cases h)
  refine ⟨_, _, pre898 _ ?_, hrun, hended, _, _, rfl, ?_, ⟨_, rfl⟩, hW, hsame.mono (by decide) (by decide)⟩
  · show oS p e below m T895 22 #[iv 3] [(.ref w_I3)] _
    jvm_step X895.here [X895.here.top, hx, (hb hby db_22), X895.method', Bd.returns, Value.isRef, FieldType.isReference]
    first | (intro acts; rw [hr _ acts rfl rfl rfl]) | rw [hr _ _ rfl rfl rfl]
    exact Steps.refl _
  · show Q_rm_valueOf_46 Z w_cache cl_cache w_I3 h0 n0 _ T895.heap _
    rw [e895]
    exact ⟨rfl, N0, rfl⟩
theorem ef_rm_take_47 (m : MethodId) (x0 : Addr) (w_I3 : Addr) : entryFrame m #[(.ref x0), (.ref w_I3)] 3 = mkF m 0 #[rv x0, rv w_I3, .unset] [] := by first | (simp [entryFrame, mkF, argsToLocals, Value.category]; done) | rfl
def Q_rm_take_47 (Z : State) (x0 : Addr) (x1 : Addr) (x2 : Addr) (x3 : Addr) (kc0 : ClassId) (kc1 : ClassId) (kc2 : ClassId) (w_I3 : Addr) (w_I2 : Addr) (w_I1 : Addr) (h0 : Heap) (n0 : Nat) (v : Option Value) (h : Heap) (L : List Loc) : Prop := v = some (.long 3145730) ∧ Fr n0 L ∧ Keep h0 h [x0, x1, x2] ∧ Exa Z h x0 oc8 ∧ Fld Z h x0 oc8 "requests" "[Ljava/lang/Object;" (.ref x1) ∧ Fld Z h x0 oc8 "sequences" "[J" (.ref x2) ∧ Fld Z h x0 oc8 "free" "[I" (.ref x3) ∧ Fld Z h x0 oc8 "freeCount" "I" (.int 0) ∧ Fld Z h x0 oc8 "lastSequence" "J" (.long 3) ∧ Arv Z h x1 kc0 (.object oc9) (3 : Int32) [(.ref w_I1), (.ref w_I2), (.ref w_I3)] .null ∧ Arv Z h x2 kc1 .long (3 : Int32) [(.long 1), (.long 2), (.long 3)] (.long 0)
set_option maxRecDepth 65536 in
set_option maxHeartbeats 40000000 in
theorem rm_take_47 (l : Launch) (Z : State) (a0 : Array Value) (hw : ∀ d ∈ tables_1, d.before a0 Z = true) (ws : List Jvm.Cond) (x0 : Addr) (x1 : Addr) (x2 : Addr) (x3 : Addr) (kc0 : ClassId) (kc1 : ClassId) (kc2 : ClassId) (w_I3 : Addr) (w_I2 : Addr) (w_I1 : Addr) (h0 : Heap) (n0 : Nat) (O0 : Old Z n0 h0) (E_x0 : Exa Z h0 x0 oc8) (F_x0_requests : Fld Z h0 x0 oc8 "requests" "[Ljava/lang/Object;" (.ref x1)) (F_x0_sequences : Fld Z h0 x0 oc8 "sequences" "[J" (.ref x2)) (F_x0_free : Fld Z h0 x0 oc8 "free" "[I" (.ref x3)) (F_x0_freeCount : Fld Z h0 x0 oc8 "freeCount" "I" (.int 1)) (F_x0_lastSequence : Fld Z h0 x0 oc8 "lastSequence" "J" (.long 2)) (ge_x0 : n0 ≤ x0) (O_x1 : Ovr Z kc0 oc9) (V_x1 : Arv Z h0 x1 kc0 (.object oc9) (3 : Int32) [(.ref w_I1), (.ref w_I2), .null] .null) (ge_x1 : n0 ≤ x1) (V_x2 : Arv Z h0 x2 kc1 .long (3 : Int32) [(.long 1), (.long 2), (.long 0)] (.long 0)) (ge_x2 : n0 ≤ x2) (V_x3 : Arv Z h0 x3 kc2 .int (3 : Int32) [(.int 2), (.int 1), (.int 0)] (.int 0)) (ge_x3 : n0 ≤ x3) (ne_x0_x1 : x0 ≠ x1) (ne_x0_x2 : x0 ≠ x2) (ne_x0_x3 : x0 ≠ x3) (ne_x1_x2 : x1 ≠ x2) (ne_x1_x3 : x1 ≠ x3) (ne_x2_x3 : x2 ≠ x3) (E_I3 : Exa Z Z.heap w_I3 oc10) :
    oM l oy4 prog_29_method_4_code 3 (some .long) ws ({ frames := 0, cells := 0, slots := 0, locals := 0 } : Room) Z #[(.ref x0), (.ref w_I3)] h0 (Q_rm_take_47 Z x0 x1 x2 x3 kc0 kc1 kc2 w_I3 w_I2 w_I1 h0 n0) := by
  refine MetFree.of_bodySF (plainFor_of_name pn_com_example_wend_wend_Slots) hisR ?_
  intro p e s m args below meth c s₁ Bd hml0 hP hK
  obtain ⟨rfl, hZ, hh⟩ := hP
  have hx := Bd.exec
  have hby := Bd.bytes
  have hml : c.maxLocals = 3 := hml0
  have hown : s.vm.findClass oc8 = some m.cls := findClass_of_methodNamed Bd.named
  have hnm := (name_of_methodNamed Bd.named Bd.method).1
  have X0 : Stand p l e ({ frames := 0, cells := 0, slots := 0, locals := 0 } : Room) s m #[(.ref x0), (.ref w_I3)] below meth c s₁ [] 0 0 := Stand.of_body Bd
  have e0 : s₁.heap = h0 := by rw [← hh, Bd.state]; rfl
  have N0 := Fr.nil n0
  have pre0 : ∀ t, oS p e below m s₁ 0 #[rv x0, rv w_I3, .unset] [] t → oT p e below s₁ (entryFrame m #[(.ref x0), (.ref w_I3)] 3) t := fun t k => castTop (ef_rm_take_47 m x0 w_I3) k
  have K0 := Keep.refl h0 [x0, x1, x2]
  obtain ⟨T900, X900, e900, st900⟩ := getF X0 hx hZ hown (host := "") (Or.inl (own_w hw 24 rfl)) Via.refl e0 F_x0_freeCount (g := (mkF m 1 #[rv x0, rv w_I3, .unset] [(.ref x0)])) rfl rfl (hb hby de_1)
  obtain ⟨T902, X902, e902, st902⟩ := getF X900 hx hZ hown (host := "") (Or.inl (own_w hw 22 rfl)) Via.refl e900 F_x0_free (g := (mkF m 18 #[rv x0, rv w_I3, .unset] [(.ref x0)])) rfl rfl (hb hby de_18)
  obtain ⟨T903, X903, e903, st903⟩ := getF X902 hx hZ hown (host := "") (Or.inl (own_w hw 24 rfl)) Via.refl e902 F_x0_freeCount (g := (mkF m 23 #[rv x0, rv w_I3, .unset] [(.ref x0), (.ref x0), (.ref x3)])) rfl rfl (hb hby de_23)
  have pre904 : ∀ t, oS p e below m T903 28 #[rv x0, rv w_I3, .unset] [(.int ((1 : Int32) - (1 : Int32))), (.ref x0), (.ref x3)] t → oT p e below s₁ (entryFrame m #[(.ref x0), (.ref w_I3)] 3) t := by
    intro t kt
    refine pre0 t ?_
    show oS p e below m s₁ 0 #[rv x0, rv w_I3, .unset] [] _
    refine XS.aloadN X0.here hx rfl (hb hby de_0) rfl rfl ?_
    show oS p e below m s₁ 1 #[rv x0, rv w_I3, .unset] [(.ref x0)] _
    refine st900 _ ?_
    show oS p e below m T900 4 #[rv x0, rv w_I3, .unset] [(.int 1)] _
    refine XS.ifYes X900.here hx rfl (pc0 := 4) (pc' := 17) rfl (hb hby de_4) rfl ((if0 _ _).trans (feq (by decide : ¬ ((1 : Int32) = (0 : Int32)))).2) (by decide) (by decide) ?_
    refine XS.aloadN X900.here hx rfl (hb hby de_17) rfl rfl ?_
    show oS p e below m T900 18 #[rv x0, rv w_I3, .unset] [(.ref x0)] _
    refine st902 _ ?_
    show oS p e below m T902 21 #[rv x0, rv w_I3, .unset] [(.ref x3)] _
    refine XS.aloadN X902.here hx rfl (hb hby de_21) rfl rfl ?_
    refine XS.dup X902.here hx rfl (hb hby de_22) rfl rfl ?_
    show oS p e below m T902 23 #[rv x0, rv w_I3, .unset] [(.ref x0), (.ref x0), (.ref x3)] _
    refine st903 _ ?_
    show oS p e below m T903 26 #[rv x0, rv w_I3, .unset] [(.int 1), (.ref x0), (.ref x3)] _
    refine XS.iconst X903.here hx rfl (hb hby de_26) ?_
    refine XS.isub X903.here hx rfl (hb hby de_27) rfl ?_
    exact kt
  rw [show ((1 : Int32) - (1 : Int32)) = (0 : Int32) from by decide] at pre904
  obtain ⟨T905, h905, X905, e905, W905, st905⟩ := putF X903 hx hZ hown (host := "") (Or.inl (own_w hw 24 rfl)) Via.refl e903 F_x0_freeCount E_x0 (Or.inl (own_w hw 25 rfl)) (own_w hw 5 rfl) (ty := .int) (by decide) rfl rfl (g := (mkF m 29 #[rv x0, rv w_I3, .unset] [(.int 0), (.ref x0), (.int 0), (.ref x3)])) rfl rfl (hb hby de_29)
  have F_x0_freeCount := F_x0_freeCount.same W905
  have E_x0 := E_x0.wr W905
  have F_x0_requests := F_x0_requests.other W905 (Or.inr (osn_Slots_requests_freeCount hw))
  have F_x0_sequences := F_x0_sequences.other W905 (Or.inr (osn_Slots_sequences_freeCount hw))
  have F_x0_free := F_x0_free.other W905 (Or.inr (osn_Slots_free_freeCount hw))
  have F_x0_lastSequence := F_x0_lastSequence.other W905 (Or.inr (osn_Slots_lastSequence_freeCount hw))
  have V_x1 := V_x1.other W905 (Ne.symm ne_x0_x1)
  have V_x2 := V_x2.other W905 (Ne.symm ne_x0_x2)
  have V_x3 := V_x3.other W905 (Ne.symm ne_x0_x3)
  have O905 := O0.wr W905 ge_x0
  have K905 := K0.wr W905 (Or.inl (List.mem_of_getElem? (i := 0) rfl))
  have N905 := Fr.snoc X905 N0 ge_x0
  have vt906 := V_x3
  obtain ⟨cl906, Ar906, q906, S906, Ng906, Ha906, G906⟩ := vt906
  have hin906 : ¬ ((0 : Int32) < 0 ∨ cl906.slots.size ≤ ((0 : Int32)).toNatClampNeg) := inb_of S906 ⟨by decide, by decide⟩
  have hat906 : cl906.slots[((0 : Int32)).toNatClampNeg]? = some (.int 2) := Ha906.at hin906 rfl
  obtain ⟨T907, X907, e907, st907⟩ := getF X905 hx hZ hown (host := "") (Or.inl (own_w hw 43 rfl)) Via.refl e905 F_x0_lastSequence (g := (mkF m 36 #[rv x0, rv w_I3, iv 2] [(.ref x0), (.ref x0)])) rfl rfl (hb hby de_36)
  have pre908 : ∀ t, oS p e below m T907 43 #[rv x0, rv w_I3, iv 2] [(.int (lcmpW (2 : Int64) (17592186044415 : Int64))), (.ref x0)] t → oT p e below s₁ (entryFrame m #[(.ref x0), (.ref w_I3)] 3) t := by
    intro t kt
    refine pre904 t ?_
    show oS p e below m T903 28 #[rv x0, rv w_I3, .unset] [(.int 0), (.ref x0), (.ref x3)] _
    refine XS.dupX1 X903.here hx rfl (hb hby de_28) rfl rfl rfl ?_
    show oS p e below m T903 29 #[rv x0, rv w_I3, .unset] [(.int 0), (.ref x0), (.int 0), (.ref x3)] _
    refine st905 _ ?_
    show oS p e below m T905 32 #[rv x0, rv w_I3, .unset] [(.int 0), (.ref x3)] _
    refine X905.iaload hx (j := (0 : Int32)) (v := (.int 2)) (by rw [e905]; exact Ar906.1) (State.isArrayOf_alike hZ.alike Ar906.2.1) Ar906.2.2 hin906 hat906 (g := (mkF m 32 #[rv x0, rv w_I3, .unset] [(.int 0), (.ref x3)])) rfl rfl (hb hby de_32) _ ?_
    show oS p e below m T905 33 #[rv x0, rv w_I3, .unset] [(.int 2)] _
    refine XS.istoreN X905.here hx rfl (hb hby de_33) rfl (l' := #[rv x0, rv w_I3, iv 2]) rfl ?_
    refine XS.aloadN X905.here hx rfl (hb hby de_34) rfl rfl ?_
    show oS p e below m T905 35 #[rv x0, rv w_I3, iv 2] [(.ref x0)] _
    refine XS.aloadN X905.here hx rfl (hb hby de_35) rfl rfl ?_
    show oS p e below m T905 36 #[rv x0, rv w_I3, iv 2] [(.ref x0), (.ref x0)] _
    refine st907 _ ?_
    show oS p e below m T907 39 #[rv x0, rv w_I3, iv 2] [(.long 2), (.ref x0)] _
    refine X907.ldc2Long hx hown (mvT hZ (own_w hw 45 rfl)) (g := (mkF m 39 #[rv x0, rv w_I3, iv 2] [(.long 2), (.ref x0)])) rfl (hb hby de_39) _ ?_
    show oS p e below m T907 42 #[rv x0, rv w_I3, iv 2] [(.long 17592186044415), (.long 2), (.ref x0)] _
    refine XS.lcmp X907.here hx rfl (hb hby de_42) rfl ?_
    exact kt
  rw [show (lcmpW (2 : Int64) (17592186044415 : Int64)) = (-1 : Int32) from by decide] at pre908
  obtain ⟨T910, X910, e910, st910⟩ := getF X907 hx hZ hown (host := "") (Or.inl (own_w hw 43 rfl)) Via.refl e907 F_x0_lastSequence (g := (mkF m 51 #[rv x0, rv w_I3, iv 2] [(.ref x0), (.ref x0)])) rfl rfl (hb hby de_51)
  have pre911 : ∀ t, oS p e below m T910 56 #[rv x0, rv w_I3, iv 2] [(.long ((2 : Int64) + (1 : Int64))), (.ref x0)] t → oT p e below s₁ (entryFrame m #[(.ref x0), (.ref w_I3)] 3) t := by
    intro t kt
    refine pre908 t ?_
    show oS p e below m T907 43 #[rv x0, rv w_I3, iv 2] [(.int (-1 : Int32)), (.ref x0)] _
    refine XS.ifYes X907.here hx rfl (pc0 := 43) (pc' := 50) rfl (hb hby de_43) rfl ((if0 _ _).trans (feq (by decide : ¬ ((-1 : Int32) = (0 : Int32)))).2) (by decide) (by decide) ?_
    refine XS.aloadN X907.here hx rfl (hb hby de_50) rfl rfl ?_
    show oS p e below m T907 51 #[rv x0, rv w_I3, iv 2] [(.ref x0), (.ref x0)] _
    refine st910 _ ?_
    show oS p e below m T910 54 #[rv x0, rv w_I3, iv 2] [(.long 2), (.ref x0)] _
    refine XS.lconst X910.here hx rfl (hb hby de_54) ?_
    refine XS.ladd X910.here hx rfl (hb hby de_55) rfl ?_
    exact kt
  rw [show ((2 : Int64) + (1 : Int64)) = (3 : Int64) from by decide] at pre911
  obtain ⟨T912, h912, X912, e912, W912, st912⟩ := putF X910 hx hZ hown (host := "") (Or.inl (own_w hw 43 rfl)) Via.refl e910 F_x0_lastSequence E_x0 (Or.inl (own_w hw 44 rfl)) (own_w hw 5 rfl) (ty := .long) (by decide) rfl rfl (g := (mkF m 56 #[rv x0, rv w_I3, iv 2] [(.long 3), (.ref x0)])) rfl rfl (hb hby de_56)
  have F_x0_lastSequence := F_x0_lastSequence.same W912
  have E_x0 := E_x0.wr W912
  have F_x0_requests := F_x0_requests.other W912 (Or.inr (osn_Slots_requests_lastSequence hw))
  have F_x0_sequences := F_x0_sequences.other W912 (Or.inr (osn_Slots_sequences_lastSequence hw))
  have F_x0_free := F_x0_free.other W912 (Or.inr (osn_Slots_free_lastSequence hw))
  have F_x0_freeCount := F_x0_freeCount.other W912 (Or.inr (osn_Slots_freeCount_lastSequence hw))
  have V_x1 := V_x1.other W912 (Ne.symm ne_x0_x1)
  have V_x2 := V_x2.other W912 (Ne.symm ne_x0_x2)
  have V_x3 := V_x3.other W912 (Ne.symm ne_x0_x3)
  have O912 := O905.wr W912 ge_x0
  have K912 := K905.wr W912 (Or.inl (List.mem_of_getElem? (i := 0) rfl))
  have N912 := Fr.snoc X912 N905 ge_x0
  obtain ⟨T913, X913, e913, st913⟩ := getF X912 hx hZ hown (host := "") (Or.inl (own_w hw 16 rfl)) Via.refl e912 F_x0_requests (g := (mkF m 60 #[rv x0, rv w_I3, iv 2] [(.ref x0)])) rfl rfl (hb hby de_60)
  have vt914 := V_x1
  obtain ⟨cl914, Ar914, q914, S914, Ng914, Ha914, G914⟩ := vt914
  have hin914 : ¬ ((2 : Int32) < 0 ∨ cl914.slots.size ≤ ((2 : Int32)).toNatClampNeg) := inb_of S914 ⟨by decide, by decide⟩
  obtain ⟨T915, h915, X915, e915, W915, st915⟩ := stR X913 hx hZ e913 Ar914 (j := (2 : Int32)) hin914 rfl (Sto.ofV Ar914 q914 O_x1 (Ins.of_exa (E_I3.ext O912.2) (own_w hw 46 rfl))) (g := (mkF m 65 #[rv x0, rv w_I3, iv 2] [(.ref w_I3), (.int 2), (.ref x1)])) rfl rfl (hb hby de_65)
  have V_x1 : Arv Z h915 x1 kc0 (.object oc9) (3 : Int32) [(.ref w_I1), (.ref w_I2), (.ref w_I3)] .null := Arv.set Ar914 q914 S914 Ng914 Ha914 G914 rfl W915 2 rfl (Nat.le_of_ble_eq_true rfl)
  have E_x0 := E_x0.wr W915
  have F_x0_requests := F_x0_requests.other W915 (Or.inl ne_x0_x1)
  have F_x0_sequences := F_x0_sequences.other W915 (Or.inl ne_x0_x1)
  have F_x0_free := F_x0_free.other W915 (Or.inl ne_x0_x1)
  have F_x0_freeCount := F_x0_freeCount.other W915 (Or.inl ne_x0_x1)
  have F_x0_lastSequence := F_x0_lastSequence.other W915 (Or.inl ne_x0_x1)
  have V_x2 := V_x2.other W915 (Ne.symm ne_x1_x2)
  have V_x3 := V_x3.other W915 (Ne.symm ne_x1_x3)
  have O915 := O912.wr W915 ge_x1
  have K915 := K912.wr W915 (Or.inl (List.mem_of_getElem? (i := 1) rfl))
  have N915 := Fr.snoc X915 N912 ge_x1
  obtain ⟨T916, X916, e916, st916⟩ := getF X915 hx hZ hown (host := "") (Or.inl (own_w hw 19 rfl)) Via.refl e915 F_x0_sequences (g := (mkF m 67 #[rv x0, rv w_I3, iv 2] [(.ref x0)])) rfl rfl (hb hby de_67)
  obtain ⟨T917, X917, e917, st917⟩ := getF X916 hx hZ hown (host := "") (Or.inl (own_w hw 43 rfl)) Via.refl e916 F_x0_lastSequence (g := (mkF m 72 #[rv x0, rv w_I3, iv 2] [(.ref x0), (.int 2), (.ref x2)])) rfl rfl (hb hby de_72)
  have vt918 := V_x2
  obtain ⟨cl918, Ar918, q918, S918, Ng918, Ha918, G918⟩ := vt918
  have hin918 : ¬ ((2 : Int32) < 0 ∨ cl918.slots.size ≤ ((2 : Int32)).toNatClampNeg) := inb_of S918 ⟨by decide, by decide⟩
  obtain ⟨T919, h919, X919, e919, W919, st919⟩ := stJ X917 hx hZ e917 Ar918 (j := (2 : Int32)) hin918 (g := (mkF m 75 #[rv x0, rv w_I3, iv 2] [(.long 3), (.int 2), (.ref x2)])) rfl rfl (hb hby de_75)
  have V_x2 : Arv Z h919 x2 kc1 .long (3 : Int32) [(.long 1), (.long 2), (.long 3)] (.long 0) := Arv.set Ar918 q918 S918 Ng918 Ha918 G918 rfl W919 2 rfl (Nat.le_of_ble_eq_true rfl)
  have E_x0 := E_x0.wr W919
  have F_x0_requests := F_x0_requests.other W919 (Or.inl ne_x0_x2)
  have F_x0_sequences := F_x0_sequences.other W919 (Or.inl ne_x0_x2)
  have F_x0_free := F_x0_free.other W919 (Or.inl ne_x0_x2)
  have F_x0_freeCount := F_x0_freeCount.other W919 (Or.inl ne_x0_x2)
  have F_x0_lastSequence := F_x0_lastSequence.other W919 (Or.inl ne_x0_x2)
  have V_x1 := V_x1.other W919 ne_x1_x2
  have V_x3 := V_x3.other W919 (Ne.symm ne_x2_x3)
  have O919 := O915.wr W919 ge_x2
  have K919 := K915.wr W919 (Or.inl (List.mem_of_getElem? (i := 2) rfl))
  have N919 := Fr.snoc X919 N915 ge_x2
  obtain ⟨T920, X920, e920, st920⟩ := getF X919 hx hZ hown (host := "") (Or.inl (own_w hw 43 rfl)) Via.refl e919 F_x0_lastSequence (g := (mkF m 77 #[rv x0, rv w_I3, iv 2] [(.ref x0)])) rfl rfl (hb hby de_77)
  have pre921 : ∀ t, oS p e below m T920 83 #[rv x0, rv w_I3, iv 2] [(.long ((3 : Int64) <<< ((20 : Int32) &&& 0x3f).toInt64))] t → oT p e below s₁ (entryFrame m #[(.ref x0), (.ref w_I3)] 3) t := by
    intro t kt
    refine pre911 t ?_
    show oS p e below m T910 56 #[rv x0, rv w_I3, iv 2] [(.long 3), (.ref x0)] _
    refine st912 _ ?_
    show oS p e below m T912 59 #[rv x0, rv w_I3, iv 2] [] _
    refine XS.aloadN X912.here hx rfl (hb hby de_59) rfl rfl ?_
    show oS p e below m T912 60 #[rv x0, rv w_I3, iv 2] [(.ref x0)] _
    refine st913 _ ?_
    show oS p e below m T913 63 #[rv x0, rv w_I3, iv 2] [(.ref x1)] _
    refine XS.iloadN X913.here hx rfl (hb hby de_63) rfl ?_
    refine XS.aloadN X913.here hx rfl (hb hby de_64) rfl rfl ?_
    show oS p e below m T913 65 #[rv x0, rv w_I3, iv 2] [(.ref w_I3), (.int 2), (.ref x1)] _
    refine st915 _ ?_
    show oS p e below m T915 66 #[rv x0, rv w_I3, iv 2] [] _
    refine XS.aloadN X915.here hx rfl (hb hby de_66) rfl rfl ?_
    show oS p e below m T915 67 #[rv x0, rv w_I3, iv 2] [(.ref x0)] _
    refine st916 _ ?_
    show oS p e below m T916 70 #[rv x0, rv w_I3, iv 2] [(.ref x2)] _
    refine XS.iloadN X916.here hx rfl (hb hby de_70) rfl ?_
    refine XS.aloadN X916.here hx rfl (hb hby de_71) rfl rfl ?_
    show oS p e below m T916 72 #[rv x0, rv w_I3, iv 2] [(.ref x0), (.int 2), (.ref x2)] _
    refine st917 _ ?_
    show oS p e below m T917 75 #[rv x0, rv w_I3, iv 2] [(.long 3), (.int 2), (.ref x2)] _
    refine st919 _ ?_
    show oS p e below m T919 76 #[rv x0, rv w_I3, iv 2] [] _
    refine XS.aloadN X919.here hx rfl (hb hby de_76) rfl rfl ?_
    show oS p e below m T919 77 #[rv x0, rv w_I3, iv 2] [(.ref x0)] _
    refine st920 _ ?_
    show oS p e below m T920 80 #[rv x0, rv w_I3, iv 2] [(.long 3)] _
    refine XS.bipush X920.here hx rfl (hb hby de_80) ?_
    refine XS.lshl X920.here hx rfl (hb hby de_82) rfl ?_
    exact kt
  rw [show ((3 : Int64) <<< ((20 : Int32) &&& 0x3f).toInt64) = (3145728 : Int64) from by decide] at pre921
  have pre922 : ∀ t, oS p e below m T920 85 #[rv x0, rv w_I3, iv 2] [(.long ((2 : Int32).toInt64)), (.long 3145728)] t → oT p e below s₁ (entryFrame m #[(.ref x0), (.ref w_I3)] 3) t := by
    intro t kt
    refine pre921 t ?_
    show oS p e below m T920 83 #[rv x0, rv w_I3, iv 2] [(.long 3145728)] _
    refine XS.iloadN X920.here hx rfl (hb hby de_83) rfl ?_
    refine XS.i2l X920.here hx rfl (hb hby de_84) rfl ?_
    exact kt
  rw [show ((2 : Int32).toInt64) = (2 : Int64) from by decide] at pre922
  have pre923 : ∀ t, oS p e below m T920 86 #[rv x0, rv w_I3, iv 2] [(.long ((3145728 : Int64) ||| (2 : Int64)))] t → oT p e below s₁ (entryFrame m #[(.ref x0), (.ref w_I3)] 3) t := by
    intro t kt
    refine pre922 t ?_
    show oS p e below m T920 85 #[rv x0, rv w_I3, iv 2] [(.long 2), (.long 3145728)] _
    refine XS.lor X920.here hx rfl (hb hby de_85) rfl ?_
    exact kt
  rw [show ((3145728 : Int64) ||| (2 : Int64)) = (3145730 : Int64) from by decide] at pre923
  obtain ⟨fs, hr, hrun, hended, hW, hsame⟩ := X920.leave (v := some (.long 3145730)) (fun h => by rw [Bd.returns] at h; cases h)
  refine ⟨_, _, pre923 _ ?_, hrun, hended, _, _, rfl, ?_, ⟨_, rfl⟩, hW, hsame.mono (by decide) (by decide)⟩
  · show oS p e below m T920 86 #[rv x0, rv w_I3, iv 2] [(.long 3145730)] _
    jvm_step X920.here [X920.here.top, hx, (hb hby de_86), X920.method', Bd.returns, narrow]
    first | (intro acts; rw [hr _ acts rfl rfl rfl]) | rw [hr _ _ rfl rfl rfl]
    exact Steps.refl _
  · show Q_rm_take_47 Z x0 x1 x2 x3 kc0 kc1 kc2 w_I3 w_I2 w_I1 h0 n0 _ T920.heap _
    rw [e920]
    exact ⟨rfl, N919, K919, E_x0, F_x0_requests, F_x0_sequences, F_x0_free, F_x0_freeCount, F_x0_lastSequence, V_x1, V_x2⟩
theorem ef_rm_get_49 (m : MethodId) (x0 : Addr) : entryFrame m #[(.ref x0), (.long 1048576)] 7 = mkF m 0 (oL1 x0) [] := by first | (simp [entryFrame, mkF, argsToLocals, Value.category]; done) | rfl
def Q_rm_get_49 (Z : State) (x0 : Addr) (x1 : Addr) (x2 : Addr) (kc0 : ClassId) (kc1 : ClassId) (w_I1 : Addr) (w_I3 : Addr) (w_I2 : Addr) (h0 : Heap) (n0 : Nat) (v : Option Value) (h : Heap) (L : List Loc) : Prop := v = some (.ref w_I1) ∧ Fr n0 L ∧ h = h0
set_option maxRecDepth 65536 in
set_option maxHeartbeats 40000000 in
theorem rm_get_49 (l : Launch) (Z : State) (a0 : Array Value) (hw : ∀ d ∈ tables_1, d.before a0 Z = true) (ws : List Jvm.Cond) (x0 : Addr) (x1 : Addr) (x2 : Addr) (kc0 : ClassId) (kc1 : ClassId) (w_I1 : Addr) (w_I3 : Addr) (w_I2 : Addr) (h0 : Heap) (n0 : Nat) (O0 : Old Z n0 h0) (F_x0_requests : Fld Z h0 x0 oc8 "requests" "[Ljava/lang/Object;" (.ref x1)) (F_x0_sequences : Fld Z h0 x0 oc8 "sequences" "[J" (.ref x2)) (V_x1 : Arv Z h0 x1 kc0 (.object oc9) (3 : Int32) [(.ref w_I1), (.ref w_I2), (.ref w_I3)] .null) (V_x2 : Arv Z h0 x2 kc1 .long (3 : Int32) [(.long 1), (.long 2), (.long 3)] (.long 0))  :
    oM l oy6 prog_29_method_5_code 7 (some (.object oc9)) ws ({ frames := 0, cells := 0, slots := 0, locals := 0 } : Room) Z #[(.ref x0), (.long 1048576)] h0 (Q_rm_get_49 Z x0 x1 x2 kc0 kc1 w_I1 w_I3 w_I2 h0 n0) := by
  refine MetFree.of_bodySF (plainFor_of_name pn_com_example_wend_wend_Slots) hisR ?_
  intro p e s m args below meth c s₁ Bd hml0 hP hK
  obtain ⟨rfl, hZ, hh⟩ := hP
  have hx := Bd.exec
  have hby := Bd.bytes
  have hml : c.maxLocals = 7 := hml0
  have hown : s.vm.findClass oc8 = some m.cls := findClass_of_methodNamed Bd.named
  have hnm := (name_of_methodNamed Bd.named Bd.method).1
  have X0 : Stand p l e ({ frames := 0, cells := 0, slots := 0, locals := 0 } : Room) s m #[(.ref x0), (.long 1048576)] below meth c s₁ [] 0 0 := Stand.of_body Bd
  have e0 : s₁.heap = h0 := by rw [← hh, Bd.state]; rfl
  have N0 := Fr.nil n0
  have pre0 : ∀ t, oS p e below m s₁ 0 (oL1 x0) [] t → oT p e below s₁ (entryFrame m #[(.ref x0), (.long 1048576)] 7) t := fun t k => castTop (ef_rm_get_49 m x0) k
  have K0 := Keep.refl h0 []
  have pre938 : ∀ t, oS p e below m s₁ 5 (oL1 x0) [(.long ((1048576 : Int64) &&& (1048575 : Int64)))] t → oT p e below s₁ (entryFrame m #[(.ref x0), (.long 1048576)] 7) t := by
    intro t kt
    refine pre0 t ?_
    show oS p e below m s₁ 0 (oL1 x0) [] _
    refine XS.lloadN X0.here hx rfl (hb hby df_0) rfl ?_
    show oS p e below m s₁ 1 (oL1 x0) [(.long 1048576)] _
    refine X0.ldc2Long hx hown (mvT hZ (own_w hw 57 rfl)) (g := (mkF m 1 (oL1 x0) [(.long 1048576)])) rfl (hb hby df_1) _ ?_
    show oS p e below m s₁ 4 (oL1 x0) [(.long 1048575), (.long 1048576)] _
    refine XS.land X0.here hx rfl (hb hby df_4) rfl ?_
    exact kt
  rw [show ((1048576 : Int64) &&& (1048575 : Int64)) = (0 : Int64) from by decide] at pre938
  have pre939 : ∀ t, oS p e below m s₁ 6 (oL1 x0) [(.int ((0 : Int64).toInt32))] t → oT p e below s₁ (entryFrame m #[(.ref x0), (.long 1048576)] 7) t := by
    intro t kt
    refine pre938 t ?_
    show oS p e below m s₁ 5 (oL1 x0) [(.long 0)] _
    refine XS.l2i X0.here hx rfl (hb hby df_5) rfl ?_
    exact kt
  rw [show ((0 : Int64).toInt32) = (0 : Int32) from by decide] at pre939
  have pre940 : ∀ t, oS p e below m s₁ 11 (oL4 x0) [(.long (((1048576 : Int64).toUInt64 >>> ((20 : Int32) &&& 0x3f).toInt64.toUInt64).toInt64))] t → oT p e below s₁ (entryFrame m #[(.ref x0), (.long 1048576)] 7) t := by
    intro t kt
    refine pre939 t ?_
    show oS p e below m s₁ 6 (oL1 x0) [(.int 0)] _
    refine XS.istoreN X0.here hx rfl (hb hby df_6) rfl (l' := (oL4 x0)) rfl ?_
    refine XS.lloadN X0.here hx rfl (hb hby df_7) rfl ?_
    show oS p e below m s₁ 8 (oL4 x0) [(.long 1048576)] _
    refine XS.bipush X0.here hx rfl (hb hby df_8) ?_
    refine XS.lushr X0.here hx rfl (hb hby df_10) rfl ?_
    exact kt
  rw [show (((1048576 : Int64).toUInt64 >>> ((20 : Int32) &&& 0x3f).toInt64.toUInt64).toInt64) = (1 : Int64) from by decide] at pre940
  obtain ⟨T941, X941, e941, st941⟩ := getF X0 hx hZ hown (host := "") (Or.inl (own_w hw 16 rfl)) Via.refl e0 F_x0_requests (g := (mkF m 15 (oL0 x0) [(.ref x0), (.int 0)])) rfl rfl (hb hby df_15)
  have vt942 := V_x1
  obtain ⟨cl942, Ar942, q942, S942, Ng942, Ha942, G942⟩ := vt942
  obtain ⟨T944, X944, e944, st944⟩ := getF X941 hx hZ hown (host := "") (Or.inl (own_w hw 19 rfl)) Via.refl e941 F_x0_sequences (g := (mkF m 23 (oL0 x0) [(.ref x0)])) rfl rfl (hb hby df_23)
  have vt945 := V_x2
  obtain ⟨cl945, Ar945, q945, S945, Ng945, Ha945, G945⟩ := vt945
  have hin945 : ¬ ((0 : Int32) < 0 ∨ cl945.slots.size ≤ ((0 : Int32)).toNatClampNeg) := inb_of S945 ⟨by decide, by decide⟩
  have hat945 : cl945.slots[((0 : Int32)).toNatClampNeg]? = some (.long 1) := Ha945.at hin945 rfl
  have pre946 : ∀ t, oS p e below m T944 31 (oL0 x0) [(.int (lcmpW (1 : Int64) (1 : Int64)))] t → oT p e below s₁ (entryFrame m #[(.ref x0), (.long 1048576)] 7) t := by
    intro t kt
    refine pre940 t ?_
    show oS p e below m s₁ 11 (oL4 x0) [(.long 1)] _
    refine XS.lstore X0.here hx rfl (hb hby df_11) rfl (l' := (oL0 x0)) rfl ?_
    refine XS.iloadN X0.here hx rfl (hb hby df_13) rfl ?_
    show oS p e below m s₁ 14 (oL0 x0) [(.int 0)] _
    refine XS.aloadN X0.here hx rfl (hb hby df_14) rfl rfl ?_
    show oS p e below m s₁ 15 (oL0 x0) [(.ref x0), (.int 0)] _
    refine st941 _ ?_
    show oS p e below m T941 18 (oL0 x0) [(.ref x1), (.int 0)] _
    refine X941.arraylength hx (by rw [e941]; exact Ar942.1) (State.isArrayOf_alike hZ.alike Ar942.2.1) (g := (mkF m 18 (oL0 x0) [(.ref x1), (.int 0)])) rfl rfl (hb hby df_18) _ ?_
    rw [len_of S942 Ng942]
    show oS p e below m T941 19 (oL0 x0) [(.int 3), (.int 0)] _
    refine XS.icmpNo X941.here hx rfl (hb hby df_19) rfl (tlt (by decide : (0 : Int32) < (3 : Int32))).2.1 ?_
    refine XS.aloadN X941.here hx rfl (hb hby df_22) rfl rfl ?_
    show oS p e below m T941 23 (oL0 x0) [(.ref x0)] _
    refine st944 _ ?_
    show oS p e below m T944 26 (oL0 x0) [(.ref x2)] _
    refine XS.iloadN X944.here hx rfl (hb hby df_26) rfl ?_
    show oS p e below m T944 27 (oL0 x0) [(.int 0), (.ref x2)] _
    refine X944.laload hx (j := (0 : Int32)) (v := (.long 1)) (by rw [e944]; exact Ar945.1) (State.isArrayOf_alike hZ.alike Ar945.2.1) Ar945.2.2 hin945 hat945 (g := (mkF m 27 (oL0 x0) [(.int 0), (.ref x2)])) rfl rfl (hb hby df_27) _ ?_
    show oS p e below m T944 28 (oL0 x0) [(.long 1)] _
    refine XS.lload X944.here hx rfl (hb hby df_28) rfl ?_
    refine XS.lcmp X944.here hx rfl (hb hby df_30) rfl ?_
    exact kt
  rw [show (lcmpW (1 : Int64) (1 : Int64)) = (0 : Int32) from by decide] at pre946
  obtain ⟨T949, X949, e949, st949⟩ := getF X944 hx hZ hown (host := "") (Or.inl (own_w hw 16 rfl)) Via.refl e944 F_x0_requests (g := (mkF m 47 (oL5 x0) [(.ref x0)])) rfl rfl (hb hby df_47)
  have vt950 := V_x1
  obtain ⟨cl950, Ar950, q950, S950, Ng950, Ha950, G950⟩ := vt950
  have hin950 : ¬ ((0 : Int32) < 0 ∨ cl950.slots.size ≤ ((0 : Int32)).toNatClampNeg) := inb_of S950 ⟨by decide, by decide⟩
  have hat950 : cl950.slots[((0 : Int32)).toNatClampNeg]? = some (.ref w_I1) := Ha950.at hin950 rfl
  have pre951 : ∀ t, oS p e below m T949 56 (oL5 x0) [(.ref w_I1)] t → oT p e below s₁ (entryFrame m #[(.ref x0), (.long 1048576)] 7) t := by
    intro t kt
    refine pre946 t ?_
    show oS p e below m T944 31 (oL0 x0) [(.int 0)] _
    refine XS.ifNo X944.here hx rfl (hb hby df_31) rfl ((if0 _ _).trans (teq (by decide : (0 : Int32) = (0 : Int32))).2) ?_
    refine XS.iconst X944.here hx rfl (hb hby df_34) ?_
    show oS p e below m T944 35 (oL0 x0) [(.int 1)] _
    refine XS.goto X944.here hx rfl (pc0 := 35) (pc' := 39) rfl (hb hby df_35) (by decide) (by decide) ?_
    refine XS.istore X944.here hx rfl (hb hby df_39) rfl (l' := (oL5 x0)) rfl ?_
    show oS p e below m T944 41 (oL5 x0) [] _
    refine XS.iload X944.here hx rfl (hb hby df_41) rfl ?_
    refine XS.ifNo X944.here hx rfl (hb hby df_43) rfl ((if0 _ _).trans (feq (by decide : ¬ ((1 : Int32) = (0 : Int32)))).1) ?_
    show oS p e below m T944 46 (oL5 x0) [] _
    refine XS.aloadN X944.here hx rfl (hb hby df_46) rfl rfl ?_
    show oS p e below m T944 47 (oL5 x0) [(.ref x0)] _
    refine st949 _ ?_
    show oS p e below m T949 50 (oL5 x0) [(.ref x1)] _
    refine XS.iloadN X949.here hx rfl (hb hby df_50) rfl ?_
    show oS p e below m T949 51 (oL5 x0) [(.int 0), (.ref x1)] _
    refine X949.aaload hx (j := (0 : Int32)) (v := (.ref w_I1)) (by rw [e949]; exact Ar950.1) (State.isArrayOf_alike hZ.alike Ar950.2.1) rfl Ar950.2.2 hin950 hat950 (g := (mkF m 51 (oL5 x0) [(.int 0), (.ref x1)])) rfl rfl (hb hby df_51) _ ?_
    show oS p e below m T949 52 (oL5 x0) [(.ref w_I1)] _
    refine XS.goto X949.here hx rfl (pc0 := 52) (pc' := 56) rfl (hb hby df_52) (by decide) (by decide) ?_
    exact kt
  obtain ⟨fs, hr, hrun, hended, hW, hsame⟩ := X949.leave (v := some (.ref w_I1)) (fun h => by rw [Bd.returns] at h; cases h)
  refine ⟨_, _, pre951 _ ?_, hrun, hended, _, _, rfl, ?_, ⟨_, rfl⟩, hW, hsame.mono (by decide) (by decide)⟩
  · show oS p e below m T949 56 (oL5 x0) [(.ref w_I1)] _
    jvm_step X949.here [X949.here.top, hx, (hb hby df_56), X949.method', Bd.returns, Value.isRef, FieldType.isReference]
    first | (intro acts; rw [hr _ acts rfl rfl rfl]) | rw [hr _ _ rfl rfl rfl]
    exact Steps.refl _
  · show Q_rm_get_49 Z x0 x1 x2 kc0 kc1 w_I1 w_I3 w_I2 h0 n0 _ T949.heap _
    rw [e949]
    exact ⟨rfl, N0, rfl⟩
theorem ef_rm_free_50 (m : MethodId) (x0 : Addr) : entryFrame m #[(.ref x0), (.int 0)] 2 = mkF m 0 #[rv x0, iv 0] [] := by first | (simp [entryFrame, mkF, argsToLocals, Value.category]; done) | rfl
def Q_rm_free_50 (Z : State) (x0 : Addr) (x1 : Addr) (x2 : Addr) (x3 : Addr) (kc0 : ClassId) (kc1 : ClassId) (kc2 : ClassId) (w_I3 : Addr) (w_I2 : Addr) (w_I1 : Addr) (h0 : Heap) (n0 : Nat) (v : Option Value) (h : Heap) (L : List Loc) : Prop := v = none ∧ Fr n0 L ∧ Keep h0 h [x1, x2, x0, x3] ∧ Arv Z h x1 kc0 (.object oc9) (3 : Int32) [.null, (.ref w_I2), (.ref w_I3)] .null ∧ Arv Z h x2 kc1 .long (3 : Int32) [(.long 0), (.long 2), (.long 3)] (.long 0) ∧ Exa Z h x0 oc8 ∧ Fld Z h x0 oc8 "requests" "[Ljava/lang/Object;" (.ref x1) ∧ Fld Z h x0 oc8 "sequences" "[J" (.ref x2) ∧ Fld Z h x0 oc8 "free" "[I" (.ref x3) ∧ Fld Z h x0 oc8 "freeCount" "I" (.int 1) ∧ Fld Z h x0 oc8 "lastSequence" "J" (.long 3) ∧ Arv Z h x3 kc2 .int (3 : Int32) [(.int 0), (.int 1), (.int 0)] (.int 0)
set_option maxRecDepth 65536 in
set_option maxHeartbeats 40000000 in
theorem rm_free_50 (l : Launch) (Z : State) (a0 : Array Value) (hw : ∀ d ∈ tables_1, d.before a0 Z = true) (ws : List Jvm.Cond) (x0 : Addr) (x1 : Addr) (x2 : Addr) (x3 : Addr) (kc0 : ClassId) (kc1 : ClassId) (kc2 : ClassId) (w_I3 : Addr) (w_I2 : Addr) (w_I1 : Addr) (h0 : Heap) (n0 : Nat) (O0 : Old Z n0 h0) (E_x0 : Exa Z h0 x0 oc8) (F_x0_requests : Fld Z h0 x0 oc8 "requests" "[Ljava/lang/Object;" (.ref x1)) (F_x0_sequences : Fld Z h0 x0 oc8 "sequences" "[J" (.ref x2)) (F_x0_free : Fld Z h0 x0 oc8 "free" "[I" (.ref x3)) (F_x0_freeCount : Fld Z h0 x0 oc8 "freeCount" "I" (.int 0)) (F_x0_lastSequence : Fld Z h0 x0 oc8 "lastSequence" "J" (.long 3)) (ge_x0 : n0 ≤ x0) (O_x1 : Ovr Z kc0 oc9) (V_x1 : Arv Z h0 x1 kc0 (.object oc9) (3 : Int32) [(.ref w_I1), (.ref w_I2), (.ref w_I3)] .null) (ge_x1 : n0 ≤ x1) (V_x2 : Arv Z h0 x2 kc1 .long (3 : Int32) [(.long 1), (.long 2), (.long 3)] (.long 0)) (ge_x2 : n0 ≤ x2) (V_x3 : Arv Z h0 x3 kc2 .int (3 : Int32) [(.int 2), (.int 1), (.int 0)] (.int 0)) (ge_x3 : n0 ≤ x3) (ne_x0_x1 : x0 ≠ x1) (ne_x0_x2 : x0 ≠ x2) (ne_x0_x3 : x0 ≠ x3) (ne_x1_x2 : x1 ≠ x2) (ne_x1_x3 : x1 ≠ x3) (ne_x2_x3 : x2 ≠ x3)  :
    oM l oy7 prog_29_method_8_code 2 none ws ({ frames := 0, cells := 0, slots := 0, locals := 0 } : Room) Z #[(.ref x0), (.int 0)] h0 (Q_rm_free_50 Z x0 x1 x2 x3 kc0 kc1 kc2 w_I3 w_I2 w_I1 h0 n0) := by
  refine MetFree.of_bodySF (plainFor_of_name pn_com_example_wend_wend_Slots) hisR ?_
  intro p e s m args below meth c s₁ Bd hml0 hP hK
  obtain ⟨rfl, hZ, hh⟩ := hP
  have hx := Bd.exec
  have hby := Bd.bytes
  have hml : c.maxLocals = 2 := hml0
  have hown : s.vm.findClass oc8 = some m.cls := findClass_of_methodNamed Bd.named
  have hnm := (name_of_methodNamed Bd.named Bd.method).1
  have X0 : Stand p l e ({ frames := 0, cells := 0, slots := 0, locals := 0 } : Room) s m #[(.ref x0), (.int 0)] below meth c s₁ [] 0 0 := Stand.of_body Bd
  have e0 : s₁.heap = h0 := by rw [← hh, Bd.state]; rfl
  have N0 := Fr.nil n0
  have pre0 : ∀ t, oS p e below m s₁ 0 #[rv x0, iv 0] [] t → oT p e below s₁ (entryFrame m #[(.ref x0), (.int 0)] 2) t := fun t k => castTop (ef_rm_free_50 m x0) k
  have K0 := Keep.refl h0 [x1, x2, x0, x3]
  obtain ⟨T955, X955, e955, st955⟩ := getF X0 hx hZ hown (host := "") (Or.inl (own_w hw 16 rfl)) Via.refl e0 F_x0_requests (g := (mkF m 1 #[rv x0, iv 0] [(.ref x0)])) rfl rfl (hb hby dh_1)
  have vt956 := V_x1
  obtain ⟨cl956, Ar956, q956, S956, Ng956, Ha956, G956⟩ := vt956
  have hin956 : ¬ ((0 : Int32) < 0 ∨ cl956.slots.size ≤ ((0 : Int32)).toNatClampNeg) := inb_of S956 ⟨by decide, by decide⟩
  obtain ⟨T957, h957, X957, e957, W957, st957⟩ := stR X955 hx hZ e955 Ar956 (j := (0 : Int32)) hin956 rfl (Or.inl rfl) (g := (mkF m 6 #[rv x0, iv 0] [.null, (.int 0), (.ref x1)])) rfl rfl (hb hby dh_6)
  have V_x1 : Arv Z h957 x1 kc0 (.object oc9) (3 : Int32) [.null, (.ref w_I2), (.ref w_I3)] .null := Arv.set Ar956 q956 S956 Ng956 Ha956 G956 rfl W957 0 rfl (Nat.le_of_ble_eq_true rfl)
  have E_x0 := E_x0.wr W957
  have F_x0_requests := F_x0_requests.other W957 (Or.inl ne_x0_x1)
  have F_x0_sequences := F_x0_sequences.other W957 (Or.inl ne_x0_x1)
  have F_x0_free := F_x0_free.other W957 (Or.inl ne_x0_x1)
  have F_x0_freeCount := F_x0_freeCount.other W957 (Or.inl ne_x0_x1)
  have F_x0_lastSequence := F_x0_lastSequence.other W957 (Or.inl ne_x0_x1)
  have V_x2 := V_x2.other W957 (Ne.symm ne_x1_x2)
  have V_x3 := V_x3.other W957 (Ne.symm ne_x1_x3)
  have O957 := O0.wr W957 ge_x1
  have K957 := K0.wr W957 (Or.inl (List.mem_of_getElem? (i := 0) rfl))
  have N957 := Fr.snoc X957 N0 ge_x1
  obtain ⟨T958, X958, e958, st958⟩ := getF X957 hx hZ hown (host := "") (Or.inl (own_w hw 19 rfl)) Via.refl e957 F_x0_sequences (g := (mkF m 8 #[rv x0, iv 0] [(.ref x0)])) rfl rfl (hb hby dh_8)
  have vt959 := V_x2
  obtain ⟨cl959, Ar959, q959, S959, Ng959, Ha959, G959⟩ := vt959
  have hin959 : ¬ ((0 : Int32) < 0 ∨ cl959.slots.size ≤ ((0 : Int32)).toNatClampNeg) := inb_of S959 ⟨by decide, by decide⟩
  obtain ⟨T960, h960, X960, e960, W960, st960⟩ := stJ X958 hx hZ e958 Ar959 (j := (0 : Int32)) hin959 (g := (mkF m 13 #[rv x0, iv 0] [(.long 0), (.int 0), (.ref x2)])) rfl rfl (hb hby dh_13)
  have V_x2 : Arv Z h960 x2 kc1 .long (3 : Int32) [(.long 0), (.long 2), (.long 3)] (.long 0) := Arv.set Ar959 q959 S959 Ng959 Ha959 G959 rfl W960 0 rfl (Nat.le_of_ble_eq_true rfl)
  have E_x0 := E_x0.wr W960
  have F_x0_requests := F_x0_requests.other W960 (Or.inl ne_x0_x2)
  have F_x0_sequences := F_x0_sequences.other W960 (Or.inl ne_x0_x2)
  have F_x0_free := F_x0_free.other W960 (Or.inl ne_x0_x2)
  have F_x0_freeCount := F_x0_freeCount.other W960 (Or.inl ne_x0_x2)
  have F_x0_lastSequence := F_x0_lastSequence.other W960 (Or.inl ne_x0_x2)
  have V_x1 := V_x1.other W960 ne_x1_x2
  have V_x3 := V_x3.other W960 (Ne.symm ne_x2_x3)
  have O960 := O957.wr W960 ge_x2
  have K960 := K957.wr W960 (Or.inl (List.mem_of_getElem? (i := 1) rfl))
  have N960 := Fr.snoc X960 N957 ge_x2
  obtain ⟨T961, X961, e961, st961⟩ := getF X960 hx hZ hown (host := "") (Or.inl (own_w hw 22 rfl)) Via.refl e960 F_x0_free (g := (mkF m 15 #[rv x0, iv 0] [(.ref x0)])) rfl rfl (hb hby dh_15)
  obtain ⟨T962, X962, e962, st962⟩ := getF X961 hx hZ hown (host := "") (Or.inl (own_w hw 24 rfl)) Via.refl e961 F_x0_freeCount (g := (mkF m 20 #[rv x0, iv 0] [(.ref x0), (.ref x0), (.ref x3)])) rfl rfl (hb hby dh_20)
  have pre963 : ∀ t, oS p e below m T962 26 #[rv x0, iv 0] [(.int ((0 : Int32) + (1 : Int32))), (.ref x0), (.int 0), (.ref x3)] t → oT p e below s₁ (entryFrame m #[(.ref x0), (.int 0)] 2) t := by
    intro t kt
    refine pre0 t ?_
    show oS p e below m s₁ 0 #[rv x0, iv 0] [] _
    refine XS.aloadN X0.here hx rfl (hb hby dh_0) rfl rfl ?_
    show oS p e below m s₁ 1 #[rv x0, iv 0] [(.ref x0)] _
    refine st955 _ ?_
    show oS p e below m T955 4 #[rv x0, iv 0] [(.ref x1)] _
    refine XS.iloadN X955.here hx rfl (hb hby dh_4) rfl ?_
    refine XS.aconstNull X955.here hx rfl (hb hby dh_5) ?_
    show oS p e below m T955 6 #[rv x0, iv 0] [.null, (.int 0), (.ref x1)] _
    refine st957 _ ?_
    show oS p e below m T957 7 #[rv x0, iv 0] [] _
    refine XS.aloadN X957.here hx rfl (hb hby dh_7) rfl rfl ?_
    show oS p e below m T957 8 #[rv x0, iv 0] [(.ref x0)] _
    refine st958 _ ?_
    show oS p e below m T958 11 #[rv x0, iv 0] [(.ref x2)] _
    refine XS.iloadN X958.here hx rfl (hb hby dh_11) rfl ?_
    refine XS.lconst X958.here hx rfl (hb hby dh_12) ?_
    show oS p e below m T958 13 #[rv x0, iv 0] [(.long 0), (.int 0), (.ref x2)] _
    refine st960 _ ?_
    show oS p e below m T960 14 #[rv x0, iv 0] [] _
    refine XS.aloadN X960.here hx rfl (hb hby dh_14) rfl rfl ?_
    show oS p e below m T960 15 #[rv x0, iv 0] [(.ref x0)] _
    refine st961 _ ?_
    show oS p e below m T961 18 #[rv x0, iv 0] [(.ref x3)] _
    refine XS.aloadN X961.here hx rfl (hb hby dh_18) rfl rfl ?_
    refine XS.dup X961.here hx rfl (hb hby dh_19) rfl rfl ?_
    show oS p e below m T961 20 #[rv x0, iv 0] [(.ref x0), (.ref x0), (.ref x3)] _
    refine st962 _ ?_
    show oS p e below m T962 23 #[rv x0, iv 0] [(.int 0), (.ref x0), (.ref x3)] _
    refine XS.dupX1 X962.here hx rfl (hb hby dh_23) rfl rfl rfl ?_
    refine XS.iconst X962.here hx rfl (hb hby dh_24) ?_
    show oS p e below m T962 25 #[rv x0, iv 0] [(.int 1), (.int 0), (.ref x0), (.int 0), (.ref x3)] _
    refine XS.iadd X962.here hx rfl (hb hby dh_25) rfl ?_
    exact kt
  rw [show ((0 : Int32) + (1 : Int32)) = (1 : Int32) from by decide] at pre963
  obtain ⟨T964, h964, X964, e964, W964, st964⟩ := putF X962 hx hZ hown (host := "") (Or.inl (own_w hw 24 rfl)) Via.refl e962 F_x0_freeCount E_x0 (Or.inl (own_w hw 25 rfl)) (own_w hw 5 rfl) (ty := .int) (by decide) rfl rfl (g := (mkF m 26 #[rv x0, iv 0] [(.int 1), (.ref x0), (.int 0), (.ref x3)])) rfl rfl (hb hby dh_26)
  have F_x0_freeCount := F_x0_freeCount.same W964
  have E_x0 := E_x0.wr W964
  have F_x0_requests := F_x0_requests.other W964 (Or.inr (osn_Slots_requests_freeCount hw))
  have F_x0_sequences := F_x0_sequences.other W964 (Or.inr (osn_Slots_sequences_freeCount hw))
  have F_x0_free := F_x0_free.other W964 (Or.inr (osn_Slots_free_freeCount hw))
  have F_x0_lastSequence := F_x0_lastSequence.other W964 (Or.inr (osn_Slots_lastSequence_freeCount hw))
  have V_x1 := V_x1.other W964 (Ne.symm ne_x0_x1)
  have V_x2 := V_x2.other W964 (Ne.symm ne_x0_x2)
  have V_x3 := V_x3.other W964 (Ne.symm ne_x0_x3)
  have O964 := O960.wr W964 ge_x0
  have K964 := K960.wr W964 (Or.inl (List.mem_of_getElem? (i := 2) rfl))
  have N964 := Fr.snoc X964 N960 ge_x0
  have vt965 := V_x3
  obtain ⟨cl965, Ar965, q965, S965, Ng965, Ha965, G965⟩ := vt965
  have hin965 : ¬ ((0 : Int32) < 0 ∨ cl965.slots.size ≤ ((0 : Int32)).toNatClampNeg) := inb_of S965 ⟨by decide, by decide⟩
  obtain ⟨T966, h966, X966, e966, W966, st966⟩ := stI X964 hx hZ e964 Ar965 (j := (0 : Int32)) hin965 (g := (mkF m 30 #[rv x0, iv 0] [(.int 0), (.int 0), (.ref x3)])) rfl rfl (hb hby dh_30)
  have V_x3 : Arv Z h966 x3 kc2 .int (3 : Int32) [(.int 0), (.int 1), (.int 0)] (.int 0) := Arv.set Ar965 q965 S965 Ng965 Ha965 G965 rfl W966 0 rfl (Nat.le_of_ble_eq_true rfl)
  have E_x0 := E_x0.wr W966
  have F_x0_requests := F_x0_requests.other W966 (Or.inl ne_x0_x3)
  have F_x0_sequences := F_x0_sequences.other W966 (Or.inl ne_x0_x3)
  have F_x0_free := F_x0_free.other W966 (Or.inl ne_x0_x3)
  have F_x0_freeCount := F_x0_freeCount.other W966 (Or.inl ne_x0_x3)
  have F_x0_lastSequence := F_x0_lastSequence.other W966 (Or.inl ne_x0_x3)
  have V_x1 := V_x1.other W966 ne_x1_x3
  have V_x2 := V_x2.other W966 ne_x2_x3
  have O966 := O964.wr W966 ge_x3
  have K966 := K964.wr W966 (Or.inl (List.mem_of_getElem? (i := 3) rfl))
  have N966 := Fr.snoc X966 N964 ge_x3
  have pre967 : ∀ t, oS p e below m T966 31 #[rv x0, iv 0] [] t → oT p e below s₁ (entryFrame m #[(.ref x0), (.int 0)] 2) t := by
    intro t kt
    refine pre963 t ?_
    show oS p e below m T962 26 #[rv x0, iv 0] [(.int 1), (.ref x0), (.int 0), (.ref x3)] _
    refine st964 _ ?_
    show oS p e below m T964 29 #[rv x0, iv 0] [(.int 0), (.ref x3)] _
    refine XS.iloadN X964.here hx rfl (hb hby dh_29) rfl ?_
    show oS p e below m T964 30 #[rv x0, iv 0] [(.int 0), (.int 0), (.ref x3)] _
    refine st966 _ ?_
    exact kt
  obtain ⟨fs, hr, hrun, hended, hW, hsame⟩ := X966.leave (v := none) (fun _ => rfl)
  refine ⟨_, _, pre967 _ ?_, hrun, hended, _, _, rfl, ?_, ⟨_, rfl⟩, hW, hsame.mono (by decide) (by decide)⟩
  · show oS p e below m T966 31 #[rv x0, iv 0] [] _
    exact X966.returnOut hx Bd.returns (hb hby dh_31) hr
  · show Q_rm_free_50 Z x0 x1 x2 x3 kc0 kc1 kc2 w_I3 w_I2 w_I1 h0 n0 _ T966.heap _
    rw [e966]
    exact ⟨rfl, N966, K966, V_x1, V_x2, E_x0, F_x0_requests, F_x0_sequences, F_x0_free, F_x0_freeCount, F_x0_lastSequence, V_x3⟩
theorem ef_rm_release_48 (m : MethodId) (x0 : Addr) : entryFrame m #[(.ref x0), (.long 1048576)] 4 = mkF m 0 (oL3 x0) [] := by first | (simp [entryFrame, mkF, argsToLocals, Value.category]; done) | rfl
def Q_rm_release_48 (Z : State) (x0 : Addr) (x1 : Addr) (x2 : Addr) (x3 : Addr) (kc0 : ClassId) (kc1 : ClassId) (kc2 : ClassId) (w_I3 : Addr) (w_I2 : Addr) (w_I1 : Addr) (h0 : Heap) (n0 : Nat) (v : Option Value) (h : Heap) (L : List Loc) : Prop := v = some (.ref w_I1) ∧ Fr n0 L ∧ Keep h0 h [x3, x0, x2, x1] ∧ Arv Z h x3 kc2 .int (3 : Int32) [(.int 0), (.int 1), (.int 0)] (.int 0) ∧ Exa Z h x0 oc8 ∧ Fld Z h x0 oc8 "requests" "[Ljava/lang/Object;" (.ref x1) ∧ Fld Z h x0 oc8 "sequences" "[J" (.ref x2) ∧ Fld Z h x0 oc8 "free" "[I" (.ref x3) ∧ Fld Z h x0 oc8 "freeCount" "I" (.int 1) ∧ Fld Z h x0 oc8 "lastSequence" "J" (.long 3) ∧ Arv Z h x2 kc1 .long (3 : Int32) [(.long 0), (.long 2), (.long 3)] (.long 0) ∧ Arv Z h x1 kc0 (.object oc9) (3 : Int32) [.null, (.ref w_I2), (.ref w_I3)] .null
set_option maxRecDepth 65536 in
set_option maxHeartbeats 40000000 in
theorem rm_release_48 (l : Launch) (Z : State) (a0 : Array Value) (hw : ∀ d ∈ tables_1, d.before a0 Z = true) (ws : List Jvm.Cond) (x0 : Addr) (x1 : Addr) (x2 : Addr) (x3 : Addr) (kc0 : ClassId) (kc1 : ClassId) (kc2 : ClassId) (w_I3 : Addr) (w_I2 : Addr) (w_I1 : Addr) (h0 : Heap) (n0 : Nat) (O0 : Old Z n0 h0) (E_x0 : Exa Z h0 x0 oc8) (F_x0_requests : Fld Z h0 x0 oc8 "requests" "[Ljava/lang/Object;" (.ref x1)) (F_x0_sequences : Fld Z h0 x0 oc8 "sequences" "[J" (.ref x2)) (F_x0_free : Fld Z h0 x0 oc8 "free" "[I" (.ref x3)) (F_x0_freeCount : Fld Z h0 x0 oc8 "freeCount" "I" (.int 0)) (F_x0_lastSequence : Fld Z h0 x0 oc8 "lastSequence" "J" (.long 3)) (ge_x0 : n0 ≤ x0) (O_x1 : Ovr Z kc0 oc9) (V_x1 : Arv Z h0 x1 kc0 (.object oc9) (3 : Int32) [(.ref w_I1), (.ref w_I2), (.ref w_I3)] .null) (ge_x1 : n0 ≤ x1) (V_x2 : Arv Z h0 x2 kc1 .long (3 : Int32) [(.long 1), (.long 2), (.long 3)] (.long 0)) (ge_x2 : n0 ≤ x2) (V_x3 : Arv Z h0 x3 kc2 .int (3 : Int32) [(.int 2), (.int 1), (.int 0)] (.int 0)) (ge_x3 : n0 ≤ x3) (ne_x0_x1 : x0 ≠ x1) (ne_x0_x2 : x0 ≠ x2) (ne_x0_x3 : x0 ≠ x3) (ne_x1_x2 : x1 ≠ x2) (ne_x1_x3 : x1 ≠ x3) (ne_x2_x3 : x2 ≠ x3)  :
    oM l oy5 prog_29_method_6_code 4 (some (.object oc9)) ws ({ frames := 1, cells := 0, slots := 0, locals := 18 } : Room) Z #[(.ref x0), (.long 1048576)] h0 (Q_rm_release_48 Z x0 x1 x2 x3 kc0 kc1 kc2 w_I3 w_I2 w_I1 h0 n0) := by
  refine MetFree.of_bodySF (plainFor_of_name pn_com_example_wend_wend_Slots) hisR ?_
  intro p e s m args below meth c s₁ Bd hml0 hP hK
  obtain ⟨rfl, hZ, hh⟩ := hP
  have hx := Bd.exec
  have hby := Bd.bytes
  have hml : c.maxLocals = 4 := hml0
  have hown : s.vm.findClass oc8 = some m.cls := findClass_of_methodNamed Bd.named
  have hnm := (name_of_methodNamed Bd.named Bd.method).1
  have X0 : Stand p l e ({ frames := 1, cells := 0, slots := 0, locals := 18 } : Room) s m #[(.ref x0), (.long 1048576)] below meth c s₁ [] 0 0 := Stand.of_body Bd
  have e0 : s₁.heap = h0 := by rw [← hh, Bd.state]; rfl
  have N0 := Fr.nil n0
  have pre0 : ∀ t, oS p e below m s₁ 0 (oL3 x0) [] t → oT p e below s₁ (entryFrame m #[(.ref x0), (.long 1048576)] 4) t := fun t k => castTop (ef_rm_release_48 m x0) k
  have K0 := Keep.refl h0 [x3, x0, x2, x1]
  obtain ⟨cq937, kq937, q937a, q937b, q937c⟩ := isOf hZ e0 E_x0
  obtain ⟨_, _, ⟨T937, L937, k937, n937⟩, -, X937, ⟨Lc937, hQ937, l937, y937, z937⟩, st937⟩ := X0.virtualBack hx (y := oy6) (z := oy6) hown (mvT hZ (own_w hw 52 rfl)) (mvT hZ (own_w hw 53 rfl)) (notFace_of_selects (args := #[]) (mvT hZ (own_w hw 55 rfl))) (mvT hZ (own_w hw 55 rfl)) (mvT hZ (own_w hw 54 rfl)) (by decide) (backOf (W := 0) (rm_get_49 l Z a0 hw [] x0 x1 x2 kc0 kc1 w_I1 w_I3 w_I2 h0 n0 O0 F_x0_requests F_x0_sequences V_x1 V_x2 ) hZ (own_w hw 56 rfl) (own_w hw 6 rfl) (by decide) (by decide)) q937a q937c (g := (mkF m 2 (oL3 x0) [(.long 1048576), (.ref x0)])) rfl (by rw [hml]; rfl) (Steps.refl _) (argsL := [(.long 1048576)]) (rest := []) (lenOf pd__J_Ljava_lang_Object_ rfl) rfl (by show 2 * 0 + _ ≤ _; exact Nat.le_of_eq rfl) (hb hby dg_2) (fun _ _ => ⟨rfl, e0, (by decide : 0 + 0 ≤ _), (by decide : 0 + 0 ≤ _)⟩)
  dsimp only [Pt.U, Pt.locs, Pt.cells, Pt.slots] at X937 l937 y937 z937 st937 hQ937
  subst l937 y937 z937
  obtain ⟨rfl, N937q, e937⟩ := hQ937
  have N937 := Fr.app N0 N937q
  have pre952 : ∀ t, oS p e below m T937 16 (oL2 x0 w_I1) [(.long ((1048576 : Int64) &&& (1048575 : Int64))), (.ref x0)] t → oT p e below s₁ (entryFrame m #[(.ref x0), (.long 1048576)] 4) t := by
    intro t kt
    refine pre0 t ?_
    show oS p e below m s₁ 0 (oL3 x0) [] _
    refine XS.aloadN X0.here hx rfl (hb hby dg_0) rfl rfl ?_
    refine XS.lloadN X0.here hx rfl (hb hby dg_1) rfl ?_
    show oS p e below m s₁ 2 (oL3 x0) [(.long 1048576), (.ref x0)] _
    refine st937.trans ?_
    show oS p e below m T937 5 (oL3 x0) [(.ref w_I1)] _
    refine XS.astoreN X937.here hx rfl (hb hby dg_5) rfl rfl (l' := (oL2 x0 w_I1)) rfl ?_
    refine XS.aloadN X937.here hx rfl (hb hby dg_6) rfl rfl ?_
    show oS p e below m T937 7 (oL2 x0 w_I1) [(.ref w_I1)] _
    refine XS.ifnullNo X937.here hx rfl (hb hby dg_7) rfl ?_
    refine XS.aloadN X937.here hx rfl (hb hby dg_10) rfl rfl ?_
    show oS p e below m T937 11 (oL2 x0 w_I1) [(.ref x0)] _
    refine XS.lloadN X937.here hx rfl (hb hby dg_11) rfl ?_
    show oS p e below m T937 12 (oL2 x0 w_I1) [(.long 1048576), (.ref x0)] _
    refine X937.ldc2Long hx hown (mvT hZ (own_w hw 57 rfl)) (g := (mkF m 12 (oL2 x0 w_I1) [(.long 1048576), (.ref x0)])) rfl (hb hby dg_12) _ ?_
    show oS p e below m T937 15 (oL2 x0 w_I1) [(.long 1048575), (.long 1048576), (.ref x0)] _
    refine XS.land X937.here hx rfl (hb hby dg_15) rfl ?_
    exact kt
  rw [show ((1048576 : Int64) &&& (1048575 : Int64)) = (0 : Int64) from by decide] at pre952
  have pre953 : ∀ t, oS p e below m T937 17 (oL2 x0 w_I1) [(.int ((0 : Int64).toInt32)), (.ref x0)] t → oT p e below s₁ (entryFrame m #[(.ref x0), (.long 1048576)] 4) t := by
    intro t kt
    refine pre952 t ?_
    show oS p e below m T937 16 (oL2 x0 w_I1) [(.long 0), (.ref x0)] _
    refine XS.l2i X937.here hx rfl (hb hby dg_16) rfl ?_
    exact kt
  rw [show ((0 : Int64).toInt32) = (0 : Int32) from by decide] at pre953
  obtain ⟨cq954, q954, q954'⟩ := E_x0.cell
  obtain ⟨_, _, ⟨T954, L954, k954, n954⟩, -, X954, ⟨Lc954, hQ954, l954, y954, z954⟩, st954⟩ := X937.privateBack hx (y := oy7) hown (mvT hZ (own_w hw 58 rfl)) (mvT hZ (own_w hw 59 rfl)) (own_priv hZ (own_w hw 59 rfl) (own_w hw 60 rfl) (own_w hw 5 rfl) (by decide)) (Cond.privateMethod_at (mvP hZ (own_w hw 60 rfl) (args := #[]))) (mvT hZ (own_w hw 61 rfl)) (by decide) (backOf (W := 0) (rm_free_50 l Z a0 hw [] x0 x1 x2 x3 kc0 kc1 kc2 w_I3 w_I2 w_I1 h0 n0 O0 E_x0 F_x0_requests F_x0_sequences F_x0_free F_x0_freeCount F_x0_lastSequence ge_x0 O_x1 V_x1 ge_x1 V_x2 ge_x2 V_x3 ge_x3 ne_x0_x1 ne_x0_x2 ne_x0_x3 ne_x1_x2 ne_x1_x3 ne_x2_x3 ) hZ (own_w hw 61 rfl) (own_w hw 6 rfl) (by decide) (by decide)) (g := (mkF m 17 (oL2 x0 w_I1) [(.int 0), (.ref x0)])) rfl (by rw [hml]; rfl) (Steps.refl _) (a := x0) (by rw [e937]; exact q954) q954' (argsL := [(.int 0)]) (rest := []) (lenOf pd__I_V rfl) rfl (by show 2 * 0 + _ ≤ _; exact Nat.le_of_eq rfl) (hb hby dg_17) (fun _ _ => ⟨rfl, e937, (by decide : 0 + 0 ≤ _), (by decide : 0 + 0 ≤ _)⟩)
  dsimp only [Pt.U, Pt.locs, Pt.cells, Pt.slots] at X954 l954 y954 z954 st954 hQ954
  subst l954 y954 z954
  obtain ⟨rfl, N954q, Kc954, u954_0, u954_1, u954_2, u954_3, u954_4, u954_5, u954_6, u954_7, u954_8⟩ := hQ954
  have N954 := Fr.app N937 N954q
  have O954 := O0.keep Kc954 (allS ge_x1 (allS ge_x2 (allS ge_x0 (allS ge_x3 all0))))
  have K954 := K0.trans Kc954 (allS (Or.inl (List.mem_of_getElem? (i := 3) rfl)) (allS (Or.inl (List.mem_of_getElem? (i := 2) rfl)) (allS (Or.inl (List.mem_of_getElem? (i := 1) rfl)) (allS (Or.inl (List.mem_of_getElem? (i := 0) rfl)) all0))))
  have pre968 : ∀ t, oS p e below m T954 21 (oL2 x0 w_I1) [(.ref w_I1)] t → oT p e below s₁ (entryFrame m #[(.ref x0), (.long 1048576)] 4) t := by
    intro t kt
    refine pre953 t ?_
    show oS p e below m T937 17 (oL2 x0 w_I1) [(.int 0), (.ref x0)] _
    refine st954.trans ?_
    show oS p e below m T954 20 (oL2 x0 w_I1) [] _
    refine XS.aloadN X954.here hx rfl (hb hby dg_20) rfl rfl ?_
    exact kt
  obtain ⟨fs, hr, hrun, hended, hW, hsame⟩ := X954.leave (v := some (.ref w_I1)) (fun h => by rw [Bd.returns] at h; cases h)
  refine ⟨_, _, pre968 _ ?_, hrun, hended, _, _, rfl, ?_, ⟨_, rfl⟩, hW, hsame.mono (by decide) (by decide)⟩
  · show oS p e below m T954 21 (oL2 x0 w_I1) [(.ref w_I1)] _
    jvm_step X954.here [X954.here.top, hx, (hb hby dg_21), X954.method', Bd.returns, Value.isRef, FieldType.isReference]
    first | (intro acts; rw [hr _ acts rfl rfl rfl]) | rw [hr _ _ rfl rfl rfl]
    exact Steps.refl _
  · show Q_rm_release_48 Z x0 x1 x2 x3 kc0 kc1 kc2 w_I3 w_I2 w_I1 h0 n0 _ T954.heap _
    exact ⟨rfl, N954, K954, u954_8, u954_2, u954_3, u954_4, u954_5, u954_6, u954_7, u954_1, u954_0⟩
theorem ef_rm_take_51 (m : MethodId) (x0 : Addr) (w_I4 : Addr) : entryFrame m #[(.ref x0), (.ref w_I4)] 3 = mkF m 0 #[rv x0, rv w_I4, .unset] [] := by first | (simp [entryFrame, mkF, argsToLocals, Value.category]; done) | rfl
def Q_rm_take_51 (Z : State) (x0 : Addr) (x1 : Addr) (x2 : Addr) (x3 : Addr) (kc0 : ClassId) (kc1 : ClassId) (kc2 : ClassId) (w_I4 : Addr) (w_I3 : Addr) (w_I2 : Addr) (h0 : Heap) (n0 : Nat) (v : Option Value) (h : Heap) (L : List Loc) : Prop := v = some (.long 4194304) ∧ Fr n0 L ∧ Keep h0 h [x0, x1, x2] ∧ Exa Z h x0 oc8 ∧ Fld Z h x0 oc8 "requests" "[Ljava/lang/Object;" (.ref x1) ∧ Fld Z h x0 oc8 "sequences" "[J" (.ref x2) ∧ Fld Z h x0 oc8 "free" "[I" (.ref x3) ∧ Fld Z h x0 oc8 "freeCount" "I" (.int 0) ∧ Fld Z h x0 oc8 "lastSequence" "J" (.long 4) ∧ Arv Z h x1 kc0 (.object oc9) (3 : Int32) [(.ref w_I4), (.ref w_I2), (.ref w_I3)] .null ∧ Arv Z h x2 kc1 .long (3 : Int32) [(.long 4), (.long 2), (.long 3)] (.long 0)
set_option maxRecDepth 65536 in
set_option maxHeartbeats 40000000 in
theorem rm_take_51 (l : Launch) (Z : State) (a0 : Array Value) (hw : ∀ d ∈ tables_1, d.before a0 Z = true) (ws : List Jvm.Cond) (x0 : Addr) (x1 : Addr) (x2 : Addr) (x3 : Addr) (kc0 : ClassId) (kc1 : ClassId) (kc2 : ClassId) (w_I4 : Addr) (w_I3 : Addr) (w_I2 : Addr) (h0 : Heap) (n0 : Nat) (O0 : Old Z n0 h0) (E_x0 : Exa Z h0 x0 oc8) (F_x0_requests : Fld Z h0 x0 oc8 "requests" "[Ljava/lang/Object;" (.ref x1)) (F_x0_sequences : Fld Z h0 x0 oc8 "sequences" "[J" (.ref x2)) (F_x0_free : Fld Z h0 x0 oc8 "free" "[I" (.ref x3)) (F_x0_freeCount : Fld Z h0 x0 oc8 "freeCount" "I" (.int 1)) (F_x0_lastSequence : Fld Z h0 x0 oc8 "lastSequence" "J" (.long 3)) (ge_x0 : n0 ≤ x0) (O_x1 : Ovr Z kc0 oc9) (V_x1 : Arv Z h0 x1 kc0 (.object oc9) (3 : Int32) [.null, (.ref w_I2), (.ref w_I3)] .null) (ge_x1 : n0 ≤ x1) (V_x2 : Arv Z h0 x2 kc1 .long (3 : Int32) [(.long 0), (.long 2), (.long 3)] (.long 0)) (ge_x2 : n0 ≤ x2) (V_x3 : Arv Z h0 x3 kc2 .int (3 : Int32) [(.int 0), (.int 1), (.int 0)] (.int 0)) (ge_x3 : n0 ≤ x3) (ne_x0_x1 : x0 ≠ x1) (ne_x0_x2 : x0 ≠ x2) (ne_x0_x3 : x0 ≠ x3) (ne_x1_x2 : x1 ≠ x2) (ne_x1_x3 : x1 ≠ x3) (ne_x2_x3 : x2 ≠ x3) (E_I4 : Exa Z Z.heap w_I4 oc10) :
    oM l oy4 prog_29_method_4_code 3 (some .long) ws ({ frames := 0, cells := 0, slots := 0, locals := 0 } : Room) Z #[(.ref x0), (.ref w_I4)] h0 (Q_rm_take_51 Z x0 x1 x2 x3 kc0 kc1 kc2 w_I4 w_I3 w_I2 h0 n0) := by
  refine MetFree.of_bodySF (plainFor_of_name pn_com_example_wend_wend_Slots) hisR ?_
  intro p e s m args below meth c s₁ Bd hml0 hP hK
  obtain ⟨rfl, hZ, hh⟩ := hP
  have hx := Bd.exec
  have hby := Bd.bytes
  have hml : c.maxLocals = 3 := hml0
  have hown : s.vm.findClass oc8 = some m.cls := findClass_of_methodNamed Bd.named
  have hnm := (name_of_methodNamed Bd.named Bd.method).1
  have X0 : Stand p l e ({ frames := 0, cells := 0, slots := 0, locals := 0 } : Room) s m #[(.ref x0), (.ref w_I4)] below meth c s₁ [] 0 0 := Stand.of_body Bd
  have e0 : s₁.heap = h0 := by rw [← hh, Bd.state]; rfl
  have N0 := Fr.nil n0
  have pre0 : ∀ t, oS p e below m s₁ 0 #[rv x0, rv w_I4, .unset] [] t → oT p e below s₁ (entryFrame m #[(.ref x0), (.ref w_I4)] 3) t := fun t k => castTop (ef_rm_take_51 m x0 w_I4) k
  have K0 := Keep.refl h0 [x0, x1, x2]
  obtain ⟨T982, X982, e982, st982⟩ := getF X0 hx hZ hown (host := "") (Or.inl (own_w hw 24 rfl)) Via.refl e0 F_x0_freeCount (g := (mkF m 1 #[rv x0, rv w_I4, .unset] [(.ref x0)])) rfl rfl (hb hby de_1)
  obtain ⟨T984, X984, e984, st984⟩ := getF X982 hx hZ hown (host := "") (Or.inl (own_w hw 22 rfl)) Via.refl e982 F_x0_free (g := (mkF m 18 #[rv x0, rv w_I4, .unset] [(.ref x0)])) rfl rfl (hb hby de_18)
  obtain ⟨T985, X985, e985, st985⟩ := getF X984 hx hZ hown (host := "") (Or.inl (own_w hw 24 rfl)) Via.refl e984 F_x0_freeCount (g := (mkF m 23 #[rv x0, rv w_I4, .unset] [(.ref x0), (.ref x0), (.ref x3)])) rfl rfl (hb hby de_23)
  have pre986 : ∀ t, oS p e below m T985 28 #[rv x0, rv w_I4, .unset] [(.int ((1 : Int32) - (1 : Int32))), (.ref x0), (.ref x3)] t → oT p e below s₁ (entryFrame m #[(.ref x0), (.ref w_I4)] 3) t := by
    intro t kt
    refine pre0 t ?_
    show oS p e below m s₁ 0 #[rv x0, rv w_I4, .unset] [] _
    refine XS.aloadN X0.here hx rfl (hb hby de_0) rfl rfl ?_
    show oS p e below m s₁ 1 #[rv x0, rv w_I4, .unset] [(.ref x0)] _
    refine st982 _ ?_
    show oS p e below m T982 4 #[rv x0, rv w_I4, .unset] [(.int 1)] _
    refine XS.ifYes X982.here hx rfl (pc0 := 4) (pc' := 17) rfl (hb hby de_4) rfl ((if0 _ _).trans (feq (by decide : ¬ ((1 : Int32) = (0 : Int32)))).2) (by decide) (by decide) ?_
    refine XS.aloadN X982.here hx rfl (hb hby de_17) rfl rfl ?_
    show oS p e below m T982 18 #[rv x0, rv w_I4, .unset] [(.ref x0)] _
    refine st984 _ ?_
    show oS p e below m T984 21 #[rv x0, rv w_I4, .unset] [(.ref x3)] _
    refine XS.aloadN X984.here hx rfl (hb hby de_21) rfl rfl ?_
    refine XS.dup X984.here hx rfl (hb hby de_22) rfl rfl ?_
    show oS p e below m T984 23 #[rv x0, rv w_I4, .unset] [(.ref x0), (.ref x0), (.ref x3)] _
    refine st985 _ ?_
    show oS p e below m T985 26 #[rv x0, rv w_I4, .unset] [(.int 1), (.ref x0), (.ref x3)] _
    refine XS.iconst X985.here hx rfl (hb hby de_26) ?_
    refine XS.isub X985.here hx rfl (hb hby de_27) rfl ?_
    exact kt
  rw [show ((1 : Int32) - (1 : Int32)) = (0 : Int32) from by decide] at pre986
  obtain ⟨T987, h987, X987, e987, W987, st987⟩ := putF X985 hx hZ hown (host := "") (Or.inl (own_w hw 24 rfl)) Via.refl e985 F_x0_freeCount E_x0 (Or.inl (own_w hw 25 rfl)) (own_w hw 5 rfl) (ty := .int) (by decide) rfl rfl (g := (mkF m 29 #[rv x0, rv w_I4, .unset] [(.int 0), (.ref x0), (.int 0), (.ref x3)])) rfl rfl (hb hby de_29)
  have F_x0_freeCount := F_x0_freeCount.same W987
  have E_x0 := E_x0.wr W987
  have F_x0_requests := F_x0_requests.other W987 (Or.inr (osn_Slots_requests_freeCount hw))
  have F_x0_sequences := F_x0_sequences.other W987 (Or.inr (osn_Slots_sequences_freeCount hw))
  have F_x0_free := F_x0_free.other W987 (Or.inr (osn_Slots_free_freeCount hw))
  have F_x0_lastSequence := F_x0_lastSequence.other W987 (Or.inr (osn_Slots_lastSequence_freeCount hw))
  have V_x1 := V_x1.other W987 (Ne.symm ne_x0_x1)
  have V_x2 := V_x2.other W987 (Ne.symm ne_x0_x2)
  have V_x3 := V_x3.other W987 (Ne.symm ne_x0_x3)
  have O987 := O0.wr W987 ge_x0
  have K987 := K0.wr W987 (Or.inl (List.mem_of_getElem? (i := 0) rfl))
  have N987 := Fr.snoc X987 N0 ge_x0
  have vt988 := V_x3
  obtain ⟨cl988, Ar988, q988, S988, Ng988, Ha988, G988⟩ := vt988
  have hin988 : ¬ ((0 : Int32) < 0 ∨ cl988.slots.size ≤ ((0 : Int32)).toNatClampNeg) := inb_of S988 ⟨by decide, by decide⟩
  have hat988 : cl988.slots[((0 : Int32)).toNatClampNeg]? = some (.int 0) := Ha988.at hin988 rfl
  obtain ⟨T989, X989, e989, st989⟩ := getF X987 hx hZ hown (host := "") (Or.inl (own_w hw 43 rfl)) Via.refl e987 F_x0_lastSequence (g := (mkF m 36 #[rv x0, rv w_I4, iv 0] [(.ref x0), (.ref x0)])) rfl rfl (hb hby de_36)
  have pre990 : ∀ t, oS p e below m T989 43 #[rv x0, rv w_I4, iv 0] [(.int (lcmpW (3 : Int64) (17592186044415 : Int64))), (.ref x0)] t → oT p e below s₁ (entryFrame m #[(.ref x0), (.ref w_I4)] 3) t := by
    intro t kt
    refine pre986 t ?_
    show oS p e below m T985 28 #[rv x0, rv w_I4, .unset] [(.int 0), (.ref x0), (.ref x3)] _
    refine XS.dupX1 X985.here hx rfl (hb hby de_28) rfl rfl rfl ?_
    show oS p e below m T985 29 #[rv x0, rv w_I4, .unset] [(.int 0), (.ref x0), (.int 0), (.ref x3)] _
    refine st987 _ ?_
    show oS p e below m T987 32 #[rv x0, rv w_I4, .unset] [(.int 0), (.ref x3)] _
    refine X987.iaload hx (j := (0 : Int32)) (v := (.int 0)) (by rw [e987]; exact Ar988.1) (State.isArrayOf_alike hZ.alike Ar988.2.1) Ar988.2.2 hin988 hat988 (g := (mkF m 32 #[rv x0, rv w_I4, .unset] [(.int 0), (.ref x3)])) rfl rfl (hb hby de_32) _ ?_
    show oS p e below m T987 33 #[rv x0, rv w_I4, .unset] [(.int 0)] _
    refine XS.istoreN X987.here hx rfl (hb hby de_33) rfl (l' := #[rv x0, rv w_I4, iv 0]) rfl ?_
    refine XS.aloadN X987.here hx rfl (hb hby de_34) rfl rfl ?_
    show oS p e below m T987 35 #[rv x0, rv w_I4, iv 0] [(.ref x0)] _
    refine XS.aloadN X987.here hx rfl (hb hby de_35) rfl rfl ?_
    show oS p e below m T987 36 #[rv x0, rv w_I4, iv 0] [(.ref x0), (.ref x0)] _
    refine st989 _ ?_
    show oS p e below m T989 39 #[rv x0, rv w_I4, iv 0] [(.long 3), (.ref x0)] _
    refine X989.ldc2Long hx hown (mvT hZ (own_w hw 45 rfl)) (g := (mkF m 39 #[rv x0, rv w_I4, iv 0] [(.long 3), (.ref x0)])) rfl (hb hby de_39) _ ?_
    show oS p e below m T989 42 #[rv x0, rv w_I4, iv 0] [(.long 17592186044415), (.long 3), (.ref x0)] _
    refine XS.lcmp X989.here hx rfl (hb hby de_42) rfl ?_
    exact kt
  rw [show (lcmpW (3 : Int64) (17592186044415 : Int64)) = (-1 : Int32) from by decide] at pre990
  obtain ⟨T992, X992, e992, st992⟩ := getF X989 hx hZ hown (host := "") (Or.inl (own_w hw 43 rfl)) Via.refl e989 F_x0_lastSequence (g := (mkF m 51 #[rv x0, rv w_I4, iv 0] [(.ref x0), (.ref x0)])) rfl rfl (hb hby de_51)
  have pre993 : ∀ t, oS p e below m T992 56 #[rv x0, rv w_I4, iv 0] [(.long ((3 : Int64) + (1 : Int64))), (.ref x0)] t → oT p e below s₁ (entryFrame m #[(.ref x0), (.ref w_I4)] 3) t := by
    intro t kt
    refine pre990 t ?_
    show oS p e below m T989 43 #[rv x0, rv w_I4, iv 0] [(.int (-1 : Int32)), (.ref x0)] _
    refine XS.ifYes X989.here hx rfl (pc0 := 43) (pc' := 50) rfl (hb hby de_43) rfl ((if0 _ _).trans (feq (by decide : ¬ ((-1 : Int32) = (0 : Int32)))).2) (by decide) (by decide) ?_
    refine XS.aloadN X989.here hx rfl (hb hby de_50) rfl rfl ?_
    show oS p e below m T989 51 #[rv x0, rv w_I4, iv 0] [(.ref x0), (.ref x0)] _
    refine st992 _ ?_
    show oS p e below m T992 54 #[rv x0, rv w_I4, iv 0] [(.long 3), (.ref x0)] _
    refine XS.lconst X992.here hx rfl (hb hby de_54) ?_
    refine XS.ladd X992.here hx rfl (hb hby de_55) rfl ?_
    exact kt
  rw [show ((3 : Int64) + (1 : Int64)) = (4 : Int64) from by decide] at pre993
  obtain ⟨T994, h994, X994, e994, W994, st994⟩ := putF X992 hx hZ hown (host := "") (Or.inl (own_w hw 43 rfl)) Via.refl e992 F_x0_lastSequence E_x0 (Or.inl (own_w hw 44 rfl)) (own_w hw 5 rfl) (ty := .long) (by decide) rfl rfl (g := (mkF m 56 #[rv x0, rv w_I4, iv 0] [(.long 4), (.ref x0)])) rfl rfl (hb hby de_56)
  have F_x0_lastSequence := F_x0_lastSequence.same W994
  have E_x0 := E_x0.wr W994
  have F_x0_requests := F_x0_requests.other W994 (Or.inr (osn_Slots_requests_lastSequence hw))
  have F_x0_sequences := F_x0_sequences.other W994 (Or.inr (osn_Slots_sequences_lastSequence hw))
  have F_x0_free := F_x0_free.other W994 (Or.inr (osn_Slots_free_lastSequence hw))
  have F_x0_freeCount := F_x0_freeCount.other W994 (Or.inr (osn_Slots_freeCount_lastSequence hw))
  have V_x1 := V_x1.other W994 (Ne.symm ne_x0_x1)
  have V_x2 := V_x2.other W994 (Ne.symm ne_x0_x2)
  have V_x3 := V_x3.other W994 (Ne.symm ne_x0_x3)
  have O994 := O987.wr W994 ge_x0
  have K994 := K987.wr W994 (Or.inl (List.mem_of_getElem? (i := 0) rfl))
  have N994 := Fr.snoc X994 N987 ge_x0
  obtain ⟨T995, X995, e995, st995⟩ := getF X994 hx hZ hown (host := "") (Or.inl (own_w hw 16 rfl)) Via.refl e994 F_x0_requests (g := (mkF m 60 #[rv x0, rv w_I4, iv 0] [(.ref x0)])) rfl rfl (hb hby de_60)
  have vt996 := V_x1
  obtain ⟨cl996, Ar996, q996, S996, Ng996, Ha996, G996⟩ := vt996
  have hin996 : ¬ ((0 : Int32) < 0 ∨ cl996.slots.size ≤ ((0 : Int32)).toNatClampNeg) := inb_of S996 ⟨by decide, by decide⟩
  obtain ⟨T997, h997, X997, e997, W997, st997⟩ := stR X995 hx hZ e995 Ar996 (j := (0 : Int32)) hin996 rfl (Sto.ofV Ar996 q996 O_x1 (Ins.of_exa (E_I4.ext O994.2) (own_w hw 46 rfl))) (g := (mkF m 65 #[rv x0, rv w_I4, iv 0] [(.ref w_I4), (.int 0), (.ref x1)])) rfl rfl (hb hby de_65)
  have V_x1 : Arv Z h997 x1 kc0 (.object oc9) (3 : Int32) [(.ref w_I4), (.ref w_I2), (.ref w_I3)] .null := Arv.set Ar996 q996 S996 Ng996 Ha996 G996 rfl W997 0 rfl (Nat.le_of_ble_eq_true rfl)
  have E_x0 := E_x0.wr W997
  have F_x0_requests := F_x0_requests.other W997 (Or.inl ne_x0_x1)
  have F_x0_sequences := F_x0_sequences.other W997 (Or.inl ne_x0_x1)
  have F_x0_free := F_x0_free.other W997 (Or.inl ne_x0_x1)
  have F_x0_freeCount := F_x0_freeCount.other W997 (Or.inl ne_x0_x1)
  have F_x0_lastSequence := F_x0_lastSequence.other W997 (Or.inl ne_x0_x1)
  have V_x2 := V_x2.other W997 (Ne.symm ne_x1_x2)
  have V_x3 := V_x3.other W997 (Ne.symm ne_x1_x3)
  have O997 := O994.wr W997 ge_x1
  have K997 := K994.wr W997 (Or.inl (List.mem_of_getElem? (i := 1) rfl))
  have N997 := Fr.snoc X997 N994 ge_x1
  obtain ⟨T998, X998, e998, st998⟩ := getF X997 hx hZ hown (host := "") (Or.inl (own_w hw 19 rfl)) Via.refl e997 F_x0_sequences (g := (mkF m 67 #[rv x0, rv w_I4, iv 0] [(.ref x0)])) rfl rfl (hb hby de_67)
  obtain ⟨T999, X999, e999, st999⟩ := getF X998 hx hZ hown (host := "") (Or.inl (own_w hw 43 rfl)) Via.refl e998 F_x0_lastSequence (g := (mkF m 72 #[rv x0, rv w_I4, iv 0] [(.ref x0), (.int 0), (.ref x2)])) rfl rfl (hb hby de_72)
  have vt1000 := V_x2
  obtain ⟨cl1000, Ar1000, q1000, S1000, Ng1000, Ha1000, G1000⟩ := vt1000
  have hin1000 : ¬ ((0 : Int32) < 0 ∨ cl1000.slots.size ≤ ((0 : Int32)).toNatClampNeg) := inb_of S1000 ⟨by decide, by decide⟩
  obtain ⟨T1001, h1001, X1001, e1001, W1001, st1001⟩ := stJ X999 hx hZ e999 Ar1000 (j := (0 : Int32)) hin1000 (g := (mkF m 75 #[rv x0, rv w_I4, iv 0] [(.long 4), (.int 0), (.ref x2)])) rfl rfl (hb hby de_75)
  have V_x2 : Arv Z h1001 x2 kc1 .long (3 : Int32) [(.long 4), (.long 2), (.long 3)] (.long 0) := Arv.set Ar1000 q1000 S1000 Ng1000 Ha1000 G1000 rfl W1001 0 rfl (Nat.le_of_ble_eq_true rfl)
  have E_x0 := E_x0.wr W1001
  have F_x0_requests := F_x0_requests.other W1001 (Or.inl ne_x0_x2)
  have F_x0_sequences := F_x0_sequences.other W1001 (Or.inl ne_x0_x2)
  have F_x0_free := F_x0_free.other W1001 (Or.inl ne_x0_x2)
  have F_x0_freeCount := F_x0_freeCount.other W1001 (Or.inl ne_x0_x2)
  have F_x0_lastSequence := F_x0_lastSequence.other W1001 (Or.inl ne_x0_x2)
  have V_x1 := V_x1.other W1001 ne_x1_x2
  have V_x3 := V_x3.other W1001 (Ne.symm ne_x2_x3)
  have O1001 := O997.wr W1001 ge_x2
  have K1001 := K997.wr W1001 (Or.inl (List.mem_of_getElem? (i := 2) rfl))
  have N1001 := Fr.snoc X1001 N997 ge_x2
  obtain ⟨T1002, X1002, e1002, st1002⟩ := getF X1001 hx hZ hown (host := "") (Or.inl (own_w hw 43 rfl)) Via.refl e1001 F_x0_lastSequence (g := (mkF m 77 #[rv x0, rv w_I4, iv 0] [(.ref x0)])) rfl rfl (hb hby de_77)
  have pre1003 : ∀ t, oS p e below m T1002 83 #[rv x0, rv w_I4, iv 0] [(.long ((4 : Int64) <<< ((20 : Int32) &&& 0x3f).toInt64))] t → oT p e below s₁ (entryFrame m #[(.ref x0), (.ref w_I4)] 3) t := by
    intro t kt
    refine pre993 t ?_
    show oS p e below m T992 56 #[rv x0, rv w_I4, iv 0] [(.long 4), (.ref x0)] _
    refine st994 _ ?_
    show oS p e below m T994 59 #[rv x0, rv w_I4, iv 0] [] _
    refine XS.aloadN X994.here hx rfl (hb hby de_59) rfl rfl ?_
    show oS p e below m T994 60 #[rv x0, rv w_I4, iv 0] [(.ref x0)] _
    refine st995 _ ?_
    show oS p e below m T995 63 #[rv x0, rv w_I4, iv 0] [(.ref x1)] _
    refine XS.iloadN X995.here hx rfl (hb hby de_63) rfl ?_
    refine XS.aloadN X995.here hx rfl (hb hby de_64) rfl rfl ?_
    show oS p e below m T995 65 #[rv x0, rv w_I4, iv 0] [(.ref w_I4), (.int 0), (.ref x1)] _
    refine st997 _ ?_
    show oS p e below m T997 66 #[rv x0, rv w_I4, iv 0] [] _
    refine XS.aloadN X997.here hx rfl (hb hby de_66) rfl rfl ?_
    show oS p e below m T997 67 #[rv x0, rv w_I4, iv 0] [(.ref x0)] _
    refine st998 _ ?_
    show oS p e below m T998 70 #[rv x0, rv w_I4, iv 0] [(.ref x2)] _
    refine XS.iloadN X998.here hx rfl (hb hby de_70) rfl ?_
    refine XS.aloadN X998.here hx rfl (hb hby de_71) rfl rfl ?_
    show oS p e below m T998 72 #[rv x0, rv w_I4, iv 0] [(.ref x0), (.int 0), (.ref x2)] _
    refine st999 _ ?_
    show oS p e below m T999 75 #[rv x0, rv w_I4, iv 0] [(.long 4), (.int 0), (.ref x2)] _
    refine st1001 _ ?_
    show oS p e below m T1001 76 #[rv x0, rv w_I4, iv 0] [] _
    refine XS.aloadN X1001.here hx rfl (hb hby de_76) rfl rfl ?_
    show oS p e below m T1001 77 #[rv x0, rv w_I4, iv 0] [(.ref x0)] _
    refine st1002 _ ?_
    show oS p e below m T1002 80 #[rv x0, rv w_I4, iv 0] [(.long 4)] _
    refine XS.bipush X1002.here hx rfl (hb hby de_80) ?_
    refine XS.lshl X1002.here hx rfl (hb hby de_82) rfl ?_
    exact kt
  rw [show ((4 : Int64) <<< ((20 : Int32) &&& 0x3f).toInt64) = (4194304 : Int64) from by decide] at pre1003
  have pre1004 : ∀ t, oS p e below m T1002 85 #[rv x0, rv w_I4, iv 0] [(.long ((0 : Int32).toInt64)), (.long 4194304)] t → oT p e below s₁ (entryFrame m #[(.ref x0), (.ref w_I4)] 3) t := by
    intro t kt
    refine pre1003 t ?_
    show oS p e below m T1002 83 #[rv x0, rv w_I4, iv 0] [(.long 4194304)] _
    refine XS.iloadN X1002.here hx rfl (hb hby de_83) rfl ?_
    refine XS.i2l X1002.here hx rfl (hb hby de_84) rfl ?_
    exact kt
  rw [show ((0 : Int32).toInt64) = (0 : Int64) from by decide] at pre1004
  have pre1005 : ∀ t, oS p e below m T1002 86 #[rv x0, rv w_I4, iv 0] [(.long ((4194304 : Int64) ||| (0 : Int64)))] t → oT p e below s₁ (entryFrame m #[(.ref x0), (.ref w_I4)] 3) t := by
    intro t kt
    refine pre1004 t ?_
    show oS p e below m T1002 85 #[rv x0, rv w_I4, iv 0] [(.long 0), (.long 4194304)] _
    refine XS.lor X1002.here hx rfl (hb hby de_85) rfl ?_
    exact kt
  rw [show ((4194304 : Int64) ||| (0 : Int64)) = (4194304 : Int64) from by decide] at pre1005
  obtain ⟨fs, hr, hrun, hended, hW, hsame⟩ := X1002.leave (v := some (.long 4194304)) (fun h => by rw [Bd.returns] at h; cases h)
  refine ⟨_, _, pre1005 _ ?_, hrun, hended, _, _, rfl, ?_, ⟨_, rfl⟩, hW, hsame.mono (by decide) (by decide)⟩
  · show oS p e below m T1002 86 #[rv x0, rv w_I4, iv 0] [(.long 4194304)] _
    jvm_step X1002.here [X1002.here.top, hx, (hb hby de_86), X1002.method', Bd.returns, narrow]
    first | (intro acts; rw [hr _ acts rfl rfl rfl]) | rw [hr _ _ rfl rfl rfl]
    exact Steps.refl _
  · show Q_rm_take_51 Z x0 x1 x2 x3 kc0 kc1 kc2 w_I4 w_I3 w_I2 h0 n0 _ T1002.heap _
    rw [e1002]
    exact ⟨rfl, N1001, K1001, E_x0, F_x0_requests, F_x0_sequences, F_x0_free, F_x0_freeCount, F_x0_lastSequence, V_x1, V_x2⟩
theorem ef_rm_get_53 (m : MethodId) (x0 : Addr) : entryFrame m #[(.ref x0), (.long 1048576)] 7 = mkF m 0 (oL1 x0) [] := by first | (simp [entryFrame, mkF, argsToLocals, Value.category]; done) | rfl
def Q_rm_get_53 (Z : State) (x0 : Addr) (x1 : Addr) (x2 : Addr) (kc0 : ClassId) (kc1 : ClassId) (w_I3 : Addr) (w_I2 : Addr) (h0 : Heap) (n0 : Nat) (v : Option Value) (h : Heap) (L : List Loc) : Prop := v = some .null ∧ Fr n0 L ∧ h = h0
set_option maxRecDepth 65536 in
set_option maxHeartbeats 40000000 in
theorem rm_get_53 (l : Launch) (Z : State) (a0 : Array Value) (hw : ∀ d ∈ tables_1, d.before a0 Z = true) (ws : List Jvm.Cond) (x0 : Addr) (x1 : Addr) (x2 : Addr) (kc0 : ClassId) (kc1 : ClassId) (w_I3 : Addr) (w_I2 : Addr) (h0 : Heap) (n0 : Nat) (O0 : Old Z n0 h0) (F_x0_requests : Fld Z h0 x0 oc8 "requests" "[Ljava/lang/Object;" (.ref x1)) (F_x0_sequences : Fld Z h0 x0 oc8 "sequences" "[J" (.ref x2)) (V_x1 : Arv Z h0 x1 kc0 (.object oc9) (3 : Int32) [.null, (.ref w_I2), (.ref w_I3)] .null) (V_x2 : Arv Z h0 x2 kc1 .long (3 : Int32) [(.long 0), (.long 2), (.long 3)] (.long 0))  :
    oM l oy6 prog_29_method_5_code 7 (some (.object oc9)) ws ({ frames := 0, cells := 0, slots := 0, locals := 0 } : Room) Z #[(.ref x0), (.long 1048576)] h0 (Q_rm_get_53 Z x0 x1 x2 kc0 kc1 w_I3 w_I2 h0 n0) := by
  refine MetFree.of_bodySF (plainFor_of_name pn_com_example_wend_wend_Slots) hisR ?_
  intro p e s m args below meth c s₁ Bd hml0 hP hK
  obtain ⟨rfl, hZ, hh⟩ := hP
  have hx := Bd.exec
  have hby := Bd.bytes
  have hml : c.maxLocals = 7 := hml0
  have hown : s.vm.findClass oc8 = some m.cls := findClass_of_methodNamed Bd.named
  have hnm := (name_of_methodNamed Bd.named Bd.method).1
  have X0 : Stand p l e ({ frames := 0, cells := 0, slots := 0, locals := 0 } : Room) s m #[(.ref x0), (.long 1048576)] below meth c s₁ [] 0 0 := Stand.of_body Bd
  have e0 : s₁.heap = h0 := by rw [← hh, Bd.state]; rfl
  have N0 := Fr.nil n0
  have pre0 : ∀ t, oS p e below m s₁ 0 (oL1 x0) [] t → oT p e below s₁ (entryFrame m #[(.ref x0), (.long 1048576)] 7) t := fun t k => castTop (ef_rm_get_53 m x0) k
  have K0 := Keep.refl h0 []
  have pre1017 : ∀ t, oS p e below m s₁ 5 (oL1 x0) [(.long ((1048576 : Int64) &&& (1048575 : Int64)))] t → oT p e below s₁ (entryFrame m #[(.ref x0), (.long 1048576)] 7) t := by
    intro t kt
    refine pre0 t ?_
    show oS p e below m s₁ 0 (oL1 x0) [] _
    refine XS.lloadN X0.here hx rfl (hb hby df_0) rfl ?_
    show oS p e below m s₁ 1 (oL1 x0) [(.long 1048576)] _
    refine X0.ldc2Long hx hown (mvT hZ (own_w hw 57 rfl)) (g := (mkF m 1 (oL1 x0) [(.long 1048576)])) rfl (hb hby df_1) _ ?_
    show oS p e below m s₁ 4 (oL1 x0) [(.long 1048575), (.long 1048576)] _
    refine XS.land X0.here hx rfl (hb hby df_4) rfl ?_
    exact kt
  rw [show ((1048576 : Int64) &&& (1048575 : Int64)) = (0 : Int64) from by decide] at pre1017
  have pre1018 : ∀ t, oS p e below m s₁ 6 (oL1 x0) [(.int ((0 : Int64).toInt32))] t → oT p e below s₁ (entryFrame m #[(.ref x0), (.long 1048576)] 7) t := by
    intro t kt
    refine pre1017 t ?_
    show oS p e below m s₁ 5 (oL1 x0) [(.long 0)] _
    refine XS.l2i X0.here hx rfl (hb hby df_5) rfl ?_
    exact kt
  rw [show ((0 : Int64).toInt32) = (0 : Int32) from by decide] at pre1018
  have pre1019 : ∀ t, oS p e below m s₁ 11 (oL4 x0) [(.long (((1048576 : Int64).toUInt64 >>> ((20 : Int32) &&& 0x3f).toInt64.toUInt64).toInt64))] t → oT p e below s₁ (entryFrame m #[(.ref x0), (.long 1048576)] 7) t := by
    intro t kt
    refine pre1018 t ?_
    show oS p e below m s₁ 6 (oL1 x0) [(.int 0)] _
    refine XS.istoreN X0.here hx rfl (hb hby df_6) rfl (l' := (oL4 x0)) rfl ?_
    refine XS.lloadN X0.here hx rfl (hb hby df_7) rfl ?_
    show oS p e below m s₁ 8 (oL4 x0) [(.long 1048576)] _
    refine XS.bipush X0.here hx rfl (hb hby df_8) ?_
    refine XS.lushr X0.here hx rfl (hb hby df_10) rfl ?_
    exact kt
  rw [show (((1048576 : Int64).toUInt64 >>> ((20 : Int32) &&& 0x3f).toInt64.toUInt64).toInt64) = (1 : Int64) from by decide] at pre1019
  obtain ⟨T1020, X1020, e1020, st1020⟩ := getF X0 hx hZ hown (host := "") (Or.inl (own_w hw 16 rfl)) Via.refl e0 F_x0_requests (g := (mkF m 15 (oL0 x0) [(.ref x0), (.int 0)])) rfl rfl (hb hby df_15)
  have vt1021 := V_x1
  obtain ⟨cl1021, Ar1021, q1021, S1021, Ng1021, Ha1021, G1021⟩ := vt1021
  obtain ⟨T1023, X1023, e1023, st1023⟩ := getF X1020 hx hZ hown (host := "") (Or.inl (own_w hw 19 rfl)) Via.refl e1020 F_x0_sequences (g := (mkF m 23 (oL0 x0) [(.ref x0)])) rfl rfl (hb hby df_23)
  have vt1024 := V_x2
  obtain ⟨cl1024, Ar1024, q1024, S1024, Ng1024, Ha1024, G1024⟩ := vt1024
  have hin1024 : ¬ ((0 : Int32) < 0 ∨ cl1024.slots.size ≤ ((0 : Int32)).toNatClampNeg) := inb_of S1024 ⟨by decide, by decide⟩
  have hat1024 : cl1024.slots[((0 : Int32)).toNatClampNeg]? = some (.long 0) := Ha1024.at hin1024 rfl
  have pre1025 : ∀ t, oS p e below m T1023 31 (oL0 x0) [(.int (lcmpW (0 : Int64) (1 : Int64)))] t → oT p e below s₁ (entryFrame m #[(.ref x0), (.long 1048576)] 7) t := by
    intro t kt
    refine pre1019 t ?_
    show oS p e below m s₁ 11 (oL4 x0) [(.long 1)] _
    refine XS.lstore X0.here hx rfl (hb hby df_11) rfl (l' := (oL0 x0)) rfl ?_
    refine XS.iloadN X0.here hx rfl (hb hby df_13) rfl ?_
    show oS p e below m s₁ 14 (oL0 x0) [(.int 0)] _
    refine XS.aloadN X0.here hx rfl (hb hby df_14) rfl rfl ?_
    show oS p e below m s₁ 15 (oL0 x0) [(.ref x0), (.int 0)] _
    refine st1020 _ ?_
    show oS p e below m T1020 18 (oL0 x0) [(.ref x1), (.int 0)] _
    refine X1020.arraylength hx (by rw [e1020]; exact Ar1021.1) (State.isArrayOf_alike hZ.alike Ar1021.2.1) (g := (mkF m 18 (oL0 x0) [(.ref x1), (.int 0)])) rfl rfl (hb hby df_18) _ ?_
    rw [len_of S1021 Ng1021]
    show oS p e below m T1020 19 (oL0 x0) [(.int 3), (.int 0)] _
    refine XS.icmpNo X1020.here hx rfl (hb hby df_19) rfl (tlt (by decide : (0 : Int32) < (3 : Int32))).2.1 ?_
    refine XS.aloadN X1020.here hx rfl (hb hby df_22) rfl rfl ?_
    show oS p e below m T1020 23 (oL0 x0) [(.ref x0)] _
    refine st1023 _ ?_
    show oS p e below m T1023 26 (oL0 x0) [(.ref x2)] _
    refine XS.iloadN X1023.here hx rfl (hb hby df_26) rfl ?_
    show oS p e below m T1023 27 (oL0 x0) [(.int 0), (.ref x2)] _
    refine X1023.laload hx (j := (0 : Int32)) (v := (.long 0)) (by rw [e1023]; exact Ar1024.1) (State.isArrayOf_alike hZ.alike Ar1024.2.1) Ar1024.2.2 hin1024 hat1024 (g := (mkF m 27 (oL0 x0) [(.int 0), (.ref x2)])) rfl rfl (hb hby df_27) _ ?_
    show oS p e below m T1023 28 (oL0 x0) [(.long 0)] _
    refine XS.lload X1023.here hx rfl (hb hby df_28) rfl ?_
    refine XS.lcmp X1023.here hx rfl (hb hby df_30) rfl ?_
    exact kt
  rw [show (lcmpW (0 : Int64) (1 : Int64)) = (-1 : Int32) from by decide] at pre1025
  have pre1028 : ∀ t, oS p e below m T1023 56 (oL12 x0) [.null] t → oT p e below s₁ (entryFrame m #[(.ref x0), (.long 1048576)] 7) t := by
    intro t kt
    refine pre1025 t ?_
    show oS p e below m T1023 31 (oL0 x0) [(.int (-1 : Int32))] _
    refine XS.ifYes X1023.here hx rfl (pc0 := 31) (pc' := 38) rfl (hb hby df_31) rfl ((if0 _ _).trans (feq (by decide : ¬ ((-1 : Int32) = (0 : Int32)))).2) (by decide) (by decide) ?_
    refine XS.iconst X1023.here hx rfl (hb hby df_38) ?_
    show oS p e below m T1023 39 (oL0 x0) [(.int 0)] _
    refine XS.istore X1023.here hx rfl (hb hby df_39) rfl (l' := (oL12 x0)) rfl ?_
    refine XS.iload X1023.here hx rfl (hb hby df_41) rfl ?_
    show oS p e below m T1023 43 (oL12 x0) [(.int 0)] _
    refine XS.ifYes X1023.here hx rfl (pc0 := 43) (pc' := 55) rfl (hb hby df_43) rfl ((if0 _ _).trans (teq (by decide : (0 : Int32) = (0 : Int32))).1) (by decide) (by decide) ?_
    refine XS.aconstNull X1023.here hx rfl (hb hby df_55) ?_
    exact kt
  obtain ⟨fs, hr, hrun, hended, hW, hsame⟩ := X1023.leave (v := some .null) (fun h => by rw [Bd.returns] at h; cases h)
  refine ⟨_, _, pre1028 _ ?_, hrun, hended, _, _, rfl, ?_, ⟨_, rfl⟩, hW, hsame.mono (by decide) (by decide)⟩
  · show oS p e below m T1023 56 (oL12 x0) [.null] _
    jvm_step X1023.here [X1023.here.top, hx, (hb hby df_56), X1023.method', Bd.returns, Value.isRef, FieldType.isReference]
    first | (intro acts; rw [hr _ acts rfl rfl rfl]) | rw [hr _ _ rfl rfl rfl]
    exact Steps.refl _
  · show Q_rm_get_53 Z x0 x1 x2 kc0 kc1 w_I3 w_I2 h0 n0 _ T1023.heap _
    rw [e1023]
    exact ⟨rfl, N0, rfl⟩
theorem ef_rm_release_52 (m : MethodId) (x0 : Addr) : entryFrame m #[(.ref x0), (.long 1048576)] 4 = mkF m 0 (oL3 x0) [] := by first | (simp [entryFrame, mkF, argsToLocals, Value.category]; done) | rfl
def Q_rm_release_52 (Z : State) (x0 : Addr) (x1 : Addr) (x2 : Addr) (x3 : Addr) (kc0 : ClassId) (kc1 : ClassId) (w_I3 : Addr) (w_I2 : Addr) (h0 : Heap) (n0 : Nat) (v : Option Value) (h : Heap) (L : List Loc) : Prop := v = some .null ∧ Fr n0 L ∧ h = h0
set_option maxRecDepth 65536 in
set_option maxHeartbeats 40000000 in
theorem rm_release_52 (l : Launch) (Z : State) (a0 : Array Value) (hw : ∀ d ∈ tables_1, d.before a0 Z = true) (ws : List Jvm.Cond) (x0 : Addr) (x1 : Addr) (x2 : Addr) (x3 : Addr) (kc0 : ClassId) (kc1 : ClassId) (w_I3 : Addr) (w_I2 : Addr) (h0 : Heap) (n0 : Nat) (O0 : Old Z n0 h0) (E_x0 : Exa Z h0 x0 oc8) (F_x0_requests : Fld Z h0 x0 oc8 "requests" "[Ljava/lang/Object;" (.ref x1)) (F_x0_sequences : Fld Z h0 x0 oc8 "sequences" "[J" (.ref x2)) (V_x1 : Arv Z h0 x1 kc0 (.object oc9) (3 : Int32) [.null, (.ref w_I2), (.ref w_I3)] .null) (V_x2 : Arv Z h0 x2 kc1 .long (3 : Int32) [(.long 0), (.long 2), (.long 3)] (.long 0)) (ne_x0_x1 : x0 ≠ x1) (ne_x0_x2 : x0 ≠ x2) (ne_x0_x3 : x0 ≠ x3) (ne_x1_x2 : x1 ≠ x2) (ne_x1_x3 : x1 ≠ x3) (ne_x2_x3 : x2 ≠ x3)  :
    oM l oy5 prog_29_method_6_code 4 (some (.object oc9)) ws ({ frames := 1, cells := 0, slots := 0, locals := 18 } : Room) Z #[(.ref x0), (.long 1048576)] h0 (Q_rm_release_52 Z x0 x1 x2 x3 kc0 kc1 w_I3 w_I2 h0 n0) := by
  refine MetFree.of_bodySF (plainFor_of_name pn_com_example_wend_wend_Slots) hisR ?_
  intro p e s m args below meth c s₁ Bd hml0 hP hK
  obtain ⟨rfl, hZ, hh⟩ := hP
  have hx := Bd.exec
  have hby := Bd.bytes
  have hml : c.maxLocals = 4 := hml0
  have hown : s.vm.findClass oc8 = some m.cls := findClass_of_methodNamed Bd.named
  have hnm := (name_of_methodNamed Bd.named Bd.method).1
  have X0 : Stand p l e ({ frames := 1, cells := 0, slots := 0, locals := 18 } : Room) s m #[(.ref x0), (.long 1048576)] below meth c s₁ [] 0 0 := Stand.of_body Bd
  have e0 : s₁.heap = h0 := by rw [← hh, Bd.state]; rfl
  have N0 := Fr.nil n0
  have pre0 : ∀ t, oS p e below m s₁ 0 (oL3 x0) [] t → oT p e below s₁ (entryFrame m #[(.ref x0), (.long 1048576)] 4) t := fun t k => castTop (ef_rm_release_52 m x0) k
  have K0 := Keep.refl h0 []
  obtain ⟨cq1016, kq1016, q1016a, q1016b, q1016c⟩ := isOf hZ e0 E_x0
  obtain ⟨_, _, ⟨T1016, L1016, k1016, n1016⟩, -, X1016, ⟨Lc1016, hQ1016, l1016, y1016, z1016⟩, st1016⟩ := X0.virtualBack hx (y := oy6) (z := oy6) hown (mvT hZ (own_w hw 52 rfl)) (mvT hZ (own_w hw 53 rfl)) (notFace_of_selects (args := #[]) (mvT hZ (own_w hw 55 rfl))) (mvT hZ (own_w hw 55 rfl)) (mvT hZ (own_w hw 54 rfl)) (by decide) (backOf (W := 0) (rm_get_53 l Z a0 hw [] x0 x1 x2 kc0 kc1 w_I3 w_I2 h0 n0 O0 F_x0_requests F_x0_sequences V_x1 V_x2 ) hZ (own_w hw 56 rfl) (own_w hw 6 rfl) (by decide) (by decide)) q1016a q1016c (g := (mkF m 2 (oL3 x0) [(.long 1048576), (.ref x0)])) rfl (by rw [hml]; rfl) (Steps.refl _) (argsL := [(.long 1048576)]) (rest := []) (lenOf pd__J_Ljava_lang_Object_ rfl) rfl (by show 2 * 0 + _ ≤ _; exact Nat.le_of_eq rfl) (hb hby dg_2) (fun _ _ => ⟨rfl, e0, (by decide : 0 + 0 ≤ _), (by decide : 0 + 0 ≤ _)⟩)
  dsimp only [Pt.U, Pt.locs, Pt.cells, Pt.slots] at X1016 l1016 y1016 z1016 st1016 hQ1016
  subst l1016 y1016 z1016
  obtain ⟨rfl, N1016q, e1016⟩ := hQ1016
  have N1016 := Fr.app N0 N1016q
  have pre1029 : ∀ t, oS p e below m T1016 21 (oL13 x0) [.null] t → oT p e below s₁ (entryFrame m #[(.ref x0), (.long 1048576)] 4) t := by
    intro t kt
    refine pre0 t ?_
    show oS p e below m s₁ 0 (oL3 x0) [] _
    refine XS.aloadN X0.here hx rfl (hb hby dg_0) rfl rfl ?_
    refine XS.lloadN X0.here hx rfl (hb hby dg_1) rfl ?_
    show oS p e below m s₁ 2 (oL3 x0) [(.long 1048576), (.ref x0)] _
    refine st1016.trans ?_
    show oS p e below m T1016 5 (oL3 x0) [.null] _
    refine XS.astoreN X1016.here hx rfl (hb hby dg_5) rfl rfl (l' := (oL13 x0)) rfl ?_
    refine XS.aloadN X1016.here hx rfl (hb hby dg_6) rfl rfl ?_
    show oS p e below m T1016 7 (oL13 x0) [.null] _
    refine XS.ifnullYes X1016.here hx rfl (pc0 := 7) (pc' := 20) rfl (hb hby dg_7) rfl (by decide) (by decide) ?_
    refine XS.aloadN X1016.here hx rfl (hb hby dg_20) rfl rfl ?_
    exact kt
  obtain ⟨fs, hr, hrun, hended, hW, hsame⟩ := X1016.leave (v := some .null) (fun h => by rw [Bd.returns] at h; cases h)
  refine ⟨_, _, pre1029 _ ?_, hrun, hended, _, _, rfl, ?_, ⟨_, rfl⟩, hW, hsame.mono (by decide) (by decide)⟩
  · show oS p e below m T1016 21 (oL13 x0) [.null] _
    jvm_step X1016.here [X1016.here.top, hx, (hb hby dg_21), X1016.method', Bd.returns, Value.isRef, FieldType.isReference]
    first | (intro acts; rw [hr _ acts rfl rfl rfl]) | rw [hr _ _ rfl rfl rfl]
    exact Steps.refl _
  · show Q_rm_release_52 Z x0 x1 x2 x3 kc0 kc1 w_I3 w_I2 h0 n0 _ T1016.heap _
    rw [e1016]
    exact ⟨rfl, N1016, rfl⟩
theorem ef_rm0 (m : MethodId) (p0 : Int32) (p1 : Int32) (p2 : Int32) : entryFrame m #[(.int p0), (.int p1), (.int p2)] maxLocals = mkF m 0 (oL52 p0 p1 p2) [] := by first | (simp [entryFrame, mkF, argsToLocals, Value.category, maxLocals]; done) | rfl
def Q_rm0 (Z : State) (p0 : Int32) (p1 : Int32) (p2 : Int32) (w_cache : Addr) (w_I1 : Addr) (cl_cache : Cell) (w_I4 : Addr) (w_I2 : Addr) (w_I3 : Addr) (h0 : Heap) (n0 : Nat) (v : Option Value) (h : Heap) (L : List Loc) : Prop := v = some (.int 1) ∧ Fr n0 L
set_option maxRecDepth 65536 in
set_option maxHeartbeats 40000000 in
theorem rm0 (l : Launch) (Z : State) (a0 : Array Value) (hw : ∀ d ∈ tables_1, d.before a0 Z = true) (ws : List Jvm.Cond) (p0 : Int32) (p1 : Int32) (p2 : Int32) (w_cache : Addr) (w_I1 : Addr) (cl_cache : Cell) (w_I4 : Addr) (w_I2 : Addr) (w_I3 : Addr) (h0 : Heap) (n0 : Nat) (O0 : Old Z n0 h0) (S_high : Sta Z Z.heap "java/lang/Integer$IntegerCache" "high" "I" (.int 127)) (S_cache : Sta Z Z.heap "java/lang/Integer$IntegerCache" "cache" "[Ljava/lang/Integer;" (.ref w_cache)) (AE_1 : cl_cache.slots[((129 : Int32)).toNatClampNeg]? = some (.ref w_I1)) (A_cache : Arr Z Z.heap w_cache cl_cache (.object oc10)) (E_I1 : Exa Z Z.heap w_I1 oc10) (AE_4 : cl_cache.slots[((132 : Int32)).toNatClampNeg]? = some (.ref w_I4)) (E_I4 : Exa Z Z.heap w_I4 oc10) (AE_2 : cl_cache.slots[((130 : Int32)).toNatClampNeg]? = some (.ref w_I2)) (E_I2 : Exa Z Z.heap w_I2 oc10) (AE_3 : cl_cache.slots[((131 : Int32)).toNatClampNeg]? = some (.ref w_I3)) (E_I3 : Exa Z Z.heap w_I3 oc10) :
    MetFree l x (head1 (Jvm.Cond.code x code maxLocals ret :: ws) room_1) (fun a U => a = #[(.int p0), (.int p1), (.int p2)] ∧ Z.Warmed39 U.vm ∧ U.heap = h0) (fun _ _ _ _ _ => True) (fun _ U o U' => ∃ v L, o = .returned v ∧ Q_rm0 Z p0 p1 p2 w_cache w_I1 cl_cache w_I4 w_I2 w_I3 h0 n0 v U'.heap L ∧ FrameEnd U o U' L room_1.cells room_1.slots) := by
  refine MetFree.of_bodySF (plainFor_of_name pn_com_example_wend_wend_SlotsHasFreePinLaw) hisR ?_
  intro p e s m args below meth c s₁ Bd hml0 hP hK
  obtain ⟨rfl, hZ, hh⟩ := hP
  have hx := Bd.exec
  have hby := Bd.bytes
  have hml : c.maxLocals = 13 := hml0
  have hown : s.vm.findClass "com/example/wend/wend/SlotsHasFreePinLaw" = some m.cls := findClass_of_methodNamed Bd.named
  have hnm := (name_of_methodNamed Bd.named Bd.method).1
  have X0 : Stand p l e room_1 s m #[(.int p0), (.int p1), (.int p2)] below meth c s₁ [] 0 0 := Stand.of_body Bd
  have e0 : s₁.heap = h0 := by rw [← hh, Bd.state]; rfl
  have N0 := Fr.nil n0
  have pre0 : ∀ t, oS p e below m s₁ 0 (oL52 p0 p1 p2) [] t → oT p e below s₁ (entryFrame m #[(.int p0), (.int p1), (.int p2)] maxLocals) t := fun t k => castTop (ef_rm0 m p0 p1 p2) k
  have pre5 : ∀ t, oS p e below m s₁ 7 (oL52 p0 p1 p2) [(.int (((p0 &&& (3 : Int32)) % (3 : Int32)) + (1 : Int32)))] t → oT p e below s₁ (entryFrame m #[(.int p0), (.int p1), (.int p2)] maxLocals) t := by
    intro t kt
    refine pre0 t ?_
    show oS p e below m s₁ 0 (oL52 p0 p1 p2) [] _
    refine XS.iloadN X0.here hx rfl (hb hby at_0) rfl ?_
    refine XS.iconst X0.here hx rfl (hb hby at_1) ?_
    show oS p e below m s₁ 2 (oL52 p0 p1 p2) [(.int 3), (.int p0)] _
    refine XS.iand X0.here hx rfl (hb hby at_2) rfl ?_
    refine XS.iconst X0.here hx rfl (hb hby at_3) ?_
    show oS p e below m s₁ 4 (oL52 p0 p1 p2) [(.int 3), (.int (p0 &&& (3 : Int32)))] _
    refine iremM X0 hx rfl (hb hby at_4) rfl (by decide) ?_
    show oS p e below m s₁ 5 (oL52 p0 p1 p2) [(.int ((p0 &&& (3 : Int32)) % (3 : Int32)))] _
    refine XS.iconst X0.here hx rfl (hb hby at_5) ?_
    refine XS.iadd X0.here hx rfl (hb hby at_6) rfl ?_
    exact kt
  rcases own_cnt p0 with hk | hk | hk
  rw [hk] at pre5
  have pre6 : ∀ t, oS p e below m s₁ 12 (oL53 p0 p1 p2) [(.int 1), (.int (p1 &&& (3 : Int32)))] t → oT p e below s₁ (entryFrame m #[(.int p0), (.int p1), (.int p2)] maxLocals) t := by
    intro t kt
    refine pre5 t ?_
    show oS p e below m s₁ 7 (oL52 p0 p1 p2) [(.int 1)] _
    refine XS.istoreN X0.here hx rfl (hb hby at_7) rfl (l' := (oL53 p0 p1 p2)) rfl ?_
    refine XS.iloadN X0.here hx rfl (hb hby at_8) rfl ?_
    show oS p e below m s₁ 9 (oL53 p0 p1 p2) [(.int p1)] _
    refine XS.iconst X0.here hx rfl (hb hby at_9) ?_
    refine XS.iand X0.here hx rfl (hb hby at_10) rfl ?_
    show oS p e below m s₁ 11 (oL53 p0 p1 p2) [(.int (p1 &&& (3 : Int32)))] _
    refine XS.iloadN X0.here hx rfl (hb hby at_11) rfl ?_
    exact kt
  by_cases hb0 : (p1 &&& (3 : Int32)) = (0 : Int32)
  rw [hb0] at pre6
  obtain ⟨_, _, ⟨T7, L7, k7, n7⟩, -, X7, ⟨Lc7, hQ7, l7, y7, z7⟩, st7⟩ := Jvm.LawKit.callS X0 hx (y := oy0) hown (mvT hZ (own_w hw 0 rfl)) (mvT hZ (own_w hw 1 rfl)) (mvT hZ (own_w hw 2 rfl)) (mvT hZ (own_w hw 3 rfl)) (by decide) (backOf (W := 0) (rm_min l Z a0 hw [] (0 : Int32) (1 : Int32) (0 : Int32) h0 n0 (own_z O0) (by decide)) hZ (own_w hw 3 rfl) (own_w hw 2 rfl) (by decide) (by decide)) (g := (mkF m 12 (oL53 p0 p1 p2) [(.int 1), (.int 0)])) rfl (by rw [hml]; rfl) (argsL := [(.int 0), (.int 1)]) (rest := []) (lenOf pd__II_I rfl) rfl (by show 2 * 0 + _ ≤ _; exact Nat.le_of_eq rfl) (hb hby at_12) (fun _ _ => ⟨rfl, e0, (by decide : 0 + 0 ≤ _), (by decide : 0 + 0 ≤ _)⟩)
  dsimp only [Pt.U, Pt.locs, Pt.cells, Pt.slots] at X7 l7 y7 z7 st7 hQ7
  subst l7 y7 z7
  obtain ⟨rfl, N7q, e7⟩ := hQ7
  have N7 := Fr.app N0 N7q
  obtain ⟨T8, h8, X8, e8, E8, A8, D8, -, st8⟩ := newO X7 hx hZ hown (own_w hw 4 rfl) (own_w hw 5 rfl) (own_w hw 6 rfl) e7 (g := (mkF m 17 (oL63 p0 p1 p2) [])) rfl (hb hby at_17) (by decide) (by decide)
  obtain ⟨b8, g8⟩ : ∃ z, z = h0.size := ⟨_, rfl⟩
  have ge_b8 : n0 ≤ b8 := Nat.le_trans (own_z O0) (Nat.le_of_eq g8.symm)
  rw [← g8] at A8 D8 st8
  have O8 := O0.ext E8
  have E_b8 := A8
  have F_requests_b8 : Fld Z h8 b8 oc8 "requests" "[Ljava/lang/Object;" .null := D8 (Or.inr (own_w hw 17 rfl)) (ty := (.array (.object oc9))) (by decide)
  have F_sequences_b8 : Fld Z h8 b8 oc8 "sequences" "[J" .null := D8 (Or.inr (own_w hw 20 rfl)) (ty := (.array .long)) (by decide)
  have F_free_b8 : Fld Z h8 b8 oc8 "free" "[I" .null := D8 (Or.inr (own_w hw 23 rfl)) (ty := (.array .int)) (by decide)
  have F_freeCount_b8 : Fld Z h8 b8 oc8 "freeCount" "I" (.int 0) := D8 (Or.inl (own_w hw 25 rfl)) (ty := .int) (by decide)
  have F_lastSequence_b8 : Fld Z h8 b8 oc8 "lastSequence" "J" (.long 0) := D8 (Or.inl (own_w hw 44 rfl)) (ty := .long) (by decide)
  obtain ⟨_, _, ⟨T9, L9, k9, n9⟩, -, X9, ⟨Lc9, hQ9, l9, y9, z9⟩, st9⟩ := X8.specialBack hx (y := oy1) rfl hown (mvT hZ (own_w hw 7 rfl)) (mvT hZ (own_w hw 8 rfl)) (mvT hZ (own_w hw 9 rfl)) (by decide) (backOf (W := 1) (rm_init_1 l Z a0 hw [] b8 h8 n0 O8 E_b8 F_requests_b8 F_sequences_b8 F_free_b8 F_freeCount_b8 F_lastSequence_b8 ge_b8 ) hZ (own_w hw 9 rfl) (own_w hw 6 rfl) (by decide) (by decide)) (g := (mkF m 22 (oL63 p0 p1 p2) [(.int 1), (.ref b8), (.ref b8)])) rfl (by rw [hml]; rfl) (Steps.refl _) (a := b8) (argsL := [(.int 1)]) (rest := [(.ref b8)]) (lenOf pd__I_V rfl) rfl (by show 2 * 0 + _ ≤ _; exact Nat.le_of_eq rfl) (hb hby at_22) (fun _ _ => ⟨rfl, e8, (by decide : 1 + 3 ≤ _), (by decide : 5 + 3 ≤ _)⟩)
  dsimp only [Pt.U, Pt.locs, Pt.cells, Pt.slots] at X9 l9 y9 z9 st9 hQ9
  subst l9 y9 z9
  obtain ⟨b9_b13, b9_b15, b9_b17, kx9_k13, kx9_k15, kx9_k17, rfl, N9q, Kc9, u9_0, u9_1, u9_2, u9_3, u9_4, u9_5, u9_6, u9_7, u9_8, u9_9, u9_10, u9_11, u9_12, u9_13, u9_14, u9_15, u9_16, u9_17, u9_18⟩ := hQ9
  have N9 := Fr.app N7 N9q
  have ne_b8_b9_b13 : b8 ≠ b9_b13 := Nat.ne_of_lt (Nat.lt_of_lt_of_le E_b8.lt u9_9)
  have ne_b8_b9_b15 : b8 ≠ b9_b15 := Nat.ne_of_lt (Nat.lt_of_lt_of_le E_b8.lt u9_12)
  have ne_b8_b9_b17 : b8 ≠ b9_b17 := Nat.ne_of_lt (Nat.lt_of_lt_of_le E_b8.lt u9_15)
  have O9 := O8.keep Kc9 (allS ge_b8 all0)
  obtain ⟨cq29, kq29, q29a, q29b, q29c⟩ := isOf hZ rfl u9_0
  obtain ⟨_, _, ⟨T29, L29, k29, n29⟩, -, X29, ⟨Lc29, hQ29, l29, y29, z29⟩, st29⟩ := X9.virtualBack hx (y := oy2) (z := oy2) hown (mvT hZ (own_w hw 26 rfl)) (mvT hZ (own_w hw 27 rfl)) (notFace_of_selects (args := #[]) (mvT hZ (own_w hw 29 rfl))) (mvT hZ (own_w hw 29 rfl)) (mvT hZ (own_w hw 28 rfl)) (by decide) (backOf (W := 0) (rm_hasFree_2 l Z a0 hw [] b8 T9.heap n0 O9 u9_4 ) hZ (own_w hw 30 rfl) (own_w hw 6 rfl) (by decide) (by decide)) q29a q29c (g := (mkF m 29 #[iv p0, iv p1, iv p2, iv 1, iv 0, rv b8, .unset, .unset, .unset, .unset, .unset, .unset, .unset] [(.ref b8)])) rfl (by rw [hml]; rfl) (Steps.refl _) (argsL := []) (rest := []) (lenOf pd___Z rfl) rfl (by show 2 * 0 + _ ≤ _; exact Nat.le_of_eq rfl) (hb hby at_29) (fun _ _ => ⟨rfl, rfl, (by decide : 4 + 0 ≤ _), (by decide : 8 + 0 ≤ _)⟩)
  dsimp only [Pt.U, Pt.locs, Pt.cells, Pt.slots] at X29 l29 y29 z29 st29 hQ29
  subst l29 y29 z29
  obtain ⟨rfl, N29q, e29⟩ := hQ29
  have N29 := Fr.app N9 N29q
  obtain ⟨cq36, kq36, q36a, q36b, q36c⟩ := isOf hZ e29 u9_0
  obtain ⟨_, _, ⟨T36, L36, k36, n36⟩, -, X36, ⟨Lc36, hQ36, l36, y36, z36⟩, st36⟩ := X29.virtualBack hx (y := oy2) (z := oy2) hown (mvT hZ (own_w hw 26 rfl)) (mvT hZ (own_w hw 27 rfl)) (notFace_of_selects (args := #[]) (mvT hZ (own_w hw 29 rfl))) (mvT hZ (own_w hw 29 rfl)) (mvT hZ (own_w hw 28 rfl)) (by decide) (backOf (W := 0) (rm_hasFree_2 l Z a0 hw [] b8 T9.heap n0 O9 u9_4 ) hZ (own_w hw 30 rfl) (own_w hw 6 rfl) (by decide) (by decide)) q36a q36c (g := (mkF m 92 (oL49 p0 p1 p2 b8) [(.ref b8)])) rfl (by rw [hml]; rfl) (Steps.refl _) (argsL := []) (rest := []) (lenOf pd___Z rfl) rfl (by show 2 * 0 + _ ≤ _; exact Nat.le_of_eq rfl) (hb hby at_92) (fun _ _ => ⟨rfl, e29, (by decide : 4 + 0 ≤ _), (by decide : 8 + 0 ≤ _)⟩)
  dsimp only [Pt.U, Pt.locs, Pt.cells, Pt.slots] at X36 l36 y36 z36 st36 hQ36
  subst l36 y36 z36
  obtain ⟨rfl, N36q, e36⟩ := hQ36
  have N36 := Fr.app N29 N36q
  have pre39 : ∀ t, oS p e below m T36 121 (oL39 p0 p1 p2 b8) [(.int ((1 : Int32) &&& (1 : Int32)))] t → oT p e below s₁ (entryFrame m #[(.int p0), (.int p1), (.int p2)] maxLocals) t := by
    intro t kt
    refine pre6 t ?_
    show oS p e below m s₁ 12 (oL53 p0 p1 p2) [(.int 1), (.int 0)] _
    refine st7 _ ?_
    show oS p e below m T7 15 (oL53 p0 p1 p2) [(.int 0)] _
    refine XS.istore X7.here hx rfl (hb hby at_15) rfl (l' := (oL63 p0 p1 p2)) rfl ?_
    show oS p e below m T7 17 (oL63 p0 p1 p2) [] _
    refine st8 _ ?_
    show oS p e below m T8 20 (oL63 p0 p1 p2) [(.ref b8)] _
    refine XS.dup X8.here hx rfl (hb hby at_20) rfl rfl ?_
    refine XS.iloadN X8.here hx rfl (hb hby at_21) rfl ?_
    show oS p e below m T8 22 (oL63 p0 p1 p2) [(.int 1), (.ref b8), (.ref b8)] _
    refine st9.trans ?_
    show oS p e below m T9 25 (oL63 p0 p1 p2) [(.ref b8)] _
    refine XS.astore X9.here hx rfl (hb hby at_25) rfl rfl (l' := #[iv p0, iv p1, iv p2, iv 1, iv 0, rv b8, .unset, .unset, .unset, .unset, .unset, .unset, .unset]) rfl ?_
    refine XS.aload X9.here hx rfl (hb hby at_27) rfl rfl ?_
    show oS p e below m T9 29 #[iv p0, iv p1, iv p2, iv 1, iv 0, rv b8, .unset, .unset, .unset, .unset, .unset, .unset, .unset] [(.ref b8)] _
    refine st29.trans ?_
    show oS p e below m T29 32 #[iv p0, iv p1, iv p2, iv 1, iv 0, rv b8, .unset, .unset, .unset, .unset, .unset, .unset, .unset] [(.int 1)] _
    refine XS.istore X29.here hx rfl (hb hby at_32) rfl (l' := #[iv p0, iv p1, iv p2, iv 1, iv 0, rv b8, iv 1, .unset, .unset, .unset, .unset, .unset, .unset]) rfl ?_
    refine XS.iload X29.here hx rfl (hb hby at_34) rfl ?_
    show oS p e below m T29 36 #[iv p0, iv p1, iv p2, iv 1, iv 0, rv b8, iv 1, .unset, .unset, .unset, .unset, .unset, .unset] [(.int 1)] _
    refine XS.istore X29.here hx rfl (hb hby at_36) rfl (l' := #[iv p0, iv p1, iv p2, iv 1, iv 0, rv b8, iv 1, iv 1, .unset, .unset, .unset, .unset, .unset]) rfl ?_
    refine XS.lconst X29.here hx rfl (hb hby at_38) ?_
    show oS p e below m T29 39 #[iv p0, iv p1, iv p2, iv 1, iv 0, rv b8, iv 1, iv 1, .unset, .unset, .unset, .unset, .unset] [(.long 0)] _
    refine XS.lstore X29.here hx rfl (hb hby at_39) rfl (l' := (oL49 p0 p1 p2 b8)) rfl ?_
    refine XS.iload X29.here hx rfl (hb hby at_41) rfl ?_
    show oS p e below m T29 43 (oL49 p0 p1 p2 b8) [(.int 0)] _
    refine XS.iconst X29.here hx rfl (hb hby at_43) ?_
    refine XS.icmpYes X29.here hx rfl (pc0 := 44) (pc' := 58) rfl (hb hby at_44) rfl (tlt (by decide : (0 : Int32) < (1 : Int32))).1 (by decide) (by decide) ?_
    show oS p e below m T29 58 (oL49 p0 p1 p2 b8) [] _
    refine XS.iload X29.here hx rfl (hb hby at_58) rfl ?_
    refine XS.iconst X29.here hx rfl (hb hby at_60) ?_
    show oS p e below m T29 61 (oL49 p0 p1 p2 b8) [(.int 2), (.int 0)] _
    refine XS.icmpYes X29.here hx rfl (pc0 := 61) (pc' := 74) rfl (hb hby at_61) rfl (tlt (by decide : (0 : Int32) < (2 : Int32))).1 (by decide) (by decide) ?_
    refine XS.iload X29.here hx rfl (hb hby at_74) rfl ?_
    show oS p e below m T29 76 (oL49 p0 p1 p2 b8) [(.int 0)] _
    refine XS.iconst X29.here hx rfl (hb hby at_76) ?_
    refine XS.icmpYes X29.here hx rfl (pc0 := 77) (pc' := 90) rfl (hb hby at_77) rfl (tlt (by decide : (0 : Int32) < (3 : Int32))).1 (by decide) (by decide) ?_
    show oS p e below m T29 90 (oL49 p0 p1 p2 b8) [] _
    refine XS.aload X29.here hx rfl (hb hby at_90) rfl rfl ?_
    show oS p e below m T29 92 (oL49 p0 p1 p2 b8) [(.ref b8)] _
    refine st36.trans ?_
    show oS p e below m T36 95 (oL49 p0 p1 p2 b8) [(.int 1)] _
    refine XS.istore X36.here hx rfl (hb hby at_95) rfl (l' := (oL39 p0 p1 p2 b8)) rfl ?_
    refine XS.iload X36.here hx rfl (hb hby at_97) rfl ?_
    show oS p e below m T36 99 (oL39 p0 p1 p2 b8) [(.int 1)] _
    refine XS.iload X36.here hx rfl (hb hby at_99) rfl ?_
    refine XS.iload X36.here hx rfl (hb hby at_101) rfl ?_
    show oS p e below m T36 103 (oL39 p0 p1 p2 b8) [(.int 0), (.int 1), (.int 1)] _
    refine XS.iloadN X36.here hx rfl (hb hby at_103) rfl ?_
    refine XS.icmpNo X36.here hx rfl (hb hby at_104) rfl (tlt (by decide : (0 : Int32) < (1 : Int32))).2.1 ?_
    show oS p e below m T36 107 (oL39 p0 p1 p2 b8) [(.int 1), (.int 1)] _
    refine XS.iconst X36.here hx rfl (hb hby at_107) ?_
    refine XS.goto X36.here hx rfl (pc0 := 108) (pc' := 112) rfl (hb hby at_108) (by decide) (by decide) ?_
    show oS p e below m T36 112 (oL39 p0 p1 p2 b8) [(.int 1), (.int 1), (.int 1)] _
    refine XS.icmpNo X36.here hx rfl (hb hby at_112) rfl (teq (by decide : (1 : Int32) = (1 : Int32))).2 ?_
    refine XS.iconst X36.here hx rfl (hb hby at_115) ?_
    show oS p e below m T36 116 (oL39 p0 p1 p2 b8) [(.int 1), (.int 1)] _
    refine XS.goto X36.here hx rfl (pc0 := 116) (pc' := 120) rfl (hb hby at_116) (by decide) (by decide) ?_
    refine XS.iand X36.here hx rfl (hb hby at_120) rfl ?_
    exact kt
  rw [show ((1 : Int32) &&& (1 : Int32)) = (1 : Int32) from by decide] at pre39
  obtain ⟨cq41, kq41, q41a, q41b, q41c⟩ := isOf hZ e36 u9_0
  obtain ⟨_, _, ⟨T41, L41, k41, n41⟩, -, X41, ⟨Lc41, hQ41, l41, y41, z41⟩, st41⟩ := X36.virtualBack hx (y := oy2) (z := oy2) hown (mvT hZ (own_w hw 26 rfl)) (mvT hZ (own_w hw 27 rfl)) (notFace_of_selects (args := #[]) (mvT hZ (own_w hw 29 rfl))) (mvT hZ (own_w hw 29 rfl)) (mvT hZ (own_w hw 28 rfl)) (by decide) (backOf (W := 0) (rm_hasFree_2 l Z a0 hw [] b8 T9.heap n0 O9 u9_4 ) hZ (own_w hw 30 rfl) (own_w hw 6 rfl) (by decide) (by decide)) q41a q41c (g := (mkF m 191 (oL64 p0 p1 p2 b8) [(.ref b8)])) rfl (by rw [hml]; rfl) (Steps.refl _) (argsL := []) (rest := []) (lenOf pd___Z rfl) rfl (by show 2 * 0 + _ ≤ _; exact Nat.le_of_eq rfl) (hb hby at_191) (fun _ _ => ⟨rfl, e36, (by decide : 4 + 0 ≤ _), (by decide : 8 + 0 ≤ _)⟩)
  dsimp only [Pt.U, Pt.locs, Pt.cells, Pt.slots] at X41 l41 y41 z41 st41 hQ41
  subst l41 y41 z41
  obtain ⟨rfl, N41q, e41⟩ := hQ41
  have N41 := Fr.app N36 N41q
  have pre44 : ∀ t, oS p e below m T41 220 (oL27 p0 p1 p2 b8) [(.int ((1 : Int32) &&& (1 : Int32)))] t → oT p e below s₁ (entryFrame m #[(.int p0), (.int p1), (.int p2)] maxLocals) t := by
    intro t kt
    refine pre39 t ?_
    show oS p e below m T36 121 (oL39 p0 p1 p2 b8) [(.int 1)] _
    refine XS.istore X36.here hx rfl (hb hby at_121) rfl (l' := (oL39 p0 p1 p2 b8)) rfl ?_
    refine XS.iload X36.here hx rfl (hb hby at_123) rfl ?_
    show oS p e below m T36 125 (oL39 p0 p1 p2 b8) [(.int 0)] _
    refine XS.istore X36.here hx rfl (hb hby at_125) rfl (l' := (oL64 p0 p1 p2 b8)) rfl ?_
    refine XS.iload X36.here hx rfl (hb hby at_127) rfl ?_
    show oS p e below m T36 129 (oL64 p0 p1 p2 b8) [(.int 0)] _
    refine XS.iconst X36.here hx rfl (hb hby at_129) ?_
    refine XS.icmpYes X36.here hx rfl (pc0 := 130) (pc' := 189) rfl (hb hby at_130) rfl (tlt (by decide : (0 : Int32) < (1 : Int32))).1 (by decide) (by decide) ?_
    show oS p e below m T36 189 (oL64 p0 p1 p2 b8) [] _
    refine XS.aload X36.here hx rfl (hb hby at_189) rfl rfl ?_
    show oS p e below m T36 191 (oL64 p0 p1 p2 b8) [(.ref b8)] _
    refine st41.trans ?_
    show oS p e below m T41 194 (oL64 p0 p1 p2 b8) [(.int 1)] _
    refine XS.istore X41.here hx rfl (hb hby at_194) rfl (l' := (oL27 p0 p1 p2 b8)) rfl ?_
    refine XS.iload X41.here hx rfl (hb hby at_196) rfl ?_
    show oS p e below m T41 198 (oL27 p0 p1 p2 b8) [(.int 1)] _
    refine XS.iload X41.here hx rfl (hb hby at_198) rfl ?_
    refine XS.iload X41.here hx rfl (hb hby at_200) rfl ?_
    show oS p e below m T41 202 (oL27 p0 p1 p2 b8) [(.int 0), (.int 1), (.int 1)] _
    refine XS.iloadN X41.here hx rfl (hb hby at_202) rfl ?_
    refine XS.icmpNo X41.here hx rfl (hb hby at_203) rfl (tlt (by decide : (0 : Int32) < (1 : Int32))).2.1 ?_
    show oS p e below m T41 206 (oL27 p0 p1 p2 b8) [(.int 1), (.int 1)] _
    refine XS.iconst X41.here hx rfl (hb hby at_206) ?_
    refine XS.goto X41.here hx rfl (pc0 := 207) (pc' := 211) rfl (hb hby at_207) (by decide) (by decide) ?_
    show oS p e below m T41 211 (oL27 p0 p1 p2 b8) [(.int 1), (.int 1), (.int 1)] _
    refine XS.icmpNo X41.here hx rfl (hb hby at_211) rfl (teq (by decide : (1 : Int32) = (1 : Int32))).2 ?_
    refine XS.iconst X41.here hx rfl (hb hby at_214) ?_
    show oS p e below m T41 215 (oL27 p0 p1 p2 b8) [(.int 1), (.int 1)] _
    refine XS.goto X41.here hx rfl (pc0 := 215) (pc' := 219) rfl (hb hby at_215) (by decide) (by decide) ?_
    refine XS.iand X41.here hx rfl (hb hby at_219) rfl ?_
    exact kt
  rw [show ((1 : Int32) &&& (1 : Int32)) = (1 : Int32) from by decide] at pre44
  have pre45 : ∀ t, oS p e below m T41 224 (oL27 p0 p1 p2 b8) [(.int 1)] t → oT p e below s₁ (entryFrame m #[(.int p0), (.int p1), (.int p2)] maxLocals) t := by
    intro t kt
    refine pre44 t ?_
    show oS p e below m T41 220 (oL27 p0 p1 p2 b8) [(.int 1)] _
    refine XS.istore X41.here hx rfl (hb hby at_220) rfl (l' := (oL27 p0 p1 p2 b8)) rfl ?_
    refine XS.iload X41.here hx rfl (hb hby at_222) rfl ?_
    exact kt
  obtain ⟨fs, hr, hrun, hended, hW, hsame⟩ := X41.leave (v := some (.int 1)) (fun h => by rw [Bd.returns] at h; cases h)
  refine ⟨_, _, pre45 _ ?_, hrun, hended, _, _, rfl, ?_, ⟨_, rfl⟩, hW, hsame.mono (by decide) (by decide)⟩
  · show oS p e below m T41 224 (oL27 p0 p1 p2 b8) [(.int 1)] _
    exact retN X41 hx (t := .boolean) Bd.returns (by simp) (hb hby at_224) hr
  · show Q_rm0 Z p0 p1 p2 w_cache w_I1 cl_cache w_I4 w_I2 w_I3 h0 n0 _ T41.heap _
    rw [e41]
    exact ⟨rfl, N41⟩
  obtain ⟨_, _, ⟨T46, L46, k46, n46⟩, -, X46, ⟨Lc46, hQ46, l46, y46, z46⟩, st46⟩ := Jvm.LawKit.callS X0 hx (y := oy0) hown (mvT hZ (own_w hw 0 rfl)) (mvT hZ (own_w hw 1 rfl)) (mvT hZ (own_w hw 2 rfl)) (mvT hZ (own_w hw 3 rfl)) (by decide) (backOf (W := 0) (rm_min l Z a0 hw [] (p1 &&& (3 : Int32)) (1 : Int32) (1 : Int32) h0 n0 (own_z O0) (own_minr (own_ge1 p1 hb0))) hZ (own_w hw 3 rfl) (own_w hw 2 rfl) (by decide) (by decide)) (g := (mkF m 12 (oL53 p0 p1 p2) [(.int 1), (.int (p1 &&& (3 : Int32)))])) rfl (by rw [hml]; rfl) (argsL := [(.int (p1 &&& (3 : Int32))), (.int 1)]) (rest := []) (lenOf pd__II_I rfl) rfl (by show 2 * 0 + _ ≤ _; exact Nat.le_of_eq rfl) (hb hby at_12) (fun _ _ => ⟨rfl, e0, (by decide : 0 + 0 ≤ _), (by decide : 0 + 0 ≤ _)⟩)
  dsimp only [Pt.U, Pt.locs, Pt.cells, Pt.slots] at X46 l46 y46 z46 st46 hQ46
  subst l46 y46 z46
  obtain ⟨rfl, N46q, e46⟩ := hQ46
  have N46 := Fr.app N0 N46q
  obtain ⟨T47, h47, X47, e47, E47, A47, D47, -, st47⟩ := newO X46 hx hZ hown (own_w hw 4 rfl) (own_w hw 5 rfl) (own_w hw 6 rfl) e46 (g := (mkF m 17 (oL65 p0 p1 p2) [])) rfl (hb hby at_17) (by decide) (by decide)
  obtain ⟨b47, g47⟩ : ∃ z, z = h0.size := ⟨_, rfl⟩
  have ge_b47 : n0 ≤ b47 := Nat.le_trans (own_z O0) (Nat.le_of_eq g47.symm)
  rw [← g47] at A47 D47 st47
  have O47 := O0.ext E47
  have E_b47 := A47
  have F_requests_b47 : Fld Z h47 b47 oc8 "requests" "[Ljava/lang/Object;" .null := D47 (Or.inr (own_w hw 17 rfl)) (ty := (.array (.object oc9))) (by decide)
  have F_sequences_b47 : Fld Z h47 b47 oc8 "sequences" "[J" .null := D47 (Or.inr (own_w hw 20 rfl)) (ty := (.array .long)) (by decide)
  have F_free_b47 : Fld Z h47 b47 oc8 "free" "[I" .null := D47 (Or.inr (own_w hw 23 rfl)) (ty := (.array .int)) (by decide)
  have F_freeCount_b47 : Fld Z h47 b47 oc8 "freeCount" "I" (.int 0) := D47 (Or.inl (own_w hw 25 rfl)) (ty := .int) (by decide)
  have F_lastSequence_b47 : Fld Z h47 b47 oc8 "lastSequence" "J" (.long 0) := D47 (Or.inl (own_w hw 44 rfl)) (ty := .long) (by decide)
  obtain ⟨_, _, ⟨T48, L48, k48, n48⟩, -, X48, ⟨Lc48, hQ48, l48, y48, z48⟩, st48⟩ := X47.specialBack hx (y := oy1) rfl hown (mvT hZ (own_w hw 7 rfl)) (mvT hZ (own_w hw 8 rfl)) (mvT hZ (own_w hw 9 rfl)) (by decide) (backOf (W := 1) (rm_init_1 l Z a0 hw [] b47 h47 n0 O47 E_b47 F_requests_b47 F_sequences_b47 F_free_b47 F_freeCount_b47 F_lastSequence_b47 ge_b47 ) hZ (own_w hw 9 rfl) (own_w hw 6 rfl) (by decide) (by decide)) (g := (mkF m 22 (oL65 p0 p1 p2) [(.int 1), (.ref b47), (.ref b47)])) rfl (by rw [hml]; rfl) (Steps.refl _) (a := b47) (argsL := [(.int 1)]) (rest := [(.ref b47)]) (lenOf pd__I_V rfl) rfl (by show 2 * 0 + _ ≤ _; exact Nat.le_of_eq rfl) (hb hby at_22) (fun _ _ => ⟨rfl, e47, (by decide : 1 + 3 ≤ _), (by decide : 5 + 3 ≤ _)⟩)
  dsimp only [Pt.U, Pt.locs, Pt.cells, Pt.slots] at X48 l48 y48 z48 st48 hQ48
  subst l48 y48 z48
  obtain ⟨b48_b13, b48_b15, b48_b17, kx48_k13, kx48_k15, kx48_k17, rfl, N48q, Kc48, u48_0, u48_1, u48_2, u48_3, u48_4, u48_5, u48_6, u48_7, u48_8, u48_9, u48_10, u48_11, u48_12, u48_13, u48_14, u48_15, u48_16, u48_17, u48_18⟩ := hQ48
  have N48 := Fr.app N46 N48q
  have ne_b47_b48_b13 : b47 ≠ b48_b13 := Nat.ne_of_lt (Nat.lt_of_lt_of_le E_b47.lt u48_9)
  have ne_b47_b48_b15 : b47 ≠ b48_b15 := Nat.ne_of_lt (Nat.lt_of_lt_of_le E_b47.lt u48_12)
  have ne_b47_b48_b17 : b47 ≠ b48_b17 := Nat.ne_of_lt (Nat.lt_of_lt_of_le E_b47.lt u48_15)
  have O48 := O47.keep Kc48 (allS ge_b47 all0)
  obtain ⟨cq49, kq49, q49a, q49b, q49c⟩ := isOf hZ rfl u48_0
  obtain ⟨_, _, ⟨T49, L49, k49, n49⟩, -, X49, ⟨Lc49, hQ49, l49, y49, z49⟩, st49⟩ := X48.virtualBack hx (y := oy2) (z := oy2) hown (mvT hZ (own_w hw 26 rfl)) (mvT hZ (own_w hw 27 rfl)) (notFace_of_selects (args := #[]) (mvT hZ (own_w hw 29 rfl))) (mvT hZ (own_w hw 29 rfl)) (mvT hZ (own_w hw 28 rfl)) (by decide) (backOf (W := 0) (rm_hasFree_2 l Z a0 hw [] b47 T48.heap n0 O48 u48_4 ) hZ (own_w hw 30 rfl) (own_w hw 6 rfl) (by decide) (by decide)) q49a q49c (g := (mkF m 29 #[iv p0, iv p1, iv p2, iv 1, iv 1, rv b47, .unset, .unset, .unset, .unset, .unset, .unset, .unset] [(.ref b47)])) rfl (by rw [hml]; rfl) (Steps.refl _) (argsL := []) (rest := []) (lenOf pd___Z rfl) rfl (by show 2 * 0 + _ ≤ _; exact Nat.le_of_eq rfl) (hb hby at_29) (fun _ _ => ⟨rfl, rfl, (by decide : 4 + 0 ≤ _), (by decide : 8 + 0 ≤ _)⟩)
  dsimp only [Pt.U, Pt.locs, Pt.cells, Pt.slots] at X49 l49 y49 z49 st49 hQ49
  subst l49 y49 z49
  obtain ⟨rfl, N49q, e49⟩ := hQ49
  have N49 := Fr.app N48 N49q
  obtain ⟨_, _, ⟨T51, L51, k51, n51⟩, -, X51, ⟨Lc51, hQ51, l51, y51, z51⟩, st51⟩ := Jvm.LawKit.callS X49 hx (y := oy3) hown (mvT hZ (own_w hw 31 rfl)) (mvT hZ (own_w hw 32 rfl)) (mvT hZ (own_w hw 33 rfl)) (mvT hZ (own_w hw 34 rfl)) (by decide) (backOf (W := 1) (rm_valueOf_3 l Z a0 hw [] w_cache w_I1 cl_cache T48.heap n0 O48  S_high S_cache AE_1 A_cache) hZ (own_w hw 34 rfl) (own_w hw 33 rfl) (by decide) (by decide)) (g := (mkF m 50 (oL54 p0 p1 p2 b47) [(.int 1), (.ref b47)])) rfl (by rw [hml]; rfl) (argsL := [(.int 1)]) (rest := [(.ref b47)]) (lenOf pd__I_Ljava_lang_Integer_ rfl) rfl (by show 2 * 0 + _ ≤ _; exact Nat.le_of_eq rfl) (hb hby at_50) (fun _ _ => ⟨rfl, e49, (by decide : 4 + 0 ≤ _), (by decide : 8 + 0 ≤ _)⟩)
  dsimp only [Pt.U, Pt.locs, Pt.cells, Pt.slots] at X51 l51 y51 z51 st51 hQ51
  subst l51 y51 z51
  obtain ⟨rfl, N51q, e51⟩ := hQ51
  have N51 := Fr.app N49 N51q
  obtain ⟨cq59, kq59, q59a, q59b, q59c⟩ := isOf hZ e51 u48_0
  obtain ⟨_, _, ⟨T59, L59, k59, n59⟩, -, X59, ⟨Lc59, hQ59, l59, y59, z59⟩, st59⟩ := X51.virtualBack hx (y := oy4) (z := oy4) hown (mvT hZ (own_w hw 38 rfl)) (mvT hZ (own_w hw 39 rfl)) (notFace_of_selects (args := #[]) (mvT hZ (own_w hw 41 rfl))) (mvT hZ (own_w hw 41 rfl)) (mvT hZ (own_w hw 40 rfl)) (by decide) (backOf (W := 0) (rm_take_4 l Z a0 hw [] b47 b48_b13 b48_b15 b48_b17 kx48_k13 kx48_k15 kx48_k17 w_I1 T48.heap n0 O48 u48_0 u48_1 u48_2 u48_3 u48_4 u48_5 ge_b47 u48_6 u48_7 u48_8 u48_10 u48_11 u48_13 u48_14 ne_b47_b48_b13 ne_b47_b48_b15 ne_b47_b48_b17 u48_16 u48_17 u48_18 E_I1) hZ (own_w hw 42 rfl) (own_w hw 6 rfl) (by decide) (by decide)) q59a q59c (g := (mkF m 53 (oL54 p0 p1 p2 b47) [(.ref w_I1), (.ref b47)])) rfl (by rw [hml]; rfl) (Steps.refl _) (argsL := [(.ref w_I1)]) (rest := []) (lenOf pd__Ljava_lang_Object__J rfl) rfl (by show 2 * 0 + _ ≤ _; exact Nat.le_of_eq rfl) (hb hby at_53) (fun _ _ => ⟨rfl, e51, (by decide : 4 + 0 ≤ _), (by decide : 8 + 0 ≤ _)⟩)
  dsimp only [Pt.U, Pt.locs, Pt.cells, Pt.slots] at X59 l59 y59 z59 st59 hQ59
  subst l59 y59 z59
  obtain ⟨rfl, N59q, Kc59, u59_0, u59_1, u59_2, u59_3, u59_4, u59_5, u59_6, u59_7⟩ := hQ59
  have N59 := Fr.app N51 N59q
  have u48_13 := u48_13.keep Kc59 (ninS (Ne.symm ne_b47_b48_b17) (ninS (Ne.symm u48_17) (ninS (Ne.symm u48_18) nin0)))
  have O59 := O48.keep Kc59 (allS ge_b47 (allS u48_8 (allS u48_11 all0)))
  obtain ⟨cq86, kq86, q86a, q86b, q86c⟩ := isOf hZ rfl u59_0
  obtain ⟨_, _, ⟨T86, L86, k86, n86⟩, -, X86, ⟨Lc86, hQ86, l86, y86, z86⟩, st86⟩ := X59.virtualBack hx (y := oy2) (z := oy2) hown (mvT hZ (own_w hw 26 rfl)) (mvT hZ (own_w hw 27 rfl)) (notFace_of_selects (args := #[]) (mvT hZ (own_w hw 29 rfl))) (mvT hZ (own_w hw 29 rfl)) (mvT hZ (own_w hw 28 rfl)) (by decide) (backOf (W := 0) (rm_hasFree_5 l Z a0 hw [] b47 T59.heap n0 O59 u59_4 ) hZ (own_w hw 30 rfl) (own_w hw 6 rfl) (by decide) (by decide)) q86a q86c (g := (mkF m 92 (oL55 p0 p1 p2 b47) [(.ref b47)])) rfl (by rw [hml]; rfl) (Steps.refl _) (argsL := []) (rest := []) (lenOf pd___Z rfl) rfl (by show 2 * 0 + _ ≤ _; exact Nat.le_of_eq rfl) (hb hby at_92) (fun _ _ => ⟨rfl, rfl, (by decide : 4 + 0 ≤ _), (by decide : 8 + 0 ≤ _)⟩)
  dsimp only [Pt.U, Pt.locs, Pt.cells, Pt.slots] at X86 l86 y86 z86 st86 hQ86
  subst l86 y86 z86
  obtain ⟨rfl, N86q, e86⟩ := hQ86
  have N86 := Fr.app N59 N86q
  have pre92 : ∀ t, oS p e below m T86 121 (oL45 p0 p1 p2 b47) [(.int ((1 : Int32) &&& (1 : Int32)))] t → oT p e below s₁ (entryFrame m #[(.int p0), (.int p1), (.int p2)] maxLocals) t := by
    intro t kt
    refine pre6 t ?_
    show oS p e below m s₁ 12 (oL53 p0 p1 p2) [(.int 1), (.int (p1 &&& (3 : Int32)))] _
    refine st46 _ ?_
    show oS p e below m T46 15 (oL53 p0 p1 p2) [(.int 1)] _
    refine XS.istore X46.here hx rfl (hb hby at_15) rfl (l' := (oL65 p0 p1 p2)) rfl ?_
    show oS p e below m T46 17 (oL65 p0 p1 p2) [] _
    refine st47 _ ?_
    show oS p e below m T47 20 (oL65 p0 p1 p2) [(.ref b47)] _
    refine XS.dup X47.here hx rfl (hb hby at_20) rfl rfl ?_
    refine XS.iloadN X47.here hx rfl (hb hby at_21) rfl ?_
    show oS p e below m T47 22 (oL65 p0 p1 p2) [(.int 1), (.ref b47), (.ref b47)] _
    refine st48.trans ?_
    show oS p e below m T48 25 (oL65 p0 p1 p2) [(.ref b47)] _
    refine XS.astore X48.here hx rfl (hb hby at_25) rfl rfl (l' := #[iv p0, iv p1, iv p2, iv 1, iv 1, rv b47, .unset, .unset, .unset, .unset, .unset, .unset, .unset]) rfl ?_
    refine XS.aload X48.here hx rfl (hb hby at_27) rfl rfl ?_
    show oS p e below m T48 29 #[iv p0, iv p1, iv p2, iv 1, iv 1, rv b47, .unset, .unset, .unset, .unset, .unset, .unset, .unset] [(.ref b47)] _
    refine st49.trans ?_
    show oS p e below m T49 32 #[iv p0, iv p1, iv p2, iv 1, iv 1, rv b47, .unset, .unset, .unset, .unset, .unset, .unset, .unset] [(.int 1)] _
    refine XS.istore X49.here hx rfl (hb hby at_32) rfl (l' := #[iv p0, iv p1, iv p2, iv 1, iv 1, rv b47, iv 1, .unset, .unset, .unset, .unset, .unset, .unset]) rfl ?_
    refine XS.iload X49.here hx rfl (hb hby at_34) rfl ?_
    show oS p e below m T49 36 #[iv p0, iv p1, iv p2, iv 1, iv 1, rv b47, iv 1, .unset, .unset, .unset, .unset, .unset, .unset] [(.int 1)] _
    refine XS.istore X49.here hx rfl (hb hby at_36) rfl (l' := #[iv p0, iv p1, iv p2, iv 1, iv 1, rv b47, iv 1, iv 1, .unset, .unset, .unset, .unset, .unset]) rfl ?_
    refine XS.lconst X49.here hx rfl (hb hby at_38) ?_
    show oS p e below m T49 39 #[iv p0, iv p1, iv p2, iv 1, iv 1, rv b47, iv 1, iv 1, .unset, .unset, .unset, .unset, .unset] [(.long 0)] _
    refine XS.lstore X49.here hx rfl (hb hby at_39) rfl (l' := (oL54 p0 p1 p2 b47)) rfl ?_
    refine XS.iload X49.here hx rfl (hb hby at_41) rfl ?_
    show oS p e below m T49 43 (oL54 p0 p1 p2 b47) [(.int 1)] _
    refine XS.iconst X49.here hx rfl (hb hby at_43) ?_
    refine XS.icmpNo X49.here hx rfl (hb hby at_44) rfl (flt (by decide : ¬ ((1 : Int32) < (1 : Int32)))).1 ?_
    show oS p e below m T49 47 (oL54 p0 p1 p2 b47) [] _
    refine XS.aload X49.here hx rfl (hb hby at_47) rfl rfl ?_
    refine XS.iconst X49.here hx rfl (hb hby at_49) ?_
    show oS p e below m T49 50 (oL54 p0 p1 p2 b47) [(.int 1), (.ref b47)] _
    refine st51 _ ?_
    show oS p e below m T51 53 (oL54 p0 p1 p2 b47) [(.ref w_I1), (.ref b47)] _
    refine st59.trans ?_
    show oS p e below m T59 56 (oL54 p0 p1 p2 b47) [(.long 1048576)] _
    refine XS.lstore X59.here hx rfl (hb hby at_56) rfl (l' := (oL55 p0 p1 p2 b47)) rfl ?_
    refine XS.iload X59.here hx rfl (hb hby at_58) rfl ?_
    show oS p e below m T59 60 (oL55 p0 p1 p2 b47) [(.int 1)] _
    refine XS.iconst X59.here hx rfl (hb hby at_60) ?_
    refine XS.icmpYes X59.here hx rfl (pc0 := 61) (pc' := 74) rfl (hb hby at_61) rfl (tlt (by decide : (1 : Int32) < (2 : Int32))).1 (by decide) (by decide) ?_
    show oS p e below m T59 74 (oL55 p0 p1 p2 b47) [] _
    refine XS.iload X59.here hx rfl (hb hby at_74) rfl ?_
    refine XS.iconst X59.here hx rfl (hb hby at_76) ?_
    show oS p e below m T59 77 (oL55 p0 p1 p2 b47) [(.int 3), (.int 1)] _
    refine XS.icmpYes X59.here hx rfl (pc0 := 77) (pc' := 90) rfl (hb hby at_77) rfl (tlt (by decide : (1 : Int32) < (3 : Int32))).1 (by decide) (by decide) ?_
    refine XS.aload X59.here hx rfl (hb hby at_90) rfl rfl ?_
    show oS p e below m T59 92 (oL55 p0 p1 p2 b47) [(.ref b47)] _
    refine st86.trans ?_
    show oS p e below m T86 95 (oL55 p0 p1 p2 b47) [(.int 0)] _
    refine XS.istore X86.here hx rfl (hb hby at_95) rfl (l' := (oL45 p0 p1 p2 b47)) rfl ?_
    refine XS.iload X86.here hx rfl (hb hby at_97) rfl ?_
    show oS p e below m T86 99 (oL45 p0 p1 p2 b47) [(.int 1)] _
    refine XS.iload X86.here hx rfl (hb hby at_99) rfl ?_
    refine XS.iload X86.here hx rfl (hb hby at_101) rfl ?_
    show oS p e below m T86 103 (oL45 p0 p1 p2 b47) [(.int 1), (.int 0), (.int 1)] _
    refine XS.iloadN X86.here hx rfl (hb hby at_103) rfl ?_
    refine XS.icmpYes X86.here hx rfl (pc0 := 104) (pc' := 111) rfl (hb hby at_104) rfl (flt (by decide : ¬ ((1 : Int32) < (1 : Int32)))).2.1 (by decide) (by decide) ?_
    show oS p e below m T86 111 (oL45 p0 p1 p2 b47) [(.int 0), (.int 1)] _
    refine XS.iconst X86.here hx rfl (hb hby at_111) ?_
    refine XS.icmpNo X86.here hx rfl (hb hby at_112) rfl (teq (by decide : (0 : Int32) = (0 : Int32))).2 ?_
    show oS p e below m T86 115 (oL45 p0 p1 p2 b47) [(.int 1)] _
    refine XS.iconst X86.here hx rfl (hb hby at_115) ?_
    refine XS.goto X86.here hx rfl (pc0 := 116) (pc' := 120) rfl (hb hby at_116) (by decide) (by decide) ?_
    show oS p e below m T86 120 (oL45 p0 p1 p2 b47) [(.int 1), (.int 1)] _
    refine XS.iand X86.here hx rfl (hb hby at_120) rfl ?_
    exact kt
  rw [show ((1 : Int32) &&& (1 : Int32)) = (1 : Int32) from by decide] at pre92
  have pre95 : ∀ t, oS p e below m T86 136 (oL20 p0 p1 p2 b47) [(.int (p2 &&& (1 : Int32)))] t → oT p e below s₁ (entryFrame m #[(.int p0), (.int p1), (.int p2)] maxLocals) t := by
    intro t kt
    refine pre92 t ?_
    show oS p e below m T86 121 (oL45 p0 p1 p2 b47) [(.int 1)] _
    refine XS.istore X86.here hx rfl (hb hby at_121) rfl (l' := (oL45 p0 p1 p2 b47)) rfl ?_
    refine XS.iload X86.here hx rfl (hb hby at_123) rfl ?_
    show oS p e below m T86 125 (oL45 p0 p1 p2 b47) [(.int 1)] _
    refine XS.istore X86.here hx rfl (hb hby at_125) rfl (l' := (oL20 p0 p1 p2 b47)) rfl ?_
    refine XS.iload X86.here hx rfl (hb hby at_127) rfl ?_
    show oS p e below m T86 129 (oL20 p0 p1 p2 b47) [(.int 1)] _
    refine XS.iconst X86.here hx rfl (hb hby at_129) ?_
    refine XS.icmpNo X86.here hx rfl (hb hby at_130) rfl (flt (by decide : ¬ ((1 : Int32) < (1 : Int32)))).1 ?_
    show oS p e below m T86 133 (oL20 p0 p1 p2 b47) [] _
    refine XS.iloadN X86.here hx rfl (hb hby at_133) rfl ?_
    refine XS.iconst X86.here hx rfl (hb hby at_134) ?_
    show oS p e below m T86 135 (oL20 p0 p1 p2 b47) [(.int 1), (.int p2)] _
    refine XS.iand X86.here hx rfl (hb hby at_135) rfl ?_
    exact kt
  by_cases hc136_94 : (p2 &&& (1 : Int32)) = (0 : Int32)
  obtain ⟨cq96, kq96, q96a, q96b, q96c⟩ := isOf hZ e86 u59_0
  obtain ⟨_, _, ⟨T96, L96, k96, n96⟩, -, X96, ⟨Lc96, hQ96, l96, y96, z96⟩, st96⟩ := X86.virtualBack hx (y := oy2) (z := oy2) hown (mvT hZ (own_w hw 26 rfl)) (mvT hZ (own_w hw 27 rfl)) (notFace_of_selects (args := #[]) (mvT hZ (own_w hw 29 rfl))) (mvT hZ (own_w hw 29 rfl)) (mvT hZ (own_w hw 28 rfl)) (by decide) (backOf (W := 0) (rm_hasFree_5 l Z a0 hw [] b47 T59.heap n0 O59 u59_4 ) hZ (own_w hw 30 rfl) (own_w hw 6 rfl) (by decide) (by decide)) q96a q96c (g := (mkF m 191 (oL20 p0 p1 p2 b47) [(.ref b47)])) rfl (by rw [hml]; rfl) (Steps.refl _) (argsL := []) (rest := []) (lenOf pd___Z rfl) rfl (by show 2 * 0 + _ ≤ _; exact Nat.le_of_eq rfl) (hb hby at_191) (fun _ _ => ⟨rfl, e86, (by decide : 4 + 0 ≤ _), (by decide : 8 + 0 ≤ _)⟩)
  dsimp only [Pt.U, Pt.locs, Pt.cells, Pt.slots] at X96 l96 y96 z96 st96 hQ96
  subst l96 y96 z96
  obtain ⟨rfl, N96q, e96⟩ := hQ96
  have N96 := Fr.app N86 N96q
  have pre99 : ∀ t, oS p e below m T96 220 (oL17 p0 p1 p2 b47) [(.int ((1 : Int32) &&& (1 : Int32)))] t → oT p e below s₁ (entryFrame m #[(.int p0), (.int p1), (.int p2)] maxLocals) t := by
    intro t kt
    refine pre95 t ?_
    show oS p e below m T86 136 (oL20 p0 p1 p2 b47) [(.int (p2 &&& (1 : Int32)))] _
    refine XS.ifYes X86.here hx rfl (pc0 := 136) (pc' := 189) rfl (hb hby at_136) rfl ((if0 _ _).trans (teq hc136_94).1) (by decide) (by decide) ?_
    refine XS.aload X86.here hx rfl (hb hby at_189) rfl rfl ?_
    show oS p e below m T86 191 (oL20 p0 p1 p2 b47) [(.ref b47)] _
    refine st96.trans ?_
    show oS p e below m T96 194 (oL20 p0 p1 p2 b47) [(.int 0)] _
    refine XS.istore X96.here hx rfl (hb hby at_194) rfl (l' := (oL17 p0 p1 p2 b47)) rfl ?_
    refine XS.iload X96.here hx rfl (hb hby at_196) rfl ?_
    show oS p e below m T96 198 (oL17 p0 p1 p2 b47) [(.int 1)] _
    refine XS.iload X96.here hx rfl (hb hby at_198) rfl ?_
    refine XS.iload X96.here hx rfl (hb hby at_200) rfl ?_
    show oS p e below m T96 202 (oL17 p0 p1 p2 b47) [(.int 1), (.int 0), (.int 1)] _
    refine XS.iloadN X96.here hx rfl (hb hby at_202) rfl ?_
    refine XS.icmpYes X96.here hx rfl (pc0 := 203) (pc' := 210) rfl (hb hby at_203) rfl (flt (by decide : ¬ ((1 : Int32) < (1 : Int32)))).2.1 (by decide) (by decide) ?_
    show oS p e below m T96 210 (oL17 p0 p1 p2 b47) [(.int 0), (.int 1)] _
    refine XS.iconst X96.here hx rfl (hb hby at_210) ?_
    refine XS.icmpNo X96.here hx rfl (hb hby at_211) rfl (teq (by decide : (0 : Int32) = (0 : Int32))).2 ?_
    show oS p e below m T96 214 (oL17 p0 p1 p2 b47) [(.int 1)] _
    refine XS.iconst X96.here hx rfl (hb hby at_214) ?_
    refine XS.goto X96.here hx rfl (pc0 := 215) (pc' := 219) rfl (hb hby at_215) (by decide) (by decide) ?_
    show oS p e below m T96 219 (oL17 p0 p1 p2 b47) [(.int 1), (.int 1)] _
    refine XS.iand X96.here hx rfl (hb hby at_219) rfl ?_
    exact kt
  rw [show ((1 : Int32) &&& (1 : Int32)) = (1 : Int32) from by decide] at pre99
  have pre100 : ∀ t, oS p e below m T96 224 (oL17 p0 p1 p2 b47) [(.int 1)] t → oT p e below s₁ (entryFrame m #[(.int p0), (.int p1), (.int p2)] maxLocals) t := by
    intro t kt
    refine pre99 t ?_
    show oS p e below m T96 220 (oL17 p0 p1 p2 b47) [(.int 1)] _
    refine XS.istore X96.here hx rfl (hb hby at_220) rfl (l' := (oL17 p0 p1 p2 b47)) rfl ?_
    refine XS.iload X96.here hx rfl (hb hby at_222) rfl ?_
    exact kt
  obtain ⟨fs, hr, hrun, hended, hW, hsame⟩ := X96.leave (v := some (.int 1)) (fun h => by rw [Bd.returns] at h; cases h)
  refine ⟨_, _, pre100 _ ?_, hrun, hended, _, _, rfl, ?_, ⟨_, rfl⟩, hW, hsame.mono (by decide) (by decide)⟩
  · show oS p e below m T96 224 (oL17 p0 p1 p2 b47) [(.int 1)] _
    exact retN X96 hx (t := .boolean) Bd.returns (by simp) (hb hby at_224) hr
  · show Q_rm0 Z p0 p1 p2 w_cache w_I1 cl_cache w_I4 w_I2 w_I3 h0 n0 _ T96.heap _
    rw [e96]
    exact ⟨rfl, N96⟩
  obtain ⟨cq101, kq101, q101a, q101b, q101c⟩ := isOf hZ e86 u59_0
  obtain ⟨_, _, ⟨T101, L101, k101, n101⟩, -, X101, ⟨Lc101, hQ101, l101, y101, z101⟩, st101⟩ := X86.virtualBack hx (y := oy5) (z := oy5) hown (mvT hZ (own_w hw 47 rfl)) (mvT hZ (own_w hw 48 rfl)) (notFace_of_selects (args := #[]) (mvT hZ (own_w hw 50 rfl))) (mvT hZ (own_w hw 50 rfl)) (mvT hZ (own_w hw 49 rfl)) (by decide) (backOf (W := 0) (rm_release_6 l Z a0 hw [] b47 b48_b13 b48_b15 b48_b17 kx48_k13 kx48_k15 kx48_k17 w_I1 T59.heap n0 O59 u59_0 u59_1 u59_2 u59_3 u59_4 u59_5 ge_b47 u48_7 u59_6 u48_8 u59_7 u48_11 u48_13 u48_14 ne_b47_b48_b13 ne_b47_b48_b15 ne_b47_b48_b17 u48_16 u48_17 u48_18 ) hZ (own_w hw 51 rfl) (own_w hw 6 rfl) (by decide) (by decide)) q101a q101c (g := (mkF m 143 (oL20 p0 p1 p2 b47) [(.long 1048576), (.ref b47)])) rfl (by rw [hml]; rfl) (Steps.refl _) (argsL := [(.long 1048576)]) (rest := []) (lenOf pd__J_Ljava_lang_Object_ rfl) rfl (by show 2 * 0 + _ ≤ _; exact Nat.le_of_eq rfl) (hb hby at_143) (fun _ _ => ⟨rfl, e86, (by decide : 4 + 0 ≤ _), (by decide : 8 + 0 ≤ _)⟩)
  dsimp only [Pt.U, Pt.locs, Pt.cells, Pt.slots] at X101 l101 y101 z101 st101 hQ101
  subst l101 y101 z101
  obtain ⟨rfl, N101q, Kc101, u101_0, u101_1, u101_2, u101_3, u101_4, u101_5, u101_6, u101_7, u101_8⟩ := hQ101
  have N101 := Fr.app N86 N101q
  have O101 := O59.keep Kc101 (allS u48_14 (allS ge_b47 (allS u48_11 (allS u48_8 all0))))
  have pre134 : ∀ t, oS p e below m T101 151 (oL20 p0 p1 p2 b47) [(.int ((1 : Int32) - (1 : Int32)))] t → oT p e below s₁ (entryFrame m #[(.int p0), (.int p1), (.int p2)] maxLocals) t := by
    intro t kt
    refine pre95 t ?_
    show oS p e below m T86 136 (oL20 p0 p1 p2 b47) [(.int (p2 &&& (1 : Int32)))] _
    refine XS.ifNo X86.here hx rfl (hb hby at_136) rfl ((if0 _ _).trans (feq hc136_94).1) ?_
    refine XS.aload X86.here hx rfl (hb hby at_139) rfl rfl ?_
    show oS p e below m T86 141 (oL20 p0 p1 p2 b47) [(.ref b47)] _
    refine XS.lload X86.here hx rfl (hb hby at_141) rfl ?_
    show oS p e below m T86 143 (oL20 p0 p1 p2 b47) [(.long 1048576), (.ref b47)] _
    refine st101.trans ?_
    show oS p e below m T101 146 (oL20 p0 p1 p2 b47) [(.ref w_I1)] _
    refine XS.pop X101.here hx rfl (hb hby at_146) rfl rfl ?_
    refine XS.iload X101.here hx rfl (hb hby at_147) rfl ?_
    show oS p e below m T101 149 (oL20 p0 p1 p2 b47) [(.int 1)] _
    refine XS.iconst X101.here hx rfl (hb hby at_149) ?_
    refine XS.isub X101.here hx rfl (hb hby at_150) rfl ?_
    exact kt
  rw [show ((1 : Int32) - (1 : Int32)) = (0 : Int32) from by decide] at pre134
  have pre135 : ∀ t, oS p e below m T101 156 (oL6 p0 p1 p2 b47) [(.int (p2 &&& (2 : Int32)))] t → oT p e below s₁ (entryFrame m #[(.int p0), (.int p1), (.int p2)] maxLocals) t := by
    intro t kt
    refine pre134 t ?_
    show oS p e below m T101 151 (oL20 p0 p1 p2 b47) [(.int 0)] _
    refine XS.istore X101.here hx rfl (hb hby at_151) rfl (l' := (oL6 p0 p1 p2 b47)) rfl ?_
    refine XS.iloadN X101.here hx rfl (hb hby at_153) rfl ?_
    show oS p e below m T101 154 (oL6 p0 p1 p2 b47) [(.int p2)] _
    refine XS.iconst X101.here hx rfl (hb hby at_154) ?_
    refine XS.iand X101.here hx rfl (hb hby at_155) rfl ?_
    exact kt
  have tail167_136 : ∀ (T : State) (locs : List Loc) (h : Heap) (X : Stand p l e room_1 s m #[(.int p0), (.int p1), (.int p2)] below meth c T locs 4 8) (eT : T.heap = h) (Nn : Fr n0 locs) (On : Old Z n0 h) (v136_0 : Arv Z h b48_b17 kx48_k17 .int (1 : Int32) [(.int 0)] (.int 0)) (e136_1 : Exa Z h b47 oc8) (f136_2 : Fld Z h b47 oc8 "requests" "[Ljava/lang/Object;" (.ref b48_b13)) (f136_3 : Fld Z h b47 oc8 "sequences" "[J" (.ref b48_b15)) (f136_4 : Fld Z h b47 oc8 "free" "[I" (.ref b48_b17)) (f136_5 : Fld Z h b47 oc8 "freeCount" "I" (.int 1)) (f136_6 : Fld Z h b47 oc8 "lastSequence" "J" (.long 1)) (v136_7 : Arv Z h b48_b15 kx48_k15 .long (1 : Int32) [(.long 0)] (.long 0)) (v136_8 : Arv Z h b48_b13 kx48_k13 (.object oc9) (1 : Int32) [.null] .null), ∃ s₂ o, Steps p.tables e below (T.setTop (mkF m 167 (oL6 p0 p1 p2 b47) [])) s₂ ∧ s₂.status = .running ∧ Ended s₂ below o ∧ ∃ v L, o = .returned v ∧ Q_rm0 Z p0 p1 p2 w_cache w_I1 cl_cache w_I4 w_I2 w_I3 h0 n0 v s₂.heap L ∧ FrameEnd s o s₂ L room_1.cells room_1.slots := by
    intro T locs h X eT Nn On v136_0 e136_1 f136_2 f136_3 f136_4 f136_5 f136_6 v136_7 v136_8
    have pre137 : ∀ t, oS p e below m T 167 (oL6 p0 p1 p2 b47) [] t → oT p e below T (mkF m 167 (oL6 p0 p1 p2 b47) []) t := fun t k => k
    have pre139 : ∀ t, oS p e below m T 170 (oL6 p0 p1 p2 b47) [(.int (p2 &&& (4 : Int32)))] t → oT p e below T (mkF m 167 (oL6 p0 p1 p2 b47) []) t := by
      intro t kt
      refine pre137 t ?_
      show oS p e below m T 167 (oL6 p0 p1 p2 b47) [] _
      refine XS.iloadN X.here hx rfl (hb hby at_167) rfl ?_
      refine XS.iconst X.here hx rfl (hb hby at_168) ?_
      show oS p e below m T 169 (oL6 p0 p1 p2 b47) [(.int 4), (.int p2)] _
      refine XS.iand X.here hx rfl (hb hby at_169) rfl ?_
      exact kt
    by_cases hc170_138 : (p2 &&& (4 : Int32)) = (0 : Int32)
    obtain ⟨cq140, kq140, q140a, q140b, q140c⟩ := isOf hZ eT e136_1
    obtain ⟨_, _, ⟨T140, L140, k140, n140⟩, -, X140, ⟨Lc140, hQ140, l140, y140, z140⟩, st140⟩ := X.virtualBack hx (y := oy2) (z := oy2) hown (mvT hZ (own_w hw 26 rfl)) (mvT hZ (own_w hw 27 rfl)) (notFace_of_selects (args := #[]) (mvT hZ (own_w hw 29 rfl))) (mvT hZ (own_w hw 29 rfl)) (mvT hZ (own_w hw 28 rfl)) (by decide) (backOf (W := 0) (rm_hasFree_2 l Z a0 hw [] b47 h n0 On f136_5 ) hZ (own_w hw 30 rfl) (own_w hw 6 rfl) (by decide) (by decide)) q140a q140c (g := (mkF m 191 (oL6 p0 p1 p2 b47) [(.ref b47)])) rfl (by rw [hml]; rfl) (Steps.refl _) (argsL := []) (rest := []) (lenOf pd___Z rfl) rfl (by show 2 * 0 + _ ≤ _; exact Nat.le_of_eq rfl) (hb hby at_191) (fun _ _ => ⟨rfl, eT, (by decide : 4 + 0 ≤ _), (by decide : 8 + 0 ≤ _)⟩)
    dsimp only [Pt.U, Pt.locs, Pt.cells, Pt.slots] at X140 l140 y140 z140 st140 hQ140
    subst l140 y140 z140
    obtain ⟨rfl, N140q, e140⟩ := hQ140
    have N140 := Fr.app Nn N140q
    have pre143 : ∀ t, oS p e below m T140 220 (oL28 p0 p1 p2 b47) [(.int ((1 : Int32) &&& (1 : Int32)))] t → oT p e below T (mkF m 167 (oL6 p0 p1 p2 b47) []) t := by
      intro t kt
      refine pre139 t ?_
      show oS p e below m T 170 (oL6 p0 p1 p2 b47) [(.int (p2 &&& (4 : Int32)))] _
      refine XS.ifYes X.here hx rfl (pc0 := 170) (pc' := 189) rfl (hb hby at_170) rfl ((if0 _ _).trans (teq hc170_138).1) (by decide) (by decide) ?_
      refine XS.aload X.here hx rfl (hb hby at_189) rfl rfl ?_
      show oS p e below m T 191 (oL6 p0 p1 p2 b47) [(.ref b47)] _
      refine st140.trans ?_
      show oS p e below m T140 194 (oL6 p0 p1 p2 b47) [(.int 1)] _
      refine XS.istore X140.here hx rfl (hb hby at_194) rfl (l' := (oL28 p0 p1 p2 b47)) rfl ?_
      refine XS.iload X140.here hx rfl (hb hby at_196) rfl ?_
      show oS p e below m T140 198 (oL28 p0 p1 p2 b47) [(.int 1)] _
      refine XS.iload X140.here hx rfl (hb hby at_198) rfl ?_
      refine XS.iload X140.here hx rfl (hb hby at_200) rfl ?_
      show oS p e below m T140 202 (oL28 p0 p1 p2 b47) [(.int 0), (.int 1), (.int 1)] _
      refine XS.iloadN X140.here hx rfl (hb hby at_202) rfl ?_
      refine XS.icmpNo X140.here hx rfl (hb hby at_203) rfl (tlt (by decide : (0 : Int32) < (1 : Int32))).2.1 ?_
      show oS p e below m T140 206 (oL28 p0 p1 p2 b47) [(.int 1), (.int 1)] _
      refine XS.iconst X140.here hx rfl (hb hby at_206) ?_
      refine XS.goto X140.here hx rfl (pc0 := 207) (pc' := 211) rfl (hb hby at_207) (by decide) (by decide) ?_
      show oS p e below m T140 211 (oL28 p0 p1 p2 b47) [(.int 1), (.int 1), (.int 1)] _
      refine XS.icmpNo X140.here hx rfl (hb hby at_211) rfl (teq (by decide : (1 : Int32) = (1 : Int32))).2 ?_
      refine XS.iconst X140.here hx rfl (hb hby at_214) ?_
      show oS p e below m T140 215 (oL28 p0 p1 p2 b47) [(.int 1), (.int 1)] _
      refine XS.goto X140.here hx rfl (pc0 := 215) (pc' := 219) rfl (hb hby at_215) (by decide) (by decide) ?_
      refine XS.iand X140.here hx rfl (hb hby at_219) rfl ?_
      exact kt
    rw [show ((1 : Int32) &&& (1 : Int32)) = (1 : Int32) from by decide] at pre143
    have pre144 : ∀ t, oS p e below m T140 224 (oL28 p0 p1 p2 b47) [(.int 1)] t → oT p e below T (mkF m 167 (oL6 p0 p1 p2 b47) []) t := by
      intro t kt
      refine pre143 t ?_
      show oS p e below m T140 220 (oL28 p0 p1 p2 b47) [(.int 1)] _
      refine XS.istore X140.here hx rfl (hb hby at_220) rfl (l' := (oL28 p0 p1 p2 b47)) rfl ?_
      refine XS.iload X140.here hx rfl (hb hby at_222) rfl ?_
      exact kt
    obtain ⟨fs, hr, hrun, hended, hW, hsame⟩ := X140.leave (v := some (.int 1)) (fun h => by rw [Bd.returns] at h; cases h)
    refine ⟨_, _, pre144 _ ?_, hrun, hended, _, _, rfl, ?_, ⟨_, rfl⟩, hW, hsame.mono (by decide) (by decide)⟩
    · show oS p e below m T140 224 (oL28 p0 p1 p2 b47) [(.int 1)] _
      exact retN X140 hx (t := .boolean) Bd.returns (by simp) (hb hby at_224) hr
    · show Q_rm0 Z p0 p1 p2 w_cache w_I1 cl_cache w_I4 w_I2 w_I3 h0 n0 _ T140.heap _
      rw [e140]
      exact ⟨rfl, N140⟩
    obtain ⟨_, _, ⟨T145, L145, k145, n145⟩, -, X145, ⟨Lc145, hQ145, l145, y145, z145⟩, st145⟩ := Jvm.LawKit.callS X hx (y := oy3) hown (mvT hZ (own_w hw 31 rfl)) (mvT hZ (own_w hw 32 rfl)) (mvT hZ (own_w hw 33 rfl)) (mvT hZ (own_w hw 34 rfl)) (by decide) (backOf (W := 1) (rm_valueOf_9 l Z a0 hw [] w_cache cl_cache w_I4 h n0 On  S_high S_cache AE_4 A_cache) hZ (own_w hw 34 rfl) (own_w hw 33 rfl) (by decide) (by decide)) (g := (mkF m 176 (oL6 p0 p1 p2 b47) [(.int 4), (.ref b47)])) rfl (by rw [hml]; rfl) (argsL := [(.int 4)]) (rest := [(.ref b47)]) (lenOf pd__I_Ljava_lang_Integer_ rfl) rfl (by show 2 * 0 + _ ≤ _; exact Nat.le_of_eq rfl) (hb hby at_176) (fun _ _ => ⟨rfl, eT, (by decide : 4 + 0 ≤ _), (by decide : 8 + 0 ≤ _)⟩)
    dsimp only [Pt.U, Pt.locs, Pt.cells, Pt.slots] at X145 l145 y145 z145 st145 hQ145
    subst l145 y145 z145
    obtain ⟨rfl, N145q, e145⟩ := hQ145
    have N145 := Fr.app Nn N145q
    obtain ⟨cq153, kq153, q153a, q153b, q153c⟩ := isOf hZ e145 e136_1
    obtain ⟨_, _, ⟨T153, L153, k153, n153⟩, -, X153, ⟨Lc153, hQ153, l153, y153, z153⟩, st153⟩ := X145.virtualBack hx (y := oy4) (z := oy4) hown (mvT hZ (own_w hw 38 rfl)) (mvT hZ (own_w hw 39 rfl)) (notFace_of_selects (args := #[]) (mvT hZ (own_w hw 41 rfl))) (mvT hZ (own_w hw 41 rfl)) (mvT hZ (own_w hw 40 rfl)) (by decide) (backOf (W := 0) (rm_take_10 l Z a0 hw [] b47 b48_b13 b48_b15 b48_b17 kx48_k13 kx48_k15 kx48_k17 w_I4 h n0 On e136_1 f136_2 f136_3 f136_4 f136_5 f136_6 ge_b47 u48_7 v136_8 u48_8 v136_7 u48_11 v136_0 u48_14 ne_b47_b48_b13 ne_b47_b48_b15 ne_b47_b48_b17 u48_16 u48_17 u48_18 E_I4) hZ (own_w hw 42 rfl) (own_w hw 6 rfl) (by decide) (by decide)) q153a q153c (g := (mkF m 179 (oL6 p0 p1 p2 b47) [(.ref w_I4), (.ref b47)])) rfl (by rw [hml]; rfl) (Steps.refl _) (argsL := [(.ref w_I4)]) (rest := []) (lenOf pd__Ljava_lang_Object__J rfl) rfl (by show 2 * 0 + _ ≤ _; exact Nat.le_of_eq rfl) (hb hby at_179) (fun _ _ => ⟨rfl, e145, (by decide : 4 + 0 ≤ _), (by decide : 8 + 0 ≤ _)⟩)
    dsimp only [Pt.U, Pt.locs, Pt.cells, Pt.slots] at X153 l153 y153 z153 st153 hQ153
    subst l153 y153 z153
    obtain ⟨rfl, N153q, Kc153, u153_0, u153_1, u153_2, u153_3, u153_4, u153_5, u153_6, u153_7⟩ := hQ153
    have N153 := Fr.app N145 N153q
    have v136_0 := v136_0.keep Kc153 (ninS (Ne.symm ne_b47_b48_b17) (ninS (Ne.symm u48_17) (ninS (Ne.symm u48_18) nin0)))
    have O153 := On.keep Kc153 (allS ge_b47 (allS u48_8 (allS u48_11 all0)))
    have pre178 : ∀ t, oS p e below m T153 187 (oL6 p0 p1 p2 b47) [(.int ((0 : Int32) + (1 : Int32)))] t → oT p e below T (mkF m 167 (oL6 p0 p1 p2 b47) []) t := by
      intro t kt
      refine pre139 t ?_
      show oS p e below m T 170 (oL6 p0 p1 p2 b47) [(.int (p2 &&& (4 : Int32)))] _
      refine XS.ifNo X.here hx rfl (hb hby at_170) rfl ((if0 _ _).trans (feq hc170_138).1) ?_
      refine XS.aload X.here hx rfl (hb hby at_173) rfl rfl ?_
      show oS p e below m T 175 (oL6 p0 p1 p2 b47) [(.ref b47)] _
      refine XS.iconst X.here hx rfl (hb hby at_175) ?_
      show oS p e below m T 176 (oL6 p0 p1 p2 b47) [(.int 4), (.ref b47)] _
      refine st145 _ ?_
      show oS p e below m T145 179 (oL6 p0 p1 p2 b47) [(.ref w_I4), (.ref b47)] _
      refine st153.trans ?_
      show oS p e below m T153 182 (oL6 p0 p1 p2 b47) [(.long 2097152)] _
      jvm_step X153.here [X153.here.top, hx, (hb hby at_182), Value.category]
      show oS p e below m T153 183 (oL6 p0 p1 p2 b47) [] _
      refine XS.iload X153.here hx rfl (hb hby at_183) rfl ?_
      refine XS.iconst X153.here hx rfl (hb hby at_185) ?_
      show oS p e below m T153 186 (oL6 p0 p1 p2 b47) [(.int 1), (.int 0)] _
      refine XS.iadd X153.here hx rfl (hb hby at_186) rfl ?_
      exact kt
    rw [show ((0 : Int32) + (1 : Int32)) = (1 : Int32) from by decide] at pre178
    obtain ⟨cq179, kq179, q179a, q179b, q179c⟩ := isOf hZ rfl u153_0
    obtain ⟨_, _, ⟨T179, L179, k179, n179⟩, -, X179, ⟨Lc179, hQ179, l179, y179, z179⟩, st179⟩ := X153.virtualBack hx (y := oy2) (z := oy2) hown (mvT hZ (own_w hw 26 rfl)) (mvT hZ (own_w hw 27 rfl)) (notFace_of_selects (args := #[]) (mvT hZ (own_w hw 29 rfl))) (mvT hZ (own_w hw 29 rfl)) (mvT hZ (own_w hw 28 rfl)) (by decide) (backOf (W := 0) (rm_hasFree_5 l Z a0 hw [] b47 T153.heap n0 O153 u153_4 ) hZ (own_w hw 30 rfl) (own_w hw 6 rfl) (by decide) (by decide)) q179a q179c (g := (mkF m 191 (oL20 p0 p1 p2 b47) [(.ref b47)])) rfl (by rw [hml]; rfl) (Steps.refl _) (argsL := []) (rest := []) (lenOf pd___Z rfl) rfl (by show 2 * 0 + _ ≤ _; exact Nat.le_of_eq rfl) (hb hby at_191) (fun _ _ => ⟨rfl, rfl, (by decide : 4 + 0 ≤ _), (by decide : 8 + 0 ≤ _)⟩)
    dsimp only [Pt.U, Pt.locs, Pt.cells, Pt.slots] at X179 l179 y179 z179 st179 hQ179
    subst l179 y179 z179
    obtain ⟨rfl, N179q, e179⟩ := hQ179
    have N179 := Fr.app N153 N179q
    have pre182 : ∀ t, oS p e below m T179 220 (oL17 p0 p1 p2 b47) [(.int ((1 : Int32) &&& (1 : Int32)))] t → oT p e below T (mkF m 167 (oL6 p0 p1 p2 b47) []) t := by
      intro t kt
      refine pre178 t ?_
      show oS p e below m T153 187 (oL6 p0 p1 p2 b47) [(.int 1)] _
      refine XS.istore X153.here hx rfl (hb hby at_187) rfl (l' := (oL20 p0 p1 p2 b47)) rfl ?_
      refine XS.aload X153.here hx rfl (hb hby at_189) rfl rfl ?_
      show oS p e below m T153 191 (oL20 p0 p1 p2 b47) [(.ref b47)] _
      refine st179.trans ?_
      show oS p e below m T179 194 (oL20 p0 p1 p2 b47) [(.int 0)] _
      refine XS.istore X179.here hx rfl (hb hby at_194) rfl (l' := (oL17 p0 p1 p2 b47)) rfl ?_
      refine XS.iload X179.here hx rfl (hb hby at_196) rfl ?_
      show oS p e below m T179 198 (oL17 p0 p1 p2 b47) [(.int 1)] _
      refine XS.iload X179.here hx rfl (hb hby at_198) rfl ?_
      refine XS.iload X179.here hx rfl (hb hby at_200) rfl ?_
      show oS p e below m T179 202 (oL17 p0 p1 p2 b47) [(.int 1), (.int 0), (.int 1)] _
      refine XS.iloadN X179.here hx rfl (hb hby at_202) rfl ?_
      refine XS.icmpYes X179.here hx rfl (pc0 := 203) (pc' := 210) rfl (hb hby at_203) rfl (flt (by decide : ¬ ((1 : Int32) < (1 : Int32)))).2.1 (by decide) (by decide) ?_
      show oS p e below m T179 210 (oL17 p0 p1 p2 b47) [(.int 0), (.int 1)] _
      refine XS.iconst X179.here hx rfl (hb hby at_210) ?_
      refine XS.icmpNo X179.here hx rfl (hb hby at_211) rfl (teq (by decide : (0 : Int32) = (0 : Int32))).2 ?_
      show oS p e below m T179 214 (oL17 p0 p1 p2 b47) [(.int 1)] _
      refine XS.iconst X179.here hx rfl (hb hby at_214) ?_
      refine XS.goto X179.here hx rfl (pc0 := 215) (pc' := 219) rfl (hb hby at_215) (by decide) (by decide) ?_
      show oS p e below m T179 219 (oL17 p0 p1 p2 b47) [(.int 1), (.int 1)] _
      refine XS.iand X179.here hx rfl (hb hby at_219) rfl ?_
      exact kt
    rw [show ((1 : Int32) &&& (1 : Int32)) = (1 : Int32) from by decide] at pre182
    have pre183 : ∀ t, oS p e below m T179 224 (oL17 p0 p1 p2 b47) [(.int 1)] t → oT p e below T (mkF m 167 (oL6 p0 p1 p2 b47) []) t := by
      intro t kt
      refine pre182 t ?_
      show oS p e below m T179 220 (oL17 p0 p1 p2 b47) [(.int 1)] _
      refine XS.istore X179.here hx rfl (hb hby at_220) rfl (l' := (oL17 p0 p1 p2 b47)) rfl ?_
      refine XS.iload X179.here hx rfl (hb hby at_222) rfl ?_
      exact kt
    obtain ⟨fs, hr, hrun, hended, hW, hsame⟩ := X179.leave (v := some (.int 1)) (fun h => by rw [Bd.returns] at h; cases h)
    refine ⟨_, _, pre183 _ ?_, hrun, hended, _, _, rfl, ?_, ⟨_, rfl⟩, hW, hsame.mono (by decide) (by decide)⟩
    · show oS p e below m T179 224 (oL17 p0 p1 p2 b47) [(.int 1)] _
      exact retN X179 hx (t := .boolean) Bd.returns (by simp) (hb hby at_224) hr
    · show Q_rm0 Z p0 p1 p2 w_cache w_I1 cl_cache w_I4 w_I2 w_I3 h0 n0 _ T179.heap _
      rw [e179]
      exact ⟨rfl, N179⟩
  by_cases hc156_184 : (p2 &&& (2 : Int32)) = (0 : Int32)
  have pre185 : ∀ t, oS p e below m T101 167 (oL6 p0 p1 p2 b47) [] t → oT p e below s₁ (entryFrame m #[(.int p0), (.int p1), (.int p2)] maxLocals) t := by
    intro t kt
    refine pre135 t ?_
    show oS p e below m T101 156 (oL6 p0 p1 p2 b47) [(.int (p2 &&& (2 : Int32)))] _
    refine XS.ifYes X101.here hx rfl (pc0 := 156) (pc' := 167) rfl (hb hby at_156) rfl ((if0 _ _).trans (teq hc156_184).1) (by decide) (by decide) ?_
    exact kt
  obtain ⟨s2, o2, hs2, r2⟩ := tail167_136 _ _ _ X101 rfl N101 O101 u101_0 u101_1 u101_2 u101_3 u101_4 u101_5 u101_6 u101_7 u101_8
  exact ⟨s2, o2, pre185 _ hs2, r2⟩
  obtain ⟨cq187, kq187, q187a, q187b, q187c⟩ := isOf hZ rfl u101_1
  obtain ⟨_, _, ⟨T187, L187, k187, n187⟩, -, X187, ⟨Lc187, hQ187, l187, y187, z187⟩, st187⟩ := X101.virtualBack hx (y := oy5) (z := oy5) hown (mvT hZ (own_w hw 47 rfl)) (mvT hZ (own_w hw 48 rfl)) (notFace_of_selects (args := #[]) (mvT hZ (own_w hw 50 rfl))) (mvT hZ (own_w hw 50 rfl)) (mvT hZ (own_w hw 49 rfl)) (by decide) (backOf (W := 0) (rm_release_11 l Z a0 hw [] b47 b48_b13 b48_b15 b48_b17 kx48_k13 kx48_k15 T101.heap n0 O101 u101_1 u101_2 u101_3 u101_8 u101_7 ne_b47_b48_b13 ne_b47_b48_b15 ne_b47_b48_b17 u48_16 u48_17 u48_18 ) hZ (own_w hw 51 rfl) (own_w hw 6 rfl) (by decide) (by decide)) q187a q187c (g := (mkF m 163 (oL6 p0 p1 p2 b47) [(.long 1048576), (.ref b47)])) rfl (by rw [hml]; rfl) (Steps.refl _) (argsL := [(.long 1048576)]) (rest := []) (lenOf pd__J_Ljava_lang_Object_ rfl) rfl (by show 2 * 0 + _ ≤ _; exact Nat.le_of_eq rfl) (hb hby at_163) (fun _ _ => ⟨rfl, rfl, (by decide : 4 + 0 ≤ _), (by decide : 8 + 0 ≤ _)⟩)
  dsimp only [Pt.U, Pt.locs, Pt.cells, Pt.slots] at X187 l187 y187 z187 st187 hQ187
  subst l187 y187 z187
  obtain ⟨rfl, N187q, e187⟩ := hQ187
  have N187 := Fr.app N101 N187q
  have pre202 : ∀ t, oS p e below m T187 167 (oL6 p0 p1 p2 b47) [] t → oT p e below s₁ (entryFrame m #[(.int p0), (.int p1), (.int p2)] maxLocals) t := by
    intro t kt
    refine pre135 t ?_
    show oS p e below m T101 156 (oL6 p0 p1 p2 b47) [(.int (p2 &&& (2 : Int32)))] _
    refine XS.ifNo X101.here hx rfl (hb hby at_156) rfl ((if0 _ _).trans (feq hc156_184).1) ?_
    refine XS.aload X101.here hx rfl (hb hby at_159) rfl rfl ?_
    show oS p e below m T101 161 (oL6 p0 p1 p2 b47) [(.ref b47)] _
    refine XS.lload X101.here hx rfl (hb hby at_161) rfl ?_
    show oS p e below m T101 163 (oL6 p0 p1 p2 b47) [(.long 1048576), (.ref b47)] _
    refine st187.trans ?_
    show oS p e below m T187 166 (oL6 p0 p1 p2 b47) [.null] _
    refine XS.pop X187.here hx rfl (hb hby at_166) rfl rfl ?_
    exact kt
  obtain ⟨s2, o2, hs2, r2⟩ := tail167_136 _ _ _ X187 e187 N187 O101 u101_0 u101_1 u101_2 u101_3 u101_4 u101_5 u101_6 u101_7 u101_8
  exact ⟨s2, o2, pre202 _ hs2, r2⟩
  rw [hk] at pre5
  have pre204 : ∀ t, oS p e below m s₁ 12 (oL48 p0 p1 p2) [(.int 2), (.int (p1 &&& (3 : Int32)))] t → oT p e below s₁ (entryFrame m #[(.int p0), (.int p1), (.int p2)] maxLocals) t := by
    intro t kt
    refine pre5 t ?_
    show oS p e below m s₁ 7 (oL52 p0 p1 p2) [(.int 2)] _
    refine XS.istoreN X0.here hx rfl (hb hby at_7) rfl (l' := (oL48 p0 p1 p2)) rfl ?_
    refine XS.iloadN X0.here hx rfl (hb hby at_8) rfl ?_
    show oS p e below m s₁ 9 (oL48 p0 p1 p2) [(.int p1)] _
    refine XS.iconst X0.here hx rfl (hb hby at_9) ?_
    refine XS.iand X0.here hx rfl (hb hby at_10) rfl ?_
    show oS p e below m s₁ 11 (oL48 p0 p1 p2) [(.int (p1 &&& (3 : Int32)))] _
    refine XS.iloadN X0.here hx rfl (hb hby at_11) rfl ?_
    exact kt
  by_cases hb0 : (p1 &&& (3 : Int32)) = (0 : Int32)
  rw [hb0] at pre204
  obtain ⟨_, _, ⟨T205, L205, k205, n205⟩, -, X205, ⟨Lc205, hQ205, l205, y205, z205⟩, st205⟩ := Jvm.LawKit.callS X0 hx (y := oy0) hown (mvT hZ (own_w hw 0 rfl)) (mvT hZ (own_w hw 1 rfl)) (mvT hZ (own_w hw 2 rfl)) (mvT hZ (own_w hw 3 rfl)) (by decide) (backOf (W := 0) (rm_min l Z a0 hw [] (0 : Int32) (2 : Int32) (0 : Int32) h0 n0 (own_z O0) (by decide)) hZ (own_w hw 3 rfl) (own_w hw 2 rfl) (by decide) (by decide)) (g := (mkF m 12 (oL48 p0 p1 p2) [(.int 2), (.int 0)])) rfl (by rw [hml]; rfl) (argsL := [(.int 0), (.int 2)]) (rest := []) (lenOf pd__II_I rfl) rfl (by show 2 * 0 + _ ≤ _; exact Nat.le_of_eq rfl) (hb hby at_12) (fun _ _ => ⟨rfl, e0, (by decide : 0 + 0 ≤ _), (by decide : 0 + 0 ≤ _)⟩)
  dsimp only [Pt.U, Pt.locs, Pt.cells, Pt.slots] at X205 l205 y205 z205 st205 hQ205
  subst l205 y205 z205
  obtain ⟨rfl, N205q, e205⟩ := hQ205
  have N205 := Fr.app N0 N205q
  obtain ⟨T206, h206, X206, e206, E206, A206, D206, -, st206⟩ := newO X205 hx hZ hown (own_w hw 4 rfl) (own_w hw 5 rfl) (own_w hw 6 rfl) e205 (g := (mkF m 17 (oL66 p0 p1 p2) [])) rfl (hb hby at_17) (by decide) (by decide)
  obtain ⟨b206, g206⟩ : ∃ z, z = h0.size := ⟨_, rfl⟩
  have ge_b206 : n0 ≤ b206 := Nat.le_trans (own_z O0) (Nat.le_of_eq g206.symm)
  rw [← g206] at A206 D206 st206
  have O206 := O0.ext E206
  have E_b206 := A206
  have F_requests_b206 : Fld Z h206 b206 oc8 "requests" "[Ljava/lang/Object;" .null := D206 (Or.inr (own_w hw 17 rfl)) (ty := (.array (.object oc9))) (by decide)
  have F_sequences_b206 : Fld Z h206 b206 oc8 "sequences" "[J" .null := D206 (Or.inr (own_w hw 20 rfl)) (ty := (.array .long)) (by decide)
  have F_free_b206 : Fld Z h206 b206 oc8 "free" "[I" .null := D206 (Or.inr (own_w hw 23 rfl)) (ty := (.array .int)) (by decide)
  have F_freeCount_b206 : Fld Z h206 b206 oc8 "freeCount" "I" (.int 0) := D206 (Or.inl (own_w hw 25 rfl)) (ty := .int) (by decide)
  have F_lastSequence_b206 : Fld Z h206 b206 oc8 "lastSequence" "J" (.long 0) := D206 (Or.inl (own_w hw 44 rfl)) (ty := .long) (by decide)
  obtain ⟨_, _, ⟨T207, L207, k207, n207⟩, -, X207, ⟨Lc207, hQ207, l207, y207, z207⟩, st207⟩ := X206.specialBack hx (y := oy1) rfl hown (mvT hZ (own_w hw 7 rfl)) (mvT hZ (own_w hw 8 rfl)) (mvT hZ (own_w hw 9 rfl)) (by decide) (backOf (W := 1) (rm_init_13 l Z a0 hw [] b206 h206 n0 O206 E_b206 F_requests_b206 F_sequences_b206 F_free_b206 F_freeCount_b206 F_lastSequence_b206 ge_b206 ) hZ (own_w hw 9 rfl) (own_w hw 6 rfl) (by decide) (by decide)) (g := (mkF m 22 (oL66 p0 p1 p2) [(.int 2), (.ref b206), (.ref b206)])) rfl (by rw [hml]; rfl) (Steps.refl _) (a := b206) (argsL := [(.int 2)]) (rest := [(.ref b206)]) (lenOf pd__I_V rfl) rfl (by show 2 * 0 + _ ≤ _; exact Nat.le_of_eq rfl) (hb hby at_22) (fun _ _ => ⟨rfl, e206, (by decide : 1 + 3 ≤ _), (by decide : 5 + 6 ≤ _)⟩)
  dsimp only [Pt.U, Pt.locs, Pt.cells, Pt.slots] at X207 l207 y207 z207 st207 hQ207
  subst l207 y207 z207
  obtain ⟨b207_b211, b207_b213, b207_b215, kx207_k211, kx207_k213, kx207_k215, rfl, N207q, Kc207, u207_0, u207_1, u207_2, u207_3, u207_4, u207_5, u207_6, u207_7, u207_8, u207_9, u207_10, u207_11, u207_12, u207_13, u207_14, u207_15, u207_16, u207_17, u207_18⟩ := hQ207
  have N207 := Fr.app N205 N207q
  have ne_b206_b207_b211 : b206 ≠ b207_b211 := Nat.ne_of_lt (Nat.lt_of_lt_of_le E_b206.lt u207_9)
  have ne_b206_b207_b213 : b206 ≠ b207_b213 := Nat.ne_of_lt (Nat.lt_of_lt_of_le E_b206.lt u207_12)
  have ne_b206_b207_b215 : b206 ≠ b207_b215 := Nat.ne_of_lt (Nat.lt_of_lt_of_le E_b206.lt u207_15)
  have O207 := O206.keep Kc207 (allS ge_b206 all0)
  obtain ⟨cq234, kq234, q234a, q234b, q234c⟩ := isOf hZ rfl u207_0
  obtain ⟨_, _, ⟨T234, L234, k234, n234⟩, -, X234, ⟨Lc234, hQ234, l234, y234, z234⟩, st234⟩ := X207.virtualBack hx (y := oy2) (z := oy2) hown (mvT hZ (own_w hw 26 rfl)) (mvT hZ (own_w hw 27 rfl)) (notFace_of_selects (args := #[]) (mvT hZ (own_w hw 29 rfl))) (mvT hZ (own_w hw 29 rfl)) (mvT hZ (own_w hw 28 rfl)) (by decide) (backOf (W := 0) (rm_hasFree_14 l Z a0 hw [] b206 T207.heap n0 O207 u207_4 ) hZ (own_w hw 30 rfl) (own_w hw 6 rfl) (by decide) (by decide)) q234a q234c (g := (mkF m 29 #[iv p0, iv p1, iv p2, iv 2, iv 0, rv b206, .unset, .unset, .unset, .unset, .unset, .unset, .unset] [(.ref b206)])) rfl (by rw [hml]; rfl) (Steps.refl _) (argsL := []) (rest := []) (lenOf pd___Z rfl) rfl (by show 2 * 0 + _ ≤ _; exact Nat.le_of_eq rfl) (hb hby at_29) (fun _ _ => ⟨rfl, rfl, (by decide : 4 + 0 ≤ _), (by decide : 11 + 0 ≤ _)⟩)
  dsimp only [Pt.U, Pt.locs, Pt.cells, Pt.slots] at X234 l234 y234 z234 st234 hQ234
  subst l234 y234 z234
  obtain ⟨rfl, N234q, e234⟩ := hQ234
  have N234 := Fr.app N207 N234q
  obtain ⟨cq241, kq241, q241a, q241b, q241c⟩ := isOf hZ e234 u207_0
  obtain ⟨_, _, ⟨T241, L241, k241, n241⟩, -, X241, ⟨Lc241, hQ241, l241, y241, z241⟩, st241⟩ := X234.virtualBack hx (y := oy2) (z := oy2) hown (mvT hZ (own_w hw 26 rfl)) (mvT hZ (own_w hw 27 rfl)) (notFace_of_selects (args := #[]) (mvT hZ (own_w hw 29 rfl))) (mvT hZ (own_w hw 29 rfl)) (mvT hZ (own_w hw 28 rfl)) (by decide) (backOf (W := 0) (rm_hasFree_14 l Z a0 hw [] b206 T207.heap n0 O207 u207_4 ) hZ (own_w hw 30 rfl) (own_w hw 6 rfl) (by decide) (by decide)) q241a q241c (g := (mkF m 92 (oL50 p0 p1 p2 b206) [(.ref b206)])) rfl (by rw [hml]; rfl) (Steps.refl _) (argsL := []) (rest := []) (lenOf pd___Z rfl) rfl (by show 2 * 0 + _ ≤ _; exact Nat.le_of_eq rfl) (hb hby at_92) (fun _ _ => ⟨rfl, e234, (by decide : 4 + 0 ≤ _), (by decide : 11 + 0 ≤ _)⟩)
  dsimp only [Pt.U, Pt.locs, Pt.cells, Pt.slots] at X241 l241 y241 z241 st241 hQ241
  subst l241 y241 z241
  obtain ⟨rfl, N241q, e241⟩ := hQ241
  have N241 := Fr.app N234 N241q
  have pre244 : ∀ t, oS p e below m T241 121 (oL40 p0 p1 p2 b206) [(.int ((1 : Int32) &&& (1 : Int32)))] t → oT p e below s₁ (entryFrame m #[(.int p0), (.int p1), (.int p2)] maxLocals) t := by
    intro t kt
    refine pre204 t ?_
    show oS p e below m s₁ 12 (oL48 p0 p1 p2) [(.int 2), (.int 0)] _
    refine st205 _ ?_
    show oS p e below m T205 15 (oL48 p0 p1 p2) [(.int 0)] _
    refine XS.istore X205.here hx rfl (hb hby at_15) rfl (l' := (oL66 p0 p1 p2)) rfl ?_
    show oS p e below m T205 17 (oL66 p0 p1 p2) [] _
    refine st206 _ ?_
    show oS p e below m T206 20 (oL66 p0 p1 p2) [(.ref b206)] _
    refine XS.dup X206.here hx rfl (hb hby at_20) rfl rfl ?_
    refine XS.iloadN X206.here hx rfl (hb hby at_21) rfl ?_
    show oS p e below m T206 22 (oL66 p0 p1 p2) [(.int 2), (.ref b206), (.ref b206)] _
    refine st207.trans ?_
    show oS p e below m T207 25 (oL66 p0 p1 p2) [(.ref b206)] _
    refine XS.astore X207.here hx rfl (hb hby at_25) rfl rfl (l' := #[iv p0, iv p1, iv p2, iv 2, iv 0, rv b206, .unset, .unset, .unset, .unset, .unset, .unset, .unset]) rfl ?_
    refine XS.aload X207.here hx rfl (hb hby at_27) rfl rfl ?_
    show oS p e below m T207 29 #[iv p0, iv p1, iv p2, iv 2, iv 0, rv b206, .unset, .unset, .unset, .unset, .unset, .unset, .unset] [(.ref b206)] _
    refine st234.trans ?_
    show oS p e below m T234 32 #[iv p0, iv p1, iv p2, iv 2, iv 0, rv b206, .unset, .unset, .unset, .unset, .unset, .unset, .unset] [(.int 1)] _
    refine XS.istore X234.here hx rfl (hb hby at_32) rfl (l' := #[iv p0, iv p1, iv p2, iv 2, iv 0, rv b206, iv 1, .unset, .unset, .unset, .unset, .unset, .unset]) rfl ?_
    refine XS.iload X234.here hx rfl (hb hby at_34) rfl ?_
    show oS p e below m T234 36 #[iv p0, iv p1, iv p2, iv 2, iv 0, rv b206, iv 1, .unset, .unset, .unset, .unset, .unset, .unset] [(.int 1)] _
    refine XS.istore X234.here hx rfl (hb hby at_36) rfl (l' := #[iv p0, iv p1, iv p2, iv 2, iv 0, rv b206, iv 1, iv 1, .unset, .unset, .unset, .unset, .unset]) rfl ?_
    refine XS.lconst X234.here hx rfl (hb hby at_38) ?_
    show oS p e below m T234 39 #[iv p0, iv p1, iv p2, iv 2, iv 0, rv b206, iv 1, iv 1, .unset, .unset, .unset, .unset, .unset] [(.long 0)] _
    refine XS.lstore X234.here hx rfl (hb hby at_39) rfl (l' := (oL50 p0 p1 p2 b206)) rfl ?_
    refine XS.iload X234.here hx rfl (hb hby at_41) rfl ?_
    show oS p e below m T234 43 (oL50 p0 p1 p2 b206) [(.int 0)] _
    refine XS.iconst X234.here hx rfl (hb hby at_43) ?_
    refine XS.icmpYes X234.here hx rfl (pc0 := 44) (pc' := 58) rfl (hb hby at_44) rfl (tlt (by decide : (0 : Int32) < (1 : Int32))).1 (by decide) (by decide) ?_
    show oS p e below m T234 58 (oL50 p0 p1 p2 b206) [] _
    refine XS.iload X234.here hx rfl (hb hby at_58) rfl ?_
    refine XS.iconst X234.here hx rfl (hb hby at_60) ?_
    show oS p e below m T234 61 (oL50 p0 p1 p2 b206) [(.int 2), (.int 0)] _
    refine XS.icmpYes X234.here hx rfl (pc0 := 61) (pc' := 74) rfl (hb hby at_61) rfl (tlt (by decide : (0 : Int32) < (2 : Int32))).1 (by decide) (by decide) ?_
    refine XS.iload X234.here hx rfl (hb hby at_74) rfl ?_
    show oS p e below m T234 76 (oL50 p0 p1 p2 b206) [(.int 0)] _
    refine XS.iconst X234.here hx rfl (hb hby at_76) ?_
    refine XS.icmpYes X234.here hx rfl (pc0 := 77) (pc' := 90) rfl (hb hby at_77) rfl (tlt (by decide : (0 : Int32) < (3 : Int32))).1 (by decide) (by decide) ?_
    show oS p e below m T234 90 (oL50 p0 p1 p2 b206) [] _
    refine XS.aload X234.here hx rfl (hb hby at_90) rfl rfl ?_
    show oS p e below m T234 92 (oL50 p0 p1 p2 b206) [(.ref b206)] _
    refine st241.trans ?_
    show oS p e below m T241 95 (oL50 p0 p1 p2 b206) [(.int 1)] _
    refine XS.istore X241.here hx rfl (hb hby at_95) rfl (l' := (oL40 p0 p1 p2 b206)) rfl ?_
    refine XS.iload X241.here hx rfl (hb hby at_97) rfl ?_
    show oS p e below m T241 99 (oL40 p0 p1 p2 b206) [(.int 1)] _
    refine XS.iload X241.here hx rfl (hb hby at_99) rfl ?_
    refine XS.iload X241.here hx rfl (hb hby at_101) rfl ?_
    show oS p e below m T241 103 (oL40 p0 p1 p2 b206) [(.int 0), (.int 1), (.int 1)] _
    refine XS.iloadN X241.here hx rfl (hb hby at_103) rfl ?_
    refine XS.icmpNo X241.here hx rfl (hb hby at_104) rfl (tlt (by decide : (0 : Int32) < (2 : Int32))).2.1 ?_
    show oS p e below m T241 107 (oL40 p0 p1 p2 b206) [(.int 1), (.int 1)] _
    refine XS.iconst X241.here hx rfl (hb hby at_107) ?_
    refine XS.goto X241.here hx rfl (pc0 := 108) (pc' := 112) rfl (hb hby at_108) (by decide) (by decide) ?_
    show oS p e below m T241 112 (oL40 p0 p1 p2 b206) [(.int 1), (.int 1), (.int 1)] _
    refine XS.icmpNo X241.here hx rfl (hb hby at_112) rfl (teq (by decide : (1 : Int32) = (1 : Int32))).2 ?_
    refine XS.iconst X241.here hx rfl (hb hby at_115) ?_
    show oS p e below m T241 116 (oL40 p0 p1 p2 b206) [(.int 1), (.int 1)] _
    refine XS.goto X241.here hx rfl (pc0 := 116) (pc' := 120) rfl (hb hby at_116) (by decide) (by decide) ?_
    refine XS.iand X241.here hx rfl (hb hby at_120) rfl ?_
    exact kt
  rw [show ((1 : Int32) &&& (1 : Int32)) = (1 : Int32) from by decide] at pre244
  obtain ⟨cq246, kq246, q246a, q246b, q246c⟩ := isOf hZ e241 u207_0
  obtain ⟨_, _, ⟨T246, L246, k246, n246⟩, -, X246, ⟨Lc246, hQ246, l246, y246, z246⟩, st246⟩ := X241.virtualBack hx (y := oy2) (z := oy2) hown (mvT hZ (own_w hw 26 rfl)) (mvT hZ (own_w hw 27 rfl)) (notFace_of_selects (args := #[]) (mvT hZ (own_w hw 29 rfl))) (mvT hZ (own_w hw 29 rfl)) (mvT hZ (own_w hw 28 rfl)) (by decide) (backOf (W := 0) (rm_hasFree_14 l Z a0 hw [] b206 T207.heap n0 O207 u207_4 ) hZ (own_w hw 30 rfl) (own_w hw 6 rfl) (by decide) (by decide)) q246a q246c (g := (mkF m 191 (oL67 p0 p1 p2 b206) [(.ref b206)])) rfl (by rw [hml]; rfl) (Steps.refl _) (argsL := []) (rest := []) (lenOf pd___Z rfl) rfl (by show 2 * 0 + _ ≤ _; exact Nat.le_of_eq rfl) (hb hby at_191) (fun _ _ => ⟨rfl, e241, (by decide : 4 + 0 ≤ _), (by decide : 11 + 0 ≤ _)⟩)
  dsimp only [Pt.U, Pt.locs, Pt.cells, Pt.slots] at X246 l246 y246 z246 st246 hQ246
  subst l246 y246 z246
  obtain ⟨rfl, N246q, e246⟩ := hQ246
  have N246 := Fr.app N241 N246q
  have pre249 : ∀ t, oS p e below m T246 220 (oL29 p0 p1 p2 b206) [(.int ((1 : Int32) &&& (1 : Int32)))] t → oT p e below s₁ (entryFrame m #[(.int p0), (.int p1), (.int p2)] maxLocals) t := by
    intro t kt
    refine pre244 t ?_
    show oS p e below m T241 121 (oL40 p0 p1 p2 b206) [(.int 1)] _
    refine XS.istore X241.here hx rfl (hb hby at_121) rfl (l' := (oL40 p0 p1 p2 b206)) rfl ?_
    refine XS.iload X241.here hx rfl (hb hby at_123) rfl ?_
    show oS p e below m T241 125 (oL40 p0 p1 p2 b206) [(.int 0)] _
    refine XS.istore X241.here hx rfl (hb hby at_125) rfl (l' := (oL67 p0 p1 p2 b206)) rfl ?_
    refine XS.iload X241.here hx rfl (hb hby at_127) rfl ?_
    show oS p e below m T241 129 (oL67 p0 p1 p2 b206) [(.int 0)] _
    refine XS.iconst X241.here hx rfl (hb hby at_129) ?_
    refine XS.icmpYes X241.here hx rfl (pc0 := 130) (pc' := 189) rfl (hb hby at_130) rfl (tlt (by decide : (0 : Int32) < (1 : Int32))).1 (by decide) (by decide) ?_
    show oS p e below m T241 189 (oL67 p0 p1 p2 b206) [] _
    refine XS.aload X241.here hx rfl (hb hby at_189) rfl rfl ?_
    show oS p e below m T241 191 (oL67 p0 p1 p2 b206) [(.ref b206)] _
    refine st246.trans ?_
    show oS p e below m T246 194 (oL67 p0 p1 p2 b206) [(.int 1)] _
    refine XS.istore X246.here hx rfl (hb hby at_194) rfl (l' := (oL29 p0 p1 p2 b206)) rfl ?_
    refine XS.iload X246.here hx rfl (hb hby at_196) rfl ?_
    show oS p e below m T246 198 (oL29 p0 p1 p2 b206) [(.int 1)] _
    refine XS.iload X246.here hx rfl (hb hby at_198) rfl ?_
    refine XS.iload X246.here hx rfl (hb hby at_200) rfl ?_
    show oS p e below m T246 202 (oL29 p0 p1 p2 b206) [(.int 0), (.int 1), (.int 1)] _
    refine XS.iloadN X246.here hx rfl (hb hby at_202) rfl ?_
    refine XS.icmpNo X246.here hx rfl (hb hby at_203) rfl (tlt (by decide : (0 : Int32) < (2 : Int32))).2.1 ?_
    show oS p e below m T246 206 (oL29 p0 p1 p2 b206) [(.int 1), (.int 1)] _
    refine XS.iconst X246.here hx rfl (hb hby at_206) ?_
    refine XS.goto X246.here hx rfl (pc0 := 207) (pc' := 211) rfl (hb hby at_207) (by decide) (by decide) ?_
    show oS p e below m T246 211 (oL29 p0 p1 p2 b206) [(.int 1), (.int 1), (.int 1)] _
    refine XS.icmpNo X246.here hx rfl (hb hby at_211) rfl (teq (by decide : (1 : Int32) = (1 : Int32))).2 ?_
    refine XS.iconst X246.here hx rfl (hb hby at_214) ?_
    show oS p e below m T246 215 (oL29 p0 p1 p2 b206) [(.int 1), (.int 1)] _
    refine XS.goto X246.here hx rfl (pc0 := 215) (pc' := 219) rfl (hb hby at_215) (by decide) (by decide) ?_
    refine XS.iand X246.here hx rfl (hb hby at_219) rfl ?_
    exact kt
  rw [show ((1 : Int32) &&& (1 : Int32)) = (1 : Int32) from by decide] at pre249
  have pre250 : ∀ t, oS p e below m T246 224 (oL29 p0 p1 p2 b206) [(.int 1)] t → oT p e below s₁ (entryFrame m #[(.int p0), (.int p1), (.int p2)] maxLocals) t := by
    intro t kt
    refine pre249 t ?_
    show oS p e below m T246 220 (oL29 p0 p1 p2 b206) [(.int 1)] _
    refine XS.istore X246.here hx rfl (hb hby at_220) rfl (l' := (oL29 p0 p1 p2 b206)) rfl ?_
    refine XS.iload X246.here hx rfl (hb hby at_222) rfl ?_
    exact kt
  obtain ⟨fs, hr, hrun, hended, hW, hsame⟩ := X246.leave (v := some (.int 1)) (fun h => by rw [Bd.returns] at h; cases h)
  refine ⟨_, _, pre250 _ ?_, hrun, hended, _, _, rfl, ?_, ⟨_, rfl⟩, hW, hsame.mono (by decide) (by decide)⟩
  · show oS p e below m T246 224 (oL29 p0 p1 p2 b206) [(.int 1)] _
    exact retN X246 hx (t := .boolean) Bd.returns (by simp) (hb hby at_224) hr
  · show Q_rm0 Z p0 p1 p2 w_cache w_I1 cl_cache w_I4 w_I2 w_I3 h0 n0 _ T246.heap _
    rw [e246]
    exact ⟨rfl, N246⟩
  by_cases hb1 : (p1 &&& (3 : Int32)) = (1 : Int32)
  rw [hb1] at pre204
  obtain ⟨_, _, ⟨T251, L251, k251, n251⟩, -, X251, ⟨Lc251, hQ251, l251, y251, z251⟩, st251⟩ := Jvm.LawKit.callS X0 hx (y := oy0) hown (mvT hZ (own_w hw 0 rfl)) (mvT hZ (own_w hw 1 rfl)) (mvT hZ (own_w hw 2 rfl)) (mvT hZ (own_w hw 3 rfl)) (by decide) (backOf (W := 0) (rm_min l Z a0 hw [] (1 : Int32) (2 : Int32) (1 : Int32) h0 n0 (own_z O0) (by decide)) hZ (own_w hw 3 rfl) (own_w hw 2 rfl) (by decide) (by decide)) (g := (mkF m 12 (oL48 p0 p1 p2) [(.int 2), (.int 1)])) rfl (by rw [hml]; rfl) (argsL := [(.int 1), (.int 2)]) (rest := []) (lenOf pd__II_I rfl) rfl (by show 2 * 0 + _ ≤ _; exact Nat.le_of_eq rfl) (hb hby at_12) (fun _ _ => ⟨rfl, e0, (by decide : 0 + 0 ≤ _), (by decide : 0 + 0 ≤ _)⟩)
  dsimp only [Pt.U, Pt.locs, Pt.cells, Pt.slots] at X251 l251 y251 z251 st251 hQ251
  subst l251 y251 z251
  obtain ⟨rfl, N251q, e251⟩ := hQ251
  have N251 := Fr.app N0 N251q
  obtain ⟨T252, h252, X252, e252, E252, A252, D252, -, st252⟩ := newO X251 hx hZ hown (own_w hw 4 rfl) (own_w hw 5 rfl) (own_w hw 6 rfl) e251 (g := (mkF m 17 (oL68 p0 p1 p2) [])) rfl (hb hby at_17) (by decide) (by decide)
  obtain ⟨b252, g252⟩ : ∃ z, z = h0.size := ⟨_, rfl⟩
  have ge_b252 : n0 ≤ b252 := Nat.le_trans (own_z O0) (Nat.le_of_eq g252.symm)
  rw [← g252] at A252 D252 st252
  have O252 := O0.ext E252
  have E_b252 := A252
  have F_requests_b252 : Fld Z h252 b252 oc8 "requests" "[Ljava/lang/Object;" .null := D252 (Or.inr (own_w hw 17 rfl)) (ty := (.array (.object oc9))) (by decide)
  have F_sequences_b252 : Fld Z h252 b252 oc8 "sequences" "[J" .null := D252 (Or.inr (own_w hw 20 rfl)) (ty := (.array .long)) (by decide)
  have F_free_b252 : Fld Z h252 b252 oc8 "free" "[I" .null := D252 (Or.inr (own_w hw 23 rfl)) (ty := (.array .int)) (by decide)
  have F_freeCount_b252 : Fld Z h252 b252 oc8 "freeCount" "I" (.int 0) := D252 (Or.inl (own_w hw 25 rfl)) (ty := .int) (by decide)
  have F_lastSequence_b252 : Fld Z h252 b252 oc8 "lastSequence" "J" (.long 0) := D252 (Or.inl (own_w hw 44 rfl)) (ty := .long) (by decide)
  obtain ⟨_, _, ⟨T253, L253, k253, n253⟩, -, X253, ⟨Lc253, hQ253, l253, y253, z253⟩, st253⟩ := X252.specialBack hx (y := oy1) rfl hown (mvT hZ (own_w hw 7 rfl)) (mvT hZ (own_w hw 8 rfl)) (mvT hZ (own_w hw 9 rfl)) (by decide) (backOf (W := 1) (rm_init_13 l Z a0 hw [] b252 h252 n0 O252 E_b252 F_requests_b252 F_sequences_b252 F_free_b252 F_freeCount_b252 F_lastSequence_b252 ge_b252 ) hZ (own_w hw 9 rfl) (own_w hw 6 rfl) (by decide) (by decide)) (g := (mkF m 22 (oL68 p0 p1 p2) [(.int 2), (.ref b252), (.ref b252)])) rfl (by rw [hml]; rfl) (Steps.refl _) (a := b252) (argsL := [(.int 2)]) (rest := [(.ref b252)]) (lenOf pd__I_V rfl) rfl (by show 2 * 0 + _ ≤ _; exact Nat.le_of_eq rfl) (hb hby at_22) (fun _ _ => ⟨rfl, e252, (by decide : 1 + 3 ≤ _), (by decide : 5 + 6 ≤ _)⟩)
  dsimp only [Pt.U, Pt.locs, Pt.cells, Pt.slots] at X253 l253 y253 z253 st253 hQ253
  subst l253 y253 z253
  obtain ⟨b253_b211, b253_b213, b253_b215, kx253_k211, kx253_k213, kx253_k215, rfl, N253q, Kc253, u253_0, u253_1, u253_2, u253_3, u253_4, u253_5, u253_6, u253_7, u253_8, u253_9, u253_10, u253_11, u253_12, u253_13, u253_14, u253_15, u253_16, u253_17, u253_18⟩ := hQ253
  have N253 := Fr.app N251 N253q
  have ne_b252_b253_b211 : b252 ≠ b253_b211 := Nat.ne_of_lt (Nat.lt_of_lt_of_le E_b252.lt u253_9)
  have ne_b252_b253_b213 : b252 ≠ b253_b213 := Nat.ne_of_lt (Nat.lt_of_lt_of_le E_b252.lt u253_12)
  have ne_b252_b253_b215 : b252 ≠ b253_b215 := Nat.ne_of_lt (Nat.lt_of_lt_of_le E_b252.lt u253_15)
  have O253 := O252.keep Kc253 (allS ge_b252 all0)
  obtain ⟨cq254, kq254, q254a, q254b, q254c⟩ := isOf hZ rfl u253_0
  obtain ⟨_, _, ⟨T254, L254, k254, n254⟩, -, X254, ⟨Lc254, hQ254, l254, y254, z254⟩, st254⟩ := X253.virtualBack hx (y := oy2) (z := oy2) hown (mvT hZ (own_w hw 26 rfl)) (mvT hZ (own_w hw 27 rfl)) (notFace_of_selects (args := #[]) (mvT hZ (own_w hw 29 rfl))) (mvT hZ (own_w hw 29 rfl)) (mvT hZ (own_w hw 28 rfl)) (by decide) (backOf (W := 0) (rm_hasFree_14 l Z a0 hw [] b252 T253.heap n0 O253 u253_4 ) hZ (own_w hw 30 rfl) (own_w hw 6 rfl) (by decide) (by decide)) q254a q254c (g := (mkF m 29 #[iv p0, iv p1, iv p2, iv 2, iv 1, rv b252, .unset, .unset, .unset, .unset, .unset, .unset, .unset] [(.ref b252)])) rfl (by rw [hml]; rfl) (Steps.refl _) (argsL := []) (rest := []) (lenOf pd___Z rfl) rfl (by show 2 * 0 + _ ≤ _; exact Nat.le_of_eq rfl) (hb hby at_29) (fun _ _ => ⟨rfl, rfl, (by decide : 4 + 0 ≤ _), (by decide : 11 + 0 ≤ _)⟩)
  dsimp only [Pt.U, Pt.locs, Pt.cells, Pt.slots] at X254 l254 y254 z254 st254 hQ254
  subst l254 y254 z254
  obtain ⟨rfl, N254q, e254⟩ := hQ254
  have N254 := Fr.app N253 N254q
  obtain ⟨_, _, ⟨T256, L256, k256, n256⟩, -, X256, ⟨Lc256, hQ256, l256, y256, z256⟩, st256⟩ := Jvm.LawKit.callS X254 hx (y := oy3) hown (mvT hZ (own_w hw 31 rfl)) (mvT hZ (own_w hw 32 rfl)) (mvT hZ (own_w hw 33 rfl)) (mvT hZ (own_w hw 34 rfl)) (by decide) (backOf (W := 1) (rm_valueOf_3 l Z a0 hw [] w_cache w_I1 cl_cache T253.heap n0 O253  S_high S_cache AE_1 A_cache) hZ (own_w hw 34 rfl) (own_w hw 33 rfl) (by decide) (by decide)) (g := (mkF m 50 (oL56 p0 p1 p2 b252) [(.int 1), (.ref b252)])) rfl (by rw [hml]; rfl) (argsL := [(.int 1)]) (rest := [(.ref b252)]) (lenOf pd__I_Ljava_lang_Integer_ rfl) rfl (by show 2 * 0 + _ ≤ _; exact Nat.le_of_eq rfl) (hb hby at_50) (fun _ _ => ⟨rfl, e254, (by decide : 4 + 0 ≤ _), (by decide : 11 + 0 ≤ _)⟩)
  dsimp only [Pt.U, Pt.locs, Pt.cells, Pt.slots] at X256 l256 y256 z256 st256 hQ256
  subst l256 y256 z256
  obtain ⟨rfl, N256q, e256⟩ := hQ256
  have N256 := Fr.app N254 N256q
  obtain ⟨cq257, kq257, q257a, q257b, q257c⟩ := isOf hZ e256 u253_0
  obtain ⟨_, _, ⟨T257, L257, k257, n257⟩, -, X257, ⟨Lc257, hQ257, l257, y257, z257⟩, st257⟩ := X256.virtualBack hx (y := oy4) (z := oy4) hown (mvT hZ (own_w hw 38 rfl)) (mvT hZ (own_w hw 39 rfl)) (notFace_of_selects (args := #[]) (mvT hZ (own_w hw 41 rfl))) (mvT hZ (own_w hw 41 rfl)) (mvT hZ (own_w hw 40 rfl)) (by decide) (backOf (W := 0) (rm_take_15 l Z a0 hw [] b252 b253_b211 b253_b213 b253_b215 kx253_k211 kx253_k213 kx253_k215 w_I1 T253.heap n0 O253 u253_0 u253_1 u253_2 u253_3 u253_4 u253_5 ge_b252 u253_6 u253_7 u253_8 u253_10 u253_11 u253_13 u253_14 ne_b252_b253_b211 ne_b252_b253_b213 ne_b252_b253_b215 u253_16 u253_17 u253_18 E_I1) hZ (own_w hw 42 rfl) (own_w hw 6 rfl) (by decide) (by decide)) q257a q257c (g := (mkF m 53 (oL56 p0 p1 p2 b252) [(.ref w_I1), (.ref b252)])) rfl (by rw [hml]; rfl) (Steps.refl _) (argsL := [(.ref w_I1)]) (rest := []) (lenOf pd__Ljava_lang_Object__J rfl) rfl (by show 2 * 0 + _ ≤ _; exact Nat.le_of_eq rfl) (hb hby at_53) (fun _ _ => ⟨rfl, e256, (by decide : 4 + 0 ≤ _), (by decide : 11 + 0 ≤ _)⟩)
  dsimp only [Pt.U, Pt.locs, Pt.cells, Pt.slots] at X257 l257 y257 z257 st257 hQ257
  subst l257 y257 z257
  obtain ⟨rfl, N257q, Kc257, u257_0, u257_1, u257_2, u257_3, u257_4, u257_5, u257_6, u257_7⟩ := hQ257
  have N257 := Fr.app N256 N257q
  have u253_13 := u253_13.keep Kc257 (ninS (Ne.symm ne_b252_b253_b215) (ninS (Ne.symm u253_17) (ninS (Ne.symm u253_18) nin0)))
  have O257 := O253.keep Kc257 (allS ge_b252 (allS u253_8 (allS u253_11 all0)))
  obtain ⟨cq284, kq284, q284a, q284b, q284c⟩ := isOf hZ rfl u257_0
  obtain ⟨_, _, ⟨T284, L284, k284, n284⟩, -, X284, ⟨Lc284, hQ284, l284, y284, z284⟩, st284⟩ := X257.virtualBack hx (y := oy2) (z := oy2) hown (mvT hZ (own_w hw 26 rfl)) (mvT hZ (own_w hw 27 rfl)) (notFace_of_selects (args := #[]) (mvT hZ (own_w hw 29 rfl))) (mvT hZ (own_w hw 29 rfl)) (mvT hZ (own_w hw 28 rfl)) (by decide) (backOf (W := 0) (rm_hasFree_2 l Z a0 hw [] b252 T257.heap n0 O257 u257_4 ) hZ (own_w hw 30 rfl) (own_w hw 6 rfl) (by decide) (by decide)) q284a q284c (g := (mkF m 92 (oL57 p0 p1 p2 b252) [(.ref b252)])) rfl (by rw [hml]; rfl) (Steps.refl _) (argsL := []) (rest := []) (lenOf pd___Z rfl) rfl (by show 2 * 0 + _ ≤ _; exact Nat.le_of_eq rfl) (hb hby at_92) (fun _ _ => ⟨rfl, rfl, (by decide : 4 + 0 ≤ _), (by decide : 11 + 0 ≤ _)⟩)
  dsimp only [Pt.U, Pt.locs, Pt.cells, Pt.slots] at X284 l284 y284 z284 st284 hQ284
  subst l284 y284 z284
  obtain ⟨rfl, N284q, e284⟩ := hQ284
  have N284 := Fr.app N257 N284q
  have pre287 : ∀ t, oS p e below m T284 121 (oL41 p0 p1 p2 b252) [(.int ((1 : Int32) &&& (1 : Int32)))] t → oT p e below s₁ (entryFrame m #[(.int p0), (.int p1), (.int p2)] maxLocals) t := by
    intro t kt
    refine pre204 t ?_
    show oS p e below m s₁ 12 (oL48 p0 p1 p2) [(.int 2), (.int 1)] _
    refine st251 _ ?_
    show oS p e below m T251 15 (oL48 p0 p1 p2) [(.int 1)] _
    refine XS.istore X251.here hx rfl (hb hby at_15) rfl (l' := (oL68 p0 p1 p2)) rfl ?_
    show oS p e below m T251 17 (oL68 p0 p1 p2) [] _
    refine st252 _ ?_
    show oS p e below m T252 20 (oL68 p0 p1 p2) [(.ref b252)] _
    refine XS.dup X252.here hx rfl (hb hby at_20) rfl rfl ?_
    refine XS.iloadN X252.here hx rfl (hb hby at_21) rfl ?_
    show oS p e below m T252 22 (oL68 p0 p1 p2) [(.int 2), (.ref b252), (.ref b252)] _
    refine st253.trans ?_
    show oS p e below m T253 25 (oL68 p0 p1 p2) [(.ref b252)] _
    refine XS.astore X253.here hx rfl (hb hby at_25) rfl rfl (l' := #[iv p0, iv p1, iv p2, iv 2, iv 1, rv b252, .unset, .unset, .unset, .unset, .unset, .unset, .unset]) rfl ?_
    refine XS.aload X253.here hx rfl (hb hby at_27) rfl rfl ?_
    show oS p e below m T253 29 #[iv p0, iv p1, iv p2, iv 2, iv 1, rv b252, .unset, .unset, .unset, .unset, .unset, .unset, .unset] [(.ref b252)] _
    refine st254.trans ?_
    show oS p e below m T254 32 #[iv p0, iv p1, iv p2, iv 2, iv 1, rv b252, .unset, .unset, .unset, .unset, .unset, .unset, .unset] [(.int 1)] _
    refine XS.istore X254.here hx rfl (hb hby at_32) rfl (l' := #[iv p0, iv p1, iv p2, iv 2, iv 1, rv b252, iv 1, .unset, .unset, .unset, .unset, .unset, .unset]) rfl ?_
    refine XS.iload X254.here hx rfl (hb hby at_34) rfl ?_
    show oS p e below m T254 36 #[iv p0, iv p1, iv p2, iv 2, iv 1, rv b252, iv 1, .unset, .unset, .unset, .unset, .unset, .unset] [(.int 1)] _
    refine XS.istore X254.here hx rfl (hb hby at_36) rfl (l' := #[iv p0, iv p1, iv p2, iv 2, iv 1, rv b252, iv 1, iv 1, .unset, .unset, .unset, .unset, .unset]) rfl ?_
    refine XS.lconst X254.here hx rfl (hb hby at_38) ?_
    show oS p e below m T254 39 #[iv p0, iv p1, iv p2, iv 2, iv 1, rv b252, iv 1, iv 1, .unset, .unset, .unset, .unset, .unset] [(.long 0)] _
    refine XS.lstore X254.here hx rfl (hb hby at_39) rfl (l' := (oL56 p0 p1 p2 b252)) rfl ?_
    refine XS.iload X254.here hx rfl (hb hby at_41) rfl ?_
    show oS p e below m T254 43 (oL56 p0 p1 p2 b252) [(.int 1)] _
    refine XS.iconst X254.here hx rfl (hb hby at_43) ?_
    refine XS.icmpNo X254.here hx rfl (hb hby at_44) rfl (flt (by decide : ¬ ((1 : Int32) < (1 : Int32)))).1 ?_
    show oS p e below m T254 47 (oL56 p0 p1 p2 b252) [] _
    refine XS.aload X254.here hx rfl (hb hby at_47) rfl rfl ?_
    refine XS.iconst X254.here hx rfl (hb hby at_49) ?_
    show oS p e below m T254 50 (oL56 p0 p1 p2 b252) [(.int 1), (.ref b252)] _
    refine st256 _ ?_
    show oS p e below m T256 53 (oL56 p0 p1 p2 b252) [(.ref w_I1), (.ref b252)] _
    refine st257.trans ?_
    show oS p e below m T257 56 (oL56 p0 p1 p2 b252) [(.long 1048576)] _
    refine XS.lstore X257.here hx rfl (hb hby at_56) rfl (l' := (oL57 p0 p1 p2 b252)) rfl ?_
    refine XS.iload X257.here hx rfl (hb hby at_58) rfl ?_
    show oS p e below m T257 60 (oL57 p0 p1 p2 b252) [(.int 1)] _
    refine XS.iconst X257.here hx rfl (hb hby at_60) ?_
    refine XS.icmpYes X257.here hx rfl (pc0 := 61) (pc' := 74) rfl (hb hby at_61) rfl (tlt (by decide : (1 : Int32) < (2 : Int32))).1 (by decide) (by decide) ?_
    show oS p e below m T257 74 (oL57 p0 p1 p2 b252) [] _
    refine XS.iload X257.here hx rfl (hb hby at_74) rfl ?_
    refine XS.iconst X257.here hx rfl (hb hby at_76) ?_
    show oS p e below m T257 77 (oL57 p0 p1 p2 b252) [(.int 3), (.int 1)] _
    refine XS.icmpYes X257.here hx rfl (pc0 := 77) (pc' := 90) rfl (hb hby at_77) rfl (tlt (by decide : (1 : Int32) < (3 : Int32))).1 (by decide) (by decide) ?_
    refine XS.aload X257.here hx rfl (hb hby at_90) rfl rfl ?_
    show oS p e below m T257 92 (oL57 p0 p1 p2 b252) [(.ref b252)] _
    refine st284.trans ?_
    show oS p e below m T284 95 (oL57 p0 p1 p2 b252) [(.int 1)] _
    refine XS.istore X284.here hx rfl (hb hby at_95) rfl (l' := (oL41 p0 p1 p2 b252)) rfl ?_
    refine XS.iload X284.here hx rfl (hb hby at_97) rfl ?_
    show oS p e below m T284 99 (oL41 p0 p1 p2 b252) [(.int 1)] _
    refine XS.iload X284.here hx rfl (hb hby at_99) rfl ?_
    refine XS.iload X284.here hx rfl (hb hby at_101) rfl ?_
    show oS p e below m T284 103 (oL41 p0 p1 p2 b252) [(.int 1), (.int 1), (.int 1)] _
    refine XS.iloadN X284.here hx rfl (hb hby at_103) rfl ?_
    refine XS.icmpNo X284.here hx rfl (hb hby at_104) rfl (tlt (by decide : (1 : Int32) < (2 : Int32))).2.1 ?_
    show oS p e below m T284 107 (oL41 p0 p1 p2 b252) [(.int 1), (.int 1)] _
    refine XS.iconst X284.here hx rfl (hb hby at_107) ?_
    refine XS.goto X284.here hx rfl (pc0 := 108) (pc' := 112) rfl (hb hby at_108) (by decide) (by decide) ?_
    show oS p e below m T284 112 (oL41 p0 p1 p2 b252) [(.int 1), (.int 1), (.int 1)] _
    refine XS.icmpNo X284.here hx rfl (hb hby at_112) rfl (teq (by decide : (1 : Int32) = (1 : Int32))).2 ?_
    refine XS.iconst X284.here hx rfl (hb hby at_115) ?_
    show oS p e below m T284 116 (oL41 p0 p1 p2 b252) [(.int 1), (.int 1)] _
    refine XS.goto X284.here hx rfl (pc0 := 116) (pc' := 120) rfl (hb hby at_116) (by decide) (by decide) ?_
    refine XS.iand X284.here hx rfl (hb hby at_120) rfl ?_
    exact kt
  rw [show ((1 : Int32) &&& (1 : Int32)) = (1 : Int32) from by decide] at pre287
  have pre290 : ∀ t, oS p e below m T284 136 (oL21 p0 p1 p2 b252) [(.int (p2 &&& (1 : Int32)))] t → oT p e below s₁ (entryFrame m #[(.int p0), (.int p1), (.int p2)] maxLocals) t := by
    intro t kt
    refine pre287 t ?_
    show oS p e below m T284 121 (oL41 p0 p1 p2 b252) [(.int 1)] _
    refine XS.istore X284.here hx rfl (hb hby at_121) rfl (l' := (oL41 p0 p1 p2 b252)) rfl ?_
    refine XS.iload X284.here hx rfl (hb hby at_123) rfl ?_
    show oS p e below m T284 125 (oL41 p0 p1 p2 b252) [(.int 1)] _
    refine XS.istore X284.here hx rfl (hb hby at_125) rfl (l' := (oL21 p0 p1 p2 b252)) rfl ?_
    refine XS.iload X284.here hx rfl (hb hby at_127) rfl ?_
    show oS p e below m T284 129 (oL21 p0 p1 p2 b252) [(.int 1)] _
    refine XS.iconst X284.here hx rfl (hb hby at_129) ?_
    refine XS.icmpNo X284.here hx rfl (hb hby at_130) rfl (flt (by decide : ¬ ((1 : Int32) < (1 : Int32)))).1 ?_
    show oS p e below m T284 133 (oL21 p0 p1 p2 b252) [] _
    refine XS.iloadN X284.here hx rfl (hb hby at_133) rfl ?_
    refine XS.iconst X284.here hx rfl (hb hby at_134) ?_
    show oS p e below m T284 135 (oL21 p0 p1 p2 b252) [(.int 1), (.int p2)] _
    refine XS.iand X284.here hx rfl (hb hby at_135) rfl ?_
    exact kt
  by_cases hc136_289 : (p2 &&& (1 : Int32)) = (0 : Int32)
  obtain ⟨cq291, kq291, q291a, q291b, q291c⟩ := isOf hZ e284 u257_0
  obtain ⟨_, _, ⟨T291, L291, k291, n291⟩, -, X291, ⟨Lc291, hQ291, l291, y291, z291⟩, st291⟩ := X284.virtualBack hx (y := oy2) (z := oy2) hown (mvT hZ (own_w hw 26 rfl)) (mvT hZ (own_w hw 27 rfl)) (notFace_of_selects (args := #[]) (mvT hZ (own_w hw 29 rfl))) (mvT hZ (own_w hw 29 rfl)) (mvT hZ (own_w hw 28 rfl)) (by decide) (backOf (W := 0) (rm_hasFree_2 l Z a0 hw [] b252 T257.heap n0 O257 u257_4 ) hZ (own_w hw 30 rfl) (own_w hw 6 rfl) (by decide) (by decide)) q291a q291c (g := (mkF m 191 (oL21 p0 p1 p2 b252) [(.ref b252)])) rfl (by rw [hml]; rfl) (Steps.refl _) (argsL := []) (rest := []) (lenOf pd___Z rfl) rfl (by show 2 * 0 + _ ≤ _; exact Nat.le_of_eq rfl) (hb hby at_191) (fun _ _ => ⟨rfl, e284, (by decide : 4 + 0 ≤ _), (by decide : 11 + 0 ≤ _)⟩)
  dsimp only [Pt.U, Pt.locs, Pt.cells, Pt.slots] at X291 l291 y291 z291 st291 hQ291
  subst l291 y291 z291
  obtain ⟨rfl, N291q, e291⟩ := hQ291
  have N291 := Fr.app N284 N291q
  have pre294 : ∀ t, oS p e below m T291 220 (oL14 p0 p1 p2 b252) [(.int ((1 : Int32) &&& (1 : Int32)))] t → oT p e below s₁ (entryFrame m #[(.int p0), (.int p1), (.int p2)] maxLocals) t := by
    intro t kt
    refine pre290 t ?_
    show oS p e below m T284 136 (oL21 p0 p1 p2 b252) [(.int (p2 &&& (1 : Int32)))] _
    refine XS.ifYes X284.here hx rfl (pc0 := 136) (pc' := 189) rfl (hb hby at_136) rfl ((if0 _ _).trans (teq hc136_289).1) (by decide) (by decide) ?_
    refine XS.aload X284.here hx rfl (hb hby at_189) rfl rfl ?_
    show oS p e below m T284 191 (oL21 p0 p1 p2 b252) [(.ref b252)] _
    refine st291.trans ?_
    show oS p e below m T291 194 (oL21 p0 p1 p2 b252) [(.int 1)] _
    refine XS.istore X291.here hx rfl (hb hby at_194) rfl (l' := (oL14 p0 p1 p2 b252)) rfl ?_
    refine XS.iload X291.here hx rfl (hb hby at_196) rfl ?_
    show oS p e below m T291 198 (oL14 p0 p1 p2 b252) [(.int 1)] _
    refine XS.iload X291.here hx rfl (hb hby at_198) rfl ?_
    refine XS.iload X291.here hx rfl (hb hby at_200) rfl ?_
    show oS p e below m T291 202 (oL14 p0 p1 p2 b252) [(.int 1), (.int 1), (.int 1)] _
    refine XS.iloadN X291.here hx rfl (hb hby at_202) rfl ?_
    refine XS.icmpNo X291.here hx rfl (hb hby at_203) rfl (tlt (by decide : (1 : Int32) < (2 : Int32))).2.1 ?_
    show oS p e below m T291 206 (oL14 p0 p1 p2 b252) [(.int 1), (.int 1)] _
    refine XS.iconst X291.here hx rfl (hb hby at_206) ?_
    refine XS.goto X291.here hx rfl (pc0 := 207) (pc' := 211) rfl (hb hby at_207) (by decide) (by decide) ?_
    show oS p e below m T291 211 (oL14 p0 p1 p2 b252) [(.int 1), (.int 1), (.int 1)] _
    refine XS.icmpNo X291.here hx rfl (hb hby at_211) rfl (teq (by decide : (1 : Int32) = (1 : Int32))).2 ?_
    refine XS.iconst X291.here hx rfl (hb hby at_214) ?_
    show oS p e below m T291 215 (oL14 p0 p1 p2 b252) [(.int 1), (.int 1)] _
    refine XS.goto X291.here hx rfl (pc0 := 215) (pc' := 219) rfl (hb hby at_215) (by decide) (by decide) ?_
    refine XS.iand X291.here hx rfl (hb hby at_219) rfl ?_
    exact kt
  rw [show ((1 : Int32) &&& (1 : Int32)) = (1 : Int32) from by decide] at pre294
  have pre295 : ∀ t, oS p e below m T291 224 (oL14 p0 p1 p2 b252) [(.int 1)] t → oT p e below s₁ (entryFrame m #[(.int p0), (.int p1), (.int p2)] maxLocals) t := by
    intro t kt
    refine pre294 t ?_
    show oS p e below m T291 220 (oL14 p0 p1 p2 b252) [(.int 1)] _
    refine XS.istore X291.here hx rfl (hb hby at_220) rfl (l' := (oL14 p0 p1 p2 b252)) rfl ?_
    refine XS.iload X291.here hx rfl (hb hby at_222) rfl ?_
    exact kt
  obtain ⟨fs, hr, hrun, hended, hW, hsame⟩ := X291.leave (v := some (.int 1)) (fun h => by rw [Bd.returns] at h; cases h)
  refine ⟨_, _, pre295 _ ?_, hrun, hended, _, _, rfl, ?_, ⟨_, rfl⟩, hW, hsame.mono (by decide) (by decide)⟩
  · show oS p e below m T291 224 (oL14 p0 p1 p2 b252) [(.int 1)] _
    exact retN X291 hx (t := .boolean) Bd.returns (by simp) (hb hby at_224) hr
  · show Q_rm0 Z p0 p1 p2 w_cache w_I1 cl_cache w_I4 w_I2 w_I3 h0 n0 _ T291.heap _
    rw [e291]
    exact ⟨rfl, N291⟩
  obtain ⟨cq296, kq296, q296a, q296b, q296c⟩ := isOf hZ e284 u257_0
  obtain ⟨_, _, ⟨T296, L296, k296, n296⟩, -, X296, ⟨Lc296, hQ296, l296, y296, z296⟩, st296⟩ := X284.virtualBack hx (y := oy5) (z := oy5) hown (mvT hZ (own_w hw 47 rfl)) (mvT hZ (own_w hw 48 rfl)) (notFace_of_selects (args := #[]) (mvT hZ (own_w hw 50 rfl))) (mvT hZ (own_w hw 50 rfl)) (mvT hZ (own_w hw 49 rfl)) (by decide) (backOf (W := 0) (rm_release_16 l Z a0 hw [] b252 b253_b211 b253_b213 b253_b215 kx253_k211 kx253_k213 kx253_k215 w_I1 T257.heap n0 O257 u257_0 u257_1 u257_2 u257_3 u257_4 u257_5 ge_b252 u253_7 u257_6 u253_8 u257_7 u253_11 u253_13 u253_14 ne_b252_b253_b211 ne_b252_b253_b213 ne_b252_b253_b215 u253_16 u253_17 u253_18 ) hZ (own_w hw 51 rfl) (own_w hw 6 rfl) (by decide) (by decide)) q296a q296c (g := (mkF m 143 (oL21 p0 p1 p2 b252) [(.long 1048576), (.ref b252)])) rfl (by rw [hml]; rfl) (Steps.refl _) (argsL := [(.long 1048576)]) (rest := []) (lenOf pd__J_Ljava_lang_Object_ rfl) rfl (by show 2 * 0 + _ ≤ _; exact Nat.le_of_eq rfl) (hb hby at_143) (fun _ _ => ⟨rfl, e284, (by decide : 4 + 0 ≤ _), (by decide : 11 + 0 ≤ _)⟩)
  dsimp only [Pt.U, Pt.locs, Pt.cells, Pt.slots] at X296 l296 y296 z296 st296 hQ296
  subst l296 y296 z296
  obtain ⟨rfl, N296q, Kc296, u296_0, u296_1, u296_2, u296_3, u296_4, u296_5, u296_6, u296_7, u296_8⟩ := hQ296
  have N296 := Fr.app N284 N296q
  have O296 := O257.keep Kc296 (allS u253_14 (allS ge_b252 (allS u253_11 (allS u253_8 all0))))
  have pre329 : ∀ t, oS p e below m T296 151 (oL21 p0 p1 p2 b252) [(.int ((1 : Int32) - (1 : Int32)))] t → oT p e below s₁ (entryFrame m #[(.int p0), (.int p1), (.int p2)] maxLocals) t := by
    intro t kt
    refine pre290 t ?_
    show oS p e below m T284 136 (oL21 p0 p1 p2 b252) [(.int (p2 &&& (1 : Int32)))] _
    refine XS.ifNo X284.here hx rfl (hb hby at_136) rfl ((if0 _ _).trans (feq hc136_289).1) ?_
    refine XS.aload X284.here hx rfl (hb hby at_139) rfl rfl ?_
    show oS p e below m T284 141 (oL21 p0 p1 p2 b252) [(.ref b252)] _
    refine XS.lload X284.here hx rfl (hb hby at_141) rfl ?_
    show oS p e below m T284 143 (oL21 p0 p1 p2 b252) [(.long 1048576), (.ref b252)] _
    refine st296.trans ?_
    show oS p e below m T296 146 (oL21 p0 p1 p2 b252) [(.ref w_I1)] _
    refine XS.pop X296.here hx rfl (hb hby at_146) rfl rfl ?_
    refine XS.iload X296.here hx rfl (hb hby at_147) rfl ?_
    show oS p e below m T296 149 (oL21 p0 p1 p2 b252) [(.int 1)] _
    refine XS.iconst X296.here hx rfl (hb hby at_149) ?_
    refine XS.isub X296.here hx rfl (hb hby at_150) rfl ?_
    exact kt
  rw [show ((1 : Int32) - (1 : Int32)) = (0 : Int32) from by decide] at pre329
  have pre330 : ∀ t, oS p e below m T296 156 (oL7 p0 p1 p2 b252) [(.int (p2 &&& (2 : Int32)))] t → oT p e below s₁ (entryFrame m #[(.int p0), (.int p1), (.int p2)] maxLocals) t := by
    intro t kt
    refine pre329 t ?_
    show oS p e below m T296 151 (oL21 p0 p1 p2 b252) [(.int 0)] _
    refine XS.istore X296.here hx rfl (hb hby at_151) rfl (l' := (oL7 p0 p1 p2 b252)) rfl ?_
    refine XS.iloadN X296.here hx rfl (hb hby at_153) rfl ?_
    show oS p e below m T296 154 (oL7 p0 p1 p2 b252) [(.int p2)] _
    refine XS.iconst X296.here hx rfl (hb hby at_154) ?_
    refine XS.iand X296.here hx rfl (hb hby at_155) rfl ?_
    exact kt
  have tail167_331 : ∀ (T : State) (locs : List Loc) (h : Heap) (X : Stand p l e room_1 s m #[(.int p0), (.int p1), (.int p2)] below meth c T locs 4 11) (eT : T.heap = h) (Nn : Fr n0 locs) (On : Old Z n0 h) (v331_0 : Arv Z h b253_b215 kx253_k215 .int (2 : Int32) [(.int 1), (.int 0)] (.int 0)) (e331_1 : Exa Z h b252 oc8) (f331_2 : Fld Z h b252 oc8 "requests" "[Ljava/lang/Object;" (.ref b253_b211)) (f331_3 : Fld Z h b252 oc8 "sequences" "[J" (.ref b253_b213)) (f331_4 : Fld Z h b252 oc8 "free" "[I" (.ref b253_b215)) (f331_5 : Fld Z h b252 oc8 "freeCount" "I" (.int 2)) (f331_6 : Fld Z h b252 oc8 "lastSequence" "J" (.long 1)) (v331_7 : Arv Z h b253_b213 kx253_k213 .long (2 : Int32) [(.long 0), (.long 0)] (.long 0)) (v331_8 : Arv Z h b253_b211 kx253_k211 (.object oc9) (2 : Int32) [.null, .null] .null), ∃ s₂ o, Steps p.tables e below (T.setTop (mkF m 167 (oL7 p0 p1 p2 b252) [])) s₂ ∧ s₂.status = .running ∧ Ended s₂ below o ∧ ∃ v L, o = .returned v ∧ Q_rm0 Z p0 p1 p2 w_cache w_I1 cl_cache w_I4 w_I2 w_I3 h0 n0 v s₂.heap L ∧ FrameEnd s o s₂ L room_1.cells room_1.slots := by
    intro T locs h X eT Nn On v331_0 e331_1 f331_2 f331_3 f331_4 f331_5 f331_6 v331_7 v331_8
    have pre332 : ∀ t, oS p e below m T 167 (oL7 p0 p1 p2 b252) [] t → oT p e below T (mkF m 167 (oL7 p0 p1 p2 b252) []) t := fun t k => k
    have pre334 : ∀ t, oS p e below m T 170 (oL7 p0 p1 p2 b252) [(.int (p2 &&& (4 : Int32)))] t → oT p e below T (mkF m 167 (oL7 p0 p1 p2 b252) []) t := by
      intro t kt
      refine pre332 t ?_
      show oS p e below m T 167 (oL7 p0 p1 p2 b252) [] _
      refine XS.iloadN X.here hx rfl (hb hby at_167) rfl ?_
      refine XS.iconst X.here hx rfl (hb hby at_168) ?_
      show oS p e below m T 169 (oL7 p0 p1 p2 b252) [(.int 4), (.int p2)] _
      refine XS.iand X.here hx rfl (hb hby at_169) rfl ?_
      exact kt
    by_cases hc170_333 : (p2 &&& (4 : Int32)) = (0 : Int32)
    obtain ⟨cq335, kq335, q335a, q335b, q335c⟩ := isOf hZ eT e331_1
    obtain ⟨_, _, ⟨T335, L335, k335, n335⟩, -, X335, ⟨Lc335, hQ335, l335, y335, z335⟩, st335⟩ := X.virtualBack hx (y := oy2) (z := oy2) hown (mvT hZ (own_w hw 26 rfl)) (mvT hZ (own_w hw 27 rfl)) (notFace_of_selects (args := #[]) (mvT hZ (own_w hw 29 rfl))) (mvT hZ (own_w hw 29 rfl)) (mvT hZ (own_w hw 28 rfl)) (by decide) (backOf (W := 0) (rm_hasFree_14 l Z a0 hw [] b252 h n0 On f331_5 ) hZ (own_w hw 30 rfl) (own_w hw 6 rfl) (by decide) (by decide)) q335a q335c (g := (mkF m 191 (oL7 p0 p1 p2 b252) [(.ref b252)])) rfl (by rw [hml]; rfl) (Steps.refl _) (argsL := []) (rest := []) (lenOf pd___Z rfl) rfl (by show 2 * 0 + _ ≤ _; exact Nat.le_of_eq rfl) (hb hby at_191) (fun _ _ => ⟨rfl, eT, (by decide : 4 + 0 ≤ _), (by decide : 11 + 0 ≤ _)⟩)
    dsimp only [Pt.U, Pt.locs, Pt.cells, Pt.slots] at X335 l335 y335 z335 st335 hQ335
    subst l335 y335 z335
    obtain ⟨rfl, N335q, e335⟩ := hQ335
    have N335 := Fr.app Nn N335q
    have pre338 : ∀ t, oS p e below m T335 220 (oL30 p0 p1 p2 b252) [(.int ((1 : Int32) &&& (1 : Int32)))] t → oT p e below T (mkF m 167 (oL7 p0 p1 p2 b252) []) t := by
      intro t kt
      refine pre334 t ?_
      show oS p e below m T 170 (oL7 p0 p1 p2 b252) [(.int (p2 &&& (4 : Int32)))] _
      refine XS.ifYes X.here hx rfl (pc0 := 170) (pc' := 189) rfl (hb hby at_170) rfl ((if0 _ _).trans (teq hc170_333).1) (by decide) (by decide) ?_
      refine XS.aload X.here hx rfl (hb hby at_189) rfl rfl ?_
      show oS p e below m T 191 (oL7 p0 p1 p2 b252) [(.ref b252)] _
      refine st335.trans ?_
      show oS p e below m T335 194 (oL7 p0 p1 p2 b252) [(.int 1)] _
      refine XS.istore X335.here hx rfl (hb hby at_194) rfl (l' := (oL30 p0 p1 p2 b252)) rfl ?_
      refine XS.iload X335.here hx rfl (hb hby at_196) rfl ?_
      show oS p e below m T335 198 (oL30 p0 p1 p2 b252) [(.int 1)] _
      refine XS.iload X335.here hx rfl (hb hby at_198) rfl ?_
      refine XS.iload X335.here hx rfl (hb hby at_200) rfl ?_
      show oS p e below m T335 202 (oL30 p0 p1 p2 b252) [(.int 0), (.int 1), (.int 1)] _
      refine XS.iloadN X335.here hx rfl (hb hby at_202) rfl ?_
      refine XS.icmpNo X335.here hx rfl (hb hby at_203) rfl (tlt (by decide : (0 : Int32) < (2 : Int32))).2.1 ?_
      show oS p e below m T335 206 (oL30 p0 p1 p2 b252) [(.int 1), (.int 1)] _
      refine XS.iconst X335.here hx rfl (hb hby at_206) ?_
      refine XS.goto X335.here hx rfl (pc0 := 207) (pc' := 211) rfl (hb hby at_207) (by decide) (by decide) ?_
      show oS p e below m T335 211 (oL30 p0 p1 p2 b252) [(.int 1), (.int 1), (.int 1)] _
      refine XS.icmpNo X335.here hx rfl (hb hby at_211) rfl (teq (by decide : (1 : Int32) = (1 : Int32))).2 ?_
      refine XS.iconst X335.here hx rfl (hb hby at_214) ?_
      show oS p e below m T335 215 (oL30 p0 p1 p2 b252) [(.int 1), (.int 1)] _
      refine XS.goto X335.here hx rfl (pc0 := 215) (pc' := 219) rfl (hb hby at_215) (by decide) (by decide) ?_
      refine XS.iand X335.here hx rfl (hb hby at_219) rfl ?_
      exact kt
    rw [show ((1 : Int32) &&& (1 : Int32)) = (1 : Int32) from by decide] at pre338
    have pre339 : ∀ t, oS p e below m T335 224 (oL30 p0 p1 p2 b252) [(.int 1)] t → oT p e below T (mkF m 167 (oL7 p0 p1 p2 b252) []) t := by
      intro t kt
      refine pre338 t ?_
      show oS p e below m T335 220 (oL30 p0 p1 p2 b252) [(.int 1)] _
      refine XS.istore X335.here hx rfl (hb hby at_220) rfl (l' := (oL30 p0 p1 p2 b252)) rfl ?_
      refine XS.iload X335.here hx rfl (hb hby at_222) rfl ?_
      exact kt
    obtain ⟨fs, hr, hrun, hended, hW, hsame⟩ := X335.leave (v := some (.int 1)) (fun h => by rw [Bd.returns] at h; cases h)
    refine ⟨_, _, pre339 _ ?_, hrun, hended, _, _, rfl, ?_, ⟨_, rfl⟩, hW, hsame.mono (by decide) (by decide)⟩
    · show oS p e below m T335 224 (oL30 p0 p1 p2 b252) [(.int 1)] _
      exact retN X335 hx (t := .boolean) Bd.returns (by simp) (hb hby at_224) hr
    · show Q_rm0 Z p0 p1 p2 w_cache w_I1 cl_cache w_I4 w_I2 w_I3 h0 n0 _ T335.heap _
      rw [e335]
      exact ⟨rfl, N335⟩
    obtain ⟨_, _, ⟨T340, L340, k340, n340⟩, -, X340, ⟨Lc340, hQ340, l340, y340, z340⟩, st340⟩ := Jvm.LawKit.callS X hx (y := oy3) hown (mvT hZ (own_w hw 31 rfl)) (mvT hZ (own_w hw 32 rfl)) (mvT hZ (own_w hw 33 rfl)) (mvT hZ (own_w hw 34 rfl)) (by decide) (backOf (W := 1) (rm_valueOf_9 l Z a0 hw [] w_cache cl_cache w_I4 h n0 On  S_high S_cache AE_4 A_cache) hZ (own_w hw 34 rfl) (own_w hw 33 rfl) (by decide) (by decide)) (g := (mkF m 176 (oL7 p0 p1 p2 b252) [(.int 4), (.ref b252)])) rfl (by rw [hml]; rfl) (argsL := [(.int 4)]) (rest := [(.ref b252)]) (lenOf pd__I_Ljava_lang_Integer_ rfl) rfl (by show 2 * 0 + _ ≤ _; exact Nat.le_of_eq rfl) (hb hby at_176) (fun _ _ => ⟨rfl, eT, (by decide : 4 + 0 ≤ _), (by decide : 11 + 0 ≤ _)⟩)
    dsimp only [Pt.U, Pt.locs, Pt.cells, Pt.slots] at X340 l340 y340 z340 st340 hQ340
    subst l340 y340 z340
    obtain ⟨rfl, N340q, e340⟩ := hQ340
    have N340 := Fr.app Nn N340q
    obtain ⟨cq341, kq341, q341a, q341b, q341c⟩ := isOf hZ e340 e331_1
    obtain ⟨_, _, ⟨T341, L341, k341, n341⟩, -, X341, ⟨Lc341, hQ341, l341, y341, z341⟩, st341⟩ := X340.virtualBack hx (y := oy4) (z := oy4) hown (mvT hZ (own_w hw 38 rfl)) (mvT hZ (own_w hw 39 rfl)) (notFace_of_selects (args := #[]) (mvT hZ (own_w hw 41 rfl))) (mvT hZ (own_w hw 41 rfl)) (mvT hZ (own_w hw 40 rfl)) (by decide) (backOf (W := 0) (rm_take_19 l Z a0 hw [] b252 b253_b211 b253_b213 b253_b215 kx253_k211 kx253_k213 kx253_k215 w_I4 h n0 On e331_1 f331_2 f331_3 f331_4 f331_5 f331_6 ge_b252 u253_7 v331_8 u253_8 v331_7 u253_11 v331_0 u253_14 ne_b252_b253_b211 ne_b252_b253_b213 ne_b252_b253_b215 u253_16 u253_17 u253_18 E_I4) hZ (own_w hw 42 rfl) (own_w hw 6 rfl) (by decide) (by decide)) q341a q341c (g := (mkF m 179 (oL7 p0 p1 p2 b252) [(.ref w_I4), (.ref b252)])) rfl (by rw [hml]; rfl) (Steps.refl _) (argsL := [(.ref w_I4)]) (rest := []) (lenOf pd__Ljava_lang_Object__J rfl) rfl (by show 2 * 0 + _ ≤ _; exact Nat.le_of_eq rfl) (hb hby at_179) (fun _ _ => ⟨rfl, e340, (by decide : 4 + 0 ≤ _), (by decide : 11 + 0 ≤ _)⟩)
    dsimp only [Pt.U, Pt.locs, Pt.cells, Pt.slots] at X341 l341 y341 z341 st341 hQ341
    subst l341 y341 z341
    obtain ⟨rfl, N341q, Kc341, u341_0, u341_1, u341_2, u341_3, u341_4, u341_5, u341_6, u341_7⟩ := hQ341
    have N341 := Fr.app N340 N341q
    have v331_0 := v331_0.keep Kc341 (ninS (Ne.symm ne_b252_b253_b215) (ninS (Ne.symm u253_17) (ninS (Ne.symm u253_18) nin0)))
    have O341 := On.keep Kc341 (allS ge_b252 (allS u253_8 (allS u253_11 all0)))
    have pre366 : ∀ t, oS p e below m T341 187 (oL7 p0 p1 p2 b252) [(.int ((0 : Int32) + (1 : Int32)))] t → oT p e below T (mkF m 167 (oL7 p0 p1 p2 b252) []) t := by
      intro t kt
      refine pre334 t ?_
      show oS p e below m T 170 (oL7 p0 p1 p2 b252) [(.int (p2 &&& (4 : Int32)))] _
      refine XS.ifNo X.here hx rfl (hb hby at_170) rfl ((if0 _ _).trans (feq hc170_333).1) ?_
      refine XS.aload X.here hx rfl (hb hby at_173) rfl rfl ?_
      show oS p e below m T 175 (oL7 p0 p1 p2 b252) [(.ref b252)] _
      refine XS.iconst X.here hx rfl (hb hby at_175) ?_
      show oS p e below m T 176 (oL7 p0 p1 p2 b252) [(.int 4), (.ref b252)] _
      refine st340 _ ?_
      show oS p e below m T340 179 (oL7 p0 p1 p2 b252) [(.ref w_I4), (.ref b252)] _
      refine st341.trans ?_
      show oS p e below m T341 182 (oL7 p0 p1 p2 b252) [(.long 2097152)] _
      jvm_step X341.here [X341.here.top, hx, (hb hby at_182), Value.category]
      show oS p e below m T341 183 (oL7 p0 p1 p2 b252) [] _
      refine XS.iload X341.here hx rfl (hb hby at_183) rfl ?_
      refine XS.iconst X341.here hx rfl (hb hby at_185) ?_
      show oS p e below m T341 186 (oL7 p0 p1 p2 b252) [(.int 1), (.int 0)] _
      refine XS.iadd X341.here hx rfl (hb hby at_186) rfl ?_
      exact kt
    rw [show ((0 : Int32) + (1 : Int32)) = (1 : Int32) from by decide] at pre366
    obtain ⟨cq367, kq367, q367a, q367b, q367c⟩ := isOf hZ rfl u341_0
    obtain ⟨_, _, ⟨T367, L367, k367, n367⟩, -, X367, ⟨Lc367, hQ367, l367, y367, z367⟩, st367⟩ := X341.virtualBack hx (y := oy2) (z := oy2) hown (mvT hZ (own_w hw 26 rfl)) (mvT hZ (own_w hw 27 rfl)) (notFace_of_selects (args := #[]) (mvT hZ (own_w hw 29 rfl))) (mvT hZ (own_w hw 29 rfl)) (mvT hZ (own_w hw 28 rfl)) (by decide) (backOf (W := 0) (rm_hasFree_2 l Z a0 hw [] b252 T341.heap n0 O341 u341_4 ) hZ (own_w hw 30 rfl) (own_w hw 6 rfl) (by decide) (by decide)) q367a q367c (g := (mkF m 191 (oL21 p0 p1 p2 b252) [(.ref b252)])) rfl (by rw [hml]; rfl) (Steps.refl _) (argsL := []) (rest := []) (lenOf pd___Z rfl) rfl (by show 2 * 0 + _ ≤ _; exact Nat.le_of_eq rfl) (hb hby at_191) (fun _ _ => ⟨rfl, rfl, (by decide : 4 + 0 ≤ _), (by decide : 11 + 0 ≤ _)⟩)
    dsimp only [Pt.U, Pt.locs, Pt.cells, Pt.slots] at X367 l367 y367 z367 st367 hQ367
    subst l367 y367 z367
    obtain ⟨rfl, N367q, e367⟩ := hQ367
    have N367 := Fr.app N341 N367q
    have pre370 : ∀ t, oS p e below m T367 220 (oL14 p0 p1 p2 b252) [(.int ((1 : Int32) &&& (1 : Int32)))] t → oT p e below T (mkF m 167 (oL7 p0 p1 p2 b252) []) t := by
      intro t kt
      refine pre366 t ?_
      show oS p e below m T341 187 (oL7 p0 p1 p2 b252) [(.int 1)] _
      refine XS.istore X341.here hx rfl (hb hby at_187) rfl (l' := (oL21 p0 p1 p2 b252)) rfl ?_
      refine XS.aload X341.here hx rfl (hb hby at_189) rfl rfl ?_
      show oS p e below m T341 191 (oL21 p0 p1 p2 b252) [(.ref b252)] _
      refine st367.trans ?_
      show oS p e below m T367 194 (oL21 p0 p1 p2 b252) [(.int 1)] _
      refine XS.istore X367.here hx rfl (hb hby at_194) rfl (l' := (oL14 p0 p1 p2 b252)) rfl ?_
      refine XS.iload X367.here hx rfl (hb hby at_196) rfl ?_
      show oS p e below m T367 198 (oL14 p0 p1 p2 b252) [(.int 1)] _
      refine XS.iload X367.here hx rfl (hb hby at_198) rfl ?_
      refine XS.iload X367.here hx rfl (hb hby at_200) rfl ?_
      show oS p e below m T367 202 (oL14 p0 p1 p2 b252) [(.int 1), (.int 1), (.int 1)] _
      refine XS.iloadN X367.here hx rfl (hb hby at_202) rfl ?_
      refine XS.icmpNo X367.here hx rfl (hb hby at_203) rfl (tlt (by decide : (1 : Int32) < (2 : Int32))).2.1 ?_
      show oS p e below m T367 206 (oL14 p0 p1 p2 b252) [(.int 1), (.int 1)] _
      refine XS.iconst X367.here hx rfl (hb hby at_206) ?_
      refine XS.goto X367.here hx rfl (pc0 := 207) (pc' := 211) rfl (hb hby at_207) (by decide) (by decide) ?_
      show oS p e below m T367 211 (oL14 p0 p1 p2 b252) [(.int 1), (.int 1), (.int 1)] _
      refine XS.icmpNo X367.here hx rfl (hb hby at_211) rfl (teq (by decide : (1 : Int32) = (1 : Int32))).2 ?_
      refine XS.iconst X367.here hx rfl (hb hby at_214) ?_
      show oS p e below m T367 215 (oL14 p0 p1 p2 b252) [(.int 1), (.int 1)] _
      refine XS.goto X367.here hx rfl (pc0 := 215) (pc' := 219) rfl (hb hby at_215) (by decide) (by decide) ?_
      refine XS.iand X367.here hx rfl (hb hby at_219) rfl ?_
      exact kt
    rw [show ((1 : Int32) &&& (1 : Int32)) = (1 : Int32) from by decide] at pre370
    have pre371 : ∀ t, oS p e below m T367 224 (oL14 p0 p1 p2 b252) [(.int 1)] t → oT p e below T (mkF m 167 (oL7 p0 p1 p2 b252) []) t := by
      intro t kt
      refine pre370 t ?_
      show oS p e below m T367 220 (oL14 p0 p1 p2 b252) [(.int 1)] _
      refine XS.istore X367.here hx rfl (hb hby at_220) rfl (l' := (oL14 p0 p1 p2 b252)) rfl ?_
      refine XS.iload X367.here hx rfl (hb hby at_222) rfl ?_
      exact kt
    obtain ⟨fs, hr, hrun, hended, hW, hsame⟩ := X367.leave (v := some (.int 1)) (fun h => by rw [Bd.returns] at h; cases h)
    refine ⟨_, _, pre371 _ ?_, hrun, hended, _, _, rfl, ?_, ⟨_, rfl⟩, hW, hsame.mono (by decide) (by decide)⟩
    · show oS p e below m T367 224 (oL14 p0 p1 p2 b252) [(.int 1)] _
      exact retN X367 hx (t := .boolean) Bd.returns (by simp) (hb hby at_224) hr
    · show Q_rm0 Z p0 p1 p2 w_cache w_I1 cl_cache w_I4 w_I2 w_I3 h0 n0 _ T367.heap _
      rw [e367]
      exact ⟨rfl, N367⟩
  by_cases hc156_372 : (p2 &&& (2 : Int32)) = (0 : Int32)
  have pre373 : ∀ t, oS p e below m T296 167 (oL7 p0 p1 p2 b252) [] t → oT p e below s₁ (entryFrame m #[(.int p0), (.int p1), (.int p2)] maxLocals) t := by
    intro t kt
    refine pre330 t ?_
    show oS p e below m T296 156 (oL7 p0 p1 p2 b252) [(.int (p2 &&& (2 : Int32)))] _
    refine XS.ifYes X296.here hx rfl (pc0 := 156) (pc' := 167) rfl (hb hby at_156) rfl ((if0 _ _).trans (teq hc156_372).1) (by decide) (by decide) ?_
    exact kt
  obtain ⟨s2, o2, hs2, r2⟩ := tail167_331 _ _ _ X296 rfl N296 O296 u296_0 u296_1 u296_2 u296_3 u296_4 u296_5 u296_6 u296_7 u296_8
  exact ⟨s2, o2, pre373 _ hs2, r2⟩
  obtain ⟨cq375, kq375, q375a, q375b, q375c⟩ := isOf hZ rfl u296_1
  obtain ⟨_, _, ⟨T375, L375, k375, n375⟩, -, X375, ⟨Lc375, hQ375, l375, y375, z375⟩, st375⟩ := X296.virtualBack hx (y := oy5) (z := oy5) hown (mvT hZ (own_w hw 47 rfl)) (mvT hZ (own_w hw 48 rfl)) (notFace_of_selects (args := #[]) (mvT hZ (own_w hw 50 rfl))) (mvT hZ (own_w hw 50 rfl)) (mvT hZ (own_w hw 49 rfl)) (by decide) (backOf (W := 0) (rm_release_20 l Z a0 hw [] b252 b253_b211 b253_b213 b253_b215 kx253_k211 kx253_k213 T296.heap n0 O296 u296_1 u296_2 u296_3 u296_8 u296_7 ne_b252_b253_b211 ne_b252_b253_b213 ne_b252_b253_b215 u253_16 u253_17 u253_18 ) hZ (own_w hw 51 rfl) (own_w hw 6 rfl) (by decide) (by decide)) q375a q375c (g := (mkF m 163 (oL7 p0 p1 p2 b252) [(.long 1048576), (.ref b252)])) rfl (by rw [hml]; rfl) (Steps.refl _) (argsL := [(.long 1048576)]) (rest := []) (lenOf pd__J_Ljava_lang_Object_ rfl) rfl (by show 2 * 0 + _ ≤ _; exact Nat.le_of_eq rfl) (hb hby at_163) (fun _ _ => ⟨rfl, rfl, (by decide : 4 + 0 ≤ _), (by decide : 11 + 0 ≤ _)⟩)
  dsimp only [Pt.U, Pt.locs, Pt.cells, Pt.slots] at X375 l375 y375 z375 st375 hQ375
  subst l375 y375 z375
  obtain ⟨rfl, N375q, e375⟩ := hQ375
  have N375 := Fr.app N296 N375q
  have pre390 : ∀ t, oS p e below m T375 167 (oL7 p0 p1 p2 b252) [] t → oT p e below s₁ (entryFrame m #[(.int p0), (.int p1), (.int p2)] maxLocals) t := by
    intro t kt
    refine pre330 t ?_
    show oS p e below m T296 156 (oL7 p0 p1 p2 b252) [(.int (p2 &&& (2 : Int32)))] _
    refine XS.ifNo X296.here hx rfl (hb hby at_156) rfl ((if0 _ _).trans (feq hc156_372).1) ?_
    refine XS.aload X296.here hx rfl (hb hby at_159) rfl rfl ?_
    show oS p e below m T296 161 (oL7 p0 p1 p2 b252) [(.ref b252)] _
    refine XS.lload X296.here hx rfl (hb hby at_161) rfl ?_
    show oS p e below m T296 163 (oL7 p0 p1 p2 b252) [(.long 1048576), (.ref b252)] _
    refine st375.trans ?_
    show oS p e below m T375 166 (oL7 p0 p1 p2 b252) [.null] _
    refine XS.pop X375.here hx rfl (hb hby at_166) rfl rfl ?_
    exact kt
  obtain ⟨s2, o2, hs2, r2⟩ := tail167_331 _ _ _ X375 e375 N375 O296 u296_0 u296_1 u296_2 u296_3 u296_4 u296_5 u296_6 u296_7 u296_8
  exact ⟨s2, o2, pre390 _ hs2, r2⟩
  obtain ⟨_, _, ⟨T392, L392, k392, n392⟩, -, X392, ⟨Lc392, hQ392, l392, y392, z392⟩, st392⟩ := Jvm.LawKit.callS X0 hx (y := oy0) hown (mvT hZ (own_w hw 0 rfl)) (mvT hZ (own_w hw 1 rfl)) (mvT hZ (own_w hw 2 rfl)) (mvT hZ (own_w hw 3 rfl)) (by decide) (backOf (W := 0) (rm_min l Z a0 hw [] (p1 &&& (3 : Int32)) (2 : Int32) (2 : Int32) h0 n0 (own_z O0) (own_minr (own_ge2 p1 hb0 hb1))) hZ (own_w hw 3 rfl) (own_w hw 2 rfl) (by decide) (by decide)) (g := (mkF m 12 (oL48 p0 p1 p2) [(.int 2), (.int (p1 &&& (3 : Int32)))])) rfl (by rw [hml]; rfl) (argsL := [(.int (p1 &&& (3 : Int32))), (.int 2)]) (rest := []) (lenOf pd__II_I rfl) rfl (by show 2 * 0 + _ ≤ _; exact Nat.le_of_eq rfl) (hb hby at_12) (fun _ _ => ⟨rfl, e0, (by decide : 0 + 0 ≤ _), (by decide : 0 + 0 ≤ _)⟩)
  dsimp only [Pt.U, Pt.locs, Pt.cells, Pt.slots] at X392 l392 y392 z392 st392 hQ392
  subst l392 y392 z392
  obtain ⟨rfl, N392q, e392⟩ := hQ392
  have N392 := Fr.app N0 N392q
  obtain ⟨T393, h393, X393, e393, E393, A393, D393, -, st393⟩ := newO X392 hx hZ hown (own_w hw 4 rfl) (own_w hw 5 rfl) (own_w hw 6 rfl) e392 (g := (mkF m 17 (oL69 p0 p1 p2) [])) rfl (hb hby at_17) (by decide) (by decide)
  obtain ⟨b393, g393⟩ : ∃ z, z = h0.size := ⟨_, rfl⟩
  have ge_b393 : n0 ≤ b393 := Nat.le_trans (own_z O0) (Nat.le_of_eq g393.symm)
  rw [← g393] at A393 D393 st393
  have O393 := O0.ext E393
  have E_b393 := A393
  have F_requests_b393 : Fld Z h393 b393 oc8 "requests" "[Ljava/lang/Object;" .null := D393 (Or.inr (own_w hw 17 rfl)) (ty := (.array (.object oc9))) (by decide)
  have F_sequences_b393 : Fld Z h393 b393 oc8 "sequences" "[J" .null := D393 (Or.inr (own_w hw 20 rfl)) (ty := (.array .long)) (by decide)
  have F_free_b393 : Fld Z h393 b393 oc8 "free" "[I" .null := D393 (Or.inr (own_w hw 23 rfl)) (ty := (.array .int)) (by decide)
  have F_freeCount_b393 : Fld Z h393 b393 oc8 "freeCount" "I" (.int 0) := D393 (Or.inl (own_w hw 25 rfl)) (ty := .int) (by decide)
  have F_lastSequence_b393 : Fld Z h393 b393 oc8 "lastSequence" "J" (.long 0) := D393 (Or.inl (own_w hw 44 rfl)) (ty := .long) (by decide)
  obtain ⟨_, _, ⟨T394, L394, k394, n394⟩, -, X394, ⟨Lc394, hQ394, l394, y394, z394⟩, st394⟩ := X393.specialBack hx (y := oy1) rfl hown (mvT hZ (own_w hw 7 rfl)) (mvT hZ (own_w hw 8 rfl)) (mvT hZ (own_w hw 9 rfl)) (by decide) (backOf (W := 1) (rm_init_13 l Z a0 hw [] b393 h393 n0 O393 E_b393 F_requests_b393 F_sequences_b393 F_free_b393 F_freeCount_b393 F_lastSequence_b393 ge_b393 ) hZ (own_w hw 9 rfl) (own_w hw 6 rfl) (by decide) (by decide)) (g := (mkF m 22 (oL69 p0 p1 p2) [(.int 2), (.ref b393), (.ref b393)])) rfl (by rw [hml]; rfl) (Steps.refl _) (a := b393) (argsL := [(.int 2)]) (rest := [(.ref b393)]) (lenOf pd__I_V rfl) rfl (by show 2 * 0 + _ ≤ _; exact Nat.le_of_eq rfl) (hb hby at_22) (fun _ _ => ⟨rfl, e393, (by decide : 1 + 3 ≤ _), (by decide : 5 + 6 ≤ _)⟩)
  dsimp only [Pt.U, Pt.locs, Pt.cells, Pt.slots] at X394 l394 y394 z394 st394 hQ394
  subst l394 y394 z394
  obtain ⟨b394_b211, b394_b213, b394_b215, kx394_k211, kx394_k213, kx394_k215, rfl, N394q, Kc394, u394_0, u394_1, u394_2, u394_3, u394_4, u394_5, u394_6, u394_7, u394_8, u394_9, u394_10, u394_11, u394_12, u394_13, u394_14, u394_15, u394_16, u394_17, u394_18⟩ := hQ394
  have N394 := Fr.app N392 N394q
  have ne_b393_b394_b211 : b393 ≠ b394_b211 := Nat.ne_of_lt (Nat.lt_of_lt_of_le E_b393.lt u394_9)
  have ne_b393_b394_b213 : b393 ≠ b394_b213 := Nat.ne_of_lt (Nat.lt_of_lt_of_le E_b393.lt u394_12)
  have ne_b393_b394_b215 : b393 ≠ b394_b215 := Nat.ne_of_lt (Nat.lt_of_lt_of_le E_b393.lt u394_15)
  have O394 := O393.keep Kc394 (allS ge_b393 all0)
  obtain ⟨cq395, kq395, q395a, q395b, q395c⟩ := isOf hZ rfl u394_0
  obtain ⟨_, _, ⟨T395, L395, k395, n395⟩, -, X395, ⟨Lc395, hQ395, l395, y395, z395⟩, st395⟩ := X394.virtualBack hx (y := oy2) (z := oy2) hown (mvT hZ (own_w hw 26 rfl)) (mvT hZ (own_w hw 27 rfl)) (notFace_of_selects (args := #[]) (mvT hZ (own_w hw 29 rfl))) (mvT hZ (own_w hw 29 rfl)) (mvT hZ (own_w hw 28 rfl)) (by decide) (backOf (W := 0) (rm_hasFree_14 l Z a0 hw [] b393 T394.heap n0 O394 u394_4 ) hZ (own_w hw 30 rfl) (own_w hw 6 rfl) (by decide) (by decide)) q395a q395c (g := (mkF m 29 #[iv p0, iv p1, iv p2, iv 2, iv 2, rv b393, .unset, .unset, .unset, .unset, .unset, .unset, .unset] [(.ref b393)])) rfl (by rw [hml]; rfl) (Steps.refl _) (argsL := []) (rest := []) (lenOf pd___Z rfl) rfl (by show 2 * 0 + _ ≤ _; exact Nat.le_of_eq rfl) (hb hby at_29) (fun _ _ => ⟨rfl, rfl, (by decide : 4 + 0 ≤ _), (by decide : 11 + 0 ≤ _)⟩)
  dsimp only [Pt.U, Pt.locs, Pt.cells, Pt.slots] at X395 l395 y395 z395 st395 hQ395
  subst l395 y395 z395
  obtain ⟨rfl, N395q, e395⟩ := hQ395
  have N395 := Fr.app N394 N395q
  obtain ⟨_, _, ⟨T397, L397, k397, n397⟩, -, X397, ⟨Lc397, hQ397, l397, y397, z397⟩, st397⟩ := Jvm.LawKit.callS X395 hx (y := oy3) hown (mvT hZ (own_w hw 31 rfl)) (mvT hZ (own_w hw 32 rfl)) (mvT hZ (own_w hw 33 rfl)) (mvT hZ (own_w hw 34 rfl)) (by decide) (backOf (W := 1) (rm_valueOf_3 l Z a0 hw [] w_cache w_I1 cl_cache T394.heap n0 O394  S_high S_cache AE_1 A_cache) hZ (own_w hw 34 rfl) (own_w hw 33 rfl) (by decide) (by decide)) (g := (mkF m 50 (oL58 p0 p1 p2 b393) [(.int 1), (.ref b393)])) rfl (by rw [hml]; rfl) (argsL := [(.int 1)]) (rest := [(.ref b393)]) (lenOf pd__I_Ljava_lang_Integer_ rfl) rfl (by show 2 * 0 + _ ≤ _; exact Nat.le_of_eq rfl) (hb hby at_50) (fun _ _ => ⟨rfl, e395, (by decide : 4 + 0 ≤ _), (by decide : 11 + 0 ≤ _)⟩)
  dsimp only [Pt.U, Pt.locs, Pt.cells, Pt.slots] at X397 l397 y397 z397 st397 hQ397
  subst l397 y397 z397
  obtain ⟨rfl, N397q, e397⟩ := hQ397
  have N397 := Fr.app N395 N397q
  obtain ⟨cq398, kq398, q398a, q398b, q398c⟩ := isOf hZ e397 u394_0
  obtain ⟨_, _, ⟨T398, L398, k398, n398⟩, -, X398, ⟨Lc398, hQ398, l398, y398, z398⟩, st398⟩ := X397.virtualBack hx (y := oy4) (z := oy4) hown (mvT hZ (own_w hw 38 rfl)) (mvT hZ (own_w hw 39 rfl)) (notFace_of_selects (args := #[]) (mvT hZ (own_w hw 41 rfl))) (mvT hZ (own_w hw 41 rfl)) (mvT hZ (own_w hw 40 rfl)) (by decide) (backOf (W := 0) (rm_take_15 l Z a0 hw [] b393 b394_b211 b394_b213 b394_b215 kx394_k211 kx394_k213 kx394_k215 w_I1 T394.heap n0 O394 u394_0 u394_1 u394_2 u394_3 u394_4 u394_5 ge_b393 u394_6 u394_7 u394_8 u394_10 u394_11 u394_13 u394_14 ne_b393_b394_b211 ne_b393_b394_b213 ne_b393_b394_b215 u394_16 u394_17 u394_18 E_I1) hZ (own_w hw 42 rfl) (own_w hw 6 rfl) (by decide) (by decide)) q398a q398c (g := (mkF m 53 (oL58 p0 p1 p2 b393) [(.ref w_I1), (.ref b393)])) rfl (by rw [hml]; rfl) (Steps.refl _) (argsL := [(.ref w_I1)]) (rest := []) (lenOf pd__Ljava_lang_Object__J rfl) rfl (by show 2 * 0 + _ ≤ _; exact Nat.le_of_eq rfl) (hb hby at_53) (fun _ _ => ⟨rfl, e397, (by decide : 4 + 0 ≤ _), (by decide : 11 + 0 ≤ _)⟩)
  dsimp only [Pt.U, Pt.locs, Pt.cells, Pt.slots] at X398 l398 y398 z398 st398 hQ398
  subst l398 y398 z398
  obtain ⟨rfl, N398q, Kc398, u398_0, u398_1, u398_2, u398_3, u398_4, u398_5, u398_6, u398_7⟩ := hQ398
  have N398 := Fr.app N397 N398q
  have u394_13 := u394_13.keep Kc398 (ninS (Ne.symm ne_b393_b394_b215) (ninS (Ne.symm u394_17) (ninS (Ne.symm u394_18) nin0)))
  have O398 := O394.keep Kc398 (allS ge_b393 (allS u394_8 (allS u394_11 all0)))
  obtain ⟨_, _, ⟨T400, L400, k400, n400⟩, -, X400, ⟨Lc400, hQ400, l400, y400, z400⟩, st400⟩ := Jvm.LawKit.callS X398 hx (y := oy3) hown (mvT hZ (own_w hw 31 rfl)) (mvT hZ (own_w hw 32 rfl)) (mvT hZ (own_w hw 33 rfl)) (mvT hZ (own_w hw 34 rfl)) (by decide) (backOf (W := 1) (rm_valueOf_22 l Z a0 hw [] w_cache cl_cache w_I2 T398.heap n0 O398  S_high S_cache AE_2 A_cache) hZ (own_w hw 34 rfl) (own_w hw 33 rfl) (by decide) (by decide)) (g := (mkF m 67 (oL31 p0 p1 p2 b393) [(.int 2), (.ref b393)])) rfl (by rw [hml]; rfl) (argsL := [(.int 2)]) (rest := [(.ref b393)]) (lenOf pd__I_Ljava_lang_Integer_ rfl) rfl (by show 2 * 0 + _ ≤ _; exact Nat.le_of_eq rfl) (hb hby at_67) (fun _ _ => ⟨rfl, rfl, (by decide : 4 + 0 ≤ _), (by decide : 11 + 0 ≤ _)⟩)
  dsimp only [Pt.U, Pt.locs, Pt.cells, Pt.slots] at X400 l400 y400 z400 st400 hQ400
  subst l400 y400 z400
  obtain ⟨rfl, N400q, e400⟩ := hQ400
  have N400 := Fr.app N398 N400q
  obtain ⟨cq408, kq408, q408a, q408b, q408c⟩ := isOf hZ e400 u398_0
  obtain ⟨_, _, ⟨T408, L408, k408, n408⟩, -, X408, ⟨Lc408, hQ408, l408, y408, z408⟩, st408⟩ := X400.virtualBack hx (y := oy4) (z := oy4) hown (mvT hZ (own_w hw 38 rfl)) (mvT hZ (own_w hw 39 rfl)) (notFace_of_selects (args := #[]) (mvT hZ (own_w hw 41 rfl))) (mvT hZ (own_w hw 41 rfl)) (mvT hZ (own_w hw 40 rfl)) (by decide) (backOf (W := 0) (rm_take_23 l Z a0 hw [] b393 b394_b211 b394_b213 b394_b215 kx394_k211 kx394_k213 kx394_k215 w_I2 w_I1 T398.heap n0 O398 u398_0 u398_1 u398_2 u398_3 u398_4 u398_5 ge_b393 u394_7 u398_6 u394_8 u398_7 u394_11 u394_13 u394_14 ne_b393_b394_b211 ne_b393_b394_b213 ne_b393_b394_b215 u394_16 u394_17 u394_18 E_I2) hZ (own_w hw 42 rfl) (own_w hw 6 rfl) (by decide) (by decide)) q408a q408c (g := (mkF m 70 (oL31 p0 p1 p2 b393) [(.ref w_I2), (.ref b393)])) rfl (by rw [hml]; rfl) (Steps.refl _) (argsL := [(.ref w_I2)]) (rest := []) (lenOf pd__Ljava_lang_Object__J rfl) rfl (by show 2 * 0 + _ ≤ _; exact Nat.le_of_eq rfl) (hb hby at_70) (fun _ _ => ⟨rfl, e400, (by decide : 4 + 0 ≤ _), (by decide : 11 + 0 ≤ _)⟩)
  dsimp only [Pt.U, Pt.locs, Pt.cells, Pt.slots] at X408 l408 y408 z408 st408 hQ408
  subst l408 y408 z408
  obtain ⟨rfl, N408q, Kc408, u408_0, u408_1, u408_2, u408_3, u408_4, u408_5, u408_6, u408_7⟩ := hQ408
  have N408 := Fr.app N400 N408q
  have u394_13 := u394_13.keep Kc408 (ninS (Ne.symm ne_b393_b394_b215) (ninS (Ne.symm u394_17) (ninS (Ne.symm u394_18) nin0)))
  have O408 := O398.keep Kc408 (allS ge_b393 (allS u394_8 (allS u394_11 all0)))
  obtain ⟨cq434, kq434, q434a, q434b, q434c⟩ := isOf hZ rfl u408_0
  obtain ⟨_, _, ⟨T434, L434, k434, n434⟩, -, X434, ⟨Lc434, hQ434, l434, y434, z434⟩, st434⟩ := X408.virtualBack hx (y := oy2) (z := oy2) hown (mvT hZ (own_w hw 26 rfl)) (mvT hZ (own_w hw 27 rfl)) (notFace_of_selects (args := #[]) (mvT hZ (own_w hw 29 rfl))) (mvT hZ (own_w hw 29 rfl)) (mvT hZ (own_w hw 28 rfl)) (by decide) (backOf (W := 0) (rm_hasFree_5 l Z a0 hw [] b393 T408.heap n0 O408 u408_4 ) hZ (own_w hw 30 rfl) (own_w hw 6 rfl) (by decide) (by decide)) q434a q434c (g := (mkF m 92 (oL31 p0 p1 p2 b393) [(.ref b393)])) rfl (by rw [hml]; rfl) (Steps.refl _) (argsL := []) (rest := []) (lenOf pd___Z rfl) rfl (by show 2 * 0 + _ ≤ _; exact Nat.le_of_eq rfl) (hb hby at_92) (fun _ _ => ⟨rfl, rfl, (by decide : 4 + 0 ≤ _), (by decide : 11 + 0 ≤ _)⟩)
  dsimp only [Pt.U, Pt.locs, Pt.cells, Pt.slots] at X434 l434 y434 z434 st434 hQ434
  subst l434 y434 z434
  obtain ⟨rfl, N434q, e434⟩ := hQ434
  have N434 := Fr.app N408 N434q
  have pre437 : ∀ t, oS p e below m T434 121 (oL46 p0 p1 p2 b393) [(.int ((1 : Int32) &&& (1 : Int32)))] t → oT p e below s₁ (entryFrame m #[(.int p0), (.int p1), (.int p2)] maxLocals) t := by
    intro t kt
    refine pre204 t ?_
    show oS p e below m s₁ 12 (oL48 p0 p1 p2) [(.int 2), (.int (p1 &&& (3 : Int32)))] _
    refine st392 _ ?_
    show oS p e below m T392 15 (oL48 p0 p1 p2) [(.int 2)] _
    refine XS.istore X392.here hx rfl (hb hby at_15) rfl (l' := (oL69 p0 p1 p2)) rfl ?_
    show oS p e below m T392 17 (oL69 p0 p1 p2) [] _
    refine st393 _ ?_
    show oS p e below m T393 20 (oL69 p0 p1 p2) [(.ref b393)] _
    refine XS.dup X393.here hx rfl (hb hby at_20) rfl rfl ?_
    refine XS.iloadN X393.here hx rfl (hb hby at_21) rfl ?_
    show oS p e below m T393 22 (oL69 p0 p1 p2) [(.int 2), (.ref b393), (.ref b393)] _
    refine st394.trans ?_
    show oS p e below m T394 25 (oL69 p0 p1 p2) [(.ref b393)] _
    refine XS.astore X394.here hx rfl (hb hby at_25) rfl rfl (l' := #[iv p0, iv p1, iv p2, iv 2, iv 2, rv b393, .unset, .unset, .unset, .unset, .unset, .unset, .unset]) rfl ?_
    refine XS.aload X394.here hx rfl (hb hby at_27) rfl rfl ?_
    show oS p e below m T394 29 #[iv p0, iv p1, iv p2, iv 2, iv 2, rv b393, .unset, .unset, .unset, .unset, .unset, .unset, .unset] [(.ref b393)] _
    refine st395.trans ?_
    show oS p e below m T395 32 #[iv p0, iv p1, iv p2, iv 2, iv 2, rv b393, .unset, .unset, .unset, .unset, .unset, .unset, .unset] [(.int 1)] _
    refine XS.istore X395.here hx rfl (hb hby at_32) rfl (l' := #[iv p0, iv p1, iv p2, iv 2, iv 2, rv b393, iv 1, .unset, .unset, .unset, .unset, .unset, .unset]) rfl ?_
    refine XS.iload X395.here hx rfl (hb hby at_34) rfl ?_
    show oS p e below m T395 36 #[iv p0, iv p1, iv p2, iv 2, iv 2, rv b393, iv 1, .unset, .unset, .unset, .unset, .unset, .unset] [(.int 1)] _
    refine XS.istore X395.here hx rfl (hb hby at_36) rfl (l' := #[iv p0, iv p1, iv p2, iv 2, iv 2, rv b393, iv 1, iv 1, .unset, .unset, .unset, .unset, .unset]) rfl ?_
    refine XS.lconst X395.here hx rfl (hb hby at_38) ?_
    show oS p e below m T395 39 #[iv p0, iv p1, iv p2, iv 2, iv 2, rv b393, iv 1, iv 1, .unset, .unset, .unset, .unset, .unset] [(.long 0)] _
    refine XS.lstore X395.here hx rfl (hb hby at_39) rfl (l' := (oL58 p0 p1 p2 b393)) rfl ?_
    refine XS.iload X395.here hx rfl (hb hby at_41) rfl ?_
    show oS p e below m T395 43 (oL58 p0 p1 p2 b393) [(.int 2)] _
    refine XS.iconst X395.here hx rfl (hb hby at_43) ?_
    refine XS.icmpNo X395.here hx rfl (hb hby at_44) rfl (flt (by decide : ¬ ((2 : Int32) < (1 : Int32)))).1 ?_
    show oS p e below m T395 47 (oL58 p0 p1 p2 b393) [] _
    refine XS.aload X395.here hx rfl (hb hby at_47) rfl rfl ?_
    refine XS.iconst X395.here hx rfl (hb hby at_49) ?_
    show oS p e below m T395 50 (oL58 p0 p1 p2 b393) [(.int 1), (.ref b393)] _
    refine st397 _ ?_
    show oS p e below m T397 53 (oL58 p0 p1 p2 b393) [(.ref w_I1), (.ref b393)] _
    refine st398.trans ?_
    show oS p e below m T398 56 (oL58 p0 p1 p2 b393) [(.long 1048576)] _
    refine XS.lstore X398.here hx rfl (hb hby at_56) rfl (l' := (oL31 p0 p1 p2 b393)) rfl ?_
    refine XS.iload X398.here hx rfl (hb hby at_58) rfl ?_
    show oS p e below m T398 60 (oL31 p0 p1 p2 b393) [(.int 2)] _
    refine XS.iconst X398.here hx rfl (hb hby at_60) ?_
    refine XS.icmpNo X398.here hx rfl (hb hby at_61) rfl (flt (by decide : ¬ ((2 : Int32) < (2 : Int32)))).1 ?_
    show oS p e below m T398 64 (oL31 p0 p1 p2 b393) [] _
    refine XS.aload X398.here hx rfl (hb hby at_64) rfl rfl ?_
    refine XS.iconst X398.here hx rfl (hb hby at_66) ?_
    show oS p e below m T398 67 (oL31 p0 p1 p2 b393) [(.int 2), (.ref b393)] _
    refine st400 _ ?_
    show oS p e below m T400 70 (oL31 p0 p1 p2 b393) [(.ref w_I2), (.ref b393)] _
    refine st408.trans ?_
    show oS p e below m T408 73 (oL31 p0 p1 p2 b393) [(.long 2097153)] _
    jvm_step X408.here [X408.here.top, hx, (hb hby at_73), Value.category]
    show oS p e below m T408 74 (oL31 p0 p1 p2 b393) [] _
    refine XS.iload X408.here hx rfl (hb hby at_74) rfl ?_
    refine XS.iconst X408.here hx rfl (hb hby at_76) ?_
    show oS p e below m T408 77 (oL31 p0 p1 p2 b393) [(.int 3), (.int 2)] _
    refine XS.icmpYes X408.here hx rfl (pc0 := 77) (pc' := 90) rfl (hb hby at_77) rfl (tlt (by decide : (2 : Int32) < (3 : Int32))).1 (by decide) (by decide) ?_
    refine XS.aload X408.here hx rfl (hb hby at_90) rfl rfl ?_
    show oS p e below m T408 92 (oL31 p0 p1 p2 b393) [(.ref b393)] _
    refine st434.trans ?_
    show oS p e below m T434 95 (oL31 p0 p1 p2 b393) [(.int 0)] _
    refine XS.istore X434.here hx rfl (hb hby at_95) rfl (l' := (oL46 p0 p1 p2 b393)) rfl ?_
    refine XS.iload X434.here hx rfl (hb hby at_97) rfl ?_
    show oS p e below m T434 99 (oL46 p0 p1 p2 b393) [(.int 1)] _
    refine XS.iload X434.here hx rfl (hb hby at_99) rfl ?_
    refine XS.iload X434.here hx rfl (hb hby at_101) rfl ?_
    show oS p e below m T434 103 (oL46 p0 p1 p2 b393) [(.int 2), (.int 0), (.int 1)] _
    refine XS.iloadN X434.here hx rfl (hb hby at_103) rfl ?_
    refine XS.icmpYes X434.here hx rfl (pc0 := 104) (pc' := 111) rfl (hb hby at_104) rfl (flt (by decide : ¬ ((2 : Int32) < (2 : Int32)))).2.1 (by decide) (by decide) ?_
    show oS p e below m T434 111 (oL46 p0 p1 p2 b393) [(.int 0), (.int 1)] _
    refine XS.iconst X434.here hx rfl (hb hby at_111) ?_
    refine XS.icmpNo X434.here hx rfl (hb hby at_112) rfl (teq (by decide : (0 : Int32) = (0 : Int32))).2 ?_
    show oS p e below m T434 115 (oL46 p0 p1 p2 b393) [(.int 1)] _
    refine XS.iconst X434.here hx rfl (hb hby at_115) ?_
    refine XS.goto X434.here hx rfl (pc0 := 116) (pc' := 120) rfl (hb hby at_116) (by decide) (by decide) ?_
    show oS p e below m T434 120 (oL46 p0 p1 p2 b393) [(.int 1), (.int 1)] _
    refine XS.iand X434.here hx rfl (hb hby at_120) rfl ?_
    exact kt
  rw [show ((1 : Int32) &&& (1 : Int32)) = (1 : Int32) from by decide] at pre437
  have pre440 : ∀ t, oS p e below m T434 136 (oL22 p0 p1 p2 b393) [(.int (p2 &&& (1 : Int32)))] t → oT p e below s₁ (entryFrame m #[(.int p0), (.int p1), (.int p2)] maxLocals) t := by
    intro t kt
    refine pre437 t ?_
    show oS p e below m T434 121 (oL46 p0 p1 p2 b393) [(.int 1)] _
    refine XS.istore X434.here hx rfl (hb hby at_121) rfl (l' := (oL46 p0 p1 p2 b393)) rfl ?_
    refine XS.iload X434.here hx rfl (hb hby at_123) rfl ?_
    show oS p e below m T434 125 (oL46 p0 p1 p2 b393) [(.int 2)] _
    refine XS.istore X434.here hx rfl (hb hby at_125) rfl (l' := (oL22 p0 p1 p2 b393)) rfl ?_
    refine XS.iload X434.here hx rfl (hb hby at_127) rfl ?_
    show oS p e below m T434 129 (oL22 p0 p1 p2 b393) [(.int 2)] _
    refine XS.iconst X434.here hx rfl (hb hby at_129) ?_
    refine XS.icmpNo X434.here hx rfl (hb hby at_130) rfl (flt (by decide : ¬ ((2 : Int32) < (1 : Int32)))).1 ?_
    show oS p e below m T434 133 (oL22 p0 p1 p2 b393) [] _
    refine XS.iloadN X434.here hx rfl (hb hby at_133) rfl ?_
    refine XS.iconst X434.here hx rfl (hb hby at_134) ?_
    show oS p e below m T434 135 (oL22 p0 p1 p2 b393) [(.int 1), (.int p2)] _
    refine XS.iand X434.here hx rfl (hb hby at_135) rfl ?_
    exact kt
  by_cases hc136_439 : (p2 &&& (1 : Int32)) = (0 : Int32)
  obtain ⟨cq441, kq441, q441a, q441b, q441c⟩ := isOf hZ e434 u408_0
  obtain ⟨_, _, ⟨T441, L441, k441, n441⟩, -, X441, ⟨Lc441, hQ441, l441, y441, z441⟩, st441⟩ := X434.virtualBack hx (y := oy2) (z := oy2) hown (mvT hZ (own_w hw 26 rfl)) (mvT hZ (own_w hw 27 rfl)) (notFace_of_selects (args := #[]) (mvT hZ (own_w hw 29 rfl))) (mvT hZ (own_w hw 29 rfl)) (mvT hZ (own_w hw 28 rfl)) (by decide) (backOf (W := 0) (rm_hasFree_5 l Z a0 hw [] b393 T408.heap n0 O408 u408_4 ) hZ (own_w hw 30 rfl) (own_w hw 6 rfl) (by decide) (by decide)) q441a q441c (g := (mkF m 191 (oL22 p0 p1 p2 b393) [(.ref b393)])) rfl (by rw [hml]; rfl) (Steps.refl _) (argsL := []) (rest := []) (lenOf pd___Z rfl) rfl (by show 2 * 0 + _ ≤ _; exact Nat.le_of_eq rfl) (hb hby at_191) (fun _ _ => ⟨rfl, e434, (by decide : 4 + 0 ≤ _), (by decide : 11 + 0 ≤ _)⟩)
  dsimp only [Pt.U, Pt.locs, Pt.cells, Pt.slots] at X441 l441 y441 z441 st441 hQ441
  subst l441 y441 z441
  obtain ⟨rfl, N441q, e441⟩ := hQ441
  have N441 := Fr.app N434 N441q
  have pre444 : ∀ t, oS p e below m T441 220 (oL18 p0 p1 p2 b393) [(.int ((1 : Int32) &&& (1 : Int32)))] t → oT p e below s₁ (entryFrame m #[(.int p0), (.int p1), (.int p2)] maxLocals) t := by
    intro t kt
    refine pre440 t ?_
    show oS p e below m T434 136 (oL22 p0 p1 p2 b393) [(.int (p2 &&& (1 : Int32)))] _
    refine XS.ifYes X434.here hx rfl (pc0 := 136) (pc' := 189) rfl (hb hby at_136) rfl ((if0 _ _).trans (teq hc136_439).1) (by decide) (by decide) ?_
    refine XS.aload X434.here hx rfl (hb hby at_189) rfl rfl ?_
    show oS p e below m T434 191 (oL22 p0 p1 p2 b393) [(.ref b393)] _
    refine st441.trans ?_
    show oS p e below m T441 194 (oL22 p0 p1 p2 b393) [(.int 0)] _
    refine XS.istore X441.here hx rfl (hb hby at_194) rfl (l' := (oL18 p0 p1 p2 b393)) rfl ?_
    refine XS.iload X441.here hx rfl (hb hby at_196) rfl ?_
    show oS p e below m T441 198 (oL18 p0 p1 p2 b393) [(.int 1)] _
    refine XS.iload X441.here hx rfl (hb hby at_198) rfl ?_
    refine XS.iload X441.here hx rfl (hb hby at_200) rfl ?_
    show oS p e below m T441 202 (oL18 p0 p1 p2 b393) [(.int 2), (.int 0), (.int 1)] _
    refine XS.iloadN X441.here hx rfl (hb hby at_202) rfl ?_
    refine XS.icmpYes X441.here hx rfl (pc0 := 203) (pc' := 210) rfl (hb hby at_203) rfl (flt (by decide : ¬ ((2 : Int32) < (2 : Int32)))).2.1 (by decide) (by decide) ?_
    show oS p e below m T441 210 (oL18 p0 p1 p2 b393) [(.int 0), (.int 1)] _
    refine XS.iconst X441.here hx rfl (hb hby at_210) ?_
    refine XS.icmpNo X441.here hx rfl (hb hby at_211) rfl (teq (by decide : (0 : Int32) = (0 : Int32))).2 ?_
    show oS p e below m T441 214 (oL18 p0 p1 p2 b393) [(.int 1)] _
    refine XS.iconst X441.here hx rfl (hb hby at_214) ?_
    refine XS.goto X441.here hx rfl (pc0 := 215) (pc' := 219) rfl (hb hby at_215) (by decide) (by decide) ?_
    show oS p e below m T441 219 (oL18 p0 p1 p2 b393) [(.int 1), (.int 1)] _
    refine XS.iand X441.here hx rfl (hb hby at_219) rfl ?_
    exact kt
  rw [show ((1 : Int32) &&& (1 : Int32)) = (1 : Int32) from by decide] at pre444
  have pre445 : ∀ t, oS p e below m T441 224 (oL18 p0 p1 p2 b393) [(.int 1)] t → oT p e below s₁ (entryFrame m #[(.int p0), (.int p1), (.int p2)] maxLocals) t := by
    intro t kt
    refine pre444 t ?_
    show oS p e below m T441 220 (oL18 p0 p1 p2 b393) [(.int 1)] _
    refine XS.istore X441.here hx rfl (hb hby at_220) rfl (l' := (oL18 p0 p1 p2 b393)) rfl ?_
    refine XS.iload X441.here hx rfl (hb hby at_222) rfl ?_
    exact kt
  obtain ⟨fs, hr, hrun, hended, hW, hsame⟩ := X441.leave (v := some (.int 1)) (fun h => by rw [Bd.returns] at h; cases h)
  refine ⟨_, _, pre445 _ ?_, hrun, hended, _, _, rfl, ?_, ⟨_, rfl⟩, hW, hsame.mono (by decide) (by decide)⟩
  · show oS p e below m T441 224 (oL18 p0 p1 p2 b393) [(.int 1)] _
    exact retN X441 hx (t := .boolean) Bd.returns (by simp) (hb hby at_224) hr
  · show Q_rm0 Z p0 p1 p2 w_cache w_I1 cl_cache w_I4 w_I2 w_I3 h0 n0 _ T441.heap _
    rw [e441]
    exact ⟨rfl, N441⟩
  obtain ⟨cq446, kq446, q446a, q446b, q446c⟩ := isOf hZ e434 u408_0
  obtain ⟨_, _, ⟨T446, L446, k446, n446⟩, -, X446, ⟨Lc446, hQ446, l446, y446, z446⟩, st446⟩ := X434.virtualBack hx (y := oy5) (z := oy5) hown (mvT hZ (own_w hw 47 rfl)) (mvT hZ (own_w hw 48 rfl)) (notFace_of_selects (args := #[]) (mvT hZ (own_w hw 50 rfl))) (mvT hZ (own_w hw 50 rfl)) (mvT hZ (own_w hw 49 rfl)) (by decide) (backOf (W := 0) (rm_release_24 l Z a0 hw [] b393 b394_b211 b394_b213 b394_b215 kx394_k211 kx394_k213 kx394_k215 w_I2 w_I1 T408.heap n0 O408 u408_0 u408_1 u408_2 u408_3 u408_4 u408_5 ge_b393 u394_7 u408_6 u394_8 u408_7 u394_11 u394_13 u394_14 ne_b393_b394_b211 ne_b393_b394_b213 ne_b393_b394_b215 u394_16 u394_17 u394_18 ) hZ (own_w hw 51 rfl) (own_w hw 6 rfl) (by decide) (by decide)) q446a q446c (g := (mkF m 143 (oL22 p0 p1 p2 b393) [(.long 1048576), (.ref b393)])) rfl (by rw [hml]; rfl) (Steps.refl _) (argsL := [(.long 1048576)]) (rest := []) (lenOf pd__J_Ljava_lang_Object_ rfl) rfl (by show 2 * 0 + _ ≤ _; exact Nat.le_of_eq rfl) (hb hby at_143) (fun _ _ => ⟨rfl, e434, (by decide : 4 + 0 ≤ _), (by decide : 11 + 0 ≤ _)⟩)
  dsimp only [Pt.U, Pt.locs, Pt.cells, Pt.slots] at X446 l446 y446 z446 st446 hQ446
  subst l446 y446 z446
  obtain ⟨rfl, N446q, Kc446, u446_0, u446_1, u446_2, u446_3, u446_4, u446_5, u446_6, u446_7, u446_8⟩ := hQ446
  have N446 := Fr.app N434 N446q
  have O446 := O408.keep Kc446 (allS u394_14 (allS ge_b393 (allS u394_11 (allS u394_8 all0))))
  have pre479 : ∀ t, oS p e below m T446 151 (oL22 p0 p1 p2 b393) [(.int ((2 : Int32) - (1 : Int32)))] t → oT p e below s₁ (entryFrame m #[(.int p0), (.int p1), (.int p2)] maxLocals) t := by
    intro t kt
    refine pre440 t ?_
    show oS p e below m T434 136 (oL22 p0 p1 p2 b393) [(.int (p2 &&& (1 : Int32)))] _
    refine XS.ifNo X434.here hx rfl (hb hby at_136) rfl ((if0 _ _).trans (feq hc136_439).1) ?_
    refine XS.aload X434.here hx rfl (hb hby at_139) rfl rfl ?_
    show oS p e below m T434 141 (oL22 p0 p1 p2 b393) [(.ref b393)] _
    refine XS.lload X434.here hx rfl (hb hby at_141) rfl ?_
    show oS p e below m T434 143 (oL22 p0 p1 p2 b393) [(.long 1048576), (.ref b393)] _
    refine st446.trans ?_
    show oS p e below m T446 146 (oL22 p0 p1 p2 b393) [(.ref w_I1)] _
    refine XS.pop X446.here hx rfl (hb hby at_146) rfl rfl ?_
    refine XS.iload X446.here hx rfl (hb hby at_147) rfl ?_
    show oS p e below m T446 149 (oL22 p0 p1 p2 b393) [(.int 2)] _
    refine XS.iconst X446.here hx rfl (hb hby at_149) ?_
    refine XS.isub X446.here hx rfl (hb hby at_150) rfl ?_
    exact kt
  rw [show ((2 : Int32) - (1 : Int32)) = (1 : Int32) from by decide] at pre479
  have pre480 : ∀ t, oS p e below m T446 156 (oL8 p0 p1 p2 b393) [(.int (p2 &&& (2 : Int32)))] t → oT p e below s₁ (entryFrame m #[(.int p0), (.int p1), (.int p2)] maxLocals) t := by
    intro t kt
    refine pre479 t ?_
    show oS p e below m T446 151 (oL22 p0 p1 p2 b393) [(.int 1)] _
    refine XS.istore X446.here hx rfl (hb hby at_151) rfl (l' := (oL8 p0 p1 p2 b393)) rfl ?_
    refine XS.iloadN X446.here hx rfl (hb hby at_153) rfl ?_
    show oS p e below m T446 154 (oL8 p0 p1 p2 b393) [(.int p2)] _
    refine XS.iconst X446.here hx rfl (hb hby at_154) ?_
    refine XS.iand X446.here hx rfl (hb hby at_155) rfl ?_
    exact kt
  have tail167_481 : ∀ (T : State) (locs : List Loc) (h : Heap) (X : Stand p l e room_1 s m #[(.int p0), (.int p1), (.int p2)] below meth c T locs 4 11) (eT : T.heap = h) (Nn : Fr n0 locs) (On : Old Z n0 h) (v481_0 : Arv Z h b394_b215 kx394_k215 .int (2 : Int32) [(.int 0), (.int 0)] (.int 0)) (e481_1 : Exa Z h b393 oc8) (f481_2 : Fld Z h b393 oc8 "requests" "[Ljava/lang/Object;" (.ref b394_b211)) (f481_3 : Fld Z h b393 oc8 "sequences" "[J" (.ref b394_b213)) (f481_4 : Fld Z h b393 oc8 "free" "[I" (.ref b394_b215)) (f481_5 : Fld Z h b393 oc8 "freeCount" "I" (.int 1)) (f481_6 : Fld Z h b393 oc8 "lastSequence" "J" (.long 2)) (v481_7 : Arv Z h b394_b213 kx394_k213 .long (2 : Int32) [(.long 0), (.long 2)] (.long 0)) (v481_8 : Arv Z h b394_b211 kx394_k211 (.object oc9) (2 : Int32) [.null, (.ref w_I2)] .null), ∃ s₂ o, Steps p.tables e below (T.setTop (mkF m 167 (oL8 p0 p1 p2 b393) [])) s₂ ∧ s₂.status = .running ∧ Ended s₂ below o ∧ ∃ v L, o = .returned v ∧ Q_rm0 Z p0 p1 p2 w_cache w_I1 cl_cache w_I4 w_I2 w_I3 h0 n0 v s₂.heap L ∧ FrameEnd s o s₂ L room_1.cells room_1.slots := by
    intro T locs h X eT Nn On v481_0 e481_1 f481_2 f481_3 f481_4 f481_5 f481_6 v481_7 v481_8
    have pre482 : ∀ t, oS p e below m T 167 (oL8 p0 p1 p2 b393) [] t → oT p e below T (mkF m 167 (oL8 p0 p1 p2 b393) []) t := fun t k => k
    have pre484 : ∀ t, oS p e below m T 170 (oL8 p0 p1 p2 b393) [(.int (p2 &&& (4 : Int32)))] t → oT p e below T (mkF m 167 (oL8 p0 p1 p2 b393) []) t := by
      intro t kt
      refine pre482 t ?_
      show oS p e below m T 167 (oL8 p0 p1 p2 b393) [] _
      refine XS.iloadN X.here hx rfl (hb hby at_167) rfl ?_
      refine XS.iconst X.here hx rfl (hb hby at_168) ?_
      show oS p e below m T 169 (oL8 p0 p1 p2 b393) [(.int 4), (.int p2)] _
      refine XS.iand X.here hx rfl (hb hby at_169) rfl ?_
      exact kt
    by_cases hc170_483 : (p2 &&& (4 : Int32)) = (0 : Int32)
    obtain ⟨cq485, kq485, q485a, q485b, q485c⟩ := isOf hZ eT e481_1
    obtain ⟨_, _, ⟨T485, L485, k485, n485⟩, -, X485, ⟨Lc485, hQ485, l485, y485, z485⟩, st485⟩ := X.virtualBack hx (y := oy2) (z := oy2) hown (mvT hZ (own_w hw 26 rfl)) (mvT hZ (own_w hw 27 rfl)) (notFace_of_selects (args := #[]) (mvT hZ (own_w hw 29 rfl))) (mvT hZ (own_w hw 29 rfl)) (mvT hZ (own_w hw 28 rfl)) (by decide) (backOf (W := 0) (rm_hasFree_2 l Z a0 hw [] b393 h n0 On f481_5 ) hZ (own_w hw 30 rfl) (own_w hw 6 rfl) (by decide) (by decide)) q485a q485c (g := (mkF m 191 (oL8 p0 p1 p2 b393) [(.ref b393)])) rfl (by rw [hml]; rfl) (Steps.refl _) (argsL := []) (rest := []) (lenOf pd___Z rfl) rfl (by show 2 * 0 + _ ≤ _; exact Nat.le_of_eq rfl) (hb hby at_191) (fun _ _ => ⟨rfl, eT, (by decide : 4 + 0 ≤ _), (by decide : 11 + 0 ≤ _)⟩)
    dsimp only [Pt.U, Pt.locs, Pt.cells, Pt.slots] at X485 l485 y485 z485 st485 hQ485
    subst l485 y485 z485
    obtain ⟨rfl, N485q, e485⟩ := hQ485
    have N485 := Fr.app Nn N485q
    have pre488 : ∀ t, oS p e below m T485 220 (oL32 p0 p1 p2 b393) [(.int ((1 : Int32) &&& (1 : Int32)))] t → oT p e below T (mkF m 167 (oL8 p0 p1 p2 b393) []) t := by
      intro t kt
      refine pre484 t ?_
      show oS p e below m T 170 (oL8 p0 p1 p2 b393) [(.int (p2 &&& (4 : Int32)))] _
      refine XS.ifYes X.here hx rfl (pc0 := 170) (pc' := 189) rfl (hb hby at_170) rfl ((if0 _ _).trans (teq hc170_483).1) (by decide) (by decide) ?_
      refine XS.aload X.here hx rfl (hb hby at_189) rfl rfl ?_
      show oS p e below m T 191 (oL8 p0 p1 p2 b393) [(.ref b393)] _
      refine st485.trans ?_
      show oS p e below m T485 194 (oL8 p0 p1 p2 b393) [(.int 1)] _
      refine XS.istore X485.here hx rfl (hb hby at_194) rfl (l' := (oL32 p0 p1 p2 b393)) rfl ?_
      refine XS.iload X485.here hx rfl (hb hby at_196) rfl ?_
      show oS p e below m T485 198 (oL32 p0 p1 p2 b393) [(.int 1)] _
      refine XS.iload X485.here hx rfl (hb hby at_198) rfl ?_
      refine XS.iload X485.here hx rfl (hb hby at_200) rfl ?_
      show oS p e below m T485 202 (oL32 p0 p1 p2 b393) [(.int 1), (.int 1), (.int 1)] _
      refine XS.iloadN X485.here hx rfl (hb hby at_202) rfl ?_
      refine XS.icmpNo X485.here hx rfl (hb hby at_203) rfl (tlt (by decide : (1 : Int32) < (2 : Int32))).2.1 ?_
      show oS p e below m T485 206 (oL32 p0 p1 p2 b393) [(.int 1), (.int 1)] _
      refine XS.iconst X485.here hx rfl (hb hby at_206) ?_
      refine XS.goto X485.here hx rfl (pc0 := 207) (pc' := 211) rfl (hb hby at_207) (by decide) (by decide) ?_
      show oS p e below m T485 211 (oL32 p0 p1 p2 b393) [(.int 1), (.int 1), (.int 1)] _
      refine XS.icmpNo X485.here hx rfl (hb hby at_211) rfl (teq (by decide : (1 : Int32) = (1 : Int32))).2 ?_
      refine XS.iconst X485.here hx rfl (hb hby at_214) ?_
      show oS p e below m T485 215 (oL32 p0 p1 p2 b393) [(.int 1), (.int 1)] _
      refine XS.goto X485.here hx rfl (pc0 := 215) (pc' := 219) rfl (hb hby at_215) (by decide) (by decide) ?_
      refine XS.iand X485.here hx rfl (hb hby at_219) rfl ?_
      exact kt
    rw [show ((1 : Int32) &&& (1 : Int32)) = (1 : Int32) from by decide] at pre488
    have pre489 : ∀ t, oS p e below m T485 224 (oL32 p0 p1 p2 b393) [(.int 1)] t → oT p e below T (mkF m 167 (oL8 p0 p1 p2 b393) []) t := by
      intro t kt
      refine pre488 t ?_
      show oS p e below m T485 220 (oL32 p0 p1 p2 b393) [(.int 1)] _
      refine XS.istore X485.here hx rfl (hb hby at_220) rfl (l' := (oL32 p0 p1 p2 b393)) rfl ?_
      refine XS.iload X485.here hx rfl (hb hby at_222) rfl ?_
      exact kt
    obtain ⟨fs, hr, hrun, hended, hW, hsame⟩ := X485.leave (v := some (.int 1)) (fun h => by rw [Bd.returns] at h; cases h)
    refine ⟨_, _, pre489 _ ?_, hrun, hended, _, _, rfl, ?_, ⟨_, rfl⟩, hW, hsame.mono (by decide) (by decide)⟩
    · show oS p e below m T485 224 (oL32 p0 p1 p2 b393) [(.int 1)] _
      exact retN X485 hx (t := .boolean) Bd.returns (by simp) (hb hby at_224) hr
    · show Q_rm0 Z p0 p1 p2 w_cache w_I1 cl_cache w_I4 w_I2 w_I3 h0 n0 _ T485.heap _
      rw [e485]
      exact ⟨rfl, N485⟩
    obtain ⟨_, _, ⟨T490, L490, k490, n490⟩, -, X490, ⟨Lc490, hQ490, l490, y490, z490⟩, st490⟩ := Jvm.LawKit.callS X hx (y := oy3) hown (mvT hZ (own_w hw 31 rfl)) (mvT hZ (own_w hw 32 rfl)) (mvT hZ (own_w hw 33 rfl)) (mvT hZ (own_w hw 34 rfl)) (by decide) (backOf (W := 1) (rm_valueOf_9 l Z a0 hw [] w_cache cl_cache w_I4 h n0 On  S_high S_cache AE_4 A_cache) hZ (own_w hw 34 rfl) (own_w hw 33 rfl) (by decide) (by decide)) (g := (mkF m 176 (oL8 p0 p1 p2 b393) [(.int 4), (.ref b393)])) rfl (by rw [hml]; rfl) (argsL := [(.int 4)]) (rest := [(.ref b393)]) (lenOf pd__I_Ljava_lang_Integer_ rfl) rfl (by show 2 * 0 + _ ≤ _; exact Nat.le_of_eq rfl) (hb hby at_176) (fun _ _ => ⟨rfl, eT, (by decide : 4 + 0 ≤ _), (by decide : 11 + 0 ≤ _)⟩)
    dsimp only [Pt.U, Pt.locs, Pt.cells, Pt.slots] at X490 l490 y490 z490 st490 hQ490
    subst l490 y490 z490
    obtain ⟨rfl, N490q, e490⟩ := hQ490
    have N490 := Fr.app Nn N490q
    obtain ⟨cq491, kq491, q491a, q491b, q491c⟩ := isOf hZ e490 e481_1
    obtain ⟨_, _, ⟨T491, L491, k491, n491⟩, -, X491, ⟨Lc491, hQ491, l491, y491, z491⟩, st491⟩ := X490.virtualBack hx (y := oy4) (z := oy4) hown (mvT hZ (own_w hw 38 rfl)) (mvT hZ (own_w hw 39 rfl)) (notFace_of_selects (args := #[]) (mvT hZ (own_w hw 41 rfl))) (mvT hZ (own_w hw 41 rfl)) (mvT hZ (own_w hw 40 rfl)) (by decide) (backOf (W := 0) (rm_take_27 l Z a0 hw [] b393 b394_b211 b394_b213 b394_b215 kx394_k211 kx394_k213 kx394_k215 w_I4 w_I2 h n0 On e481_1 f481_2 f481_3 f481_4 f481_5 f481_6 ge_b393 u394_7 v481_8 u394_8 v481_7 u394_11 v481_0 u394_14 ne_b393_b394_b211 ne_b393_b394_b213 ne_b393_b394_b215 u394_16 u394_17 u394_18 E_I4) hZ (own_w hw 42 rfl) (own_w hw 6 rfl) (by decide) (by decide)) q491a q491c (g := (mkF m 179 (oL8 p0 p1 p2 b393) [(.ref w_I4), (.ref b393)])) rfl (by rw [hml]; rfl) (Steps.refl _) (argsL := [(.ref w_I4)]) (rest := []) (lenOf pd__Ljava_lang_Object__J rfl) rfl (by show 2 * 0 + _ ≤ _; exact Nat.le_of_eq rfl) (hb hby at_179) (fun _ _ => ⟨rfl, e490, (by decide : 4 + 0 ≤ _), (by decide : 11 + 0 ≤ _)⟩)
    dsimp only [Pt.U, Pt.locs, Pt.cells, Pt.slots] at X491 l491 y491 z491 st491 hQ491
    subst l491 y491 z491
    obtain ⟨rfl, N491q, Kc491, u491_0, u491_1, u491_2, u491_3, u491_4, u491_5, u491_6, u491_7⟩ := hQ491
    have N491 := Fr.app N490 N491q
    have v481_0 := v481_0.keep Kc491 (ninS (Ne.symm ne_b393_b394_b215) (ninS (Ne.symm u394_17) (ninS (Ne.symm u394_18) nin0)))
    have O491 := On.keep Kc491 (allS ge_b393 (allS u394_8 (allS u394_11 all0)))
    have pre516 : ∀ t, oS p e below m T491 187 (oL8 p0 p1 p2 b393) [(.int ((1 : Int32) + (1 : Int32)))] t → oT p e below T (mkF m 167 (oL8 p0 p1 p2 b393) []) t := by
      intro t kt
      refine pre484 t ?_
      show oS p e below m T 170 (oL8 p0 p1 p2 b393) [(.int (p2 &&& (4 : Int32)))] _
      refine XS.ifNo X.here hx rfl (hb hby at_170) rfl ((if0 _ _).trans (feq hc170_483).1) ?_
      refine XS.aload X.here hx rfl (hb hby at_173) rfl rfl ?_
      show oS p e below m T 175 (oL8 p0 p1 p2 b393) [(.ref b393)] _
      refine XS.iconst X.here hx rfl (hb hby at_175) ?_
      show oS p e below m T 176 (oL8 p0 p1 p2 b393) [(.int 4), (.ref b393)] _
      refine st490 _ ?_
      show oS p e below m T490 179 (oL8 p0 p1 p2 b393) [(.ref w_I4), (.ref b393)] _
      refine st491.trans ?_
      show oS p e below m T491 182 (oL8 p0 p1 p2 b393) [(.long 3145728)] _
      jvm_step X491.here [X491.here.top, hx, (hb hby at_182), Value.category]
      show oS p e below m T491 183 (oL8 p0 p1 p2 b393) [] _
      refine XS.iload X491.here hx rfl (hb hby at_183) rfl ?_
      refine XS.iconst X491.here hx rfl (hb hby at_185) ?_
      show oS p e below m T491 186 (oL8 p0 p1 p2 b393) [(.int 1), (.int 1)] _
      refine XS.iadd X491.here hx rfl (hb hby at_186) rfl ?_
      exact kt
    rw [show ((1 : Int32) + (1 : Int32)) = (2 : Int32) from by decide] at pre516
    obtain ⟨cq517, kq517, q517a, q517b, q517c⟩ := isOf hZ rfl u491_0
    obtain ⟨_, _, ⟨T517, L517, k517, n517⟩, -, X517, ⟨Lc517, hQ517, l517, y517, z517⟩, st517⟩ := X491.virtualBack hx (y := oy2) (z := oy2) hown (mvT hZ (own_w hw 26 rfl)) (mvT hZ (own_w hw 27 rfl)) (notFace_of_selects (args := #[]) (mvT hZ (own_w hw 29 rfl))) (mvT hZ (own_w hw 29 rfl)) (mvT hZ (own_w hw 28 rfl)) (by decide) (backOf (W := 0) (rm_hasFree_5 l Z a0 hw [] b393 T491.heap n0 O491 u491_4 ) hZ (own_w hw 30 rfl) (own_w hw 6 rfl) (by decide) (by decide)) q517a q517c (g := (mkF m 191 (oL22 p0 p1 p2 b393) [(.ref b393)])) rfl (by rw [hml]; rfl) (Steps.refl _) (argsL := []) (rest := []) (lenOf pd___Z rfl) rfl (by show 2 * 0 + _ ≤ _; exact Nat.le_of_eq rfl) (hb hby at_191) (fun _ _ => ⟨rfl, rfl, (by decide : 4 + 0 ≤ _), (by decide : 11 + 0 ≤ _)⟩)
    dsimp only [Pt.U, Pt.locs, Pt.cells, Pt.slots] at X517 l517 y517 z517 st517 hQ517
    subst l517 y517 z517
    obtain ⟨rfl, N517q, e517⟩ := hQ517
    have N517 := Fr.app N491 N517q
    have pre520 : ∀ t, oS p e below m T517 220 (oL18 p0 p1 p2 b393) [(.int ((1 : Int32) &&& (1 : Int32)))] t → oT p e below T (mkF m 167 (oL8 p0 p1 p2 b393) []) t := by
      intro t kt
      refine pre516 t ?_
      show oS p e below m T491 187 (oL8 p0 p1 p2 b393) [(.int 2)] _
      refine XS.istore X491.here hx rfl (hb hby at_187) rfl (l' := (oL22 p0 p1 p2 b393)) rfl ?_
      refine XS.aload X491.here hx rfl (hb hby at_189) rfl rfl ?_
      show oS p e below m T491 191 (oL22 p0 p1 p2 b393) [(.ref b393)] _
      refine st517.trans ?_
      show oS p e below m T517 194 (oL22 p0 p1 p2 b393) [(.int 0)] _
      refine XS.istore X517.here hx rfl (hb hby at_194) rfl (l' := (oL18 p0 p1 p2 b393)) rfl ?_
      refine XS.iload X517.here hx rfl (hb hby at_196) rfl ?_
      show oS p e below m T517 198 (oL18 p0 p1 p2 b393) [(.int 1)] _
      refine XS.iload X517.here hx rfl (hb hby at_198) rfl ?_
      refine XS.iload X517.here hx rfl (hb hby at_200) rfl ?_
      show oS p e below m T517 202 (oL18 p0 p1 p2 b393) [(.int 2), (.int 0), (.int 1)] _
      refine XS.iloadN X517.here hx rfl (hb hby at_202) rfl ?_
      refine XS.icmpYes X517.here hx rfl (pc0 := 203) (pc' := 210) rfl (hb hby at_203) rfl (flt (by decide : ¬ ((2 : Int32) < (2 : Int32)))).2.1 (by decide) (by decide) ?_
      show oS p e below m T517 210 (oL18 p0 p1 p2 b393) [(.int 0), (.int 1)] _
      refine XS.iconst X517.here hx rfl (hb hby at_210) ?_
      refine XS.icmpNo X517.here hx rfl (hb hby at_211) rfl (teq (by decide : (0 : Int32) = (0 : Int32))).2 ?_
      show oS p e below m T517 214 (oL18 p0 p1 p2 b393) [(.int 1)] _
      refine XS.iconst X517.here hx rfl (hb hby at_214) ?_
      refine XS.goto X517.here hx rfl (pc0 := 215) (pc' := 219) rfl (hb hby at_215) (by decide) (by decide) ?_
      show oS p e below m T517 219 (oL18 p0 p1 p2 b393) [(.int 1), (.int 1)] _
      refine XS.iand X517.here hx rfl (hb hby at_219) rfl ?_
      exact kt
    rw [show ((1 : Int32) &&& (1 : Int32)) = (1 : Int32) from by decide] at pre520
    have pre521 : ∀ t, oS p e below m T517 224 (oL18 p0 p1 p2 b393) [(.int 1)] t → oT p e below T (mkF m 167 (oL8 p0 p1 p2 b393) []) t := by
      intro t kt
      refine pre520 t ?_
      show oS p e below m T517 220 (oL18 p0 p1 p2 b393) [(.int 1)] _
      refine XS.istore X517.here hx rfl (hb hby at_220) rfl (l' := (oL18 p0 p1 p2 b393)) rfl ?_
      refine XS.iload X517.here hx rfl (hb hby at_222) rfl ?_
      exact kt
    obtain ⟨fs, hr, hrun, hended, hW, hsame⟩ := X517.leave (v := some (.int 1)) (fun h => by rw [Bd.returns] at h; cases h)
    refine ⟨_, _, pre521 _ ?_, hrun, hended, _, _, rfl, ?_, ⟨_, rfl⟩, hW, hsame.mono (by decide) (by decide)⟩
    · show oS p e below m T517 224 (oL18 p0 p1 p2 b393) [(.int 1)] _
      exact retN X517 hx (t := .boolean) Bd.returns (by simp) (hb hby at_224) hr
    · show Q_rm0 Z p0 p1 p2 w_cache w_I1 cl_cache w_I4 w_I2 w_I3 h0 n0 _ T517.heap _
      rw [e517]
      exact ⟨rfl, N517⟩
  by_cases hc156_522 : (p2 &&& (2 : Int32)) = (0 : Int32)
  have pre523 : ∀ t, oS p e below m T446 167 (oL8 p0 p1 p2 b393) [] t → oT p e below s₁ (entryFrame m #[(.int p0), (.int p1), (.int p2)] maxLocals) t := by
    intro t kt
    refine pre480 t ?_
    show oS p e below m T446 156 (oL8 p0 p1 p2 b393) [(.int (p2 &&& (2 : Int32)))] _
    refine XS.ifYes X446.here hx rfl (pc0 := 156) (pc' := 167) rfl (hb hby at_156) rfl ((if0 _ _).trans (teq hc156_522).1) (by decide) (by decide) ?_
    exact kt
  obtain ⟨s2, o2, hs2, r2⟩ := tail167_481 _ _ _ X446 rfl N446 O446 u446_0 u446_1 u446_2 u446_3 u446_4 u446_5 u446_6 u446_7 u446_8
  exact ⟨s2, o2, pre523 _ hs2, r2⟩
  obtain ⟨cq525, kq525, q525a, q525b, q525c⟩ := isOf hZ rfl u446_1
  obtain ⟨_, _, ⟨T525, L525, k525, n525⟩, -, X525, ⟨Lc525, hQ525, l525, y525, z525⟩, st525⟩ := X446.virtualBack hx (y := oy5) (z := oy5) hown (mvT hZ (own_w hw 47 rfl)) (mvT hZ (own_w hw 48 rfl)) (notFace_of_selects (args := #[]) (mvT hZ (own_w hw 50 rfl))) (mvT hZ (own_w hw 50 rfl)) (mvT hZ (own_w hw 49 rfl)) (by decide) (backOf (W := 0) (rm_release_28 l Z a0 hw [] b393 b394_b211 b394_b213 b394_b215 kx394_k211 kx394_k213 w_I2 T446.heap n0 O446 u446_1 u446_2 u446_3 u446_8 u446_7 ne_b393_b394_b211 ne_b393_b394_b213 ne_b393_b394_b215 u394_16 u394_17 u394_18 ) hZ (own_w hw 51 rfl) (own_w hw 6 rfl) (by decide) (by decide)) q525a q525c (g := (mkF m 163 (oL8 p0 p1 p2 b393) [(.long 1048576), (.ref b393)])) rfl (by rw [hml]; rfl) (Steps.refl _) (argsL := [(.long 1048576)]) (rest := []) (lenOf pd__J_Ljava_lang_Object_ rfl) rfl (by show 2 * 0 + _ ≤ _; exact Nat.le_of_eq rfl) (hb hby at_163) (fun _ _ => ⟨rfl, rfl, (by decide : 4 + 0 ≤ _), (by decide : 11 + 0 ≤ _)⟩)
  dsimp only [Pt.U, Pt.locs, Pt.cells, Pt.slots] at X525 l525 y525 z525 st525 hQ525
  subst l525 y525 z525
  obtain ⟨rfl, N525q, e525⟩ := hQ525
  have N525 := Fr.app N446 N525q
  have pre540 : ∀ t, oS p e below m T525 167 (oL8 p0 p1 p2 b393) [] t → oT p e below s₁ (entryFrame m #[(.int p0), (.int p1), (.int p2)] maxLocals) t := by
    intro t kt
    refine pre480 t ?_
    show oS p e below m T446 156 (oL8 p0 p1 p2 b393) [(.int (p2 &&& (2 : Int32)))] _
    refine XS.ifNo X446.here hx rfl (hb hby at_156) rfl ((if0 _ _).trans (feq hc156_522).1) ?_
    refine XS.aload X446.here hx rfl (hb hby at_159) rfl rfl ?_
    show oS p e below m T446 161 (oL8 p0 p1 p2 b393) [(.ref b393)] _
    refine XS.lload X446.here hx rfl (hb hby at_161) rfl ?_
    show oS p e below m T446 163 (oL8 p0 p1 p2 b393) [(.long 1048576), (.ref b393)] _
    refine st525.trans ?_
    show oS p e below m T525 166 (oL8 p0 p1 p2 b393) [.null] _
    refine XS.pop X525.here hx rfl (hb hby at_166) rfl rfl ?_
    exact kt
  obtain ⟨s2, o2, hs2, r2⟩ := tail167_481 _ _ _ X525 e525 N525 O446 u446_0 u446_1 u446_2 u446_3 u446_4 u446_5 u446_6 u446_7 u446_8
  exact ⟨s2, o2, pre540 _ hs2, r2⟩
  rw [hk] at pre5
  have pre542 : ∀ t, oS p e below m s₁ 12 (oL33 p0 p1 p2) [(.int 3), (.int (p1 &&& (3 : Int32)))] t → oT p e below s₁ (entryFrame m #[(.int p0), (.int p1), (.int p2)] maxLocals) t := by
    intro t kt
    refine pre5 t ?_
    show oS p e below m s₁ 7 (oL52 p0 p1 p2) [(.int 3)] _
    refine XS.istoreN X0.here hx rfl (hb hby at_7) rfl (l' := (oL33 p0 p1 p2)) rfl ?_
    refine XS.iloadN X0.here hx rfl (hb hby at_8) rfl ?_
    show oS p e below m s₁ 9 (oL33 p0 p1 p2) [(.int p1)] _
    refine XS.iconst X0.here hx rfl (hb hby at_9) ?_
    refine XS.iand X0.here hx rfl (hb hby at_10) rfl ?_
    show oS p e below m s₁ 11 (oL33 p0 p1 p2) [(.int (p1 &&& (3 : Int32)))] _
    refine XS.iloadN X0.here hx rfl (hb hby at_11) rfl ?_
    exact kt
  by_cases hb0 : (p1 &&& (3 : Int32)) = (0 : Int32)
  rw [hb0] at pre542
  obtain ⟨_, _, ⟨T543, L543, k543, n543⟩, -, X543, ⟨Lc543, hQ543, l543, y543, z543⟩, st543⟩ := Jvm.LawKit.callS X0 hx (y := oy0) hown (mvT hZ (own_w hw 0 rfl)) (mvT hZ (own_w hw 1 rfl)) (mvT hZ (own_w hw 2 rfl)) (mvT hZ (own_w hw 3 rfl)) (by decide) (backOf (W := 0) (rm_min l Z a0 hw [] (0 : Int32) (3 : Int32) (0 : Int32) h0 n0 (own_z O0) (by decide)) hZ (own_w hw 3 rfl) (own_w hw 2 rfl) (by decide) (by decide)) (g := (mkF m 12 (oL33 p0 p1 p2) [(.int 3), (.int 0)])) rfl (by rw [hml]; rfl) (argsL := [(.int 0), (.int 3)]) (rest := []) (lenOf pd__II_I rfl) rfl (by show 2 * 0 + _ ≤ _; exact Nat.le_of_eq rfl) (hb hby at_12) (fun _ _ => ⟨rfl, e0, (by decide : 0 + 0 ≤ _), (by decide : 0 + 0 ≤ _)⟩)
  dsimp only [Pt.U, Pt.locs, Pt.cells, Pt.slots] at X543 l543 y543 z543 st543 hQ543
  subst l543 y543 z543
  obtain ⟨rfl, N543q, e543⟩ := hQ543
  have N543 := Fr.app N0 N543q
  obtain ⟨T544, h544, X544, e544, E544, A544, D544, -, st544⟩ := newO X543 hx hZ hown (own_w hw 4 rfl) (own_w hw 5 rfl) (own_w hw 6 rfl) e543 (g := (mkF m 17 (oL70 p0 p1 p2) [])) rfl (hb hby at_17) (by decide) (by decide)
  obtain ⟨b544, g544⟩ : ∃ z, z = h0.size := ⟨_, rfl⟩
  have ge_b544 : n0 ≤ b544 := Nat.le_trans (own_z O0) (Nat.le_of_eq g544.symm)
  rw [← g544] at A544 D544 st544
  have O544 := O0.ext E544
  have E_b544 := A544
  have F_requests_b544 : Fld Z h544 b544 oc8 "requests" "[Ljava/lang/Object;" .null := D544 (Or.inr (own_w hw 17 rfl)) (ty := (.array (.object oc9))) (by decide)
  have F_sequences_b544 : Fld Z h544 b544 oc8 "sequences" "[J" .null := D544 (Or.inr (own_w hw 20 rfl)) (ty := (.array .long)) (by decide)
  have F_free_b544 : Fld Z h544 b544 oc8 "free" "[I" .null := D544 (Or.inr (own_w hw 23 rfl)) (ty := (.array .int)) (by decide)
  have F_freeCount_b544 : Fld Z h544 b544 oc8 "freeCount" "I" (.int 0) := D544 (Or.inl (own_w hw 25 rfl)) (ty := .int) (by decide)
  have F_lastSequence_b544 : Fld Z h544 b544 oc8 "lastSequence" "J" (.long 0) := D544 (Or.inl (own_w hw 44 rfl)) (ty := .long) (by decide)
  obtain ⟨_, _, ⟨T545, L545, k545, n545⟩, -, X545, ⟨Lc545, hQ545, l545, y545, z545⟩, st545⟩ := X544.specialBack hx (y := oy1) rfl hown (mvT hZ (own_w hw 7 rfl)) (mvT hZ (own_w hw 8 rfl)) (mvT hZ (own_w hw 9 rfl)) (by decide) (backOf (W := 1) (rm_init_30 l Z a0 hw [] b544 h544 n0 O544 E_b544 F_requests_b544 F_sequences_b544 F_free_b544 F_freeCount_b544 F_lastSequence_b544 ge_b544 ) hZ (own_w hw 9 rfl) (own_w hw 6 rfl) (by decide) (by decide)) (g := (mkF m 22 (oL70 p0 p1 p2) [(.int 3), (.ref b544), (.ref b544)])) rfl (by rw [hml]; rfl) (Steps.refl _) (a := b544) (argsL := [(.int 3)]) (rest := [(.ref b544)]) (lenOf pd__I_V rfl) rfl (by show 2 * 0 + _ ≤ _; exact Nat.le_of_eq rfl) (hb hby at_22) (fun _ _ => ⟨rfl, e544, (by decide : 1 + 3 ≤ _), (by decide : 5 + 9 ≤ _)⟩)
  dsimp only [Pt.U, Pt.locs, Pt.cells, Pt.slots] at X545 l545 y545 z545 st545 hQ545
  subst l545 y545 z545
  obtain ⟨b545_b549, b545_b551, b545_b553, kx545_k549, kx545_k551, kx545_k553, rfl, N545q, Kc545, u545_0, u545_1, u545_2, u545_3, u545_4, u545_5, u545_6, u545_7, u545_8, u545_9, u545_10, u545_11, u545_12, u545_13, u545_14, u545_15, u545_16, u545_17, u545_18⟩ := hQ545
  have N545 := Fr.app N543 N545q
  have ne_b544_b545_b549 : b544 ≠ b545_b549 := Nat.ne_of_lt (Nat.lt_of_lt_of_le E_b544.lt u545_9)
  have ne_b544_b545_b551 : b544 ≠ b545_b551 := Nat.ne_of_lt (Nat.lt_of_lt_of_le E_b544.lt u545_12)
  have ne_b544_b545_b553 : b544 ≠ b545_b553 := Nat.ne_of_lt (Nat.lt_of_lt_of_le E_b544.lt u545_15)
  have O545 := O544.keep Kc545 (allS ge_b544 all0)
  obtain ⟨cq579, kq579, q579a, q579b, q579c⟩ := isOf hZ rfl u545_0
  obtain ⟨_, _, ⟨T579, L579, k579, n579⟩, -, X579, ⟨Lc579, hQ579, l579, y579, z579⟩, st579⟩ := X545.virtualBack hx (y := oy2) (z := oy2) hown (mvT hZ (own_w hw 26 rfl)) (mvT hZ (own_w hw 27 rfl)) (notFace_of_selects (args := #[]) (mvT hZ (own_w hw 29 rfl))) (mvT hZ (own_w hw 29 rfl)) (mvT hZ (own_w hw 28 rfl)) (by decide) (backOf (W := 0) (rm_hasFree_31 l Z a0 hw [] b544 T545.heap n0 O545 u545_4 ) hZ (own_w hw 30 rfl) (own_w hw 6 rfl) (by decide) (by decide)) q579a q579c (g := (mkF m 29 #[iv p0, iv p1, iv p2, iv 3, iv 0, rv b544, .unset, .unset, .unset, .unset, .unset, .unset, .unset] [(.ref b544)])) rfl (by rw [hml]; rfl) (Steps.refl _) (argsL := []) (rest := []) (lenOf pd___Z rfl) rfl (by show 2 * 0 + _ ≤ _; exact Nat.le_of_eq rfl) (hb hby at_29) (fun _ _ => ⟨rfl, rfl, (by decide : 4 + 0 ≤ _), (by decide : 14 + 0 ≤ _)⟩)
  dsimp only [Pt.U, Pt.locs, Pt.cells, Pt.slots] at X579 l579 y579 z579 st579 hQ579
  subst l579 y579 z579
  obtain ⟨rfl, N579q, e579⟩ := hQ579
  have N579 := Fr.app N545 N579q
  obtain ⟨cq586, kq586, q586a, q586b, q586c⟩ := isOf hZ e579 u545_0
  obtain ⟨_, _, ⟨T586, L586, k586, n586⟩, -, X586, ⟨Lc586, hQ586, l586, y586, z586⟩, st586⟩ := X579.virtualBack hx (y := oy2) (z := oy2) hown (mvT hZ (own_w hw 26 rfl)) (mvT hZ (own_w hw 27 rfl)) (notFace_of_selects (args := #[]) (mvT hZ (own_w hw 29 rfl))) (mvT hZ (own_w hw 29 rfl)) (mvT hZ (own_w hw 28 rfl)) (by decide) (backOf (W := 0) (rm_hasFree_31 l Z a0 hw [] b544 T545.heap n0 O545 u545_4 ) hZ (own_w hw 30 rfl) (own_w hw 6 rfl) (by decide) (by decide)) q586a q586c (g := (mkF m 92 (oL51 p0 p1 p2 b544) [(.ref b544)])) rfl (by rw [hml]; rfl) (Steps.refl _) (argsL := []) (rest := []) (lenOf pd___Z rfl) rfl (by show 2 * 0 + _ ≤ _; exact Nat.le_of_eq rfl) (hb hby at_92) (fun _ _ => ⟨rfl, e579, (by decide : 4 + 0 ≤ _), (by decide : 14 + 0 ≤ _)⟩)
  dsimp only [Pt.U, Pt.locs, Pt.cells, Pt.slots] at X586 l586 y586 z586 st586 hQ586
  subst l586 y586 z586
  obtain ⟨rfl, N586q, e586⟩ := hQ586
  have N586 := Fr.app N579 N586q
  have pre589 : ∀ t, oS p e below m T586 121 (oL42 p0 p1 p2 b544) [(.int ((1 : Int32) &&& (1 : Int32)))] t → oT p e below s₁ (entryFrame m #[(.int p0), (.int p1), (.int p2)] maxLocals) t := by
    intro t kt
    refine pre542 t ?_
    show oS p e below m s₁ 12 (oL33 p0 p1 p2) [(.int 3), (.int 0)] _
    refine st543 _ ?_
    show oS p e below m T543 15 (oL33 p0 p1 p2) [(.int 0)] _
    refine XS.istore X543.here hx rfl (hb hby at_15) rfl (l' := (oL70 p0 p1 p2)) rfl ?_
    show oS p e below m T543 17 (oL70 p0 p1 p2) [] _
    refine st544 _ ?_
    show oS p e below m T544 20 (oL70 p0 p1 p2) [(.ref b544)] _
    refine XS.dup X544.here hx rfl (hb hby at_20) rfl rfl ?_
    refine XS.iloadN X544.here hx rfl (hb hby at_21) rfl ?_
    show oS p e below m T544 22 (oL70 p0 p1 p2) [(.int 3), (.ref b544), (.ref b544)] _
    refine st545.trans ?_
    show oS p e below m T545 25 (oL70 p0 p1 p2) [(.ref b544)] _
    refine XS.astore X545.here hx rfl (hb hby at_25) rfl rfl (l' := #[iv p0, iv p1, iv p2, iv 3, iv 0, rv b544, .unset, .unset, .unset, .unset, .unset, .unset, .unset]) rfl ?_
    refine XS.aload X545.here hx rfl (hb hby at_27) rfl rfl ?_
    show oS p e below m T545 29 #[iv p0, iv p1, iv p2, iv 3, iv 0, rv b544, .unset, .unset, .unset, .unset, .unset, .unset, .unset] [(.ref b544)] _
    refine st579.trans ?_
    show oS p e below m T579 32 #[iv p0, iv p1, iv p2, iv 3, iv 0, rv b544, .unset, .unset, .unset, .unset, .unset, .unset, .unset] [(.int 1)] _
    refine XS.istore X579.here hx rfl (hb hby at_32) rfl (l' := #[iv p0, iv p1, iv p2, iv 3, iv 0, rv b544, iv 1, .unset, .unset, .unset, .unset, .unset, .unset]) rfl ?_
    refine XS.iload X579.here hx rfl (hb hby at_34) rfl ?_
    show oS p e below m T579 36 #[iv p0, iv p1, iv p2, iv 3, iv 0, rv b544, iv 1, .unset, .unset, .unset, .unset, .unset, .unset] [(.int 1)] _
    refine XS.istore X579.here hx rfl (hb hby at_36) rfl (l' := #[iv p0, iv p1, iv p2, iv 3, iv 0, rv b544, iv 1, iv 1, .unset, .unset, .unset, .unset, .unset]) rfl ?_
    refine XS.lconst X579.here hx rfl (hb hby at_38) ?_
    show oS p e below m T579 39 #[iv p0, iv p1, iv p2, iv 3, iv 0, rv b544, iv 1, iv 1, .unset, .unset, .unset, .unset, .unset] [(.long 0)] _
    refine XS.lstore X579.here hx rfl (hb hby at_39) rfl (l' := (oL51 p0 p1 p2 b544)) rfl ?_
    refine XS.iload X579.here hx rfl (hb hby at_41) rfl ?_
    show oS p e below m T579 43 (oL51 p0 p1 p2 b544) [(.int 0)] _
    refine XS.iconst X579.here hx rfl (hb hby at_43) ?_
    refine XS.icmpYes X579.here hx rfl (pc0 := 44) (pc' := 58) rfl (hb hby at_44) rfl (tlt (by decide : (0 : Int32) < (1 : Int32))).1 (by decide) (by decide) ?_
    show oS p e below m T579 58 (oL51 p0 p1 p2 b544) [] _
    refine XS.iload X579.here hx rfl (hb hby at_58) rfl ?_
    refine XS.iconst X579.here hx rfl (hb hby at_60) ?_
    show oS p e below m T579 61 (oL51 p0 p1 p2 b544) [(.int 2), (.int 0)] _
    refine XS.icmpYes X579.here hx rfl (pc0 := 61) (pc' := 74) rfl (hb hby at_61) rfl (tlt (by decide : (0 : Int32) < (2 : Int32))).1 (by decide) (by decide) ?_
    refine XS.iload X579.here hx rfl (hb hby at_74) rfl ?_
    show oS p e below m T579 76 (oL51 p0 p1 p2 b544) [(.int 0)] _
    refine XS.iconst X579.here hx rfl (hb hby at_76) ?_
    refine XS.icmpYes X579.here hx rfl (pc0 := 77) (pc' := 90) rfl (hb hby at_77) rfl (tlt (by decide : (0 : Int32) < (3 : Int32))).1 (by decide) (by decide) ?_
    show oS p e below m T579 90 (oL51 p0 p1 p2 b544) [] _
    refine XS.aload X579.here hx rfl (hb hby at_90) rfl rfl ?_
    show oS p e below m T579 92 (oL51 p0 p1 p2 b544) [(.ref b544)] _
    refine st586.trans ?_
    show oS p e below m T586 95 (oL51 p0 p1 p2 b544) [(.int 1)] _
    refine XS.istore X586.here hx rfl (hb hby at_95) rfl (l' := (oL42 p0 p1 p2 b544)) rfl ?_
    refine XS.iload X586.here hx rfl (hb hby at_97) rfl ?_
    show oS p e below m T586 99 (oL42 p0 p1 p2 b544) [(.int 1)] _
    refine XS.iload X586.here hx rfl (hb hby at_99) rfl ?_
    refine XS.iload X586.here hx rfl (hb hby at_101) rfl ?_
    show oS p e below m T586 103 (oL42 p0 p1 p2 b544) [(.int 0), (.int 1), (.int 1)] _
    refine XS.iloadN X586.here hx rfl (hb hby at_103) rfl ?_
    refine XS.icmpNo X586.here hx rfl (hb hby at_104) rfl (tlt (by decide : (0 : Int32) < (3 : Int32))).2.1 ?_
    show oS p e below m T586 107 (oL42 p0 p1 p2 b544) [(.int 1), (.int 1)] _
    refine XS.iconst X586.here hx rfl (hb hby at_107) ?_
    refine XS.goto X586.here hx rfl (pc0 := 108) (pc' := 112) rfl (hb hby at_108) (by decide) (by decide) ?_
    show oS p e below m T586 112 (oL42 p0 p1 p2 b544) [(.int 1), (.int 1), (.int 1)] _
    refine XS.icmpNo X586.here hx rfl (hb hby at_112) rfl (teq (by decide : (1 : Int32) = (1 : Int32))).2 ?_
    refine XS.iconst X586.here hx rfl (hb hby at_115) ?_
    show oS p e below m T586 116 (oL42 p0 p1 p2 b544) [(.int 1), (.int 1)] _
    refine XS.goto X586.here hx rfl (pc0 := 116) (pc' := 120) rfl (hb hby at_116) (by decide) (by decide) ?_
    refine XS.iand X586.here hx rfl (hb hby at_120) rfl ?_
    exact kt
  rw [show ((1 : Int32) &&& (1 : Int32)) = (1 : Int32) from by decide] at pre589
  obtain ⟨cq591, kq591, q591a, q591b, q591c⟩ := isOf hZ e586 u545_0
  obtain ⟨_, _, ⟨T591, L591, k591, n591⟩, -, X591, ⟨Lc591, hQ591, l591, y591, z591⟩, st591⟩ := X586.virtualBack hx (y := oy2) (z := oy2) hown (mvT hZ (own_w hw 26 rfl)) (mvT hZ (own_w hw 27 rfl)) (notFace_of_selects (args := #[]) (mvT hZ (own_w hw 29 rfl))) (mvT hZ (own_w hw 29 rfl)) (mvT hZ (own_w hw 28 rfl)) (by decide) (backOf (W := 0) (rm_hasFree_31 l Z a0 hw [] b544 T545.heap n0 O545 u545_4 ) hZ (own_w hw 30 rfl) (own_w hw 6 rfl) (by decide) (by decide)) q591a q591c (g := (mkF m 191 (oL71 p0 p1 p2 b544) [(.ref b544)])) rfl (by rw [hml]; rfl) (Steps.refl _) (argsL := []) (rest := []) (lenOf pd___Z rfl) rfl (by show 2 * 0 + _ ≤ _; exact Nat.le_of_eq rfl) (hb hby at_191) (fun _ _ => ⟨rfl, e586, (by decide : 4 + 0 ≤ _), (by decide : 14 + 0 ≤ _)⟩)
  dsimp only [Pt.U, Pt.locs, Pt.cells, Pt.slots] at X591 l591 y591 z591 st591 hQ591
  subst l591 y591 z591
  obtain ⟨rfl, N591q, e591⟩ := hQ591
  have N591 := Fr.app N586 N591q
  have pre594 : ∀ t, oS p e below m T591 220 (oL34 p0 p1 p2 b544) [(.int ((1 : Int32) &&& (1 : Int32)))] t → oT p e below s₁ (entryFrame m #[(.int p0), (.int p1), (.int p2)] maxLocals) t := by
    intro t kt
    refine pre589 t ?_
    show oS p e below m T586 121 (oL42 p0 p1 p2 b544) [(.int 1)] _
    refine XS.istore X586.here hx rfl (hb hby at_121) rfl (l' := (oL42 p0 p1 p2 b544)) rfl ?_
    refine XS.iload X586.here hx rfl (hb hby at_123) rfl ?_
    show oS p e below m T586 125 (oL42 p0 p1 p2 b544) [(.int 0)] _
    refine XS.istore X586.here hx rfl (hb hby at_125) rfl (l' := (oL71 p0 p1 p2 b544)) rfl ?_
    refine XS.iload X586.here hx rfl (hb hby at_127) rfl ?_
    show oS p e below m T586 129 (oL71 p0 p1 p2 b544) [(.int 0)] _
    refine XS.iconst X586.here hx rfl (hb hby at_129) ?_
    refine XS.icmpYes X586.here hx rfl (pc0 := 130) (pc' := 189) rfl (hb hby at_130) rfl (tlt (by decide : (0 : Int32) < (1 : Int32))).1 (by decide) (by decide) ?_
    show oS p e below m T586 189 (oL71 p0 p1 p2 b544) [] _
    refine XS.aload X586.here hx rfl (hb hby at_189) rfl rfl ?_
    show oS p e below m T586 191 (oL71 p0 p1 p2 b544) [(.ref b544)] _
    refine st591.trans ?_
    show oS p e below m T591 194 (oL71 p0 p1 p2 b544) [(.int 1)] _
    refine XS.istore X591.here hx rfl (hb hby at_194) rfl (l' := (oL34 p0 p1 p2 b544)) rfl ?_
    refine XS.iload X591.here hx rfl (hb hby at_196) rfl ?_
    show oS p e below m T591 198 (oL34 p0 p1 p2 b544) [(.int 1)] _
    refine XS.iload X591.here hx rfl (hb hby at_198) rfl ?_
    refine XS.iload X591.here hx rfl (hb hby at_200) rfl ?_
    show oS p e below m T591 202 (oL34 p0 p1 p2 b544) [(.int 0), (.int 1), (.int 1)] _
    refine XS.iloadN X591.here hx rfl (hb hby at_202) rfl ?_
    refine XS.icmpNo X591.here hx rfl (hb hby at_203) rfl (tlt (by decide : (0 : Int32) < (3 : Int32))).2.1 ?_
    show oS p e below m T591 206 (oL34 p0 p1 p2 b544) [(.int 1), (.int 1)] _
    refine XS.iconst X591.here hx rfl (hb hby at_206) ?_
    refine XS.goto X591.here hx rfl (pc0 := 207) (pc' := 211) rfl (hb hby at_207) (by decide) (by decide) ?_
    show oS p e below m T591 211 (oL34 p0 p1 p2 b544) [(.int 1), (.int 1), (.int 1)] _
    refine XS.icmpNo X591.here hx rfl (hb hby at_211) rfl (teq (by decide : (1 : Int32) = (1 : Int32))).2 ?_
    refine XS.iconst X591.here hx rfl (hb hby at_214) ?_
    show oS p e below m T591 215 (oL34 p0 p1 p2 b544) [(.int 1), (.int 1)] _
    refine XS.goto X591.here hx rfl (pc0 := 215) (pc' := 219) rfl (hb hby at_215) (by decide) (by decide) ?_
    refine XS.iand X591.here hx rfl (hb hby at_219) rfl ?_
    exact kt
  rw [show ((1 : Int32) &&& (1 : Int32)) = (1 : Int32) from by decide] at pre594
  have pre595 : ∀ t, oS p e below m T591 224 (oL34 p0 p1 p2 b544) [(.int 1)] t → oT p e below s₁ (entryFrame m #[(.int p0), (.int p1), (.int p2)] maxLocals) t := by
    intro t kt
    refine pre594 t ?_
    show oS p e below m T591 220 (oL34 p0 p1 p2 b544) [(.int 1)] _
    refine XS.istore X591.here hx rfl (hb hby at_220) rfl (l' := (oL34 p0 p1 p2 b544)) rfl ?_
    refine XS.iload X591.here hx rfl (hb hby at_222) rfl ?_
    exact kt
  obtain ⟨fs, hr, hrun, hended, hW, hsame⟩ := X591.leave (v := some (.int 1)) (fun h => by rw [Bd.returns] at h; cases h)
  refine ⟨_, _, pre595 _ ?_, hrun, hended, _, _, rfl, ?_, ⟨_, rfl⟩, hW, hsame.mono (by decide) (by decide)⟩
  · show oS p e below m T591 224 (oL34 p0 p1 p2 b544) [(.int 1)] _
    exact retN X591 hx (t := .boolean) Bd.returns (by simp) (hb hby at_224) hr
  · show Q_rm0 Z p0 p1 p2 w_cache w_I1 cl_cache w_I4 w_I2 w_I3 h0 n0 _ T591.heap _
    rw [e591]
    exact ⟨rfl, N591⟩
  by_cases hb1 : (p1 &&& (3 : Int32)) = (1 : Int32)
  rw [hb1] at pre542
  obtain ⟨_, _, ⟨T596, L596, k596, n596⟩, -, X596, ⟨Lc596, hQ596, l596, y596, z596⟩, st596⟩ := Jvm.LawKit.callS X0 hx (y := oy0) hown (mvT hZ (own_w hw 0 rfl)) (mvT hZ (own_w hw 1 rfl)) (mvT hZ (own_w hw 2 rfl)) (mvT hZ (own_w hw 3 rfl)) (by decide) (backOf (W := 0) (rm_min l Z a0 hw [] (1 : Int32) (3 : Int32) (1 : Int32) h0 n0 (own_z O0) (by decide)) hZ (own_w hw 3 rfl) (own_w hw 2 rfl) (by decide) (by decide)) (g := (mkF m 12 (oL33 p0 p1 p2) [(.int 3), (.int 1)])) rfl (by rw [hml]; rfl) (argsL := [(.int 1), (.int 3)]) (rest := []) (lenOf pd__II_I rfl) rfl (by show 2 * 0 + _ ≤ _; exact Nat.le_of_eq rfl) (hb hby at_12) (fun _ _ => ⟨rfl, e0, (by decide : 0 + 0 ≤ _), (by decide : 0 + 0 ≤ _)⟩)
  dsimp only [Pt.U, Pt.locs, Pt.cells, Pt.slots] at X596 l596 y596 z596 st596 hQ596
  subst l596 y596 z596
  obtain ⟨rfl, N596q, e596⟩ := hQ596
  have N596 := Fr.app N0 N596q
  obtain ⟨T597, h597, X597, e597, E597, A597, D597, -, st597⟩ := newO X596 hx hZ hown (own_w hw 4 rfl) (own_w hw 5 rfl) (own_w hw 6 rfl) e596 (g := (mkF m 17 (oL72 p0 p1 p2) [])) rfl (hb hby at_17) (by decide) (by decide)
  obtain ⟨b597, g597⟩ : ∃ z, z = h0.size := ⟨_, rfl⟩
  have ge_b597 : n0 ≤ b597 := Nat.le_trans (own_z O0) (Nat.le_of_eq g597.symm)
  rw [← g597] at A597 D597 st597
  have O597 := O0.ext E597
  have E_b597 := A597
  have F_requests_b597 : Fld Z h597 b597 oc8 "requests" "[Ljava/lang/Object;" .null := D597 (Or.inr (own_w hw 17 rfl)) (ty := (.array (.object oc9))) (by decide)
  have F_sequences_b597 : Fld Z h597 b597 oc8 "sequences" "[J" .null := D597 (Or.inr (own_w hw 20 rfl)) (ty := (.array .long)) (by decide)
  have F_free_b597 : Fld Z h597 b597 oc8 "free" "[I" .null := D597 (Or.inr (own_w hw 23 rfl)) (ty := (.array .int)) (by decide)
  have F_freeCount_b597 : Fld Z h597 b597 oc8 "freeCount" "I" (.int 0) := D597 (Or.inl (own_w hw 25 rfl)) (ty := .int) (by decide)
  have F_lastSequence_b597 : Fld Z h597 b597 oc8 "lastSequence" "J" (.long 0) := D597 (Or.inl (own_w hw 44 rfl)) (ty := .long) (by decide)
  obtain ⟨_, _, ⟨T598, L598, k598, n598⟩, -, X598, ⟨Lc598, hQ598, l598, y598, z598⟩, st598⟩ := X597.specialBack hx (y := oy1) rfl hown (mvT hZ (own_w hw 7 rfl)) (mvT hZ (own_w hw 8 rfl)) (mvT hZ (own_w hw 9 rfl)) (by decide) (backOf (W := 1) (rm_init_30 l Z a0 hw [] b597 h597 n0 O597 E_b597 F_requests_b597 F_sequences_b597 F_free_b597 F_freeCount_b597 F_lastSequence_b597 ge_b597 ) hZ (own_w hw 9 rfl) (own_w hw 6 rfl) (by decide) (by decide)) (g := (mkF m 22 (oL72 p0 p1 p2) [(.int 3), (.ref b597), (.ref b597)])) rfl (by rw [hml]; rfl) (Steps.refl _) (a := b597) (argsL := [(.int 3)]) (rest := [(.ref b597)]) (lenOf pd__I_V rfl) rfl (by show 2 * 0 + _ ≤ _; exact Nat.le_of_eq rfl) (hb hby at_22) (fun _ _ => ⟨rfl, e597, (by decide : 1 + 3 ≤ _), (by decide : 5 + 9 ≤ _)⟩)
  dsimp only [Pt.U, Pt.locs, Pt.cells, Pt.slots] at X598 l598 y598 z598 st598 hQ598
  subst l598 y598 z598
  obtain ⟨b598_b549, b598_b551, b598_b553, kx598_k549, kx598_k551, kx598_k553, rfl, N598q, Kc598, u598_0, u598_1, u598_2, u598_3, u598_4, u598_5, u598_6, u598_7, u598_8, u598_9, u598_10, u598_11, u598_12, u598_13, u598_14, u598_15, u598_16, u598_17, u598_18⟩ := hQ598
  have N598 := Fr.app N596 N598q
  have ne_b597_b598_b549 : b597 ≠ b598_b549 := Nat.ne_of_lt (Nat.lt_of_lt_of_le E_b597.lt u598_9)
  have ne_b597_b598_b551 : b597 ≠ b598_b551 := Nat.ne_of_lt (Nat.lt_of_lt_of_le E_b597.lt u598_12)
  have ne_b597_b598_b553 : b597 ≠ b598_b553 := Nat.ne_of_lt (Nat.lt_of_lt_of_le E_b597.lt u598_15)
  have O598 := O597.keep Kc598 (allS ge_b597 all0)
  obtain ⟨cq599, kq599, q599a, q599b, q599c⟩ := isOf hZ rfl u598_0
  obtain ⟨_, _, ⟨T599, L599, k599, n599⟩, -, X599, ⟨Lc599, hQ599, l599, y599, z599⟩, st599⟩ := X598.virtualBack hx (y := oy2) (z := oy2) hown (mvT hZ (own_w hw 26 rfl)) (mvT hZ (own_w hw 27 rfl)) (notFace_of_selects (args := #[]) (mvT hZ (own_w hw 29 rfl))) (mvT hZ (own_w hw 29 rfl)) (mvT hZ (own_w hw 28 rfl)) (by decide) (backOf (W := 0) (rm_hasFree_31 l Z a0 hw [] b597 T598.heap n0 O598 u598_4 ) hZ (own_w hw 30 rfl) (own_w hw 6 rfl) (by decide) (by decide)) q599a q599c (g := (mkF m 29 #[iv p0, iv p1, iv p2, iv 3, iv 1, rv b597, .unset, .unset, .unset, .unset, .unset, .unset, .unset] [(.ref b597)])) rfl (by rw [hml]; rfl) (Steps.refl _) (argsL := []) (rest := []) (lenOf pd___Z rfl) rfl (by show 2 * 0 + _ ≤ _; exact Nat.le_of_eq rfl) (hb hby at_29) (fun _ _ => ⟨rfl, rfl, (by decide : 4 + 0 ≤ _), (by decide : 14 + 0 ≤ _)⟩)
  dsimp only [Pt.U, Pt.locs, Pt.cells, Pt.slots] at X599 l599 y599 z599 st599 hQ599
  subst l599 y599 z599
  obtain ⟨rfl, N599q, e599⟩ := hQ599
  have N599 := Fr.app N598 N599q
  obtain ⟨_, _, ⟨T601, L601, k601, n601⟩, -, X601, ⟨Lc601, hQ601, l601, y601, z601⟩, st601⟩ := Jvm.LawKit.callS X599 hx (y := oy3) hown (mvT hZ (own_w hw 31 rfl)) (mvT hZ (own_w hw 32 rfl)) (mvT hZ (own_w hw 33 rfl)) (mvT hZ (own_w hw 34 rfl)) (by decide) (backOf (W := 1) (rm_valueOf_3 l Z a0 hw [] w_cache w_I1 cl_cache T598.heap n0 O598  S_high S_cache AE_1 A_cache) hZ (own_w hw 34 rfl) (own_w hw 33 rfl) (by decide) (by decide)) (g := (mkF m 50 (oL59 p0 p1 p2 b597) [(.int 1), (.ref b597)])) rfl (by rw [hml]; rfl) (argsL := [(.int 1)]) (rest := [(.ref b597)]) (lenOf pd__I_Ljava_lang_Integer_ rfl) rfl (by show 2 * 0 + _ ≤ _; exact Nat.le_of_eq rfl) (hb hby at_50) (fun _ _ => ⟨rfl, e599, (by decide : 4 + 0 ≤ _), (by decide : 14 + 0 ≤ _)⟩)
  dsimp only [Pt.U, Pt.locs, Pt.cells, Pt.slots] at X601 l601 y601 z601 st601 hQ601
  subst l601 y601 z601
  obtain ⟨rfl, N601q, e601⟩ := hQ601
  have N601 := Fr.app N599 N601q
  obtain ⟨cq602, kq602, q602a, q602b, q602c⟩ := isOf hZ e601 u598_0
  obtain ⟨_, _, ⟨T602, L602, k602, n602⟩, -, X602, ⟨Lc602, hQ602, l602, y602, z602⟩, st602⟩ := X601.virtualBack hx (y := oy4) (z := oy4) hown (mvT hZ (own_w hw 38 rfl)) (mvT hZ (own_w hw 39 rfl)) (notFace_of_selects (args := #[]) (mvT hZ (own_w hw 41 rfl))) (mvT hZ (own_w hw 41 rfl)) (mvT hZ (own_w hw 40 rfl)) (by decide) (backOf (W := 0) (rm_take_32 l Z a0 hw [] b597 b598_b549 b598_b551 b598_b553 kx598_k549 kx598_k551 kx598_k553 w_I1 T598.heap n0 O598 u598_0 u598_1 u598_2 u598_3 u598_4 u598_5 ge_b597 u598_6 u598_7 u598_8 u598_10 u598_11 u598_13 u598_14 ne_b597_b598_b549 ne_b597_b598_b551 ne_b597_b598_b553 u598_16 u598_17 u598_18 E_I1) hZ (own_w hw 42 rfl) (own_w hw 6 rfl) (by decide) (by decide)) q602a q602c (g := (mkF m 53 (oL59 p0 p1 p2 b597) [(.ref w_I1), (.ref b597)])) rfl (by rw [hml]; rfl) (Steps.refl _) (argsL := [(.ref w_I1)]) (rest := []) (lenOf pd__Ljava_lang_Object__J rfl) rfl (by show 2 * 0 + _ ≤ _; exact Nat.le_of_eq rfl) (hb hby at_53) (fun _ _ => ⟨rfl, e601, (by decide : 4 + 0 ≤ _), (by decide : 14 + 0 ≤ _)⟩)
  dsimp only [Pt.U, Pt.locs, Pt.cells, Pt.slots] at X602 l602 y602 z602 st602 hQ602
  subst l602 y602 z602
  obtain ⟨rfl, N602q, Kc602, u602_0, u602_1, u602_2, u602_3, u602_4, u602_5, u602_6, u602_7⟩ := hQ602
  have N602 := Fr.app N601 N602q
  have u598_13 := u598_13.keep Kc602 (ninS (Ne.symm ne_b597_b598_b553) (ninS (Ne.symm u598_17) (ninS (Ne.symm u598_18) nin0)))
  have O602 := O598.keep Kc602 (allS ge_b597 (allS u598_8 (allS u598_11 all0)))
  obtain ⟨cq629, kq629, q629a, q629b, q629c⟩ := isOf hZ rfl u602_0
  obtain ⟨_, _, ⟨T629, L629, k629, n629⟩, -, X629, ⟨Lc629, hQ629, l629, y629, z629⟩, st629⟩ := X602.virtualBack hx (y := oy2) (z := oy2) hown (mvT hZ (own_w hw 26 rfl)) (mvT hZ (own_w hw 27 rfl)) (notFace_of_selects (args := #[]) (mvT hZ (own_w hw 29 rfl))) (mvT hZ (own_w hw 29 rfl)) (mvT hZ (own_w hw 28 rfl)) (by decide) (backOf (W := 0) (rm_hasFree_14 l Z a0 hw [] b597 T602.heap n0 O602 u602_4 ) hZ (own_w hw 30 rfl) (own_w hw 6 rfl) (by decide) (by decide)) q629a q629c (g := (mkF m 92 (oL60 p0 p1 p2 b597) [(.ref b597)])) rfl (by rw [hml]; rfl) (Steps.refl _) (argsL := []) (rest := []) (lenOf pd___Z rfl) rfl (by show 2 * 0 + _ ≤ _; exact Nat.le_of_eq rfl) (hb hby at_92) (fun _ _ => ⟨rfl, rfl, (by decide : 4 + 0 ≤ _), (by decide : 14 + 0 ≤ _)⟩)
  dsimp only [Pt.U, Pt.locs, Pt.cells, Pt.slots] at X629 l629 y629 z629 st629 hQ629
  subst l629 y629 z629
  obtain ⟨rfl, N629q, e629⟩ := hQ629
  have N629 := Fr.app N602 N629q
  have pre632 : ∀ t, oS p e below m T629 121 (oL43 p0 p1 p2 b597) [(.int ((1 : Int32) &&& (1 : Int32)))] t → oT p e below s₁ (entryFrame m #[(.int p0), (.int p1), (.int p2)] maxLocals) t := by
    intro t kt
    refine pre542 t ?_
    show oS p e below m s₁ 12 (oL33 p0 p1 p2) [(.int 3), (.int 1)] _
    refine st596 _ ?_
    show oS p e below m T596 15 (oL33 p0 p1 p2) [(.int 1)] _
    refine XS.istore X596.here hx rfl (hb hby at_15) rfl (l' := (oL72 p0 p1 p2)) rfl ?_
    show oS p e below m T596 17 (oL72 p0 p1 p2) [] _
    refine st597 _ ?_
    show oS p e below m T597 20 (oL72 p0 p1 p2) [(.ref b597)] _
    refine XS.dup X597.here hx rfl (hb hby at_20) rfl rfl ?_
    refine XS.iloadN X597.here hx rfl (hb hby at_21) rfl ?_
    show oS p e below m T597 22 (oL72 p0 p1 p2) [(.int 3), (.ref b597), (.ref b597)] _
    refine st598.trans ?_
    show oS p e below m T598 25 (oL72 p0 p1 p2) [(.ref b597)] _
    refine XS.astore X598.here hx rfl (hb hby at_25) rfl rfl (l' := #[iv p0, iv p1, iv p2, iv 3, iv 1, rv b597, .unset, .unset, .unset, .unset, .unset, .unset, .unset]) rfl ?_
    refine XS.aload X598.here hx rfl (hb hby at_27) rfl rfl ?_
    show oS p e below m T598 29 #[iv p0, iv p1, iv p2, iv 3, iv 1, rv b597, .unset, .unset, .unset, .unset, .unset, .unset, .unset] [(.ref b597)] _
    refine st599.trans ?_
    show oS p e below m T599 32 #[iv p0, iv p1, iv p2, iv 3, iv 1, rv b597, .unset, .unset, .unset, .unset, .unset, .unset, .unset] [(.int 1)] _
    refine XS.istore X599.here hx rfl (hb hby at_32) rfl (l' := #[iv p0, iv p1, iv p2, iv 3, iv 1, rv b597, iv 1, .unset, .unset, .unset, .unset, .unset, .unset]) rfl ?_
    refine XS.iload X599.here hx rfl (hb hby at_34) rfl ?_
    show oS p e below m T599 36 #[iv p0, iv p1, iv p2, iv 3, iv 1, rv b597, iv 1, .unset, .unset, .unset, .unset, .unset, .unset] [(.int 1)] _
    refine XS.istore X599.here hx rfl (hb hby at_36) rfl (l' := #[iv p0, iv p1, iv p2, iv 3, iv 1, rv b597, iv 1, iv 1, .unset, .unset, .unset, .unset, .unset]) rfl ?_
    refine XS.lconst X599.here hx rfl (hb hby at_38) ?_
    show oS p e below m T599 39 #[iv p0, iv p1, iv p2, iv 3, iv 1, rv b597, iv 1, iv 1, .unset, .unset, .unset, .unset, .unset] [(.long 0)] _
    refine XS.lstore X599.here hx rfl (hb hby at_39) rfl (l' := (oL59 p0 p1 p2 b597)) rfl ?_
    refine XS.iload X599.here hx rfl (hb hby at_41) rfl ?_
    show oS p e below m T599 43 (oL59 p0 p1 p2 b597) [(.int 1)] _
    refine XS.iconst X599.here hx rfl (hb hby at_43) ?_
    refine XS.icmpNo X599.here hx rfl (hb hby at_44) rfl (flt (by decide : ¬ ((1 : Int32) < (1 : Int32)))).1 ?_
    show oS p e below m T599 47 (oL59 p0 p1 p2 b597) [] _
    refine XS.aload X599.here hx rfl (hb hby at_47) rfl rfl ?_
    refine XS.iconst X599.here hx rfl (hb hby at_49) ?_
    show oS p e below m T599 50 (oL59 p0 p1 p2 b597) [(.int 1), (.ref b597)] _
    refine st601 _ ?_
    show oS p e below m T601 53 (oL59 p0 p1 p2 b597) [(.ref w_I1), (.ref b597)] _
    refine st602.trans ?_
    show oS p e below m T602 56 (oL59 p0 p1 p2 b597) [(.long 1048576)] _
    refine XS.lstore X602.here hx rfl (hb hby at_56) rfl (l' := (oL60 p0 p1 p2 b597)) rfl ?_
    refine XS.iload X602.here hx rfl (hb hby at_58) rfl ?_
    show oS p e below m T602 60 (oL60 p0 p1 p2 b597) [(.int 1)] _
    refine XS.iconst X602.here hx rfl (hb hby at_60) ?_
    refine XS.icmpYes X602.here hx rfl (pc0 := 61) (pc' := 74) rfl (hb hby at_61) rfl (tlt (by decide : (1 : Int32) < (2 : Int32))).1 (by decide) (by decide) ?_
    show oS p e below m T602 74 (oL60 p0 p1 p2 b597) [] _
    refine XS.iload X602.here hx rfl (hb hby at_74) rfl ?_
    refine XS.iconst X602.here hx rfl (hb hby at_76) ?_
    show oS p e below m T602 77 (oL60 p0 p1 p2 b597) [(.int 3), (.int 1)] _
    refine XS.icmpYes X602.here hx rfl (pc0 := 77) (pc' := 90) rfl (hb hby at_77) rfl (tlt (by decide : (1 : Int32) < (3 : Int32))).1 (by decide) (by decide) ?_
    refine XS.aload X602.here hx rfl (hb hby at_90) rfl rfl ?_
    show oS p e below m T602 92 (oL60 p0 p1 p2 b597) [(.ref b597)] _
    refine st629.trans ?_
    show oS p e below m T629 95 (oL60 p0 p1 p2 b597) [(.int 1)] _
    refine XS.istore X629.here hx rfl (hb hby at_95) rfl (l' := (oL43 p0 p1 p2 b597)) rfl ?_
    refine XS.iload X629.here hx rfl (hb hby at_97) rfl ?_
    show oS p e below m T629 99 (oL43 p0 p1 p2 b597) [(.int 1)] _
    refine XS.iload X629.here hx rfl (hb hby at_99) rfl ?_
    refine XS.iload X629.here hx rfl (hb hby at_101) rfl ?_
    show oS p e below m T629 103 (oL43 p0 p1 p2 b597) [(.int 1), (.int 1), (.int 1)] _
    refine XS.iloadN X629.here hx rfl (hb hby at_103) rfl ?_
    refine XS.icmpNo X629.here hx rfl (hb hby at_104) rfl (tlt (by decide : (1 : Int32) < (3 : Int32))).2.1 ?_
    show oS p e below m T629 107 (oL43 p0 p1 p2 b597) [(.int 1), (.int 1)] _
    refine XS.iconst X629.here hx rfl (hb hby at_107) ?_
    refine XS.goto X629.here hx rfl (pc0 := 108) (pc' := 112) rfl (hb hby at_108) (by decide) (by decide) ?_
    show oS p e below m T629 112 (oL43 p0 p1 p2 b597) [(.int 1), (.int 1), (.int 1)] _
    refine XS.icmpNo X629.here hx rfl (hb hby at_112) rfl (teq (by decide : (1 : Int32) = (1 : Int32))).2 ?_
    refine XS.iconst X629.here hx rfl (hb hby at_115) ?_
    show oS p e below m T629 116 (oL43 p0 p1 p2 b597) [(.int 1), (.int 1)] _
    refine XS.goto X629.here hx rfl (pc0 := 116) (pc' := 120) rfl (hb hby at_116) (by decide) (by decide) ?_
    refine XS.iand X629.here hx rfl (hb hby at_120) rfl ?_
    exact kt
  rw [show ((1 : Int32) &&& (1 : Int32)) = (1 : Int32) from by decide] at pre632
  have pre635 : ∀ t, oS p e below m T629 136 (oL23 p0 p1 p2 b597) [(.int (p2 &&& (1 : Int32)))] t → oT p e below s₁ (entryFrame m #[(.int p0), (.int p1), (.int p2)] maxLocals) t := by
    intro t kt
    refine pre632 t ?_
    show oS p e below m T629 121 (oL43 p0 p1 p2 b597) [(.int 1)] _
    refine XS.istore X629.here hx rfl (hb hby at_121) rfl (l' := (oL43 p0 p1 p2 b597)) rfl ?_
    refine XS.iload X629.here hx rfl (hb hby at_123) rfl ?_
    show oS p e below m T629 125 (oL43 p0 p1 p2 b597) [(.int 1)] _
    refine XS.istore X629.here hx rfl (hb hby at_125) rfl (l' := (oL23 p0 p1 p2 b597)) rfl ?_
    refine XS.iload X629.here hx rfl (hb hby at_127) rfl ?_
    show oS p e below m T629 129 (oL23 p0 p1 p2 b597) [(.int 1)] _
    refine XS.iconst X629.here hx rfl (hb hby at_129) ?_
    refine XS.icmpNo X629.here hx rfl (hb hby at_130) rfl (flt (by decide : ¬ ((1 : Int32) < (1 : Int32)))).1 ?_
    show oS p e below m T629 133 (oL23 p0 p1 p2 b597) [] _
    refine XS.iloadN X629.here hx rfl (hb hby at_133) rfl ?_
    refine XS.iconst X629.here hx rfl (hb hby at_134) ?_
    show oS p e below m T629 135 (oL23 p0 p1 p2 b597) [(.int 1), (.int p2)] _
    refine XS.iand X629.here hx rfl (hb hby at_135) rfl ?_
    exact kt
  by_cases hc136_634 : (p2 &&& (1 : Int32)) = (0 : Int32)
  obtain ⟨cq636, kq636, q636a, q636b, q636c⟩ := isOf hZ e629 u602_0
  obtain ⟨_, _, ⟨T636, L636, k636, n636⟩, -, X636, ⟨Lc636, hQ636, l636, y636, z636⟩, st636⟩ := X629.virtualBack hx (y := oy2) (z := oy2) hown (mvT hZ (own_w hw 26 rfl)) (mvT hZ (own_w hw 27 rfl)) (notFace_of_selects (args := #[]) (mvT hZ (own_w hw 29 rfl))) (mvT hZ (own_w hw 29 rfl)) (mvT hZ (own_w hw 28 rfl)) (by decide) (backOf (W := 0) (rm_hasFree_14 l Z a0 hw [] b597 T602.heap n0 O602 u602_4 ) hZ (own_w hw 30 rfl) (own_w hw 6 rfl) (by decide) (by decide)) q636a q636c (g := (mkF m 191 (oL23 p0 p1 p2 b597) [(.ref b597)])) rfl (by rw [hml]; rfl) (Steps.refl _) (argsL := []) (rest := []) (lenOf pd___Z rfl) rfl (by show 2 * 0 + _ ≤ _; exact Nat.le_of_eq rfl) (hb hby at_191) (fun _ _ => ⟨rfl, e629, (by decide : 4 + 0 ≤ _), (by decide : 14 + 0 ≤ _)⟩)
  dsimp only [Pt.U, Pt.locs, Pt.cells, Pt.slots] at X636 l636 y636 z636 st636 hQ636
  subst l636 y636 z636
  obtain ⟨rfl, N636q, e636⟩ := hQ636
  have N636 := Fr.app N629 N636q
  have pre639 : ∀ t, oS p e below m T636 220 (oL15 p0 p1 p2 b597) [(.int ((1 : Int32) &&& (1 : Int32)))] t → oT p e below s₁ (entryFrame m #[(.int p0), (.int p1), (.int p2)] maxLocals) t := by
    intro t kt
    refine pre635 t ?_
    show oS p e below m T629 136 (oL23 p0 p1 p2 b597) [(.int (p2 &&& (1 : Int32)))] _
    refine XS.ifYes X629.here hx rfl (pc0 := 136) (pc' := 189) rfl (hb hby at_136) rfl ((if0 _ _).trans (teq hc136_634).1) (by decide) (by decide) ?_
    refine XS.aload X629.here hx rfl (hb hby at_189) rfl rfl ?_
    show oS p e below m T629 191 (oL23 p0 p1 p2 b597) [(.ref b597)] _
    refine st636.trans ?_
    show oS p e below m T636 194 (oL23 p0 p1 p2 b597) [(.int 1)] _
    refine XS.istore X636.here hx rfl (hb hby at_194) rfl (l' := (oL15 p0 p1 p2 b597)) rfl ?_
    refine XS.iload X636.here hx rfl (hb hby at_196) rfl ?_
    show oS p e below m T636 198 (oL15 p0 p1 p2 b597) [(.int 1)] _
    refine XS.iload X636.here hx rfl (hb hby at_198) rfl ?_
    refine XS.iload X636.here hx rfl (hb hby at_200) rfl ?_
    show oS p e below m T636 202 (oL15 p0 p1 p2 b597) [(.int 1), (.int 1), (.int 1)] _
    refine XS.iloadN X636.here hx rfl (hb hby at_202) rfl ?_
    refine XS.icmpNo X636.here hx rfl (hb hby at_203) rfl (tlt (by decide : (1 : Int32) < (3 : Int32))).2.1 ?_
    show oS p e below m T636 206 (oL15 p0 p1 p2 b597) [(.int 1), (.int 1)] _
    refine XS.iconst X636.here hx rfl (hb hby at_206) ?_
    refine XS.goto X636.here hx rfl (pc0 := 207) (pc' := 211) rfl (hb hby at_207) (by decide) (by decide) ?_
    show oS p e below m T636 211 (oL15 p0 p1 p2 b597) [(.int 1), (.int 1), (.int 1)] _
    refine XS.icmpNo X636.here hx rfl (hb hby at_211) rfl (teq (by decide : (1 : Int32) = (1 : Int32))).2 ?_
    refine XS.iconst X636.here hx rfl (hb hby at_214) ?_
    show oS p e below m T636 215 (oL15 p0 p1 p2 b597) [(.int 1), (.int 1)] _
    refine XS.goto X636.here hx rfl (pc0 := 215) (pc' := 219) rfl (hb hby at_215) (by decide) (by decide) ?_
    refine XS.iand X636.here hx rfl (hb hby at_219) rfl ?_
    exact kt
  rw [show ((1 : Int32) &&& (1 : Int32)) = (1 : Int32) from by decide] at pre639
  have pre640 : ∀ t, oS p e below m T636 224 (oL15 p0 p1 p2 b597) [(.int 1)] t → oT p e below s₁ (entryFrame m #[(.int p0), (.int p1), (.int p2)] maxLocals) t := by
    intro t kt
    refine pre639 t ?_
    show oS p e below m T636 220 (oL15 p0 p1 p2 b597) [(.int 1)] _
    refine XS.istore X636.here hx rfl (hb hby at_220) rfl (l' := (oL15 p0 p1 p2 b597)) rfl ?_
    refine XS.iload X636.here hx rfl (hb hby at_222) rfl ?_
    exact kt
  obtain ⟨fs, hr, hrun, hended, hW, hsame⟩ := X636.leave (v := some (.int 1)) (fun h => by rw [Bd.returns] at h; cases h)
  refine ⟨_, _, pre640 _ ?_, hrun, hended, _, _, rfl, ?_, ⟨_, rfl⟩, hW, hsame.mono (by decide) (by decide)⟩
  · show oS p e below m T636 224 (oL15 p0 p1 p2 b597) [(.int 1)] _
    exact retN X636 hx (t := .boolean) Bd.returns (by simp) (hb hby at_224) hr
  · show Q_rm0 Z p0 p1 p2 w_cache w_I1 cl_cache w_I4 w_I2 w_I3 h0 n0 _ T636.heap _
    rw [e636]
    exact ⟨rfl, N636⟩
  obtain ⟨cq641, kq641, q641a, q641b, q641c⟩ := isOf hZ e629 u602_0
  obtain ⟨_, _, ⟨T641, L641, k641, n641⟩, -, X641, ⟨Lc641, hQ641, l641, y641, z641⟩, st641⟩ := X629.virtualBack hx (y := oy5) (z := oy5) hown (mvT hZ (own_w hw 47 rfl)) (mvT hZ (own_w hw 48 rfl)) (notFace_of_selects (args := #[]) (mvT hZ (own_w hw 50 rfl))) (mvT hZ (own_w hw 50 rfl)) (mvT hZ (own_w hw 49 rfl)) (by decide) (backOf (W := 0) (rm_release_33 l Z a0 hw [] b597 b598_b549 b598_b551 b598_b553 kx598_k549 kx598_k551 kx598_k553 w_I1 T602.heap n0 O602 u602_0 u602_1 u602_2 u602_3 u602_4 u602_5 ge_b597 u598_7 u602_6 u598_8 u602_7 u598_11 u598_13 u598_14 ne_b597_b598_b549 ne_b597_b598_b551 ne_b597_b598_b553 u598_16 u598_17 u598_18 ) hZ (own_w hw 51 rfl) (own_w hw 6 rfl) (by decide) (by decide)) q641a q641c (g := (mkF m 143 (oL23 p0 p1 p2 b597) [(.long 1048576), (.ref b597)])) rfl (by rw [hml]; rfl) (Steps.refl _) (argsL := [(.long 1048576)]) (rest := []) (lenOf pd__J_Ljava_lang_Object_ rfl) rfl (by show 2 * 0 + _ ≤ _; exact Nat.le_of_eq rfl) (hb hby at_143) (fun _ _ => ⟨rfl, e629, (by decide : 4 + 0 ≤ _), (by decide : 14 + 0 ≤ _)⟩)
  dsimp only [Pt.U, Pt.locs, Pt.cells, Pt.slots] at X641 l641 y641 z641 st641 hQ641
  subst l641 y641 z641
  obtain ⟨rfl, N641q, Kc641, u641_0, u641_1, u641_2, u641_3, u641_4, u641_5, u641_6, u641_7, u641_8⟩ := hQ641
  have N641 := Fr.app N629 N641q
  have O641 := O602.keep Kc641 (allS u598_14 (allS ge_b597 (allS u598_11 (allS u598_8 all0))))
  have pre674 : ∀ t, oS p e below m T641 151 (oL23 p0 p1 p2 b597) [(.int ((1 : Int32) - (1 : Int32)))] t → oT p e below s₁ (entryFrame m #[(.int p0), (.int p1), (.int p2)] maxLocals) t := by
    intro t kt
    refine pre635 t ?_
    show oS p e below m T629 136 (oL23 p0 p1 p2 b597) [(.int (p2 &&& (1 : Int32)))] _
    refine XS.ifNo X629.here hx rfl (hb hby at_136) rfl ((if0 _ _).trans (feq hc136_634).1) ?_
    refine XS.aload X629.here hx rfl (hb hby at_139) rfl rfl ?_
    show oS p e below m T629 141 (oL23 p0 p1 p2 b597) [(.ref b597)] _
    refine XS.lload X629.here hx rfl (hb hby at_141) rfl ?_
    show oS p e below m T629 143 (oL23 p0 p1 p2 b597) [(.long 1048576), (.ref b597)] _
    refine st641.trans ?_
    show oS p e below m T641 146 (oL23 p0 p1 p2 b597) [(.ref w_I1)] _
    refine XS.pop X641.here hx rfl (hb hby at_146) rfl rfl ?_
    refine XS.iload X641.here hx rfl (hb hby at_147) rfl ?_
    show oS p e below m T641 149 (oL23 p0 p1 p2 b597) [(.int 1)] _
    refine XS.iconst X641.here hx rfl (hb hby at_149) ?_
    refine XS.isub X641.here hx rfl (hb hby at_150) rfl ?_
    exact kt
  rw [show ((1 : Int32) - (1 : Int32)) = (0 : Int32) from by decide] at pre674
  have pre675 : ∀ t, oS p e below m T641 156 (oL9 p0 p1 p2 b597) [(.int (p2 &&& (2 : Int32)))] t → oT p e below s₁ (entryFrame m #[(.int p0), (.int p1), (.int p2)] maxLocals) t := by
    intro t kt
    refine pre674 t ?_
    show oS p e below m T641 151 (oL23 p0 p1 p2 b597) [(.int 0)] _
    refine XS.istore X641.here hx rfl (hb hby at_151) rfl (l' := (oL9 p0 p1 p2 b597)) rfl ?_
    refine XS.iloadN X641.here hx rfl (hb hby at_153) rfl ?_
    show oS p e below m T641 154 (oL9 p0 p1 p2 b597) [(.int p2)] _
    refine XS.iconst X641.here hx rfl (hb hby at_154) ?_
    refine XS.iand X641.here hx rfl (hb hby at_155) rfl ?_
    exact kt
  have tail167_676 : ∀ (T : State) (locs : List Loc) (h : Heap) (X : Stand p l e room_1 s m #[(.int p0), (.int p1), (.int p2)] below meth c T locs 4 14) (eT : T.heap = h) (Nn : Fr n0 locs) (On : Old Z n0 h) (v676_0 : Arv Z h b598_b553 kx598_k553 .int (3 : Int32) [(.int 2), (.int 1), (.int 0)] (.int 0)) (e676_1 : Exa Z h b597 oc8) (f676_2 : Fld Z h b597 oc8 "requests" "[Ljava/lang/Object;" (.ref b598_b549)) (f676_3 : Fld Z h b597 oc8 "sequences" "[J" (.ref b598_b551)) (f676_4 : Fld Z h b597 oc8 "free" "[I" (.ref b598_b553)) (f676_5 : Fld Z h b597 oc8 "freeCount" "I" (.int 3)) (f676_6 : Fld Z h b597 oc8 "lastSequence" "J" (.long 1)) (v676_7 : Arv Z h b598_b551 kx598_k551 .long (3 : Int32) [(.long 0), (.long 0), (.long 0)] (.long 0)) (v676_8 : Arv Z h b598_b549 kx598_k549 (.object oc9) (3 : Int32) [.null, .null, .null] .null), ∃ s₂ o, Steps p.tables e below (T.setTop (mkF m 167 (oL9 p0 p1 p2 b597) [])) s₂ ∧ s₂.status = .running ∧ Ended s₂ below o ∧ ∃ v L, o = .returned v ∧ Q_rm0 Z p0 p1 p2 w_cache w_I1 cl_cache w_I4 w_I2 w_I3 h0 n0 v s₂.heap L ∧ FrameEnd s o s₂ L room_1.cells room_1.slots := by
    intro T locs h X eT Nn On v676_0 e676_1 f676_2 f676_3 f676_4 f676_5 f676_6 v676_7 v676_8
    have pre677 : ∀ t, oS p e below m T 167 (oL9 p0 p1 p2 b597) [] t → oT p e below T (mkF m 167 (oL9 p0 p1 p2 b597) []) t := fun t k => k
    have pre679 : ∀ t, oS p e below m T 170 (oL9 p0 p1 p2 b597) [(.int (p2 &&& (4 : Int32)))] t → oT p e below T (mkF m 167 (oL9 p0 p1 p2 b597) []) t := by
      intro t kt
      refine pre677 t ?_
      show oS p e below m T 167 (oL9 p0 p1 p2 b597) [] _
      refine XS.iloadN X.here hx rfl (hb hby at_167) rfl ?_
      refine XS.iconst X.here hx rfl (hb hby at_168) ?_
      show oS p e below m T 169 (oL9 p0 p1 p2 b597) [(.int 4), (.int p2)] _
      refine XS.iand X.here hx rfl (hb hby at_169) rfl ?_
      exact kt
    by_cases hc170_678 : (p2 &&& (4 : Int32)) = (0 : Int32)
    obtain ⟨cq680, kq680, q680a, q680b, q680c⟩ := isOf hZ eT e676_1
    obtain ⟨_, _, ⟨T680, L680, k680, n680⟩, -, X680, ⟨Lc680, hQ680, l680, y680, z680⟩, st680⟩ := X.virtualBack hx (y := oy2) (z := oy2) hown (mvT hZ (own_w hw 26 rfl)) (mvT hZ (own_w hw 27 rfl)) (notFace_of_selects (args := #[]) (mvT hZ (own_w hw 29 rfl))) (mvT hZ (own_w hw 29 rfl)) (mvT hZ (own_w hw 28 rfl)) (by decide) (backOf (W := 0) (rm_hasFree_31 l Z a0 hw [] b597 h n0 On f676_5 ) hZ (own_w hw 30 rfl) (own_w hw 6 rfl) (by decide) (by decide)) q680a q680c (g := (mkF m 191 (oL9 p0 p1 p2 b597) [(.ref b597)])) rfl (by rw [hml]; rfl) (Steps.refl _) (argsL := []) (rest := []) (lenOf pd___Z rfl) rfl (by show 2 * 0 + _ ≤ _; exact Nat.le_of_eq rfl) (hb hby at_191) (fun _ _ => ⟨rfl, eT, (by decide : 4 + 0 ≤ _), (by decide : 14 + 0 ≤ _)⟩)
    dsimp only [Pt.U, Pt.locs, Pt.cells, Pt.slots] at X680 l680 y680 z680 st680 hQ680
    subst l680 y680 z680
    obtain ⟨rfl, N680q, e680⟩ := hQ680
    have N680 := Fr.app Nn N680q
    have pre683 : ∀ t, oS p e below m T680 220 (oL35 p0 p1 p2 b597) [(.int ((1 : Int32) &&& (1 : Int32)))] t → oT p e below T (mkF m 167 (oL9 p0 p1 p2 b597) []) t := by
      intro t kt
      refine pre679 t ?_
      show oS p e below m T 170 (oL9 p0 p1 p2 b597) [(.int (p2 &&& (4 : Int32)))] _
      refine XS.ifYes X.here hx rfl (pc0 := 170) (pc' := 189) rfl (hb hby at_170) rfl ((if0 _ _).trans (teq hc170_678).1) (by decide) (by decide) ?_
      refine XS.aload X.here hx rfl (hb hby at_189) rfl rfl ?_
      show oS p e below m T 191 (oL9 p0 p1 p2 b597) [(.ref b597)] _
      refine st680.trans ?_
      show oS p e below m T680 194 (oL9 p0 p1 p2 b597) [(.int 1)] _
      refine XS.istore X680.here hx rfl (hb hby at_194) rfl (l' := (oL35 p0 p1 p2 b597)) rfl ?_
      refine XS.iload X680.here hx rfl (hb hby at_196) rfl ?_
      show oS p e below m T680 198 (oL35 p0 p1 p2 b597) [(.int 1)] _
      refine XS.iload X680.here hx rfl (hb hby at_198) rfl ?_
      refine XS.iload X680.here hx rfl (hb hby at_200) rfl ?_
      show oS p e below m T680 202 (oL35 p0 p1 p2 b597) [(.int 0), (.int 1), (.int 1)] _
      refine XS.iloadN X680.here hx rfl (hb hby at_202) rfl ?_
      refine XS.icmpNo X680.here hx rfl (hb hby at_203) rfl (tlt (by decide : (0 : Int32) < (3 : Int32))).2.1 ?_
      show oS p e below m T680 206 (oL35 p0 p1 p2 b597) [(.int 1), (.int 1)] _
      refine XS.iconst X680.here hx rfl (hb hby at_206) ?_
      refine XS.goto X680.here hx rfl (pc0 := 207) (pc' := 211) rfl (hb hby at_207) (by decide) (by decide) ?_
      show oS p e below m T680 211 (oL35 p0 p1 p2 b597) [(.int 1), (.int 1), (.int 1)] _
      refine XS.icmpNo X680.here hx rfl (hb hby at_211) rfl (teq (by decide : (1 : Int32) = (1 : Int32))).2 ?_
      refine XS.iconst X680.here hx rfl (hb hby at_214) ?_
      show oS p e below m T680 215 (oL35 p0 p1 p2 b597) [(.int 1), (.int 1)] _
      refine XS.goto X680.here hx rfl (pc0 := 215) (pc' := 219) rfl (hb hby at_215) (by decide) (by decide) ?_
      refine XS.iand X680.here hx rfl (hb hby at_219) rfl ?_
      exact kt
    rw [show ((1 : Int32) &&& (1 : Int32)) = (1 : Int32) from by decide] at pre683
    have pre684 : ∀ t, oS p e below m T680 224 (oL35 p0 p1 p2 b597) [(.int 1)] t → oT p e below T (mkF m 167 (oL9 p0 p1 p2 b597) []) t := by
      intro t kt
      refine pre683 t ?_
      show oS p e below m T680 220 (oL35 p0 p1 p2 b597) [(.int 1)] _
      refine XS.istore X680.here hx rfl (hb hby at_220) rfl (l' := (oL35 p0 p1 p2 b597)) rfl ?_
      refine XS.iload X680.here hx rfl (hb hby at_222) rfl ?_
      exact kt
    obtain ⟨fs, hr, hrun, hended, hW, hsame⟩ := X680.leave (v := some (.int 1)) (fun h => by rw [Bd.returns] at h; cases h)
    refine ⟨_, _, pre684 _ ?_, hrun, hended, _, _, rfl, ?_, ⟨_, rfl⟩, hW, hsame.mono (by decide) (by decide)⟩
    · show oS p e below m T680 224 (oL35 p0 p1 p2 b597) [(.int 1)] _
      exact retN X680 hx (t := .boolean) Bd.returns (by simp) (hb hby at_224) hr
    · show Q_rm0 Z p0 p1 p2 w_cache w_I1 cl_cache w_I4 w_I2 w_I3 h0 n0 _ T680.heap _
      rw [e680]
      exact ⟨rfl, N680⟩
    obtain ⟨_, _, ⟨T685, L685, k685, n685⟩, -, X685, ⟨Lc685, hQ685, l685, y685, z685⟩, st685⟩ := Jvm.LawKit.callS X hx (y := oy3) hown (mvT hZ (own_w hw 31 rfl)) (mvT hZ (own_w hw 32 rfl)) (mvT hZ (own_w hw 33 rfl)) (mvT hZ (own_w hw 34 rfl)) (by decide) (backOf (W := 1) (rm_valueOf_9 l Z a0 hw [] w_cache cl_cache w_I4 h n0 On  S_high S_cache AE_4 A_cache) hZ (own_w hw 34 rfl) (own_w hw 33 rfl) (by decide) (by decide)) (g := (mkF m 176 (oL9 p0 p1 p2 b597) [(.int 4), (.ref b597)])) rfl (by rw [hml]; rfl) (argsL := [(.int 4)]) (rest := [(.ref b597)]) (lenOf pd__I_Ljava_lang_Integer_ rfl) rfl (by show 2 * 0 + _ ≤ _; exact Nat.le_of_eq rfl) (hb hby at_176) (fun _ _ => ⟨rfl, eT, (by decide : 4 + 0 ≤ _), (by decide : 14 + 0 ≤ _)⟩)
    dsimp only [Pt.U, Pt.locs, Pt.cells, Pt.slots] at X685 l685 y685 z685 st685 hQ685
    subst l685 y685 z685
    obtain ⟨rfl, N685q, e685⟩ := hQ685
    have N685 := Fr.app Nn N685q
    obtain ⟨cq686, kq686, q686a, q686b, q686c⟩ := isOf hZ e685 e676_1
    obtain ⟨_, _, ⟨T686, L686, k686, n686⟩, -, X686, ⟨Lc686, hQ686, l686, y686, z686⟩, st686⟩ := X685.virtualBack hx (y := oy4) (z := oy4) hown (mvT hZ (own_w hw 38 rfl)) (mvT hZ (own_w hw 39 rfl)) (notFace_of_selects (args := #[]) (mvT hZ (own_w hw 41 rfl))) (mvT hZ (own_w hw 41 rfl)) (mvT hZ (own_w hw 40 rfl)) (by decide) (backOf (W := 0) (rm_take_36 l Z a0 hw [] b597 b598_b549 b598_b551 b598_b553 kx598_k549 kx598_k551 kx598_k553 w_I4 h n0 On e676_1 f676_2 f676_3 f676_4 f676_5 f676_6 ge_b597 u598_7 v676_8 u598_8 v676_7 u598_11 v676_0 u598_14 ne_b597_b598_b549 ne_b597_b598_b551 ne_b597_b598_b553 u598_16 u598_17 u598_18 E_I4) hZ (own_w hw 42 rfl) (own_w hw 6 rfl) (by decide) (by decide)) q686a q686c (g := (mkF m 179 (oL9 p0 p1 p2 b597) [(.ref w_I4), (.ref b597)])) rfl (by rw [hml]; rfl) (Steps.refl _) (argsL := [(.ref w_I4)]) (rest := []) (lenOf pd__Ljava_lang_Object__J rfl) rfl (by show 2 * 0 + _ ≤ _; exact Nat.le_of_eq rfl) (hb hby at_179) (fun _ _ => ⟨rfl, e685, (by decide : 4 + 0 ≤ _), (by decide : 14 + 0 ≤ _)⟩)
    dsimp only [Pt.U, Pt.locs, Pt.cells, Pt.slots] at X686 l686 y686 z686 st686 hQ686
    subst l686 y686 z686
    obtain ⟨rfl, N686q, Kc686, u686_0, u686_1, u686_2, u686_3, u686_4, u686_5, u686_6, u686_7⟩ := hQ686
    have N686 := Fr.app N685 N686q
    have v676_0 := v676_0.keep Kc686 (ninS (Ne.symm ne_b597_b598_b553) (ninS (Ne.symm u598_17) (ninS (Ne.symm u598_18) nin0)))
    have O686 := On.keep Kc686 (allS ge_b597 (allS u598_8 (allS u598_11 all0)))
    have pre711 : ∀ t, oS p e below m T686 187 (oL9 p0 p1 p2 b597) [(.int ((0 : Int32) + (1 : Int32)))] t → oT p e below T (mkF m 167 (oL9 p0 p1 p2 b597) []) t := by
      intro t kt
      refine pre679 t ?_
      show oS p e below m T 170 (oL9 p0 p1 p2 b597) [(.int (p2 &&& (4 : Int32)))] _
      refine XS.ifNo X.here hx rfl (hb hby at_170) rfl ((if0 _ _).trans (feq hc170_678).1) ?_
      refine XS.aload X.here hx rfl (hb hby at_173) rfl rfl ?_
      show oS p e below m T 175 (oL9 p0 p1 p2 b597) [(.ref b597)] _
      refine XS.iconst X.here hx rfl (hb hby at_175) ?_
      show oS p e below m T 176 (oL9 p0 p1 p2 b597) [(.int 4), (.ref b597)] _
      refine st685 _ ?_
      show oS p e below m T685 179 (oL9 p0 p1 p2 b597) [(.ref w_I4), (.ref b597)] _
      refine st686.trans ?_
      show oS p e below m T686 182 (oL9 p0 p1 p2 b597) [(.long 2097152)] _
      jvm_step X686.here [X686.here.top, hx, (hb hby at_182), Value.category]
      show oS p e below m T686 183 (oL9 p0 p1 p2 b597) [] _
      refine XS.iload X686.here hx rfl (hb hby at_183) rfl ?_
      refine XS.iconst X686.here hx rfl (hb hby at_185) ?_
      show oS p e below m T686 186 (oL9 p0 p1 p2 b597) [(.int 1), (.int 0)] _
      refine XS.iadd X686.here hx rfl (hb hby at_186) rfl ?_
      exact kt
    rw [show ((0 : Int32) + (1 : Int32)) = (1 : Int32) from by decide] at pre711
    obtain ⟨cq712, kq712, q712a, q712b, q712c⟩ := isOf hZ rfl u686_0
    obtain ⟨_, _, ⟨T712, L712, k712, n712⟩, -, X712, ⟨Lc712, hQ712, l712, y712, z712⟩, st712⟩ := X686.virtualBack hx (y := oy2) (z := oy2) hown (mvT hZ (own_w hw 26 rfl)) (mvT hZ (own_w hw 27 rfl)) (notFace_of_selects (args := #[]) (mvT hZ (own_w hw 29 rfl))) (mvT hZ (own_w hw 29 rfl)) (mvT hZ (own_w hw 28 rfl)) (by decide) (backOf (W := 0) (rm_hasFree_14 l Z a0 hw [] b597 T686.heap n0 O686 u686_4 ) hZ (own_w hw 30 rfl) (own_w hw 6 rfl) (by decide) (by decide)) q712a q712c (g := (mkF m 191 (oL23 p0 p1 p2 b597) [(.ref b597)])) rfl (by rw [hml]; rfl) (Steps.refl _) (argsL := []) (rest := []) (lenOf pd___Z rfl) rfl (by show 2 * 0 + _ ≤ _; exact Nat.le_of_eq rfl) (hb hby at_191) (fun _ _ => ⟨rfl, rfl, (by decide : 4 + 0 ≤ _), (by decide : 14 + 0 ≤ _)⟩)
    dsimp only [Pt.U, Pt.locs, Pt.cells, Pt.slots] at X712 l712 y712 z712 st712 hQ712
    subst l712 y712 z712
    obtain ⟨rfl, N712q, e712⟩ := hQ712
    have N712 := Fr.app N686 N712q
    have pre715 : ∀ t, oS p e below m T712 220 (oL15 p0 p1 p2 b597) [(.int ((1 : Int32) &&& (1 : Int32)))] t → oT p e below T (mkF m 167 (oL9 p0 p1 p2 b597) []) t := by
      intro t kt
      refine pre711 t ?_
      show oS p e below m T686 187 (oL9 p0 p1 p2 b597) [(.int 1)] _
      refine XS.istore X686.here hx rfl (hb hby at_187) rfl (l' := (oL23 p0 p1 p2 b597)) rfl ?_
      refine XS.aload X686.here hx rfl (hb hby at_189) rfl rfl ?_
      show oS p e below m T686 191 (oL23 p0 p1 p2 b597) [(.ref b597)] _
      refine st712.trans ?_
      show oS p e below m T712 194 (oL23 p0 p1 p2 b597) [(.int 1)] _
      refine XS.istore X712.here hx rfl (hb hby at_194) rfl (l' := (oL15 p0 p1 p2 b597)) rfl ?_
      refine XS.iload X712.here hx rfl (hb hby at_196) rfl ?_
      show oS p e below m T712 198 (oL15 p0 p1 p2 b597) [(.int 1)] _
      refine XS.iload X712.here hx rfl (hb hby at_198) rfl ?_
      refine XS.iload X712.here hx rfl (hb hby at_200) rfl ?_
      show oS p e below m T712 202 (oL15 p0 p1 p2 b597) [(.int 1), (.int 1), (.int 1)] _
      refine XS.iloadN X712.here hx rfl (hb hby at_202) rfl ?_
      refine XS.icmpNo X712.here hx rfl (hb hby at_203) rfl (tlt (by decide : (1 : Int32) < (3 : Int32))).2.1 ?_
      show oS p e below m T712 206 (oL15 p0 p1 p2 b597) [(.int 1), (.int 1)] _
      refine XS.iconst X712.here hx rfl (hb hby at_206) ?_
      refine XS.goto X712.here hx rfl (pc0 := 207) (pc' := 211) rfl (hb hby at_207) (by decide) (by decide) ?_
      show oS p e below m T712 211 (oL15 p0 p1 p2 b597) [(.int 1), (.int 1), (.int 1)] _
      refine XS.icmpNo X712.here hx rfl (hb hby at_211) rfl (teq (by decide : (1 : Int32) = (1 : Int32))).2 ?_
      refine XS.iconst X712.here hx rfl (hb hby at_214) ?_
      show oS p e below m T712 215 (oL15 p0 p1 p2 b597) [(.int 1), (.int 1)] _
      refine XS.goto X712.here hx rfl (pc0 := 215) (pc' := 219) rfl (hb hby at_215) (by decide) (by decide) ?_
      refine XS.iand X712.here hx rfl (hb hby at_219) rfl ?_
      exact kt
    rw [show ((1 : Int32) &&& (1 : Int32)) = (1 : Int32) from by decide] at pre715
    have pre716 : ∀ t, oS p e below m T712 224 (oL15 p0 p1 p2 b597) [(.int 1)] t → oT p e below T (mkF m 167 (oL9 p0 p1 p2 b597) []) t := by
      intro t kt
      refine pre715 t ?_
      show oS p e below m T712 220 (oL15 p0 p1 p2 b597) [(.int 1)] _
      refine XS.istore X712.here hx rfl (hb hby at_220) rfl (l' := (oL15 p0 p1 p2 b597)) rfl ?_
      refine XS.iload X712.here hx rfl (hb hby at_222) rfl ?_
      exact kt
    obtain ⟨fs, hr, hrun, hended, hW, hsame⟩ := X712.leave (v := some (.int 1)) (fun h => by rw [Bd.returns] at h; cases h)
    refine ⟨_, _, pre716 _ ?_, hrun, hended, _, _, rfl, ?_, ⟨_, rfl⟩, hW, hsame.mono (by decide) (by decide)⟩
    · show oS p e below m T712 224 (oL15 p0 p1 p2 b597) [(.int 1)] _
      exact retN X712 hx (t := .boolean) Bd.returns (by simp) (hb hby at_224) hr
    · show Q_rm0 Z p0 p1 p2 w_cache w_I1 cl_cache w_I4 w_I2 w_I3 h0 n0 _ T712.heap _
      rw [e712]
      exact ⟨rfl, N712⟩
  by_cases hc156_717 : (p2 &&& (2 : Int32)) = (0 : Int32)
  have pre718 : ∀ t, oS p e below m T641 167 (oL9 p0 p1 p2 b597) [] t → oT p e below s₁ (entryFrame m #[(.int p0), (.int p1), (.int p2)] maxLocals) t := by
    intro t kt
    refine pre675 t ?_
    show oS p e below m T641 156 (oL9 p0 p1 p2 b597) [(.int (p2 &&& (2 : Int32)))] _
    refine XS.ifYes X641.here hx rfl (pc0 := 156) (pc' := 167) rfl (hb hby at_156) rfl ((if0 _ _).trans (teq hc156_717).1) (by decide) (by decide) ?_
    exact kt
  obtain ⟨s2, o2, hs2, r2⟩ := tail167_676 _ _ _ X641 rfl N641 O641 u641_0 u641_1 u641_2 u641_3 u641_4 u641_5 u641_6 u641_7 u641_8
  exact ⟨s2, o2, pre718 _ hs2, r2⟩
  obtain ⟨cq720, kq720, q720a, q720b, q720c⟩ := isOf hZ rfl u641_1
  obtain ⟨_, _, ⟨T720, L720, k720, n720⟩, -, X720, ⟨Lc720, hQ720, l720, y720, z720⟩, st720⟩ := X641.virtualBack hx (y := oy5) (z := oy5) hown (mvT hZ (own_w hw 47 rfl)) (mvT hZ (own_w hw 48 rfl)) (notFace_of_selects (args := #[]) (mvT hZ (own_w hw 50 rfl))) (mvT hZ (own_w hw 50 rfl)) (mvT hZ (own_w hw 49 rfl)) (by decide) (backOf (W := 0) (rm_release_37 l Z a0 hw [] b597 b598_b549 b598_b551 b598_b553 kx598_k549 kx598_k551 T641.heap n0 O641 u641_1 u641_2 u641_3 u641_8 u641_7 ne_b597_b598_b549 ne_b597_b598_b551 ne_b597_b598_b553 u598_16 u598_17 u598_18 ) hZ (own_w hw 51 rfl) (own_w hw 6 rfl) (by decide) (by decide)) q720a q720c (g := (mkF m 163 (oL9 p0 p1 p2 b597) [(.long 1048576), (.ref b597)])) rfl (by rw [hml]; rfl) (Steps.refl _) (argsL := [(.long 1048576)]) (rest := []) (lenOf pd__J_Ljava_lang_Object_ rfl) rfl (by show 2 * 0 + _ ≤ _; exact Nat.le_of_eq rfl) (hb hby at_163) (fun _ _ => ⟨rfl, rfl, (by decide : 4 + 0 ≤ _), (by decide : 14 + 0 ≤ _)⟩)
  dsimp only [Pt.U, Pt.locs, Pt.cells, Pt.slots] at X720 l720 y720 z720 st720 hQ720
  subst l720 y720 z720
  obtain ⟨rfl, N720q, e720⟩ := hQ720
  have N720 := Fr.app N641 N720q
  have pre735 : ∀ t, oS p e below m T720 167 (oL9 p0 p1 p2 b597) [] t → oT p e below s₁ (entryFrame m #[(.int p0), (.int p1), (.int p2)] maxLocals) t := by
    intro t kt
    refine pre675 t ?_
    show oS p e below m T641 156 (oL9 p0 p1 p2 b597) [(.int (p2 &&& (2 : Int32)))] _
    refine XS.ifNo X641.here hx rfl (hb hby at_156) rfl ((if0 _ _).trans (feq hc156_717).1) ?_
    refine XS.aload X641.here hx rfl (hb hby at_159) rfl rfl ?_
    show oS p e below m T641 161 (oL9 p0 p1 p2 b597) [(.ref b597)] _
    refine XS.lload X641.here hx rfl (hb hby at_161) rfl ?_
    show oS p e below m T641 163 (oL9 p0 p1 p2 b597) [(.long 1048576), (.ref b597)] _
    refine st720.trans ?_
    show oS p e below m T720 166 (oL9 p0 p1 p2 b597) [.null] _
    refine XS.pop X720.here hx rfl (hb hby at_166) rfl rfl ?_
    exact kt
  obtain ⟨s2, o2, hs2, r2⟩ := tail167_676 _ _ _ X720 e720 N720 O641 u641_0 u641_1 u641_2 u641_3 u641_4 u641_5 u641_6 u641_7 u641_8
  exact ⟨s2, o2, pre735 _ hs2, r2⟩
  by_cases hb2 : (p1 &&& (3 : Int32)) = (2 : Int32)
  rw [hb2] at pre542
  obtain ⟨_, _, ⟨T737, L737, k737, n737⟩, -, X737, ⟨Lc737, hQ737, l737, y737, z737⟩, st737⟩ := Jvm.LawKit.callS X0 hx (y := oy0) hown (mvT hZ (own_w hw 0 rfl)) (mvT hZ (own_w hw 1 rfl)) (mvT hZ (own_w hw 2 rfl)) (mvT hZ (own_w hw 3 rfl)) (by decide) (backOf (W := 0) (rm_min l Z a0 hw [] (2 : Int32) (3 : Int32) (2 : Int32) h0 n0 (own_z O0) (by decide)) hZ (own_w hw 3 rfl) (own_w hw 2 rfl) (by decide) (by decide)) (g := (mkF m 12 (oL33 p0 p1 p2) [(.int 3), (.int 2)])) rfl (by rw [hml]; rfl) (argsL := [(.int 2), (.int 3)]) (rest := []) (lenOf pd__II_I rfl) rfl (by show 2 * 0 + _ ≤ _; exact Nat.le_of_eq rfl) (hb hby at_12) (fun _ _ => ⟨rfl, e0, (by decide : 0 + 0 ≤ _), (by decide : 0 + 0 ≤ _)⟩)
  dsimp only [Pt.U, Pt.locs, Pt.cells, Pt.slots] at X737 l737 y737 z737 st737 hQ737
  subst l737 y737 z737
  obtain ⟨rfl, N737q, e737⟩ := hQ737
  have N737 := Fr.app N0 N737q
  obtain ⟨T738, h738, X738, e738, E738, A738, D738, -, st738⟩ := newO X737 hx hZ hown (own_w hw 4 rfl) (own_w hw 5 rfl) (own_w hw 6 rfl) e737 (g := (mkF m 17 (oL73 p0 p1 p2) [])) rfl (hb hby at_17) (by decide) (by decide)
  obtain ⟨b738, g738⟩ : ∃ z, z = h0.size := ⟨_, rfl⟩
  have ge_b738 : n0 ≤ b738 := Nat.le_trans (own_z O0) (Nat.le_of_eq g738.symm)
  rw [← g738] at A738 D738 st738
  have O738 := O0.ext E738
  have E_b738 := A738
  have F_requests_b738 : Fld Z h738 b738 oc8 "requests" "[Ljava/lang/Object;" .null := D738 (Or.inr (own_w hw 17 rfl)) (ty := (.array (.object oc9))) (by decide)
  have F_sequences_b738 : Fld Z h738 b738 oc8 "sequences" "[J" .null := D738 (Or.inr (own_w hw 20 rfl)) (ty := (.array .long)) (by decide)
  have F_free_b738 : Fld Z h738 b738 oc8 "free" "[I" .null := D738 (Or.inr (own_w hw 23 rfl)) (ty := (.array .int)) (by decide)
  have F_freeCount_b738 : Fld Z h738 b738 oc8 "freeCount" "I" (.int 0) := D738 (Or.inl (own_w hw 25 rfl)) (ty := .int) (by decide)
  have F_lastSequence_b738 : Fld Z h738 b738 oc8 "lastSequence" "J" (.long 0) := D738 (Or.inl (own_w hw 44 rfl)) (ty := .long) (by decide)
  obtain ⟨_, _, ⟨T739, L739, k739, n739⟩, -, X739, ⟨Lc739, hQ739, l739, y739, z739⟩, st739⟩ := X738.specialBack hx (y := oy1) rfl hown (mvT hZ (own_w hw 7 rfl)) (mvT hZ (own_w hw 8 rfl)) (mvT hZ (own_w hw 9 rfl)) (by decide) (backOf (W := 1) (rm_init_30 l Z a0 hw [] b738 h738 n0 O738 E_b738 F_requests_b738 F_sequences_b738 F_free_b738 F_freeCount_b738 F_lastSequence_b738 ge_b738 ) hZ (own_w hw 9 rfl) (own_w hw 6 rfl) (by decide) (by decide)) (g := (mkF m 22 (oL73 p0 p1 p2) [(.int 3), (.ref b738), (.ref b738)])) rfl (by rw [hml]; rfl) (Steps.refl _) (a := b738) (argsL := [(.int 3)]) (rest := [(.ref b738)]) (lenOf pd__I_V rfl) rfl (by show 2 * 0 + _ ≤ _; exact Nat.le_of_eq rfl) (hb hby at_22) (fun _ _ => ⟨rfl, e738, (by decide : 1 + 3 ≤ _), (by decide : 5 + 9 ≤ _)⟩)
  dsimp only [Pt.U, Pt.locs, Pt.cells, Pt.slots] at X739 l739 y739 z739 st739 hQ739
  subst l739 y739 z739
  obtain ⟨b739_b549, b739_b551, b739_b553, kx739_k549, kx739_k551, kx739_k553, rfl, N739q, Kc739, u739_0, u739_1, u739_2, u739_3, u739_4, u739_5, u739_6, u739_7, u739_8, u739_9, u739_10, u739_11, u739_12, u739_13, u739_14, u739_15, u739_16, u739_17, u739_18⟩ := hQ739
  have N739 := Fr.app N737 N739q
  have ne_b738_b739_b549 : b738 ≠ b739_b549 := Nat.ne_of_lt (Nat.lt_of_lt_of_le E_b738.lt u739_9)
  have ne_b738_b739_b551 : b738 ≠ b739_b551 := Nat.ne_of_lt (Nat.lt_of_lt_of_le E_b738.lt u739_12)
  have ne_b738_b739_b553 : b738 ≠ b739_b553 := Nat.ne_of_lt (Nat.lt_of_lt_of_le E_b738.lt u739_15)
  have O739 := O738.keep Kc739 (allS ge_b738 all0)
  obtain ⟨cq740, kq740, q740a, q740b, q740c⟩ := isOf hZ rfl u739_0
  obtain ⟨_, _, ⟨T740, L740, k740, n740⟩, -, X740, ⟨Lc740, hQ740, l740, y740, z740⟩, st740⟩ := X739.virtualBack hx (y := oy2) (z := oy2) hown (mvT hZ (own_w hw 26 rfl)) (mvT hZ (own_w hw 27 rfl)) (notFace_of_selects (args := #[]) (mvT hZ (own_w hw 29 rfl))) (mvT hZ (own_w hw 29 rfl)) (mvT hZ (own_w hw 28 rfl)) (by decide) (backOf (W := 0) (rm_hasFree_31 l Z a0 hw [] b738 T739.heap n0 O739 u739_4 ) hZ (own_w hw 30 rfl) (own_w hw 6 rfl) (by decide) (by decide)) q740a q740c (g := (mkF m 29 #[iv p0, iv p1, iv p2, iv 3, iv 2, rv b738, .unset, .unset, .unset, .unset, .unset, .unset, .unset] [(.ref b738)])) rfl (by rw [hml]; rfl) (Steps.refl _) (argsL := []) (rest := []) (lenOf pd___Z rfl) rfl (by show 2 * 0 + _ ≤ _; exact Nat.le_of_eq rfl) (hb hby at_29) (fun _ _ => ⟨rfl, rfl, (by decide : 4 + 0 ≤ _), (by decide : 14 + 0 ≤ _)⟩)
  dsimp only [Pt.U, Pt.locs, Pt.cells, Pt.slots] at X740 l740 y740 z740 st740 hQ740
  subst l740 y740 z740
  obtain ⟨rfl, N740q, e740⟩ := hQ740
  have N740 := Fr.app N739 N740q
  obtain ⟨_, _, ⟨T742, L742, k742, n742⟩, -, X742, ⟨Lc742, hQ742, l742, y742, z742⟩, st742⟩ := Jvm.LawKit.callS X740 hx (y := oy3) hown (mvT hZ (own_w hw 31 rfl)) (mvT hZ (own_w hw 32 rfl)) (mvT hZ (own_w hw 33 rfl)) (mvT hZ (own_w hw 34 rfl)) (by decide) (backOf (W := 1) (rm_valueOf_3 l Z a0 hw [] w_cache w_I1 cl_cache T739.heap n0 O739  S_high S_cache AE_1 A_cache) hZ (own_w hw 34 rfl) (own_w hw 33 rfl) (by decide) (by decide)) (g := (mkF m 50 (oL61 p0 p1 p2 b738) [(.int 1), (.ref b738)])) rfl (by rw [hml]; rfl) (argsL := [(.int 1)]) (rest := [(.ref b738)]) (lenOf pd__I_Ljava_lang_Integer_ rfl) rfl (by show 2 * 0 + _ ≤ _; exact Nat.le_of_eq rfl) (hb hby at_50) (fun _ _ => ⟨rfl, e740, (by decide : 4 + 0 ≤ _), (by decide : 14 + 0 ≤ _)⟩)
  dsimp only [Pt.U, Pt.locs, Pt.cells, Pt.slots] at X742 l742 y742 z742 st742 hQ742
  subst l742 y742 z742
  obtain ⟨rfl, N742q, e742⟩ := hQ742
  have N742 := Fr.app N740 N742q
  obtain ⟨cq743, kq743, q743a, q743b, q743c⟩ := isOf hZ e742 u739_0
  obtain ⟨_, _, ⟨T743, L743, k743, n743⟩, -, X743, ⟨Lc743, hQ743, l743, y743, z743⟩, st743⟩ := X742.virtualBack hx (y := oy4) (z := oy4) hown (mvT hZ (own_w hw 38 rfl)) (mvT hZ (own_w hw 39 rfl)) (notFace_of_selects (args := #[]) (mvT hZ (own_w hw 41 rfl))) (mvT hZ (own_w hw 41 rfl)) (mvT hZ (own_w hw 40 rfl)) (by decide) (backOf (W := 0) (rm_take_32 l Z a0 hw [] b738 b739_b549 b739_b551 b739_b553 kx739_k549 kx739_k551 kx739_k553 w_I1 T739.heap n0 O739 u739_0 u739_1 u739_2 u739_3 u739_4 u739_5 ge_b738 u739_6 u739_7 u739_8 u739_10 u739_11 u739_13 u739_14 ne_b738_b739_b549 ne_b738_b739_b551 ne_b738_b739_b553 u739_16 u739_17 u739_18 E_I1) hZ (own_w hw 42 rfl) (own_w hw 6 rfl) (by decide) (by decide)) q743a q743c (g := (mkF m 53 (oL61 p0 p1 p2 b738) [(.ref w_I1), (.ref b738)])) rfl (by rw [hml]; rfl) (Steps.refl _) (argsL := [(.ref w_I1)]) (rest := []) (lenOf pd__Ljava_lang_Object__J rfl) rfl (by show 2 * 0 + _ ≤ _; exact Nat.le_of_eq rfl) (hb hby at_53) (fun _ _ => ⟨rfl, e742, (by decide : 4 + 0 ≤ _), (by decide : 14 + 0 ≤ _)⟩)
  dsimp only [Pt.U, Pt.locs, Pt.cells, Pt.slots] at X743 l743 y743 z743 st743 hQ743
  subst l743 y743 z743
  obtain ⟨rfl, N743q, Kc743, u743_0, u743_1, u743_2, u743_3, u743_4, u743_5, u743_6, u743_7⟩ := hQ743
  have N743 := Fr.app N742 N743q
  have u739_13 := u739_13.keep Kc743 (ninS (Ne.symm ne_b738_b739_b553) (ninS (Ne.symm u739_17) (ninS (Ne.symm u739_18) nin0)))
  have O743 := O739.keep Kc743 (allS ge_b738 (allS u739_8 (allS u739_11 all0)))
  obtain ⟨_, _, ⟨T745, L745, k745, n745⟩, -, X745, ⟨Lc745, hQ745, l745, y745, z745⟩, st745⟩ := Jvm.LawKit.callS X743 hx (y := oy3) hown (mvT hZ (own_w hw 31 rfl)) (mvT hZ (own_w hw 32 rfl)) (mvT hZ (own_w hw 33 rfl)) (mvT hZ (own_w hw 34 rfl)) (by decide) (backOf (W := 1) (rm_valueOf_22 l Z a0 hw [] w_cache cl_cache w_I2 T743.heap n0 O743  S_high S_cache AE_2 A_cache) hZ (own_w hw 34 rfl) (own_w hw 33 rfl) (by decide) (by decide)) (g := (mkF m 67 (oL36 p0 p1 p2 b738) [(.int 2), (.ref b738)])) rfl (by rw [hml]; rfl) (argsL := [(.int 2)]) (rest := [(.ref b738)]) (lenOf pd__I_Ljava_lang_Integer_ rfl) rfl (by show 2 * 0 + _ ≤ _; exact Nat.le_of_eq rfl) (hb hby at_67) (fun _ _ => ⟨rfl, rfl, (by decide : 4 + 0 ≤ _), (by decide : 14 + 0 ≤ _)⟩)
  dsimp only [Pt.U, Pt.locs, Pt.cells, Pt.slots] at X745 l745 y745 z745 st745 hQ745
  subst l745 y745 z745
  obtain ⟨rfl, N745q, e745⟩ := hQ745
  have N745 := Fr.app N743 N745q
  obtain ⟨cq746, kq746, q746a, q746b, q746c⟩ := isOf hZ e745 u743_0
  obtain ⟨_, _, ⟨T746, L746, k746, n746⟩, -, X746, ⟨Lc746, hQ746, l746, y746, z746⟩, st746⟩ := X745.virtualBack hx (y := oy4) (z := oy4) hown (mvT hZ (own_w hw 38 rfl)) (mvT hZ (own_w hw 39 rfl)) (notFace_of_selects (args := #[]) (mvT hZ (own_w hw 41 rfl))) (mvT hZ (own_w hw 41 rfl)) (mvT hZ (own_w hw 40 rfl)) (by decide) (backOf (W := 0) (rm_take_39 l Z a0 hw [] b738 b739_b549 b739_b551 b739_b553 kx739_k549 kx739_k551 kx739_k553 w_I2 w_I1 T743.heap n0 O743 u743_0 u743_1 u743_2 u743_3 u743_4 u743_5 ge_b738 u739_7 u743_6 u739_8 u743_7 u739_11 u739_13 u739_14 ne_b738_b739_b549 ne_b738_b739_b551 ne_b738_b739_b553 u739_16 u739_17 u739_18 E_I2) hZ (own_w hw 42 rfl) (own_w hw 6 rfl) (by decide) (by decide)) q746a q746c (g := (mkF m 70 (oL36 p0 p1 p2 b738) [(.ref w_I2), (.ref b738)])) rfl (by rw [hml]; rfl) (Steps.refl _) (argsL := [(.ref w_I2)]) (rest := []) (lenOf pd__Ljava_lang_Object__J rfl) rfl (by show 2 * 0 + _ ≤ _; exact Nat.le_of_eq rfl) (hb hby at_70) (fun _ _ => ⟨rfl, e745, (by decide : 4 + 0 ≤ _), (by decide : 14 + 0 ≤ _)⟩)
  dsimp only [Pt.U, Pt.locs, Pt.cells, Pt.slots] at X746 l746 y746 z746 st746 hQ746
  subst l746 y746 z746
  obtain ⟨rfl, N746q, Kc746, u746_0, u746_1, u746_2, u746_3, u746_4, u746_5, u746_6, u746_7⟩ := hQ746
  have N746 := Fr.app N745 N746q
  have u739_13 := u739_13.keep Kc746 (ninS (Ne.symm ne_b738_b739_b553) (ninS (Ne.symm u739_17) (ninS (Ne.symm u739_18) nin0)))
  have O746 := O743.keep Kc746 (allS ge_b738 (allS u739_8 (allS u739_11 all0)))
  obtain ⟨cq772, kq772, q772a, q772b, q772c⟩ := isOf hZ rfl u746_0
  obtain ⟨_, _, ⟨T772, L772, k772, n772⟩, -, X772, ⟨Lc772, hQ772, l772, y772, z772⟩, st772⟩ := X746.virtualBack hx (y := oy2) (z := oy2) hown (mvT hZ (own_w hw 26 rfl)) (mvT hZ (own_w hw 27 rfl)) (notFace_of_selects (args := #[]) (mvT hZ (own_w hw 29 rfl))) (mvT hZ (own_w hw 29 rfl)) (mvT hZ (own_w hw 28 rfl)) (by decide) (backOf (W := 0) (rm_hasFree_2 l Z a0 hw [] b738 T746.heap n0 O746 u746_4 ) hZ (own_w hw 30 rfl) (own_w hw 6 rfl) (by decide) (by decide)) q772a q772c (g := (mkF m 92 (oL36 p0 p1 p2 b738) [(.ref b738)])) rfl (by rw [hml]; rfl) (Steps.refl _) (argsL := []) (rest := []) (lenOf pd___Z rfl) rfl (by show 2 * 0 + _ ≤ _; exact Nat.le_of_eq rfl) (hb hby at_92) (fun _ _ => ⟨rfl, rfl, (by decide : 4 + 0 ≤ _), (by decide : 14 + 0 ≤ _)⟩)
  dsimp only [Pt.U, Pt.locs, Pt.cells, Pt.slots] at X772 l772 y772 z772 st772 hQ772
  subst l772 y772 z772
  obtain ⟨rfl, N772q, e772⟩ := hQ772
  have N772 := Fr.app N746 N772q
  have pre775 : ∀ t, oS p e below m T772 121 (oL44 p0 p1 p2 b738) [(.int ((1 : Int32) &&& (1 : Int32)))] t → oT p e below s₁ (entryFrame m #[(.int p0), (.int p1), (.int p2)] maxLocals) t := by
    intro t kt
    refine pre542 t ?_
    show oS p e below m s₁ 12 (oL33 p0 p1 p2) [(.int 3), (.int 2)] _
    refine st737 _ ?_
    show oS p e below m T737 15 (oL33 p0 p1 p2) [(.int 2)] _
    refine XS.istore X737.here hx rfl (hb hby at_15) rfl (l' := (oL73 p0 p1 p2)) rfl ?_
    show oS p e below m T737 17 (oL73 p0 p1 p2) [] _
    refine st738 _ ?_
    show oS p e below m T738 20 (oL73 p0 p1 p2) [(.ref b738)] _
    refine XS.dup X738.here hx rfl (hb hby at_20) rfl rfl ?_
    refine XS.iloadN X738.here hx rfl (hb hby at_21) rfl ?_
    show oS p e below m T738 22 (oL73 p0 p1 p2) [(.int 3), (.ref b738), (.ref b738)] _
    refine st739.trans ?_
    show oS p e below m T739 25 (oL73 p0 p1 p2) [(.ref b738)] _
    refine XS.astore X739.here hx rfl (hb hby at_25) rfl rfl (l' := #[iv p0, iv p1, iv p2, iv 3, iv 2, rv b738, .unset, .unset, .unset, .unset, .unset, .unset, .unset]) rfl ?_
    refine XS.aload X739.here hx rfl (hb hby at_27) rfl rfl ?_
    show oS p e below m T739 29 #[iv p0, iv p1, iv p2, iv 3, iv 2, rv b738, .unset, .unset, .unset, .unset, .unset, .unset, .unset] [(.ref b738)] _
    refine st740.trans ?_
    show oS p e below m T740 32 #[iv p0, iv p1, iv p2, iv 3, iv 2, rv b738, .unset, .unset, .unset, .unset, .unset, .unset, .unset] [(.int 1)] _
    refine XS.istore X740.here hx rfl (hb hby at_32) rfl (l' := #[iv p0, iv p1, iv p2, iv 3, iv 2, rv b738, iv 1, .unset, .unset, .unset, .unset, .unset, .unset]) rfl ?_
    refine XS.iload X740.here hx rfl (hb hby at_34) rfl ?_
    show oS p e below m T740 36 #[iv p0, iv p1, iv p2, iv 3, iv 2, rv b738, iv 1, .unset, .unset, .unset, .unset, .unset, .unset] [(.int 1)] _
    refine XS.istore X740.here hx rfl (hb hby at_36) rfl (l' := #[iv p0, iv p1, iv p2, iv 3, iv 2, rv b738, iv 1, iv 1, .unset, .unset, .unset, .unset, .unset]) rfl ?_
    refine XS.lconst X740.here hx rfl (hb hby at_38) ?_
    show oS p e below m T740 39 #[iv p0, iv p1, iv p2, iv 3, iv 2, rv b738, iv 1, iv 1, .unset, .unset, .unset, .unset, .unset] [(.long 0)] _
    refine XS.lstore X740.here hx rfl (hb hby at_39) rfl (l' := (oL61 p0 p1 p2 b738)) rfl ?_
    refine XS.iload X740.here hx rfl (hb hby at_41) rfl ?_
    show oS p e below m T740 43 (oL61 p0 p1 p2 b738) [(.int 2)] _
    refine XS.iconst X740.here hx rfl (hb hby at_43) ?_
    refine XS.icmpNo X740.here hx rfl (hb hby at_44) rfl (flt (by decide : ¬ ((2 : Int32) < (1 : Int32)))).1 ?_
    show oS p e below m T740 47 (oL61 p0 p1 p2 b738) [] _
    refine XS.aload X740.here hx rfl (hb hby at_47) rfl rfl ?_
    refine XS.iconst X740.here hx rfl (hb hby at_49) ?_
    show oS p e below m T740 50 (oL61 p0 p1 p2 b738) [(.int 1), (.ref b738)] _
    refine st742 _ ?_
    show oS p e below m T742 53 (oL61 p0 p1 p2 b738) [(.ref w_I1), (.ref b738)] _
    refine st743.trans ?_
    show oS p e below m T743 56 (oL61 p0 p1 p2 b738) [(.long 1048576)] _
    refine XS.lstore X743.here hx rfl (hb hby at_56) rfl (l' := (oL36 p0 p1 p2 b738)) rfl ?_
    refine XS.iload X743.here hx rfl (hb hby at_58) rfl ?_
    show oS p e below m T743 60 (oL36 p0 p1 p2 b738) [(.int 2)] _
    refine XS.iconst X743.here hx rfl (hb hby at_60) ?_
    refine XS.icmpNo X743.here hx rfl (hb hby at_61) rfl (flt (by decide : ¬ ((2 : Int32) < (2 : Int32)))).1 ?_
    show oS p e below m T743 64 (oL36 p0 p1 p2 b738) [] _
    refine XS.aload X743.here hx rfl (hb hby at_64) rfl rfl ?_
    refine XS.iconst X743.here hx rfl (hb hby at_66) ?_
    show oS p e below m T743 67 (oL36 p0 p1 p2 b738) [(.int 2), (.ref b738)] _
    refine st745 _ ?_
    show oS p e below m T745 70 (oL36 p0 p1 p2 b738) [(.ref w_I2), (.ref b738)] _
    refine st746.trans ?_
    show oS p e below m T746 73 (oL36 p0 p1 p2 b738) [(.long 2097153)] _
    jvm_step X746.here [X746.here.top, hx, (hb hby at_73), Value.category]
    show oS p e below m T746 74 (oL36 p0 p1 p2 b738) [] _
    refine XS.iload X746.here hx rfl (hb hby at_74) rfl ?_
    refine XS.iconst X746.here hx rfl (hb hby at_76) ?_
    show oS p e below m T746 77 (oL36 p0 p1 p2 b738) [(.int 3), (.int 2)] _
    refine XS.icmpYes X746.here hx rfl (pc0 := 77) (pc' := 90) rfl (hb hby at_77) rfl (tlt (by decide : (2 : Int32) < (3 : Int32))).1 (by decide) (by decide) ?_
    refine XS.aload X746.here hx rfl (hb hby at_90) rfl rfl ?_
    show oS p e below m T746 92 (oL36 p0 p1 p2 b738) [(.ref b738)] _
    refine st772.trans ?_
    show oS p e below m T772 95 (oL36 p0 p1 p2 b738) [(.int 1)] _
    refine XS.istore X772.here hx rfl (hb hby at_95) rfl (l' := (oL44 p0 p1 p2 b738)) rfl ?_
    refine XS.iload X772.here hx rfl (hb hby at_97) rfl ?_
    show oS p e below m T772 99 (oL44 p0 p1 p2 b738) [(.int 1)] _
    refine XS.iload X772.here hx rfl (hb hby at_99) rfl ?_
    refine XS.iload X772.here hx rfl (hb hby at_101) rfl ?_
    show oS p e below m T772 103 (oL44 p0 p1 p2 b738) [(.int 2), (.int 1), (.int 1)] _
    refine XS.iloadN X772.here hx rfl (hb hby at_103) rfl ?_
    refine XS.icmpNo X772.here hx rfl (hb hby at_104) rfl (tlt (by decide : (2 : Int32) < (3 : Int32))).2.1 ?_
    show oS p e below m T772 107 (oL44 p0 p1 p2 b738) [(.int 1), (.int 1)] _
    refine XS.iconst X772.here hx rfl (hb hby at_107) ?_
    refine XS.goto X772.here hx rfl (pc0 := 108) (pc' := 112) rfl (hb hby at_108) (by decide) (by decide) ?_
    show oS p e below m T772 112 (oL44 p0 p1 p2 b738) [(.int 1), (.int 1), (.int 1)] _
    refine XS.icmpNo X772.here hx rfl (hb hby at_112) rfl (teq (by decide : (1 : Int32) = (1 : Int32))).2 ?_
    refine XS.iconst X772.here hx rfl (hb hby at_115) ?_
    show oS p e below m T772 116 (oL44 p0 p1 p2 b738) [(.int 1), (.int 1)] _
    refine XS.goto X772.here hx rfl (pc0 := 116) (pc' := 120) rfl (hb hby at_116) (by decide) (by decide) ?_
    refine XS.iand X772.here hx rfl (hb hby at_120) rfl ?_
    exact kt
  rw [show ((1 : Int32) &&& (1 : Int32)) = (1 : Int32) from by decide] at pre775
  have pre778 : ∀ t, oS p e below m T772 136 (oL24 p0 p1 p2 b738) [(.int (p2 &&& (1 : Int32)))] t → oT p e below s₁ (entryFrame m #[(.int p0), (.int p1), (.int p2)] maxLocals) t := by
    intro t kt
    refine pre775 t ?_
    show oS p e below m T772 121 (oL44 p0 p1 p2 b738) [(.int 1)] _
    refine XS.istore X772.here hx rfl (hb hby at_121) rfl (l' := (oL44 p0 p1 p2 b738)) rfl ?_
    refine XS.iload X772.here hx rfl (hb hby at_123) rfl ?_
    show oS p e below m T772 125 (oL44 p0 p1 p2 b738) [(.int 2)] _
    refine XS.istore X772.here hx rfl (hb hby at_125) rfl (l' := (oL24 p0 p1 p2 b738)) rfl ?_
    refine XS.iload X772.here hx rfl (hb hby at_127) rfl ?_
    show oS p e below m T772 129 (oL24 p0 p1 p2 b738) [(.int 2)] _
    refine XS.iconst X772.here hx rfl (hb hby at_129) ?_
    refine XS.icmpNo X772.here hx rfl (hb hby at_130) rfl (flt (by decide : ¬ ((2 : Int32) < (1 : Int32)))).1 ?_
    show oS p e below m T772 133 (oL24 p0 p1 p2 b738) [] _
    refine XS.iloadN X772.here hx rfl (hb hby at_133) rfl ?_
    refine XS.iconst X772.here hx rfl (hb hby at_134) ?_
    show oS p e below m T772 135 (oL24 p0 p1 p2 b738) [(.int 1), (.int p2)] _
    refine XS.iand X772.here hx rfl (hb hby at_135) rfl ?_
    exact kt
  by_cases hc136_777 : (p2 &&& (1 : Int32)) = (0 : Int32)
  obtain ⟨cq779, kq779, q779a, q779b, q779c⟩ := isOf hZ e772 u746_0
  obtain ⟨_, _, ⟨T779, L779, k779, n779⟩, -, X779, ⟨Lc779, hQ779, l779, y779, z779⟩, st779⟩ := X772.virtualBack hx (y := oy2) (z := oy2) hown (mvT hZ (own_w hw 26 rfl)) (mvT hZ (own_w hw 27 rfl)) (notFace_of_selects (args := #[]) (mvT hZ (own_w hw 29 rfl))) (mvT hZ (own_w hw 29 rfl)) (mvT hZ (own_w hw 28 rfl)) (by decide) (backOf (W := 0) (rm_hasFree_2 l Z a0 hw [] b738 T746.heap n0 O746 u746_4 ) hZ (own_w hw 30 rfl) (own_w hw 6 rfl) (by decide) (by decide)) q779a q779c (g := (mkF m 191 (oL24 p0 p1 p2 b738) [(.ref b738)])) rfl (by rw [hml]; rfl) (Steps.refl _) (argsL := []) (rest := []) (lenOf pd___Z rfl) rfl (by show 2 * 0 + _ ≤ _; exact Nat.le_of_eq rfl) (hb hby at_191) (fun _ _ => ⟨rfl, e772, (by decide : 4 + 0 ≤ _), (by decide : 14 + 0 ≤ _)⟩)
  dsimp only [Pt.U, Pt.locs, Pt.cells, Pt.slots] at X779 l779 y779 z779 st779 hQ779
  subst l779 y779 z779
  obtain ⟨rfl, N779q, e779⟩ := hQ779
  have N779 := Fr.app N772 N779q
  have pre782 : ∀ t, oS p e below m T779 220 (oL16 p0 p1 p2 b738) [(.int ((1 : Int32) &&& (1 : Int32)))] t → oT p e below s₁ (entryFrame m #[(.int p0), (.int p1), (.int p2)] maxLocals) t := by
    intro t kt
    refine pre778 t ?_
    show oS p e below m T772 136 (oL24 p0 p1 p2 b738) [(.int (p2 &&& (1 : Int32)))] _
    refine XS.ifYes X772.here hx rfl (pc0 := 136) (pc' := 189) rfl (hb hby at_136) rfl ((if0 _ _).trans (teq hc136_777).1) (by decide) (by decide) ?_
    refine XS.aload X772.here hx rfl (hb hby at_189) rfl rfl ?_
    show oS p e below m T772 191 (oL24 p0 p1 p2 b738) [(.ref b738)] _
    refine st779.trans ?_
    show oS p e below m T779 194 (oL24 p0 p1 p2 b738) [(.int 1)] _
    refine XS.istore X779.here hx rfl (hb hby at_194) rfl (l' := (oL16 p0 p1 p2 b738)) rfl ?_
    refine XS.iload X779.here hx rfl (hb hby at_196) rfl ?_
    show oS p e below m T779 198 (oL16 p0 p1 p2 b738) [(.int 1)] _
    refine XS.iload X779.here hx rfl (hb hby at_198) rfl ?_
    refine XS.iload X779.here hx rfl (hb hby at_200) rfl ?_
    show oS p e below m T779 202 (oL16 p0 p1 p2 b738) [(.int 2), (.int 1), (.int 1)] _
    refine XS.iloadN X779.here hx rfl (hb hby at_202) rfl ?_
    refine XS.icmpNo X779.here hx rfl (hb hby at_203) rfl (tlt (by decide : (2 : Int32) < (3 : Int32))).2.1 ?_
    show oS p e below m T779 206 (oL16 p0 p1 p2 b738) [(.int 1), (.int 1)] _
    refine XS.iconst X779.here hx rfl (hb hby at_206) ?_
    refine XS.goto X779.here hx rfl (pc0 := 207) (pc' := 211) rfl (hb hby at_207) (by decide) (by decide) ?_
    show oS p e below m T779 211 (oL16 p0 p1 p2 b738) [(.int 1), (.int 1), (.int 1)] _
    refine XS.icmpNo X779.here hx rfl (hb hby at_211) rfl (teq (by decide : (1 : Int32) = (1 : Int32))).2 ?_
    refine XS.iconst X779.here hx rfl (hb hby at_214) ?_
    show oS p e below m T779 215 (oL16 p0 p1 p2 b738) [(.int 1), (.int 1)] _
    refine XS.goto X779.here hx rfl (pc0 := 215) (pc' := 219) rfl (hb hby at_215) (by decide) (by decide) ?_
    refine XS.iand X779.here hx rfl (hb hby at_219) rfl ?_
    exact kt
  rw [show ((1 : Int32) &&& (1 : Int32)) = (1 : Int32) from by decide] at pre782
  have pre783 : ∀ t, oS p e below m T779 224 (oL16 p0 p1 p2 b738) [(.int 1)] t → oT p e below s₁ (entryFrame m #[(.int p0), (.int p1), (.int p2)] maxLocals) t := by
    intro t kt
    refine pre782 t ?_
    show oS p e below m T779 220 (oL16 p0 p1 p2 b738) [(.int 1)] _
    refine XS.istore X779.here hx rfl (hb hby at_220) rfl (l' := (oL16 p0 p1 p2 b738)) rfl ?_
    refine XS.iload X779.here hx rfl (hb hby at_222) rfl ?_
    exact kt
  obtain ⟨fs, hr, hrun, hended, hW, hsame⟩ := X779.leave (v := some (.int 1)) (fun h => by rw [Bd.returns] at h; cases h)
  refine ⟨_, _, pre783 _ ?_, hrun, hended, _, _, rfl, ?_, ⟨_, rfl⟩, hW, hsame.mono (by decide) (by decide)⟩
  · show oS p e below m T779 224 (oL16 p0 p1 p2 b738) [(.int 1)] _
    exact retN X779 hx (t := .boolean) Bd.returns (by simp) (hb hby at_224) hr
  · show Q_rm0 Z p0 p1 p2 w_cache w_I1 cl_cache w_I4 w_I2 w_I3 h0 n0 _ T779.heap _
    rw [e779]
    exact ⟨rfl, N779⟩
  obtain ⟨cq784, kq784, q784a, q784b, q784c⟩ := isOf hZ e772 u746_0
  obtain ⟨_, _, ⟨T784, L784, k784, n784⟩, -, X784, ⟨Lc784, hQ784, l784, y784, z784⟩, st784⟩ := X772.virtualBack hx (y := oy5) (z := oy5) hown (mvT hZ (own_w hw 47 rfl)) (mvT hZ (own_w hw 48 rfl)) (notFace_of_selects (args := #[]) (mvT hZ (own_w hw 50 rfl))) (mvT hZ (own_w hw 50 rfl)) (mvT hZ (own_w hw 49 rfl)) (by decide) (backOf (W := 0) (rm_release_40 l Z a0 hw [] b738 b739_b549 b739_b551 b739_b553 kx739_k549 kx739_k551 kx739_k553 w_I2 w_I1 T746.heap n0 O746 u746_0 u746_1 u746_2 u746_3 u746_4 u746_5 ge_b738 u739_7 u746_6 u739_8 u746_7 u739_11 u739_13 u739_14 ne_b738_b739_b549 ne_b738_b739_b551 ne_b738_b739_b553 u739_16 u739_17 u739_18 ) hZ (own_w hw 51 rfl) (own_w hw 6 rfl) (by decide) (by decide)) q784a q784c (g := (mkF m 143 (oL24 p0 p1 p2 b738) [(.long 1048576), (.ref b738)])) rfl (by rw [hml]; rfl) (Steps.refl _) (argsL := [(.long 1048576)]) (rest := []) (lenOf pd__J_Ljava_lang_Object_ rfl) rfl (by show 2 * 0 + _ ≤ _; exact Nat.le_of_eq rfl) (hb hby at_143) (fun _ _ => ⟨rfl, e772, (by decide : 4 + 0 ≤ _), (by decide : 14 + 0 ≤ _)⟩)
  dsimp only [Pt.U, Pt.locs, Pt.cells, Pt.slots] at X784 l784 y784 z784 st784 hQ784
  subst l784 y784 z784
  obtain ⟨rfl, N784q, Kc784, u784_0, u784_1, u784_2, u784_3, u784_4, u784_5, u784_6, u784_7, u784_8⟩ := hQ784
  have N784 := Fr.app N772 N784q
  have O784 := O746.keep Kc784 (allS u739_14 (allS ge_b738 (allS u739_11 (allS u739_8 all0))))
  have pre817 : ∀ t, oS p e below m T784 151 (oL24 p0 p1 p2 b738) [(.int ((2 : Int32) - (1 : Int32)))] t → oT p e below s₁ (entryFrame m #[(.int p0), (.int p1), (.int p2)] maxLocals) t := by
    intro t kt
    refine pre778 t ?_
    show oS p e below m T772 136 (oL24 p0 p1 p2 b738) [(.int (p2 &&& (1 : Int32)))] _
    refine XS.ifNo X772.here hx rfl (hb hby at_136) rfl ((if0 _ _).trans (feq hc136_777).1) ?_
    refine XS.aload X772.here hx rfl (hb hby at_139) rfl rfl ?_
    show oS p e below m T772 141 (oL24 p0 p1 p2 b738) [(.ref b738)] _
    refine XS.lload X772.here hx rfl (hb hby at_141) rfl ?_
    show oS p e below m T772 143 (oL24 p0 p1 p2 b738) [(.long 1048576), (.ref b738)] _
    refine st784.trans ?_
    show oS p e below m T784 146 (oL24 p0 p1 p2 b738) [(.ref w_I1)] _
    refine XS.pop X784.here hx rfl (hb hby at_146) rfl rfl ?_
    refine XS.iload X784.here hx rfl (hb hby at_147) rfl ?_
    show oS p e below m T784 149 (oL24 p0 p1 p2 b738) [(.int 2)] _
    refine XS.iconst X784.here hx rfl (hb hby at_149) ?_
    refine XS.isub X784.here hx rfl (hb hby at_150) rfl ?_
    exact kt
  rw [show ((2 : Int32) - (1 : Int32)) = (1 : Int32) from by decide] at pre817
  have pre818 : ∀ t, oS p e below m T784 156 (oL10 p0 p1 p2 b738) [(.int (p2 &&& (2 : Int32)))] t → oT p e below s₁ (entryFrame m #[(.int p0), (.int p1), (.int p2)] maxLocals) t := by
    intro t kt
    refine pre817 t ?_
    show oS p e below m T784 151 (oL24 p0 p1 p2 b738) [(.int 1)] _
    refine XS.istore X784.here hx rfl (hb hby at_151) rfl (l' := (oL10 p0 p1 p2 b738)) rfl ?_
    refine XS.iloadN X784.here hx rfl (hb hby at_153) rfl ?_
    show oS p e below m T784 154 (oL10 p0 p1 p2 b738) [(.int p2)] _
    refine XS.iconst X784.here hx rfl (hb hby at_154) ?_
    refine XS.iand X784.here hx rfl (hb hby at_155) rfl ?_
    exact kt
  have tail167_819 : ∀ (T : State) (locs : List Loc) (h : Heap) (X : Stand p l e room_1 s m #[(.int p0), (.int p1), (.int p2)] below meth c T locs 4 14) (eT : T.heap = h) (Nn : Fr n0 locs) (On : Old Z n0 h) (v819_0 : Arv Z h b739_b553 kx739_k553 .int (3 : Int32) [(.int 2), (.int 0), (.int 0)] (.int 0)) (e819_1 : Exa Z h b738 oc8) (f819_2 : Fld Z h b738 oc8 "requests" "[Ljava/lang/Object;" (.ref b739_b549)) (f819_3 : Fld Z h b738 oc8 "sequences" "[J" (.ref b739_b551)) (f819_4 : Fld Z h b738 oc8 "free" "[I" (.ref b739_b553)) (f819_5 : Fld Z h b738 oc8 "freeCount" "I" (.int 2)) (f819_6 : Fld Z h b738 oc8 "lastSequence" "J" (.long 2)) (v819_7 : Arv Z h b739_b551 kx739_k551 .long (3 : Int32) [(.long 0), (.long 2), (.long 0)] (.long 0)) (v819_8 : Arv Z h b739_b549 kx739_k549 (.object oc9) (3 : Int32) [.null, (.ref w_I2), .null] .null), ∃ s₂ o, Steps p.tables e below (T.setTop (mkF m 167 (oL10 p0 p1 p2 b738) [])) s₂ ∧ s₂.status = .running ∧ Ended s₂ below o ∧ ∃ v L, o = .returned v ∧ Q_rm0 Z p0 p1 p2 w_cache w_I1 cl_cache w_I4 w_I2 w_I3 h0 n0 v s₂.heap L ∧ FrameEnd s o s₂ L room_1.cells room_1.slots := by
    intro T locs h X eT Nn On v819_0 e819_1 f819_2 f819_3 f819_4 f819_5 f819_6 v819_7 v819_8
    have pre820 : ∀ t, oS p e below m T 167 (oL10 p0 p1 p2 b738) [] t → oT p e below T (mkF m 167 (oL10 p0 p1 p2 b738) []) t := fun t k => k
    have pre822 : ∀ t, oS p e below m T 170 (oL10 p0 p1 p2 b738) [(.int (p2 &&& (4 : Int32)))] t → oT p e below T (mkF m 167 (oL10 p0 p1 p2 b738) []) t := by
      intro t kt
      refine pre820 t ?_
      show oS p e below m T 167 (oL10 p0 p1 p2 b738) [] _
      refine XS.iloadN X.here hx rfl (hb hby at_167) rfl ?_
      refine XS.iconst X.here hx rfl (hb hby at_168) ?_
      show oS p e below m T 169 (oL10 p0 p1 p2 b738) [(.int 4), (.int p2)] _
      refine XS.iand X.here hx rfl (hb hby at_169) rfl ?_
      exact kt
    by_cases hc170_821 : (p2 &&& (4 : Int32)) = (0 : Int32)
    obtain ⟨cq823, kq823, q823a, q823b, q823c⟩ := isOf hZ eT e819_1
    obtain ⟨_, _, ⟨T823, L823, k823, n823⟩, -, X823, ⟨Lc823, hQ823, l823, y823, z823⟩, st823⟩ := X.virtualBack hx (y := oy2) (z := oy2) hown (mvT hZ (own_w hw 26 rfl)) (mvT hZ (own_w hw 27 rfl)) (notFace_of_selects (args := #[]) (mvT hZ (own_w hw 29 rfl))) (mvT hZ (own_w hw 29 rfl)) (mvT hZ (own_w hw 28 rfl)) (by decide) (backOf (W := 0) (rm_hasFree_14 l Z a0 hw [] b738 h n0 On f819_5 ) hZ (own_w hw 30 rfl) (own_w hw 6 rfl) (by decide) (by decide)) q823a q823c (g := (mkF m 191 (oL10 p0 p1 p2 b738) [(.ref b738)])) rfl (by rw [hml]; rfl) (Steps.refl _) (argsL := []) (rest := []) (lenOf pd___Z rfl) rfl (by show 2 * 0 + _ ≤ _; exact Nat.le_of_eq rfl) (hb hby at_191) (fun _ _ => ⟨rfl, eT, (by decide : 4 + 0 ≤ _), (by decide : 14 + 0 ≤ _)⟩)
    dsimp only [Pt.U, Pt.locs, Pt.cells, Pt.slots] at X823 l823 y823 z823 st823 hQ823
    subst l823 y823 z823
    obtain ⟨rfl, N823q, e823⟩ := hQ823
    have N823 := Fr.app Nn N823q
    have pre826 : ∀ t, oS p e below m T823 220 (oL37 p0 p1 p2 b738) [(.int ((1 : Int32) &&& (1 : Int32)))] t → oT p e below T (mkF m 167 (oL10 p0 p1 p2 b738) []) t := by
      intro t kt
      refine pre822 t ?_
      show oS p e below m T 170 (oL10 p0 p1 p2 b738) [(.int (p2 &&& (4 : Int32)))] _
      refine XS.ifYes X.here hx rfl (pc0 := 170) (pc' := 189) rfl (hb hby at_170) rfl ((if0 _ _).trans (teq hc170_821).1) (by decide) (by decide) ?_
      refine XS.aload X.here hx rfl (hb hby at_189) rfl rfl ?_
      show oS p e below m T 191 (oL10 p0 p1 p2 b738) [(.ref b738)] _
      refine st823.trans ?_
      show oS p e below m T823 194 (oL10 p0 p1 p2 b738) [(.int 1)] _
      refine XS.istore X823.here hx rfl (hb hby at_194) rfl (l' := (oL37 p0 p1 p2 b738)) rfl ?_
      refine XS.iload X823.here hx rfl (hb hby at_196) rfl ?_
      show oS p e below m T823 198 (oL37 p0 p1 p2 b738) [(.int 1)] _
      refine XS.iload X823.here hx rfl (hb hby at_198) rfl ?_
      refine XS.iload X823.here hx rfl (hb hby at_200) rfl ?_
      show oS p e below m T823 202 (oL37 p0 p1 p2 b738) [(.int 1), (.int 1), (.int 1)] _
      refine XS.iloadN X823.here hx rfl (hb hby at_202) rfl ?_
      refine XS.icmpNo X823.here hx rfl (hb hby at_203) rfl (tlt (by decide : (1 : Int32) < (3 : Int32))).2.1 ?_
      show oS p e below m T823 206 (oL37 p0 p1 p2 b738) [(.int 1), (.int 1)] _
      refine XS.iconst X823.here hx rfl (hb hby at_206) ?_
      refine XS.goto X823.here hx rfl (pc0 := 207) (pc' := 211) rfl (hb hby at_207) (by decide) (by decide) ?_
      show oS p e below m T823 211 (oL37 p0 p1 p2 b738) [(.int 1), (.int 1), (.int 1)] _
      refine XS.icmpNo X823.here hx rfl (hb hby at_211) rfl (teq (by decide : (1 : Int32) = (1 : Int32))).2 ?_
      refine XS.iconst X823.here hx rfl (hb hby at_214) ?_
      show oS p e below m T823 215 (oL37 p0 p1 p2 b738) [(.int 1), (.int 1)] _
      refine XS.goto X823.here hx rfl (pc0 := 215) (pc' := 219) rfl (hb hby at_215) (by decide) (by decide) ?_
      refine XS.iand X823.here hx rfl (hb hby at_219) rfl ?_
      exact kt
    rw [show ((1 : Int32) &&& (1 : Int32)) = (1 : Int32) from by decide] at pre826
    have pre827 : ∀ t, oS p e below m T823 224 (oL37 p0 p1 p2 b738) [(.int 1)] t → oT p e below T (mkF m 167 (oL10 p0 p1 p2 b738) []) t := by
      intro t kt
      refine pre826 t ?_
      show oS p e below m T823 220 (oL37 p0 p1 p2 b738) [(.int 1)] _
      refine XS.istore X823.here hx rfl (hb hby at_220) rfl (l' := (oL37 p0 p1 p2 b738)) rfl ?_
      refine XS.iload X823.here hx rfl (hb hby at_222) rfl ?_
      exact kt
    obtain ⟨fs, hr, hrun, hended, hW, hsame⟩ := X823.leave (v := some (.int 1)) (fun h => by rw [Bd.returns] at h; cases h)
    refine ⟨_, _, pre827 _ ?_, hrun, hended, _, _, rfl, ?_, ⟨_, rfl⟩, hW, hsame.mono (by decide) (by decide)⟩
    · show oS p e below m T823 224 (oL37 p0 p1 p2 b738) [(.int 1)] _
      exact retN X823 hx (t := .boolean) Bd.returns (by simp) (hb hby at_224) hr
    · show Q_rm0 Z p0 p1 p2 w_cache w_I1 cl_cache w_I4 w_I2 w_I3 h0 n0 _ T823.heap _
      rw [e823]
      exact ⟨rfl, N823⟩
    obtain ⟨_, _, ⟨T828, L828, k828, n828⟩, -, X828, ⟨Lc828, hQ828, l828, y828, z828⟩, st828⟩ := Jvm.LawKit.callS X hx (y := oy3) hown (mvT hZ (own_w hw 31 rfl)) (mvT hZ (own_w hw 32 rfl)) (mvT hZ (own_w hw 33 rfl)) (mvT hZ (own_w hw 34 rfl)) (by decide) (backOf (W := 1) (rm_valueOf_9 l Z a0 hw [] w_cache cl_cache w_I4 h n0 On  S_high S_cache AE_4 A_cache) hZ (own_w hw 34 rfl) (own_w hw 33 rfl) (by decide) (by decide)) (g := (mkF m 176 (oL10 p0 p1 p2 b738) [(.int 4), (.ref b738)])) rfl (by rw [hml]; rfl) (argsL := [(.int 4)]) (rest := [(.ref b738)]) (lenOf pd__I_Ljava_lang_Integer_ rfl) rfl (by show 2 * 0 + _ ≤ _; exact Nat.le_of_eq rfl) (hb hby at_176) (fun _ _ => ⟨rfl, eT, (by decide : 4 + 0 ≤ _), (by decide : 14 + 0 ≤ _)⟩)
    dsimp only [Pt.U, Pt.locs, Pt.cells, Pt.slots] at X828 l828 y828 z828 st828 hQ828
    subst l828 y828 z828
    obtain ⟨rfl, N828q, e828⟩ := hQ828
    have N828 := Fr.app Nn N828q
    obtain ⟨cq829, kq829, q829a, q829b, q829c⟩ := isOf hZ e828 e819_1
    obtain ⟨_, _, ⟨T829, L829, k829, n829⟩, -, X829, ⟨Lc829, hQ829, l829, y829, z829⟩, st829⟩ := X828.virtualBack hx (y := oy4) (z := oy4) hown (mvT hZ (own_w hw 38 rfl)) (mvT hZ (own_w hw 39 rfl)) (notFace_of_selects (args := #[]) (mvT hZ (own_w hw 41 rfl))) (mvT hZ (own_w hw 41 rfl)) (mvT hZ (own_w hw 40 rfl)) (by decide) (backOf (W := 0) (rm_take_43 l Z a0 hw [] b738 b739_b549 b739_b551 b739_b553 kx739_k549 kx739_k551 kx739_k553 w_I4 w_I2 h n0 On e819_1 f819_2 f819_3 f819_4 f819_5 f819_6 ge_b738 u739_7 v819_8 u739_8 v819_7 u739_11 v819_0 u739_14 ne_b738_b739_b549 ne_b738_b739_b551 ne_b738_b739_b553 u739_16 u739_17 u739_18 E_I4) hZ (own_w hw 42 rfl) (own_w hw 6 rfl) (by decide) (by decide)) q829a q829c (g := (mkF m 179 (oL10 p0 p1 p2 b738) [(.ref w_I4), (.ref b738)])) rfl (by rw [hml]; rfl) (Steps.refl _) (argsL := [(.ref w_I4)]) (rest := []) (lenOf pd__Ljava_lang_Object__J rfl) rfl (by show 2 * 0 + _ ≤ _; exact Nat.le_of_eq rfl) (hb hby at_179) (fun _ _ => ⟨rfl, e828, (by decide : 4 + 0 ≤ _), (by decide : 14 + 0 ≤ _)⟩)
    dsimp only [Pt.U, Pt.locs, Pt.cells, Pt.slots] at X829 l829 y829 z829 st829 hQ829
    subst l829 y829 z829
    obtain ⟨rfl, N829q, Kc829, u829_0, u829_1, u829_2, u829_3, u829_4, u829_5, u829_6, u829_7⟩ := hQ829
    have N829 := Fr.app N828 N829q
    have v819_0 := v819_0.keep Kc829 (ninS (Ne.symm ne_b738_b739_b553) (ninS (Ne.symm u739_17) (ninS (Ne.symm u739_18) nin0)))
    have O829 := On.keep Kc829 (allS ge_b738 (allS u739_8 (allS u739_11 all0)))
    have pre854 : ∀ t, oS p e below m T829 187 (oL10 p0 p1 p2 b738) [(.int ((1 : Int32) + (1 : Int32)))] t → oT p e below T (mkF m 167 (oL10 p0 p1 p2 b738) []) t := by
      intro t kt
      refine pre822 t ?_
      show oS p e below m T 170 (oL10 p0 p1 p2 b738) [(.int (p2 &&& (4 : Int32)))] _
      refine XS.ifNo X.here hx rfl (hb hby at_170) rfl ((if0 _ _).trans (feq hc170_821).1) ?_
      refine XS.aload X.here hx rfl (hb hby at_173) rfl rfl ?_
      show oS p e below m T 175 (oL10 p0 p1 p2 b738) [(.ref b738)] _
      refine XS.iconst X.here hx rfl (hb hby at_175) ?_
      show oS p e below m T 176 (oL10 p0 p1 p2 b738) [(.int 4), (.ref b738)] _
      refine st828 _ ?_
      show oS p e below m T828 179 (oL10 p0 p1 p2 b738) [(.ref w_I4), (.ref b738)] _
      refine st829.trans ?_
      show oS p e below m T829 182 (oL10 p0 p1 p2 b738) [(.long 3145728)] _
      jvm_step X829.here [X829.here.top, hx, (hb hby at_182), Value.category]
      show oS p e below m T829 183 (oL10 p0 p1 p2 b738) [] _
      refine XS.iload X829.here hx rfl (hb hby at_183) rfl ?_
      refine XS.iconst X829.here hx rfl (hb hby at_185) ?_
      show oS p e below m T829 186 (oL10 p0 p1 p2 b738) [(.int 1), (.int 1)] _
      refine XS.iadd X829.here hx rfl (hb hby at_186) rfl ?_
      exact kt
    rw [show ((1 : Int32) + (1 : Int32)) = (2 : Int32) from by decide] at pre854
    obtain ⟨cq855, kq855, q855a, q855b, q855c⟩ := isOf hZ rfl u829_0
    obtain ⟨_, _, ⟨T855, L855, k855, n855⟩, -, X855, ⟨Lc855, hQ855, l855, y855, z855⟩, st855⟩ := X829.virtualBack hx (y := oy2) (z := oy2) hown (mvT hZ (own_w hw 26 rfl)) (mvT hZ (own_w hw 27 rfl)) (notFace_of_selects (args := #[]) (mvT hZ (own_w hw 29 rfl))) (mvT hZ (own_w hw 29 rfl)) (mvT hZ (own_w hw 28 rfl)) (by decide) (backOf (W := 0) (rm_hasFree_2 l Z a0 hw [] b738 T829.heap n0 O829 u829_4 ) hZ (own_w hw 30 rfl) (own_w hw 6 rfl) (by decide) (by decide)) q855a q855c (g := (mkF m 191 (oL24 p0 p1 p2 b738) [(.ref b738)])) rfl (by rw [hml]; rfl) (Steps.refl _) (argsL := []) (rest := []) (lenOf pd___Z rfl) rfl (by show 2 * 0 + _ ≤ _; exact Nat.le_of_eq rfl) (hb hby at_191) (fun _ _ => ⟨rfl, rfl, (by decide : 4 + 0 ≤ _), (by decide : 14 + 0 ≤ _)⟩)
    dsimp only [Pt.U, Pt.locs, Pt.cells, Pt.slots] at X855 l855 y855 z855 st855 hQ855
    subst l855 y855 z855
    obtain ⟨rfl, N855q, e855⟩ := hQ855
    have N855 := Fr.app N829 N855q
    have pre858 : ∀ t, oS p e below m T855 220 (oL16 p0 p1 p2 b738) [(.int ((1 : Int32) &&& (1 : Int32)))] t → oT p e below T (mkF m 167 (oL10 p0 p1 p2 b738) []) t := by
      intro t kt
      refine pre854 t ?_
      show oS p e below m T829 187 (oL10 p0 p1 p2 b738) [(.int 2)] _
      refine XS.istore X829.here hx rfl (hb hby at_187) rfl (l' := (oL24 p0 p1 p2 b738)) rfl ?_
      refine XS.aload X829.here hx rfl (hb hby at_189) rfl rfl ?_
      show oS p e below m T829 191 (oL24 p0 p1 p2 b738) [(.ref b738)] _
      refine st855.trans ?_
      show oS p e below m T855 194 (oL24 p0 p1 p2 b738) [(.int 1)] _
      refine XS.istore X855.here hx rfl (hb hby at_194) rfl (l' := (oL16 p0 p1 p2 b738)) rfl ?_
      refine XS.iload X855.here hx rfl (hb hby at_196) rfl ?_
      show oS p e below m T855 198 (oL16 p0 p1 p2 b738) [(.int 1)] _
      refine XS.iload X855.here hx rfl (hb hby at_198) rfl ?_
      refine XS.iload X855.here hx rfl (hb hby at_200) rfl ?_
      show oS p e below m T855 202 (oL16 p0 p1 p2 b738) [(.int 2), (.int 1), (.int 1)] _
      refine XS.iloadN X855.here hx rfl (hb hby at_202) rfl ?_
      refine XS.icmpNo X855.here hx rfl (hb hby at_203) rfl (tlt (by decide : (2 : Int32) < (3 : Int32))).2.1 ?_
      show oS p e below m T855 206 (oL16 p0 p1 p2 b738) [(.int 1), (.int 1)] _
      refine XS.iconst X855.here hx rfl (hb hby at_206) ?_
      refine XS.goto X855.here hx rfl (pc0 := 207) (pc' := 211) rfl (hb hby at_207) (by decide) (by decide) ?_
      show oS p e below m T855 211 (oL16 p0 p1 p2 b738) [(.int 1), (.int 1), (.int 1)] _
      refine XS.icmpNo X855.here hx rfl (hb hby at_211) rfl (teq (by decide : (1 : Int32) = (1 : Int32))).2 ?_
      refine XS.iconst X855.here hx rfl (hb hby at_214) ?_
      show oS p e below m T855 215 (oL16 p0 p1 p2 b738) [(.int 1), (.int 1)] _
      refine XS.goto X855.here hx rfl (pc0 := 215) (pc' := 219) rfl (hb hby at_215) (by decide) (by decide) ?_
      refine XS.iand X855.here hx rfl (hb hby at_219) rfl ?_
      exact kt
    rw [show ((1 : Int32) &&& (1 : Int32)) = (1 : Int32) from by decide] at pre858
    have pre859 : ∀ t, oS p e below m T855 224 (oL16 p0 p1 p2 b738) [(.int 1)] t → oT p e below T (mkF m 167 (oL10 p0 p1 p2 b738) []) t := by
      intro t kt
      refine pre858 t ?_
      show oS p e below m T855 220 (oL16 p0 p1 p2 b738) [(.int 1)] _
      refine XS.istore X855.here hx rfl (hb hby at_220) rfl (l' := (oL16 p0 p1 p2 b738)) rfl ?_
      refine XS.iload X855.here hx rfl (hb hby at_222) rfl ?_
      exact kt
    obtain ⟨fs, hr, hrun, hended, hW, hsame⟩ := X855.leave (v := some (.int 1)) (fun h => by rw [Bd.returns] at h; cases h)
    refine ⟨_, _, pre859 _ ?_, hrun, hended, _, _, rfl, ?_, ⟨_, rfl⟩, hW, hsame.mono (by decide) (by decide)⟩
    · show oS p e below m T855 224 (oL16 p0 p1 p2 b738) [(.int 1)] _
      exact retN X855 hx (t := .boolean) Bd.returns (by simp) (hb hby at_224) hr
    · show Q_rm0 Z p0 p1 p2 w_cache w_I1 cl_cache w_I4 w_I2 w_I3 h0 n0 _ T855.heap _
      rw [e855]
      exact ⟨rfl, N855⟩
  by_cases hc156_860 : (p2 &&& (2 : Int32)) = (0 : Int32)
  have pre861 : ∀ t, oS p e below m T784 167 (oL10 p0 p1 p2 b738) [] t → oT p e below s₁ (entryFrame m #[(.int p0), (.int p1), (.int p2)] maxLocals) t := by
    intro t kt
    refine pre818 t ?_
    show oS p e below m T784 156 (oL10 p0 p1 p2 b738) [(.int (p2 &&& (2 : Int32)))] _
    refine XS.ifYes X784.here hx rfl (pc0 := 156) (pc' := 167) rfl (hb hby at_156) rfl ((if0 _ _).trans (teq hc156_860).1) (by decide) (by decide) ?_
    exact kt
  obtain ⟨s2, o2, hs2, r2⟩ := tail167_819 _ _ _ X784 rfl N784 O784 u784_0 u784_1 u784_2 u784_3 u784_4 u784_5 u784_6 u784_7 u784_8
  exact ⟨s2, o2, pre861 _ hs2, r2⟩
  obtain ⟨cq863, kq863, q863a, q863b, q863c⟩ := isOf hZ rfl u784_1
  obtain ⟨_, _, ⟨T863, L863, k863, n863⟩, -, X863, ⟨Lc863, hQ863, l863, y863, z863⟩, st863⟩ := X784.virtualBack hx (y := oy5) (z := oy5) hown (mvT hZ (own_w hw 47 rfl)) (mvT hZ (own_w hw 48 rfl)) (notFace_of_selects (args := #[]) (mvT hZ (own_w hw 50 rfl))) (mvT hZ (own_w hw 50 rfl)) (mvT hZ (own_w hw 49 rfl)) (by decide) (backOf (W := 0) (rm_release_44 l Z a0 hw [] b738 b739_b549 b739_b551 b739_b553 kx739_k549 kx739_k551 w_I2 T784.heap n0 O784 u784_1 u784_2 u784_3 u784_8 u784_7 ne_b738_b739_b549 ne_b738_b739_b551 ne_b738_b739_b553 u739_16 u739_17 u739_18 ) hZ (own_w hw 51 rfl) (own_w hw 6 rfl) (by decide) (by decide)) q863a q863c (g := (mkF m 163 (oL10 p0 p1 p2 b738) [(.long 1048576), (.ref b738)])) rfl (by rw [hml]; rfl) (Steps.refl _) (argsL := [(.long 1048576)]) (rest := []) (lenOf pd__J_Ljava_lang_Object_ rfl) rfl (by show 2 * 0 + _ ≤ _; exact Nat.le_of_eq rfl) (hb hby at_163) (fun _ _ => ⟨rfl, rfl, (by decide : 4 + 0 ≤ _), (by decide : 14 + 0 ≤ _)⟩)
  dsimp only [Pt.U, Pt.locs, Pt.cells, Pt.slots] at X863 l863 y863 z863 st863 hQ863
  subst l863 y863 z863
  obtain ⟨rfl, N863q, e863⟩ := hQ863
  have N863 := Fr.app N784 N863q
  have pre878 : ∀ t, oS p e below m T863 167 (oL10 p0 p1 p2 b738) [] t → oT p e below s₁ (entryFrame m #[(.int p0), (.int p1), (.int p2)] maxLocals) t := by
    intro t kt
    refine pre818 t ?_
    show oS p e below m T784 156 (oL10 p0 p1 p2 b738) [(.int (p2 &&& (2 : Int32)))] _
    refine XS.ifNo X784.here hx rfl (hb hby at_156) rfl ((if0 _ _).trans (feq hc156_860).1) ?_
    refine XS.aload X784.here hx rfl (hb hby at_159) rfl rfl ?_
    show oS p e below m T784 161 (oL10 p0 p1 p2 b738) [(.ref b738)] _
    refine XS.lload X784.here hx rfl (hb hby at_161) rfl ?_
    show oS p e below m T784 163 (oL10 p0 p1 p2 b738) [(.long 1048576), (.ref b738)] _
    refine st863.trans ?_
    show oS p e below m T863 166 (oL10 p0 p1 p2 b738) [.null] _
    refine XS.pop X863.here hx rfl (hb hby at_166) rfl rfl ?_
    exact kt
  obtain ⟨s2, o2, hs2, r2⟩ := tail167_819 _ _ _ X863 e863 N863 O784 u784_0 u784_1 u784_2 u784_3 u784_4 u784_5 u784_6 u784_7 u784_8
  exact ⟨s2, o2, pre878 _ hs2, r2⟩
  obtain ⟨_, _, ⟨T880, L880, k880, n880⟩, -, X880, ⟨Lc880, hQ880, l880, y880, z880⟩, st880⟩ := Jvm.LawKit.callS X0 hx (y := oy0) hown (mvT hZ (own_w hw 0 rfl)) (mvT hZ (own_w hw 1 rfl)) (mvT hZ (own_w hw 2 rfl)) (mvT hZ (own_w hw 3 rfl)) (by decide) (backOf (W := 0) (rm_min l Z a0 hw [] (p1 &&& (3 : Int32)) (3 : Int32) (3 : Int32) h0 n0 (own_z O0) (own_minr (own_ge3 p1 hb0 hb1 hb2))) hZ (own_w hw 3 rfl) (own_w hw 2 rfl) (by decide) (by decide)) (g := (mkF m 12 (oL33 p0 p1 p2) [(.int 3), (.int (p1 &&& (3 : Int32)))])) rfl (by rw [hml]; rfl) (argsL := [(.int (p1 &&& (3 : Int32))), (.int 3)]) (rest := []) (lenOf pd__II_I rfl) rfl (by show 2 * 0 + _ ≤ _; exact Nat.le_of_eq rfl) (hb hby at_12) (fun _ _ => ⟨rfl, e0, (by decide : 0 + 0 ≤ _), (by decide : 0 + 0 ≤ _)⟩)
  dsimp only [Pt.U, Pt.locs, Pt.cells, Pt.slots] at X880 l880 y880 z880 st880 hQ880
  subst l880 y880 z880
  obtain ⟨rfl, N880q, e880⟩ := hQ880
  have N880 := Fr.app N0 N880q
  obtain ⟨T881, h881, X881, e881, E881, A881, D881, -, st881⟩ := newO X880 hx hZ hown (own_w hw 4 rfl) (own_w hw 5 rfl) (own_w hw 6 rfl) e880 (g := (mkF m 17 (oL74 p0 p1 p2) [])) rfl (hb hby at_17) (by decide) (by decide)
  obtain ⟨b881, g881⟩ : ∃ z, z = h0.size := ⟨_, rfl⟩
  have ge_b881 : n0 ≤ b881 := Nat.le_trans (own_z O0) (Nat.le_of_eq g881.symm)
  rw [← g881] at A881 D881 st881
  have O881 := O0.ext E881
  have E_b881 := A881
  have F_requests_b881 : Fld Z h881 b881 oc8 "requests" "[Ljava/lang/Object;" .null := D881 (Or.inr (own_w hw 17 rfl)) (ty := (.array (.object oc9))) (by decide)
  have F_sequences_b881 : Fld Z h881 b881 oc8 "sequences" "[J" .null := D881 (Or.inr (own_w hw 20 rfl)) (ty := (.array .long)) (by decide)
  have F_free_b881 : Fld Z h881 b881 oc8 "free" "[I" .null := D881 (Or.inr (own_w hw 23 rfl)) (ty := (.array .int)) (by decide)
  have F_freeCount_b881 : Fld Z h881 b881 oc8 "freeCount" "I" (.int 0) := D881 (Or.inl (own_w hw 25 rfl)) (ty := .int) (by decide)
  have F_lastSequence_b881 : Fld Z h881 b881 oc8 "lastSequence" "J" (.long 0) := D881 (Or.inl (own_w hw 44 rfl)) (ty := .long) (by decide)
  obtain ⟨_, _, ⟨T882, L882, k882, n882⟩, -, X882, ⟨Lc882, hQ882, l882, y882, z882⟩, st882⟩ := X881.specialBack hx (y := oy1) rfl hown (mvT hZ (own_w hw 7 rfl)) (mvT hZ (own_w hw 8 rfl)) (mvT hZ (own_w hw 9 rfl)) (by decide) (backOf (W := 1) (rm_init_30 l Z a0 hw [] b881 h881 n0 O881 E_b881 F_requests_b881 F_sequences_b881 F_free_b881 F_freeCount_b881 F_lastSequence_b881 ge_b881 ) hZ (own_w hw 9 rfl) (own_w hw 6 rfl) (by decide) (by decide)) (g := (mkF m 22 (oL74 p0 p1 p2) [(.int 3), (.ref b881), (.ref b881)])) rfl (by rw [hml]; rfl) (Steps.refl _) (a := b881) (argsL := [(.int 3)]) (rest := [(.ref b881)]) (lenOf pd__I_V rfl) rfl (by show 2 * 0 + _ ≤ _; exact Nat.le_of_eq rfl) (hb hby at_22) (fun _ _ => ⟨rfl, e881, (by decide : 1 + 3 ≤ _), (by decide : 5 + 9 ≤ _)⟩)
  dsimp only [Pt.U, Pt.locs, Pt.cells, Pt.slots] at X882 l882 y882 z882 st882 hQ882
  subst l882 y882 z882
  obtain ⟨b882_b549, b882_b551, b882_b553, kx882_k549, kx882_k551, kx882_k553, rfl, N882q, Kc882, u882_0, u882_1, u882_2, u882_3, u882_4, u882_5, u882_6, u882_7, u882_8, u882_9, u882_10, u882_11, u882_12, u882_13, u882_14, u882_15, u882_16, u882_17, u882_18⟩ := hQ882
  have N882 := Fr.app N880 N882q
  have ne_b881_b882_b549 : b881 ≠ b882_b549 := Nat.ne_of_lt (Nat.lt_of_lt_of_le E_b881.lt u882_9)
  have ne_b881_b882_b551 : b881 ≠ b882_b551 := Nat.ne_of_lt (Nat.lt_of_lt_of_le E_b881.lt u882_12)
  have ne_b881_b882_b553 : b881 ≠ b882_b553 := Nat.ne_of_lt (Nat.lt_of_lt_of_le E_b881.lt u882_15)
  have O882 := O881.keep Kc882 (allS ge_b881 all0)
  obtain ⟨cq883, kq883, q883a, q883b, q883c⟩ := isOf hZ rfl u882_0
  obtain ⟨_, _, ⟨T883, L883, k883, n883⟩, -, X883, ⟨Lc883, hQ883, l883, y883, z883⟩, st883⟩ := X882.virtualBack hx (y := oy2) (z := oy2) hown (mvT hZ (own_w hw 26 rfl)) (mvT hZ (own_w hw 27 rfl)) (notFace_of_selects (args := #[]) (mvT hZ (own_w hw 29 rfl))) (mvT hZ (own_w hw 29 rfl)) (mvT hZ (own_w hw 28 rfl)) (by decide) (backOf (W := 0) (rm_hasFree_31 l Z a0 hw [] b881 T882.heap n0 O882 u882_4 ) hZ (own_w hw 30 rfl) (own_w hw 6 rfl) (by decide) (by decide)) q883a q883c (g := (mkF m 29 #[iv p0, iv p1, iv p2, iv 3, iv 3, rv b881, .unset, .unset, .unset, .unset, .unset, .unset, .unset] [(.ref b881)])) rfl (by rw [hml]; rfl) (Steps.refl _) (argsL := []) (rest := []) (lenOf pd___Z rfl) rfl (by show 2 * 0 + _ ≤ _; exact Nat.le_of_eq rfl) (hb hby at_29) (fun _ _ => ⟨rfl, rfl, (by decide : 4 + 0 ≤ _), (by decide : 14 + 0 ≤ _)⟩)
  dsimp only [Pt.U, Pt.locs, Pt.cells, Pt.slots] at X883 l883 y883 z883 st883 hQ883
  subst l883 y883 z883
  obtain ⟨rfl, N883q, e883⟩ := hQ883
  have N883 := Fr.app N882 N883q
  obtain ⟨_, _, ⟨T885, L885, k885, n885⟩, -, X885, ⟨Lc885, hQ885, l885, y885, z885⟩, st885⟩ := Jvm.LawKit.callS X883 hx (y := oy3) hown (mvT hZ (own_w hw 31 rfl)) (mvT hZ (own_w hw 32 rfl)) (mvT hZ (own_w hw 33 rfl)) (mvT hZ (own_w hw 34 rfl)) (by decide) (backOf (W := 1) (rm_valueOf_3 l Z a0 hw [] w_cache w_I1 cl_cache T882.heap n0 O882  S_high S_cache AE_1 A_cache) hZ (own_w hw 34 rfl) (own_w hw 33 rfl) (by decide) (by decide)) (g := (mkF m 50 (oL62 p0 p1 p2 b881) [(.int 1), (.ref b881)])) rfl (by rw [hml]; rfl) (argsL := [(.int 1)]) (rest := [(.ref b881)]) (lenOf pd__I_Ljava_lang_Integer_ rfl) rfl (by show 2 * 0 + _ ≤ _; exact Nat.le_of_eq rfl) (hb hby at_50) (fun _ _ => ⟨rfl, e883, (by decide : 4 + 0 ≤ _), (by decide : 14 + 0 ≤ _)⟩)
  dsimp only [Pt.U, Pt.locs, Pt.cells, Pt.slots] at X885 l885 y885 z885 st885 hQ885
  subst l885 y885 z885
  obtain ⟨rfl, N885q, e885⟩ := hQ885
  have N885 := Fr.app N883 N885q
  obtain ⟨cq886, kq886, q886a, q886b, q886c⟩ := isOf hZ e885 u882_0
  obtain ⟨_, _, ⟨T886, L886, k886, n886⟩, -, X886, ⟨Lc886, hQ886, l886, y886, z886⟩, st886⟩ := X885.virtualBack hx (y := oy4) (z := oy4) hown (mvT hZ (own_w hw 38 rfl)) (mvT hZ (own_w hw 39 rfl)) (notFace_of_selects (args := #[]) (mvT hZ (own_w hw 41 rfl))) (mvT hZ (own_w hw 41 rfl)) (mvT hZ (own_w hw 40 rfl)) (by decide) (backOf (W := 0) (rm_take_32 l Z a0 hw [] b881 b882_b549 b882_b551 b882_b553 kx882_k549 kx882_k551 kx882_k553 w_I1 T882.heap n0 O882 u882_0 u882_1 u882_2 u882_3 u882_4 u882_5 ge_b881 u882_6 u882_7 u882_8 u882_10 u882_11 u882_13 u882_14 ne_b881_b882_b549 ne_b881_b882_b551 ne_b881_b882_b553 u882_16 u882_17 u882_18 E_I1) hZ (own_w hw 42 rfl) (own_w hw 6 rfl) (by decide) (by decide)) q886a q886c (g := (mkF m 53 (oL62 p0 p1 p2 b881) [(.ref w_I1), (.ref b881)])) rfl (by rw [hml]; rfl) (Steps.refl _) (argsL := [(.ref w_I1)]) (rest := []) (lenOf pd__Ljava_lang_Object__J rfl) rfl (by show 2 * 0 + _ ≤ _; exact Nat.le_of_eq rfl) (hb hby at_53) (fun _ _ => ⟨rfl, e885, (by decide : 4 + 0 ≤ _), (by decide : 14 + 0 ≤ _)⟩)
  dsimp only [Pt.U, Pt.locs, Pt.cells, Pt.slots] at X886 l886 y886 z886 st886 hQ886
  subst l886 y886 z886
  obtain ⟨rfl, N886q, Kc886, u886_0, u886_1, u886_2, u886_3, u886_4, u886_5, u886_6, u886_7⟩ := hQ886
  have N886 := Fr.app N885 N886q
  have u882_13 := u882_13.keep Kc886 (ninS (Ne.symm ne_b881_b882_b553) (ninS (Ne.symm u882_17) (ninS (Ne.symm u882_18) nin0)))
  have O886 := O882.keep Kc886 (allS ge_b881 (allS u882_8 (allS u882_11 all0)))
  obtain ⟨_, _, ⟨T888, L888, k888, n888⟩, -, X888, ⟨Lc888, hQ888, l888, y888, z888⟩, st888⟩ := Jvm.LawKit.callS X886 hx (y := oy3) hown (mvT hZ (own_w hw 31 rfl)) (mvT hZ (own_w hw 32 rfl)) (mvT hZ (own_w hw 33 rfl)) (mvT hZ (own_w hw 34 rfl)) (by decide) (backOf (W := 1) (rm_valueOf_22 l Z a0 hw [] w_cache cl_cache w_I2 T886.heap n0 O886  S_high S_cache AE_2 A_cache) hZ (own_w hw 34 rfl) (own_w hw 33 rfl) (by decide) (by decide)) (g := (mkF m 67 (oL26 p0 p1 p2 b881) [(.int 2), (.ref b881)])) rfl (by rw [hml]; rfl) (argsL := [(.int 2)]) (rest := [(.ref b881)]) (lenOf pd__I_Ljava_lang_Integer_ rfl) rfl (by show 2 * 0 + _ ≤ _; exact Nat.le_of_eq rfl) (hb hby at_67) (fun _ _ => ⟨rfl, rfl, (by decide : 4 + 0 ≤ _), (by decide : 14 + 0 ≤ _)⟩)
  dsimp only [Pt.U, Pt.locs, Pt.cells, Pt.slots] at X888 l888 y888 z888 st888 hQ888
  subst l888 y888 z888
  obtain ⟨rfl, N888q, e888⟩ := hQ888
  have N888 := Fr.app N886 N888q
  obtain ⟨cq889, kq889, q889a, q889b, q889c⟩ := isOf hZ e888 u886_0
  obtain ⟨_, _, ⟨T889, L889, k889, n889⟩, -, X889, ⟨Lc889, hQ889, l889, y889, z889⟩, st889⟩ := X888.virtualBack hx (y := oy4) (z := oy4) hown (mvT hZ (own_w hw 38 rfl)) (mvT hZ (own_w hw 39 rfl)) (notFace_of_selects (args := #[]) (mvT hZ (own_w hw 41 rfl))) (mvT hZ (own_w hw 41 rfl)) (mvT hZ (own_w hw 40 rfl)) (by decide) (backOf (W := 0) (rm_take_39 l Z a0 hw [] b881 b882_b549 b882_b551 b882_b553 kx882_k549 kx882_k551 kx882_k553 w_I2 w_I1 T886.heap n0 O886 u886_0 u886_1 u886_2 u886_3 u886_4 u886_5 ge_b881 u882_7 u886_6 u882_8 u886_7 u882_11 u882_13 u882_14 ne_b881_b882_b549 ne_b881_b882_b551 ne_b881_b882_b553 u882_16 u882_17 u882_18 E_I2) hZ (own_w hw 42 rfl) (own_w hw 6 rfl) (by decide) (by decide)) q889a q889c (g := (mkF m 70 (oL26 p0 p1 p2 b881) [(.ref w_I2), (.ref b881)])) rfl (by rw [hml]; rfl) (Steps.refl _) (argsL := [(.ref w_I2)]) (rest := []) (lenOf pd__Ljava_lang_Object__J rfl) rfl (by show 2 * 0 + _ ≤ _; exact Nat.le_of_eq rfl) (hb hby at_70) (fun _ _ => ⟨rfl, e888, (by decide : 4 + 0 ≤ _), (by decide : 14 + 0 ≤ _)⟩)
  dsimp only [Pt.U, Pt.locs, Pt.cells, Pt.slots] at X889 l889 y889 z889 st889 hQ889
  subst l889 y889 z889
  obtain ⟨rfl, N889q, Kc889, u889_0, u889_1, u889_2, u889_3, u889_4, u889_5, u889_6, u889_7⟩ := hQ889
  have N889 := Fr.app N888 N889q
  have u882_13 := u882_13.keep Kc889 (ninS (Ne.symm ne_b881_b882_b553) (ninS (Ne.symm u882_17) (ninS (Ne.symm u882_18) nin0)))
  have O889 := O886.keep Kc889 (allS ge_b881 (allS u882_8 (allS u882_11 all0)))
  obtain ⟨_, _, ⟨T891, L891, k891, n891⟩, -, X891, ⟨Lc891, hQ891, l891, y891, z891⟩, st891⟩ := Jvm.LawKit.callS X889 hx (y := oy3) hown (mvT hZ (own_w hw 31 rfl)) (mvT hZ (own_w hw 32 rfl)) (mvT hZ (own_w hw 33 rfl)) (mvT hZ (own_w hw 34 rfl)) (by decide) (backOf (W := 1) (rm_valueOf_46 l Z a0 hw [] w_cache cl_cache w_I3 T889.heap n0 O889  S_high S_cache AE_3 A_cache) hZ (own_w hw 34 rfl) (own_w hw 33 rfl) (by decide) (by decide)) (g := (mkF m 83 (oL26 p0 p1 p2 b881) [(.int 3), (.ref b881)])) rfl (by rw [hml]; rfl) (argsL := [(.int 3)]) (rest := [(.ref b881)]) (lenOf pd__I_Ljava_lang_Integer_ rfl) rfl (by show 2 * 0 + _ ≤ _; exact Nat.le_of_eq rfl) (hb hby at_83) (fun _ _ => ⟨rfl, rfl, (by decide : 4 + 0 ≤ _), (by decide : 14 + 0 ≤ _)⟩)
  dsimp only [Pt.U, Pt.locs, Pt.cells, Pt.slots] at X891 l891 y891 z891 st891 hQ891
  subst l891 y891 z891
  obtain ⟨rfl, N891q, e891⟩ := hQ891
  have N891 := Fr.app N889 N891q
  obtain ⟨cq899, kq899, q899a, q899b, q899c⟩ := isOf hZ e891 u889_0
  obtain ⟨_, _, ⟨T899, L899, k899, n899⟩, -, X899, ⟨Lc899, hQ899, l899, y899, z899⟩, st899⟩ := X891.virtualBack hx (y := oy4) (z := oy4) hown (mvT hZ (own_w hw 38 rfl)) (mvT hZ (own_w hw 39 rfl)) (notFace_of_selects (args := #[]) (mvT hZ (own_w hw 41 rfl))) (mvT hZ (own_w hw 41 rfl)) (mvT hZ (own_w hw 40 rfl)) (by decide) (backOf (W := 0) (rm_take_47 l Z a0 hw [] b881 b882_b549 b882_b551 b882_b553 kx882_k549 kx882_k551 kx882_k553 w_I3 w_I2 w_I1 T889.heap n0 O889 u889_0 u889_1 u889_2 u889_3 u889_4 u889_5 ge_b881 u882_7 u889_6 u882_8 u889_7 u882_11 u882_13 u882_14 ne_b881_b882_b549 ne_b881_b882_b551 ne_b881_b882_b553 u882_16 u882_17 u882_18 E_I3) hZ (own_w hw 42 rfl) (own_w hw 6 rfl) (by decide) (by decide)) q899a q899c (g := (mkF m 86 (oL26 p0 p1 p2 b881) [(.ref w_I3), (.ref b881)])) rfl (by rw [hml]; rfl) (Steps.refl _) (argsL := [(.ref w_I3)]) (rest := []) (lenOf pd__Ljava_lang_Object__J rfl) rfl (by show 2 * 0 + _ ≤ _; exact Nat.le_of_eq rfl) (hb hby at_86) (fun _ _ => ⟨rfl, e891, (by decide : 4 + 0 ≤ _), (by decide : 14 + 0 ≤ _)⟩)
  dsimp only [Pt.U, Pt.locs, Pt.cells, Pt.slots] at X899 l899 y899 z899 st899 hQ899
  subst l899 y899 z899
  obtain ⟨rfl, N899q, Kc899, u899_0, u899_1, u899_2, u899_3, u899_4, u899_5, u899_6, u899_7⟩ := hQ899
  have N899 := Fr.app N891 N899q
  have u882_13 := u882_13.keep Kc899 (ninS (Ne.symm ne_b881_b882_b553) (ninS (Ne.symm u882_17) (ninS (Ne.symm u882_18) nin0)))
  have O899 := O889.keep Kc899 (allS ge_b881 (allS u882_8 (allS u882_11 all0)))
  obtain ⟨cq924, kq924, q924a, q924b, q924c⟩ := isOf hZ rfl u899_0
  obtain ⟨_, _, ⟨T924, L924, k924, n924⟩, -, X924, ⟨Lc924, hQ924, l924, y924, z924⟩, st924⟩ := X899.virtualBack hx (y := oy2) (z := oy2) hown (mvT hZ (own_w hw 26 rfl)) (mvT hZ (own_w hw 27 rfl)) (notFace_of_selects (args := #[]) (mvT hZ (own_w hw 29 rfl))) (mvT hZ (own_w hw 29 rfl)) (mvT hZ (own_w hw 28 rfl)) (by decide) (backOf (W := 0) (rm_hasFree_5 l Z a0 hw [] b881 T899.heap n0 O899 u899_4 ) hZ (own_w hw 30 rfl) (own_w hw 6 rfl) (by decide) (by decide)) q924a q924c (g := (mkF m 92 (oL26 p0 p1 p2 b881) [(.ref b881)])) rfl (by rw [hml]; rfl) (Steps.refl _) (argsL := []) (rest := []) (lenOf pd___Z rfl) rfl (by show 2 * 0 + _ ≤ _; exact Nat.le_of_eq rfl) (hb hby at_92) (fun _ _ => ⟨rfl, rfl, (by decide : 4 + 0 ≤ _), (by decide : 14 + 0 ≤ _)⟩)
  dsimp only [Pt.U, Pt.locs, Pt.cells, Pt.slots] at X924 l924 y924 z924 st924 hQ924
  subst l924 y924 z924
  obtain ⟨rfl, N924q, e924⟩ := hQ924
  have N924 := Fr.app N899 N924q
  have pre927 : ∀ t, oS p e below m T924 121 (oL47 p0 p1 p2 b881) [(.int ((1 : Int32) &&& (1 : Int32)))] t → oT p e below s₁ (entryFrame m #[(.int p0), (.int p1), (.int p2)] maxLocals) t := by
    intro t kt
    refine pre542 t ?_
    show oS p e below m s₁ 12 (oL33 p0 p1 p2) [(.int 3), (.int (p1 &&& (3 : Int32)))] _
    refine st880 _ ?_
    show oS p e below m T880 15 (oL33 p0 p1 p2) [(.int 3)] _
    refine XS.istore X880.here hx rfl (hb hby at_15) rfl (l' := (oL74 p0 p1 p2)) rfl ?_
    show oS p e below m T880 17 (oL74 p0 p1 p2) [] _
    refine st881 _ ?_
    show oS p e below m T881 20 (oL74 p0 p1 p2) [(.ref b881)] _
    refine XS.dup X881.here hx rfl (hb hby at_20) rfl rfl ?_
    refine XS.iloadN X881.here hx rfl (hb hby at_21) rfl ?_
    show oS p e below m T881 22 (oL74 p0 p1 p2) [(.int 3), (.ref b881), (.ref b881)] _
    refine st882.trans ?_
    show oS p e below m T882 25 (oL74 p0 p1 p2) [(.ref b881)] _
    refine XS.astore X882.here hx rfl (hb hby at_25) rfl rfl (l' := #[iv p0, iv p1, iv p2, iv 3, iv 3, rv b881, .unset, .unset, .unset, .unset, .unset, .unset, .unset]) rfl ?_
    refine XS.aload X882.here hx rfl (hb hby at_27) rfl rfl ?_
    show oS p e below m T882 29 #[iv p0, iv p1, iv p2, iv 3, iv 3, rv b881, .unset, .unset, .unset, .unset, .unset, .unset, .unset] [(.ref b881)] _
    refine st883.trans ?_
    show oS p e below m T883 32 #[iv p0, iv p1, iv p2, iv 3, iv 3, rv b881, .unset, .unset, .unset, .unset, .unset, .unset, .unset] [(.int 1)] _
    refine XS.istore X883.here hx rfl (hb hby at_32) rfl (l' := #[iv p0, iv p1, iv p2, iv 3, iv 3, rv b881, iv 1, .unset, .unset, .unset, .unset, .unset, .unset]) rfl ?_
    refine XS.iload X883.here hx rfl (hb hby at_34) rfl ?_
    show oS p e below m T883 36 #[iv p0, iv p1, iv p2, iv 3, iv 3, rv b881, iv 1, .unset, .unset, .unset, .unset, .unset, .unset] [(.int 1)] _
    refine XS.istore X883.here hx rfl (hb hby at_36) rfl (l' := #[iv p0, iv p1, iv p2, iv 3, iv 3, rv b881, iv 1, iv 1, .unset, .unset, .unset, .unset, .unset]) rfl ?_
    refine XS.lconst X883.here hx rfl (hb hby at_38) ?_
    show oS p e below m T883 39 #[iv p0, iv p1, iv p2, iv 3, iv 3, rv b881, iv 1, iv 1, .unset, .unset, .unset, .unset, .unset] [(.long 0)] _
    refine XS.lstore X883.here hx rfl (hb hby at_39) rfl (l' := (oL62 p0 p1 p2 b881)) rfl ?_
    refine XS.iload X883.here hx rfl (hb hby at_41) rfl ?_
    show oS p e below m T883 43 (oL62 p0 p1 p2 b881) [(.int 3)] _
    refine XS.iconst X883.here hx rfl (hb hby at_43) ?_
    refine XS.icmpNo X883.here hx rfl (hb hby at_44) rfl (flt (by decide : ¬ ((3 : Int32) < (1 : Int32)))).1 ?_
    show oS p e below m T883 47 (oL62 p0 p1 p2 b881) [] _
    refine XS.aload X883.here hx rfl (hb hby at_47) rfl rfl ?_
    refine XS.iconst X883.here hx rfl (hb hby at_49) ?_
    show oS p e below m T883 50 (oL62 p0 p1 p2 b881) [(.int 1), (.ref b881)] _
    refine st885 _ ?_
    show oS p e below m T885 53 (oL62 p0 p1 p2 b881) [(.ref w_I1), (.ref b881)] _
    refine st886.trans ?_
    show oS p e below m T886 56 (oL62 p0 p1 p2 b881) [(.long 1048576)] _
    refine XS.lstore X886.here hx rfl (hb hby at_56) rfl (l' := (oL26 p0 p1 p2 b881)) rfl ?_
    refine XS.iload X886.here hx rfl (hb hby at_58) rfl ?_
    show oS p e below m T886 60 (oL26 p0 p1 p2 b881) [(.int 3)] _
    refine XS.iconst X886.here hx rfl (hb hby at_60) ?_
    refine XS.icmpNo X886.here hx rfl (hb hby at_61) rfl (flt (by decide : ¬ ((3 : Int32) < (2 : Int32)))).1 ?_
    show oS p e below m T886 64 (oL26 p0 p1 p2 b881) [] _
    refine XS.aload X886.here hx rfl (hb hby at_64) rfl rfl ?_
    refine XS.iconst X886.here hx rfl (hb hby at_66) ?_
    show oS p e below m T886 67 (oL26 p0 p1 p2 b881) [(.int 2), (.ref b881)] _
    refine st888 _ ?_
    show oS p e below m T888 70 (oL26 p0 p1 p2 b881) [(.ref w_I2), (.ref b881)] _
    refine st889.trans ?_
    show oS p e below m T889 73 (oL26 p0 p1 p2 b881) [(.long 2097153)] _
    jvm_step X889.here [X889.here.top, hx, (hb hby at_73), Value.category]
    show oS p e below m T889 74 (oL26 p0 p1 p2 b881) [] _
    refine XS.iload X889.here hx rfl (hb hby at_74) rfl ?_
    refine XS.iconst X889.here hx rfl (hb hby at_76) ?_
    show oS p e below m T889 77 (oL26 p0 p1 p2 b881) [(.int 3), (.int 3)] _
    refine XS.icmpNo X889.here hx rfl (hb hby at_77) rfl (flt (by decide : ¬ ((3 : Int32) < (3 : Int32)))).1 ?_
    refine XS.aload X889.here hx rfl (hb hby at_80) rfl rfl ?_
    show oS p e below m T889 82 (oL26 p0 p1 p2 b881) [(.ref b881)] _
    refine XS.iconst X889.here hx rfl (hb hby at_82) ?_
    show oS p e below m T889 83 (oL26 p0 p1 p2 b881) [(.int 3), (.ref b881)] _
    refine st891 _ ?_
    show oS p e below m T891 86 (oL26 p0 p1 p2 b881) [(.ref w_I3), (.ref b881)] _
    refine st899.trans ?_
    show oS p e below m T899 89 (oL26 p0 p1 p2 b881) [(.long 3145730)] _
    jvm_step X899.here [X899.here.top, hx, (hb hby at_89), Value.category]
    show oS p e below m T899 90 (oL26 p0 p1 p2 b881) [] _
    refine XS.aload X899.here hx rfl (hb hby at_90) rfl rfl ?_
    show oS p e below m T899 92 (oL26 p0 p1 p2 b881) [(.ref b881)] _
    refine st924.trans ?_
    show oS p e below m T924 95 (oL26 p0 p1 p2 b881) [(.int 0)] _
    refine XS.istore X924.here hx rfl (hb hby at_95) rfl (l' := (oL47 p0 p1 p2 b881)) rfl ?_
    refine XS.iload X924.here hx rfl (hb hby at_97) rfl ?_
    show oS p e below m T924 99 (oL47 p0 p1 p2 b881) [(.int 1)] _
    refine XS.iload X924.here hx rfl (hb hby at_99) rfl ?_
    refine XS.iload X924.here hx rfl (hb hby at_101) rfl ?_
    show oS p e below m T924 103 (oL47 p0 p1 p2 b881) [(.int 3), (.int 0), (.int 1)] _
    refine XS.iloadN X924.here hx rfl (hb hby at_103) rfl ?_
    refine XS.icmpYes X924.here hx rfl (pc0 := 104) (pc' := 111) rfl (hb hby at_104) rfl (flt (by decide : ¬ ((3 : Int32) < (3 : Int32)))).2.1 (by decide) (by decide) ?_
    show oS p e below m T924 111 (oL47 p0 p1 p2 b881) [(.int 0), (.int 1)] _
    refine XS.iconst X924.here hx rfl (hb hby at_111) ?_
    refine XS.icmpNo X924.here hx rfl (hb hby at_112) rfl (teq (by decide : (0 : Int32) = (0 : Int32))).2 ?_
    show oS p e below m T924 115 (oL47 p0 p1 p2 b881) [(.int 1)] _
    refine XS.iconst X924.here hx rfl (hb hby at_115) ?_
    refine XS.goto X924.here hx rfl (pc0 := 116) (pc' := 120) rfl (hb hby at_116) (by decide) (by decide) ?_
    show oS p e below m T924 120 (oL47 p0 p1 p2 b881) [(.int 1), (.int 1)] _
    refine XS.iand X924.here hx rfl (hb hby at_120) rfl ?_
    exact kt
  rw [show ((1 : Int32) &&& (1 : Int32)) = (1 : Int32) from by decide] at pre927
  have pre930 : ∀ t, oS p e below m T924 136 (oL25 p0 p1 p2 b881) [(.int (p2 &&& (1 : Int32)))] t → oT p e below s₁ (entryFrame m #[(.int p0), (.int p1), (.int p2)] maxLocals) t := by
    intro t kt
    refine pre927 t ?_
    show oS p e below m T924 121 (oL47 p0 p1 p2 b881) [(.int 1)] _
    refine XS.istore X924.here hx rfl (hb hby at_121) rfl (l' := (oL47 p0 p1 p2 b881)) rfl ?_
    refine XS.iload X924.here hx rfl (hb hby at_123) rfl ?_
    show oS p e below m T924 125 (oL47 p0 p1 p2 b881) [(.int 3)] _
    refine XS.istore X924.here hx rfl (hb hby at_125) rfl (l' := (oL25 p0 p1 p2 b881)) rfl ?_
    refine XS.iload X924.here hx rfl (hb hby at_127) rfl ?_
    show oS p e below m T924 129 (oL25 p0 p1 p2 b881) [(.int 3)] _
    refine XS.iconst X924.here hx rfl (hb hby at_129) ?_
    refine XS.icmpNo X924.here hx rfl (hb hby at_130) rfl (flt (by decide : ¬ ((3 : Int32) < (1 : Int32)))).1 ?_
    show oS p e below m T924 133 (oL25 p0 p1 p2 b881) [] _
    refine XS.iloadN X924.here hx rfl (hb hby at_133) rfl ?_
    refine XS.iconst X924.here hx rfl (hb hby at_134) ?_
    show oS p e below m T924 135 (oL25 p0 p1 p2 b881) [(.int 1), (.int p2)] _
    refine XS.iand X924.here hx rfl (hb hby at_135) rfl ?_
    exact kt
  by_cases hc136_929 : (p2 &&& (1 : Int32)) = (0 : Int32)
  obtain ⟨cq931, kq931, q931a, q931b, q931c⟩ := isOf hZ e924 u899_0
  obtain ⟨_, _, ⟨T931, L931, k931, n931⟩, -, X931, ⟨Lc931, hQ931, l931, y931, z931⟩, st931⟩ := X924.virtualBack hx (y := oy2) (z := oy2) hown (mvT hZ (own_w hw 26 rfl)) (mvT hZ (own_w hw 27 rfl)) (notFace_of_selects (args := #[]) (mvT hZ (own_w hw 29 rfl))) (mvT hZ (own_w hw 29 rfl)) (mvT hZ (own_w hw 28 rfl)) (by decide) (backOf (W := 0) (rm_hasFree_5 l Z a0 hw [] b881 T899.heap n0 O899 u899_4 ) hZ (own_w hw 30 rfl) (own_w hw 6 rfl) (by decide) (by decide)) q931a q931c (g := (mkF m 191 (oL25 p0 p1 p2 b881) [(.ref b881)])) rfl (by rw [hml]; rfl) (Steps.refl _) (argsL := []) (rest := []) (lenOf pd___Z rfl) rfl (by show 2 * 0 + _ ≤ _; exact Nat.le_of_eq rfl) (hb hby at_191) (fun _ _ => ⟨rfl, e924, (by decide : 4 + 0 ≤ _), (by decide : 14 + 0 ≤ _)⟩)
  dsimp only [Pt.U, Pt.locs, Pt.cells, Pt.slots] at X931 l931 y931 z931 st931 hQ931
  subst l931 y931 z931
  obtain ⟨rfl, N931q, e931⟩ := hQ931
  have N931 := Fr.app N924 N931q
  have pre934 : ∀ t, oS p e below m T931 220 (oL19 p0 p1 p2 b881) [(.int ((1 : Int32) &&& (1 : Int32)))] t → oT p e below s₁ (entryFrame m #[(.int p0), (.int p1), (.int p2)] maxLocals) t := by
    intro t kt
    refine pre930 t ?_
    show oS p e below m T924 136 (oL25 p0 p1 p2 b881) [(.int (p2 &&& (1 : Int32)))] _
    refine XS.ifYes X924.here hx rfl (pc0 := 136) (pc' := 189) rfl (hb hby at_136) rfl ((if0 _ _).trans (teq hc136_929).1) (by decide) (by decide) ?_
    refine XS.aload X924.here hx rfl (hb hby at_189) rfl rfl ?_
    show oS p e below m T924 191 (oL25 p0 p1 p2 b881) [(.ref b881)] _
    refine st931.trans ?_
    show oS p e below m T931 194 (oL25 p0 p1 p2 b881) [(.int 0)] _
    refine XS.istore X931.here hx rfl (hb hby at_194) rfl (l' := (oL19 p0 p1 p2 b881)) rfl ?_
    refine XS.iload X931.here hx rfl (hb hby at_196) rfl ?_
    show oS p e below m T931 198 (oL19 p0 p1 p2 b881) [(.int 1)] _
    refine XS.iload X931.here hx rfl (hb hby at_198) rfl ?_
    refine XS.iload X931.here hx rfl (hb hby at_200) rfl ?_
    show oS p e below m T931 202 (oL19 p0 p1 p2 b881) [(.int 3), (.int 0), (.int 1)] _
    refine XS.iloadN X931.here hx rfl (hb hby at_202) rfl ?_
    refine XS.icmpYes X931.here hx rfl (pc0 := 203) (pc' := 210) rfl (hb hby at_203) rfl (flt (by decide : ¬ ((3 : Int32) < (3 : Int32)))).2.1 (by decide) (by decide) ?_
    show oS p e below m T931 210 (oL19 p0 p1 p2 b881) [(.int 0), (.int 1)] _
    refine XS.iconst X931.here hx rfl (hb hby at_210) ?_
    refine XS.icmpNo X931.here hx rfl (hb hby at_211) rfl (teq (by decide : (0 : Int32) = (0 : Int32))).2 ?_
    show oS p e below m T931 214 (oL19 p0 p1 p2 b881) [(.int 1)] _
    refine XS.iconst X931.here hx rfl (hb hby at_214) ?_
    refine XS.goto X931.here hx rfl (pc0 := 215) (pc' := 219) rfl (hb hby at_215) (by decide) (by decide) ?_
    show oS p e below m T931 219 (oL19 p0 p1 p2 b881) [(.int 1), (.int 1)] _
    refine XS.iand X931.here hx rfl (hb hby at_219) rfl ?_
    exact kt
  rw [show ((1 : Int32) &&& (1 : Int32)) = (1 : Int32) from by decide] at pre934
  have pre935 : ∀ t, oS p e below m T931 224 (oL19 p0 p1 p2 b881) [(.int 1)] t → oT p e below s₁ (entryFrame m #[(.int p0), (.int p1), (.int p2)] maxLocals) t := by
    intro t kt
    refine pre934 t ?_
    show oS p e below m T931 220 (oL19 p0 p1 p2 b881) [(.int 1)] _
    refine XS.istore X931.here hx rfl (hb hby at_220) rfl (l' := (oL19 p0 p1 p2 b881)) rfl ?_
    refine XS.iload X931.here hx rfl (hb hby at_222) rfl ?_
    exact kt
  obtain ⟨fs, hr, hrun, hended, hW, hsame⟩ := X931.leave (v := some (.int 1)) (fun h => by rw [Bd.returns] at h; cases h)
  refine ⟨_, _, pre935 _ ?_, hrun, hended, _, _, rfl, ?_, ⟨_, rfl⟩, hW, hsame.mono (by decide) (by decide)⟩
  · show oS p e below m T931 224 (oL19 p0 p1 p2 b881) [(.int 1)] _
    exact retN X931 hx (t := .boolean) Bd.returns (by simp) (hb hby at_224) hr
  · show Q_rm0 Z p0 p1 p2 w_cache w_I1 cl_cache w_I4 w_I2 w_I3 h0 n0 _ T931.heap _
    rw [e931]
    exact ⟨rfl, N931⟩
  obtain ⟨cq936, kq936, q936a, q936b, q936c⟩ := isOf hZ e924 u899_0
  obtain ⟨_, _, ⟨T936, L936, k936, n936⟩, -, X936, ⟨Lc936, hQ936, l936, y936, z936⟩, st936⟩ := X924.virtualBack hx (y := oy5) (z := oy5) hown (mvT hZ (own_w hw 47 rfl)) (mvT hZ (own_w hw 48 rfl)) (notFace_of_selects (args := #[]) (mvT hZ (own_w hw 50 rfl))) (mvT hZ (own_w hw 50 rfl)) (mvT hZ (own_w hw 49 rfl)) (by decide) (backOf (W := 0) (rm_release_48 l Z a0 hw [] b881 b882_b549 b882_b551 b882_b553 kx882_k549 kx882_k551 kx882_k553 w_I3 w_I2 w_I1 T899.heap n0 O899 u899_0 u899_1 u899_2 u899_3 u899_4 u899_5 ge_b881 u882_7 u899_6 u882_8 u899_7 u882_11 u882_13 u882_14 ne_b881_b882_b549 ne_b881_b882_b551 ne_b881_b882_b553 u882_16 u882_17 u882_18 ) hZ (own_w hw 51 rfl) (own_w hw 6 rfl) (by decide) (by decide)) q936a q936c (g := (mkF m 143 (oL25 p0 p1 p2 b881) [(.long 1048576), (.ref b881)])) rfl (by rw [hml]; rfl) (Steps.refl _) (argsL := [(.long 1048576)]) (rest := []) (lenOf pd__J_Ljava_lang_Object_ rfl) rfl (by show 2 * 0 + _ ≤ _; exact Nat.le_of_eq rfl) (hb hby at_143) (fun _ _ => ⟨rfl, e924, (by decide : 4 + 0 ≤ _), (by decide : 14 + 0 ≤ _)⟩)
  dsimp only [Pt.U, Pt.locs, Pt.cells, Pt.slots] at X936 l936 y936 z936 st936 hQ936
  subst l936 y936 z936
  obtain ⟨rfl, N936q, Kc936, u936_0, u936_1, u936_2, u936_3, u936_4, u936_5, u936_6, u936_7, u936_8⟩ := hQ936
  have N936 := Fr.app N924 N936q
  have O936 := O899.keep Kc936 (allS u882_14 (allS ge_b881 (allS u882_11 (allS u882_8 all0))))
  have pre969 : ∀ t, oS p e below m T936 151 (oL25 p0 p1 p2 b881) [(.int ((3 : Int32) - (1 : Int32)))] t → oT p e below s₁ (entryFrame m #[(.int p0), (.int p1), (.int p2)] maxLocals) t := by
    intro t kt
    refine pre930 t ?_
    show oS p e below m T924 136 (oL25 p0 p1 p2 b881) [(.int (p2 &&& (1 : Int32)))] _
    refine XS.ifNo X924.here hx rfl (hb hby at_136) rfl ((if0 _ _).trans (feq hc136_929).1) ?_
    refine XS.aload X924.here hx rfl (hb hby at_139) rfl rfl ?_
    show oS p e below m T924 141 (oL25 p0 p1 p2 b881) [(.ref b881)] _
    refine XS.lload X924.here hx rfl (hb hby at_141) rfl ?_
    show oS p e below m T924 143 (oL25 p0 p1 p2 b881) [(.long 1048576), (.ref b881)] _
    refine st936.trans ?_
    show oS p e below m T936 146 (oL25 p0 p1 p2 b881) [(.ref w_I1)] _
    refine XS.pop X936.here hx rfl (hb hby at_146) rfl rfl ?_
    refine XS.iload X936.here hx rfl (hb hby at_147) rfl ?_
    show oS p e below m T936 149 (oL25 p0 p1 p2 b881) [(.int 3)] _
    refine XS.iconst X936.here hx rfl (hb hby at_149) ?_
    refine XS.isub X936.here hx rfl (hb hby at_150) rfl ?_
    exact kt
  rw [show ((3 : Int32) - (1 : Int32)) = (2 : Int32) from by decide] at pre969
  have pre970 : ∀ t, oS p e below m T936 156 (oL11 p0 p1 p2 b881) [(.int (p2 &&& (2 : Int32)))] t → oT p e below s₁ (entryFrame m #[(.int p0), (.int p1), (.int p2)] maxLocals) t := by
    intro t kt
    refine pre969 t ?_
    show oS p e below m T936 151 (oL25 p0 p1 p2 b881) [(.int 2)] _
    refine XS.istore X936.here hx rfl (hb hby at_151) rfl (l' := (oL11 p0 p1 p2 b881)) rfl ?_
    refine XS.iloadN X936.here hx rfl (hb hby at_153) rfl ?_
    show oS p e below m T936 154 (oL11 p0 p1 p2 b881) [(.int p2)] _
    refine XS.iconst X936.here hx rfl (hb hby at_154) ?_
    refine XS.iand X936.here hx rfl (hb hby at_155) rfl ?_
    exact kt
  have tail167_971 : ∀ (T : State) (locs : List Loc) (h : Heap) (X : Stand p l e room_1 s m #[(.int p0), (.int p1), (.int p2)] below meth c T locs 4 14) (eT : T.heap = h) (Nn : Fr n0 locs) (On : Old Z n0 h) (v971_0 : Arv Z h b882_b553 kx882_k553 .int (3 : Int32) [(.int 0), (.int 1), (.int 0)] (.int 0)) (e971_1 : Exa Z h b881 oc8) (f971_2 : Fld Z h b881 oc8 "requests" "[Ljava/lang/Object;" (.ref b882_b549)) (f971_3 : Fld Z h b881 oc8 "sequences" "[J" (.ref b882_b551)) (f971_4 : Fld Z h b881 oc8 "free" "[I" (.ref b882_b553)) (f971_5 : Fld Z h b881 oc8 "freeCount" "I" (.int 1)) (f971_6 : Fld Z h b881 oc8 "lastSequence" "J" (.long 3)) (v971_7 : Arv Z h b882_b551 kx882_k551 .long (3 : Int32) [(.long 0), (.long 2), (.long 3)] (.long 0)) (v971_8 : Arv Z h b882_b549 kx882_k549 (.object oc9) (3 : Int32) [.null, (.ref w_I2), (.ref w_I3)] .null), ∃ s₂ o, Steps p.tables e below (T.setTop (mkF m 167 (oL11 p0 p1 p2 b881) [])) s₂ ∧ s₂.status = .running ∧ Ended s₂ below o ∧ ∃ v L, o = .returned v ∧ Q_rm0 Z p0 p1 p2 w_cache w_I1 cl_cache w_I4 w_I2 w_I3 h0 n0 v s₂.heap L ∧ FrameEnd s o s₂ L room_1.cells room_1.slots := by
    intro T locs h X eT Nn On v971_0 e971_1 f971_2 f971_3 f971_4 f971_5 f971_6 v971_7 v971_8
    have pre972 : ∀ t, oS p e below m T 167 (oL11 p0 p1 p2 b881) [] t → oT p e below T (mkF m 167 (oL11 p0 p1 p2 b881) []) t := fun t k => k
    have pre974 : ∀ t, oS p e below m T 170 (oL11 p0 p1 p2 b881) [(.int (p2 &&& (4 : Int32)))] t → oT p e below T (mkF m 167 (oL11 p0 p1 p2 b881) []) t := by
      intro t kt
      refine pre972 t ?_
      show oS p e below m T 167 (oL11 p0 p1 p2 b881) [] _
      refine XS.iloadN X.here hx rfl (hb hby at_167) rfl ?_
      refine XS.iconst X.here hx rfl (hb hby at_168) ?_
      show oS p e below m T 169 (oL11 p0 p1 p2 b881) [(.int 4), (.int p2)] _
      refine XS.iand X.here hx rfl (hb hby at_169) rfl ?_
      exact kt
    by_cases hc170_973 : (p2 &&& (4 : Int32)) = (0 : Int32)
    obtain ⟨cq975, kq975, q975a, q975b, q975c⟩ := isOf hZ eT e971_1
    obtain ⟨_, _, ⟨T975, L975, k975, n975⟩, -, X975, ⟨Lc975, hQ975, l975, y975, z975⟩, st975⟩ := X.virtualBack hx (y := oy2) (z := oy2) hown (mvT hZ (own_w hw 26 rfl)) (mvT hZ (own_w hw 27 rfl)) (notFace_of_selects (args := #[]) (mvT hZ (own_w hw 29 rfl))) (mvT hZ (own_w hw 29 rfl)) (mvT hZ (own_w hw 28 rfl)) (by decide) (backOf (W := 0) (rm_hasFree_2 l Z a0 hw [] b881 h n0 On f971_5 ) hZ (own_w hw 30 rfl) (own_w hw 6 rfl) (by decide) (by decide)) q975a q975c (g := (mkF m 191 (oL11 p0 p1 p2 b881) [(.ref b881)])) rfl (by rw [hml]; rfl) (Steps.refl _) (argsL := []) (rest := []) (lenOf pd___Z rfl) rfl (by show 2 * 0 + _ ≤ _; exact Nat.le_of_eq rfl) (hb hby at_191) (fun _ _ => ⟨rfl, eT, (by decide : 4 + 0 ≤ _), (by decide : 14 + 0 ≤ _)⟩)
    dsimp only [Pt.U, Pt.locs, Pt.cells, Pt.slots] at X975 l975 y975 z975 st975 hQ975
    subst l975 y975 z975
    obtain ⟨rfl, N975q, e975⟩ := hQ975
    have N975 := Fr.app Nn N975q
    have pre978 : ∀ t, oS p e below m T975 220 (oL38 p0 p1 p2 b881) [(.int ((1 : Int32) &&& (1 : Int32)))] t → oT p e below T (mkF m 167 (oL11 p0 p1 p2 b881) []) t := by
      intro t kt
      refine pre974 t ?_
      show oS p e below m T 170 (oL11 p0 p1 p2 b881) [(.int (p2 &&& (4 : Int32)))] _
      refine XS.ifYes X.here hx rfl (pc0 := 170) (pc' := 189) rfl (hb hby at_170) rfl ((if0 _ _).trans (teq hc170_973).1) (by decide) (by decide) ?_
      refine XS.aload X.here hx rfl (hb hby at_189) rfl rfl ?_
      show oS p e below m T 191 (oL11 p0 p1 p2 b881) [(.ref b881)] _
      refine st975.trans ?_
      show oS p e below m T975 194 (oL11 p0 p1 p2 b881) [(.int 1)] _
      refine XS.istore X975.here hx rfl (hb hby at_194) rfl (l' := (oL38 p0 p1 p2 b881)) rfl ?_
      refine XS.iload X975.here hx rfl (hb hby at_196) rfl ?_
      show oS p e below m T975 198 (oL38 p0 p1 p2 b881) [(.int 1)] _
      refine XS.iload X975.here hx rfl (hb hby at_198) rfl ?_
      refine XS.iload X975.here hx rfl (hb hby at_200) rfl ?_
      show oS p e below m T975 202 (oL38 p0 p1 p2 b881) [(.int 2), (.int 1), (.int 1)] _
      refine XS.iloadN X975.here hx rfl (hb hby at_202) rfl ?_
      refine XS.icmpNo X975.here hx rfl (hb hby at_203) rfl (tlt (by decide : (2 : Int32) < (3 : Int32))).2.1 ?_
      show oS p e below m T975 206 (oL38 p0 p1 p2 b881) [(.int 1), (.int 1)] _
      refine XS.iconst X975.here hx rfl (hb hby at_206) ?_
      refine XS.goto X975.here hx rfl (pc0 := 207) (pc' := 211) rfl (hb hby at_207) (by decide) (by decide) ?_
      show oS p e below m T975 211 (oL38 p0 p1 p2 b881) [(.int 1), (.int 1), (.int 1)] _
      refine XS.icmpNo X975.here hx rfl (hb hby at_211) rfl (teq (by decide : (1 : Int32) = (1 : Int32))).2 ?_
      refine XS.iconst X975.here hx rfl (hb hby at_214) ?_
      show oS p e below m T975 215 (oL38 p0 p1 p2 b881) [(.int 1), (.int 1)] _
      refine XS.goto X975.here hx rfl (pc0 := 215) (pc' := 219) rfl (hb hby at_215) (by decide) (by decide) ?_
      refine XS.iand X975.here hx rfl (hb hby at_219) rfl ?_
      exact kt
    rw [show ((1 : Int32) &&& (1 : Int32)) = (1 : Int32) from by decide] at pre978
    have pre979 : ∀ t, oS p e below m T975 224 (oL38 p0 p1 p2 b881) [(.int 1)] t → oT p e below T (mkF m 167 (oL11 p0 p1 p2 b881) []) t := by
      intro t kt
      refine pre978 t ?_
      show oS p e below m T975 220 (oL38 p0 p1 p2 b881) [(.int 1)] _
      refine XS.istore X975.here hx rfl (hb hby at_220) rfl (l' := (oL38 p0 p1 p2 b881)) rfl ?_
      refine XS.iload X975.here hx rfl (hb hby at_222) rfl ?_
      exact kt
    obtain ⟨fs, hr, hrun, hended, hW, hsame⟩ := X975.leave (v := some (.int 1)) (fun h => by rw [Bd.returns] at h; cases h)
    refine ⟨_, _, pre979 _ ?_, hrun, hended, _, _, rfl, ?_, ⟨_, rfl⟩, hW, hsame.mono (by decide) (by decide)⟩
    · show oS p e below m T975 224 (oL38 p0 p1 p2 b881) [(.int 1)] _
      exact retN X975 hx (t := .boolean) Bd.returns (by simp) (hb hby at_224) hr
    · show Q_rm0 Z p0 p1 p2 w_cache w_I1 cl_cache w_I4 w_I2 w_I3 h0 n0 _ T975.heap _
      rw [e975]
      exact ⟨rfl, N975⟩
    obtain ⟨_, _, ⟨T980, L980, k980, n980⟩, -, X980, ⟨Lc980, hQ980, l980, y980, z980⟩, st980⟩ := Jvm.LawKit.callS X hx (y := oy3) hown (mvT hZ (own_w hw 31 rfl)) (mvT hZ (own_w hw 32 rfl)) (mvT hZ (own_w hw 33 rfl)) (mvT hZ (own_w hw 34 rfl)) (by decide) (backOf (W := 1) (rm_valueOf_9 l Z a0 hw [] w_cache cl_cache w_I4 h n0 On  S_high S_cache AE_4 A_cache) hZ (own_w hw 34 rfl) (own_w hw 33 rfl) (by decide) (by decide)) (g := (mkF m 176 (oL11 p0 p1 p2 b881) [(.int 4), (.ref b881)])) rfl (by rw [hml]; rfl) (argsL := [(.int 4)]) (rest := [(.ref b881)]) (lenOf pd__I_Ljava_lang_Integer_ rfl) rfl (by show 2 * 0 + _ ≤ _; exact Nat.le_of_eq rfl) (hb hby at_176) (fun _ _ => ⟨rfl, eT, (by decide : 4 + 0 ≤ _), (by decide : 14 + 0 ≤ _)⟩)
    dsimp only [Pt.U, Pt.locs, Pt.cells, Pt.slots] at X980 l980 y980 z980 st980 hQ980
    subst l980 y980 z980
    obtain ⟨rfl, N980q, e980⟩ := hQ980
    have N980 := Fr.app Nn N980q
    obtain ⟨cq981, kq981, q981a, q981b, q981c⟩ := isOf hZ e980 e971_1
    obtain ⟨_, _, ⟨T981, L981, k981, n981⟩, -, X981, ⟨Lc981, hQ981, l981, y981, z981⟩, st981⟩ := X980.virtualBack hx (y := oy4) (z := oy4) hown (mvT hZ (own_w hw 38 rfl)) (mvT hZ (own_w hw 39 rfl)) (notFace_of_selects (args := #[]) (mvT hZ (own_w hw 41 rfl))) (mvT hZ (own_w hw 41 rfl)) (mvT hZ (own_w hw 40 rfl)) (by decide) (backOf (W := 0) (rm_take_51 l Z a0 hw [] b881 b882_b549 b882_b551 b882_b553 kx882_k549 kx882_k551 kx882_k553 w_I4 w_I3 w_I2 h n0 On e971_1 f971_2 f971_3 f971_4 f971_5 f971_6 ge_b881 u882_7 v971_8 u882_8 v971_7 u882_11 v971_0 u882_14 ne_b881_b882_b549 ne_b881_b882_b551 ne_b881_b882_b553 u882_16 u882_17 u882_18 E_I4) hZ (own_w hw 42 rfl) (own_w hw 6 rfl) (by decide) (by decide)) q981a q981c (g := (mkF m 179 (oL11 p0 p1 p2 b881) [(.ref w_I4), (.ref b881)])) rfl (by rw [hml]; rfl) (Steps.refl _) (argsL := [(.ref w_I4)]) (rest := []) (lenOf pd__Ljava_lang_Object__J rfl) rfl (by show 2 * 0 + _ ≤ _; exact Nat.le_of_eq rfl) (hb hby at_179) (fun _ _ => ⟨rfl, e980, (by decide : 4 + 0 ≤ _), (by decide : 14 + 0 ≤ _)⟩)
    dsimp only [Pt.U, Pt.locs, Pt.cells, Pt.slots] at X981 l981 y981 z981 st981 hQ981
    subst l981 y981 z981
    obtain ⟨rfl, N981q, Kc981, u981_0, u981_1, u981_2, u981_3, u981_4, u981_5, u981_6, u981_7⟩ := hQ981
    have N981 := Fr.app N980 N981q
    have v971_0 := v971_0.keep Kc981 (ninS (Ne.symm ne_b881_b882_b553) (ninS (Ne.symm u882_17) (ninS (Ne.symm u882_18) nin0)))
    have O981 := On.keep Kc981 (allS ge_b881 (allS u882_8 (allS u882_11 all0)))
    have pre1006 : ∀ t, oS p e below m T981 187 (oL11 p0 p1 p2 b881) [(.int ((2 : Int32) + (1 : Int32)))] t → oT p e below T (mkF m 167 (oL11 p0 p1 p2 b881) []) t := by
      intro t kt
      refine pre974 t ?_
      show oS p e below m T 170 (oL11 p0 p1 p2 b881) [(.int (p2 &&& (4 : Int32)))] _
      refine XS.ifNo X.here hx rfl (hb hby at_170) rfl ((if0 _ _).trans (feq hc170_973).1) ?_
      refine XS.aload X.here hx rfl (hb hby at_173) rfl rfl ?_
      show oS p e below m T 175 (oL11 p0 p1 p2 b881) [(.ref b881)] _
      refine XS.iconst X.here hx rfl (hb hby at_175) ?_
      show oS p e below m T 176 (oL11 p0 p1 p2 b881) [(.int 4), (.ref b881)] _
      refine st980 _ ?_
      show oS p e below m T980 179 (oL11 p0 p1 p2 b881) [(.ref w_I4), (.ref b881)] _
      refine st981.trans ?_
      show oS p e below m T981 182 (oL11 p0 p1 p2 b881) [(.long 4194304)] _
      jvm_step X981.here [X981.here.top, hx, (hb hby at_182), Value.category]
      show oS p e below m T981 183 (oL11 p0 p1 p2 b881) [] _
      refine XS.iload X981.here hx rfl (hb hby at_183) rfl ?_
      refine XS.iconst X981.here hx rfl (hb hby at_185) ?_
      show oS p e below m T981 186 (oL11 p0 p1 p2 b881) [(.int 1), (.int 2)] _
      refine XS.iadd X981.here hx rfl (hb hby at_186) rfl ?_
      exact kt
    rw [show ((2 : Int32) + (1 : Int32)) = (3 : Int32) from by decide] at pre1006
    obtain ⟨cq1007, kq1007, q1007a, q1007b, q1007c⟩ := isOf hZ rfl u981_0
    obtain ⟨_, _, ⟨T1007, L1007, k1007, n1007⟩, -, X1007, ⟨Lc1007, hQ1007, l1007, y1007, z1007⟩, st1007⟩ := X981.virtualBack hx (y := oy2) (z := oy2) hown (mvT hZ (own_w hw 26 rfl)) (mvT hZ (own_w hw 27 rfl)) (notFace_of_selects (args := #[]) (mvT hZ (own_w hw 29 rfl))) (mvT hZ (own_w hw 29 rfl)) (mvT hZ (own_w hw 28 rfl)) (by decide) (backOf (W := 0) (rm_hasFree_5 l Z a0 hw [] b881 T981.heap n0 O981 u981_4 ) hZ (own_w hw 30 rfl) (own_w hw 6 rfl) (by decide) (by decide)) q1007a q1007c (g := (mkF m 191 (oL25 p0 p1 p2 b881) [(.ref b881)])) rfl (by rw [hml]; rfl) (Steps.refl _) (argsL := []) (rest := []) (lenOf pd___Z rfl) rfl (by show 2 * 0 + _ ≤ _; exact Nat.le_of_eq rfl) (hb hby at_191) (fun _ _ => ⟨rfl, rfl, (by decide : 4 + 0 ≤ _), (by decide : 14 + 0 ≤ _)⟩)
    dsimp only [Pt.U, Pt.locs, Pt.cells, Pt.slots] at X1007 l1007 y1007 z1007 st1007 hQ1007
    subst l1007 y1007 z1007
    obtain ⟨rfl, N1007q, e1007⟩ := hQ1007
    have N1007 := Fr.app N981 N1007q
    have pre1010 : ∀ t, oS p e below m T1007 220 (oL19 p0 p1 p2 b881) [(.int ((1 : Int32) &&& (1 : Int32)))] t → oT p e below T (mkF m 167 (oL11 p0 p1 p2 b881) []) t := by
      intro t kt
      refine pre1006 t ?_
      show oS p e below m T981 187 (oL11 p0 p1 p2 b881) [(.int 3)] _
      refine XS.istore X981.here hx rfl (hb hby at_187) rfl (l' := (oL25 p0 p1 p2 b881)) rfl ?_
      refine XS.aload X981.here hx rfl (hb hby at_189) rfl rfl ?_
      show oS p e below m T981 191 (oL25 p0 p1 p2 b881) [(.ref b881)] _
      refine st1007.trans ?_
      show oS p e below m T1007 194 (oL25 p0 p1 p2 b881) [(.int 0)] _
      refine XS.istore X1007.here hx rfl (hb hby at_194) rfl (l' := (oL19 p0 p1 p2 b881)) rfl ?_
      refine XS.iload X1007.here hx rfl (hb hby at_196) rfl ?_
      show oS p e below m T1007 198 (oL19 p0 p1 p2 b881) [(.int 1)] _
      refine XS.iload X1007.here hx rfl (hb hby at_198) rfl ?_
      refine XS.iload X1007.here hx rfl (hb hby at_200) rfl ?_
      show oS p e below m T1007 202 (oL19 p0 p1 p2 b881) [(.int 3), (.int 0), (.int 1)] _
      refine XS.iloadN X1007.here hx rfl (hb hby at_202) rfl ?_
      refine XS.icmpYes X1007.here hx rfl (pc0 := 203) (pc' := 210) rfl (hb hby at_203) rfl (flt (by decide : ¬ ((3 : Int32) < (3 : Int32)))).2.1 (by decide) (by decide) ?_
      show oS p e below m T1007 210 (oL19 p0 p1 p2 b881) [(.int 0), (.int 1)] _
      refine XS.iconst X1007.here hx rfl (hb hby at_210) ?_
      refine XS.icmpNo X1007.here hx rfl (hb hby at_211) rfl (teq (by decide : (0 : Int32) = (0 : Int32))).2 ?_
      show oS p e below m T1007 214 (oL19 p0 p1 p2 b881) [(.int 1)] _
      refine XS.iconst X1007.here hx rfl (hb hby at_214) ?_
      refine XS.goto X1007.here hx rfl (pc0 := 215) (pc' := 219) rfl (hb hby at_215) (by decide) (by decide) ?_
      show oS p e below m T1007 219 (oL19 p0 p1 p2 b881) [(.int 1), (.int 1)] _
      refine XS.iand X1007.here hx rfl (hb hby at_219) rfl ?_
      exact kt
    rw [show ((1 : Int32) &&& (1 : Int32)) = (1 : Int32) from by decide] at pre1010
    have pre1011 : ∀ t, oS p e below m T1007 224 (oL19 p0 p1 p2 b881) [(.int 1)] t → oT p e below T (mkF m 167 (oL11 p0 p1 p2 b881) []) t := by
      intro t kt
      refine pre1010 t ?_
      show oS p e below m T1007 220 (oL19 p0 p1 p2 b881) [(.int 1)] _
      refine XS.istore X1007.here hx rfl (hb hby at_220) rfl (l' := (oL19 p0 p1 p2 b881)) rfl ?_
      refine XS.iload X1007.here hx rfl (hb hby at_222) rfl ?_
      exact kt
    obtain ⟨fs, hr, hrun, hended, hW, hsame⟩ := X1007.leave (v := some (.int 1)) (fun h => by rw [Bd.returns] at h; cases h)
    refine ⟨_, _, pre1011 _ ?_, hrun, hended, _, _, rfl, ?_, ⟨_, rfl⟩, hW, hsame.mono (by decide) (by decide)⟩
    · show oS p e below m T1007 224 (oL19 p0 p1 p2 b881) [(.int 1)] _
      exact retN X1007 hx (t := .boolean) Bd.returns (by simp) (hb hby at_224) hr
    · show Q_rm0 Z p0 p1 p2 w_cache w_I1 cl_cache w_I4 w_I2 w_I3 h0 n0 _ T1007.heap _
      rw [e1007]
      exact ⟨rfl, N1007⟩
  by_cases hc156_1012 : (p2 &&& (2 : Int32)) = (0 : Int32)
  have pre1013 : ∀ t, oS p e below m T936 167 (oL11 p0 p1 p2 b881) [] t → oT p e below s₁ (entryFrame m #[(.int p0), (.int p1), (.int p2)] maxLocals) t := by
    intro t kt
    refine pre970 t ?_
    show oS p e below m T936 156 (oL11 p0 p1 p2 b881) [(.int (p2 &&& (2 : Int32)))] _
    refine XS.ifYes X936.here hx rfl (pc0 := 156) (pc' := 167) rfl (hb hby at_156) rfl ((if0 _ _).trans (teq hc156_1012).1) (by decide) (by decide) ?_
    exact kt
  obtain ⟨s2, o2, hs2, r2⟩ := tail167_971 _ _ _ X936 rfl N936 O936 u936_0 u936_1 u936_2 u936_3 u936_4 u936_5 u936_6 u936_7 u936_8
  exact ⟨s2, o2, pre1013 _ hs2, r2⟩
  obtain ⟨cq1015, kq1015, q1015a, q1015b, q1015c⟩ := isOf hZ rfl u936_1
  obtain ⟨_, _, ⟨T1015, L1015, k1015, n1015⟩, -, X1015, ⟨Lc1015, hQ1015, l1015, y1015, z1015⟩, st1015⟩ := X936.virtualBack hx (y := oy5) (z := oy5) hown (mvT hZ (own_w hw 47 rfl)) (mvT hZ (own_w hw 48 rfl)) (notFace_of_selects (args := #[]) (mvT hZ (own_w hw 50 rfl))) (mvT hZ (own_w hw 50 rfl)) (mvT hZ (own_w hw 49 rfl)) (by decide) (backOf (W := 0) (rm_release_52 l Z a0 hw [] b881 b882_b549 b882_b551 b882_b553 kx882_k549 kx882_k551 w_I3 w_I2 T936.heap n0 O936 u936_1 u936_2 u936_3 u936_8 u936_7 ne_b881_b882_b549 ne_b881_b882_b551 ne_b881_b882_b553 u882_16 u882_17 u882_18 ) hZ (own_w hw 51 rfl) (own_w hw 6 rfl) (by decide) (by decide)) q1015a q1015c (g := (mkF m 163 (oL11 p0 p1 p2 b881) [(.long 1048576), (.ref b881)])) rfl (by rw [hml]; rfl) (Steps.refl _) (argsL := [(.long 1048576)]) (rest := []) (lenOf pd__J_Ljava_lang_Object_ rfl) rfl (by show 2 * 0 + _ ≤ _; exact Nat.le_of_eq rfl) (hb hby at_163) (fun _ _ => ⟨rfl, rfl, (by decide : 4 + 0 ≤ _), (by decide : 14 + 0 ≤ _)⟩)
  dsimp only [Pt.U, Pt.locs, Pt.cells, Pt.slots] at X1015 l1015 y1015 z1015 st1015 hQ1015
  subst l1015 y1015 z1015
  obtain ⟨rfl, N1015q, e1015⟩ := hQ1015
  have N1015 := Fr.app N936 N1015q
  have pre1030 : ∀ t, oS p e below m T1015 167 (oL11 p0 p1 p2 b881) [] t → oT p e below s₁ (entryFrame m #[(.int p0), (.int p1), (.int p2)] maxLocals) t := by
    intro t kt
    refine pre970 t ?_
    show oS p e below m T936 156 (oL11 p0 p1 p2 b881) [(.int (p2 &&& (2 : Int32)))] _
    refine XS.ifNo X936.here hx rfl (hb hby at_156) rfl ((if0 _ _).trans (feq hc156_1012).1) ?_
    refine XS.aload X936.here hx rfl (hb hby at_159) rfl rfl ?_
    show oS p e below m T936 161 (oL11 p0 p1 p2 b881) [(.ref b881)] _
    refine XS.lload X936.here hx rfl (hb hby at_161) rfl ?_
    show oS p e below m T936 163 (oL11 p0 p1 p2 b881) [(.long 1048576), (.ref b881)] _
    refine st1015.trans ?_
    show oS p e below m T1015 166 (oL11 p0 p1 p2 b881) [.null] _
    refine XS.pop X1015.here hx rfl (hb hby at_166) rfl rfl ?_
    exact kt
  obtain ⟨s2, o2, hs2, r2⟩ := tail167_971 _ _ _ X1015 e1015 N1015 O936 u936_0 u936_1 u936_2 u936_3 u936_4 u936_5 u936_6 u936_7 u936_8
  exact ⟨s2, o2, pre1030 _ hs2, r2⟩
set_option maxRecDepth 65536 in
set_option maxHeartbeats 40000000 in
theorem comes_1 {Post : Tables → Env → Array Value → State → Outcome → State → Prop} (hpost : ∀ tb e args s v u, (limb_1_1.after args s (.returned v) u = true ∧ limb_1_2.after args s (.returned v) u = true ∧ True) → FrameEnd s (.returned v) u (Jvm.fieldLocs frame_1_writes args s ++ Jvm.arrayLocs frame_1_arrays args s ++ Jvm.staticLocs frame_1_statics s) 16 128 → Post tb e args s (.returned v) u) :
    ArmFor flags0 classFile x code maxLocals ret World_1 tables_1 room_1 Calls_1 rest_1 Pre_1 Post := by
  intro l hfl _ _ p e ha hc hk s m args below hf hA hF happ hP
  obtain ⟨hcalls, hrest, hpre⟩ := hP
  obtain ⟨-, -, -, hnamed, -, -, -, hat⟩ := (Spec.applies_iff hf).mp happ
  obtain ⟨hg, hn⟩ := and_e (Cond.before_iff.mp (show (Jvm.Cond.and given_1 narrow_1).before args s = true from hpre))
  have hw := fun d (hd : d ∈ tables_1) => atoms_spec (ws := Jvm.Cond.code x code maxLocals ret :: tables_1) hat d (List.mem_cons_of_mem _ hd)
  obtain ⟨g1, g2⟩ := and_e hg
  obtain ⟨g3, g4⟩ := and_e g2
  obtain ⟨g5, g6⟩ := and_e g4
  obtain ⟨v0, v1, v2, rfl⟩ : ∃ v0 v1 v2 : Value, args = #[v0, v1, v2] := by
    have hs : args.size = 3 := by simpa [Cond.value, given_1] using g1
    obtain ⟨L⟩ := args
    match L, hs with
    | [v0, v1, v2], _ => exact ⟨v0, v1, v2, rfl⟩
  have hfit : Fit s := fun {y c} hc i hi => by
    obtain ⟨ha, rfl⟩ := Array.getElem?_eq_some_iff.mp hc
    have q := List.all_eq_true.mp ((Array.all_eq_true_iff_forall_mem.mp hF) _ (Array.getElem_mem ha)) i (List.mem_range.mpr hi)
    simpa [Array.getElem?_eq_getElem hi] using q
  obtain ⟨i0, ei0⟩ := is_v g3
  obtain rfl : v0 = (.int i0) := Option.some.inj ei0
  obtain ⟨i1, ei1⟩ := is_v g5
  obtain rfl : v1 = (.int i1) := Option.some.inj ei1
  obtain ⟨i2, ei2⟩ := is_v g6
  obtain rfl : v2 = (.int i2) := Option.some.inj ei2
  obtain ⟨hsets, hown0⟩ := atoms_of _ (rest_1_c_eq ▸ (show rest_1_c.before _ s = true from hrest))
  have S_high : Sta s s.heap "java/lang/Integer$IntegerCache" "high" "I" (.int 127) := Sta.start ((own_eq (Cond.before_iff.mp (hsets _ (List.mem_of_getElem? (i := 3) rfl)))).trans rfl) (Or.inl (hsets _ (List.mem_of_getElem? (i := 1) rfl)))
  obtain ⟨w_cache, ev_cache⟩ := arr_v (Cond.before_iff.mp (hsets _ (List.mem_of_getElem? (i := 4) rfl)))
  have S_cache : Sta s s.heap "java/lang/Integer$IntegerCache" "cache" "[Ljava/lang/Integer;" (.ref w_cache) := Sta.start ev_cache (Or.inr ⟨(own_w hw 36 rfl), (hsets _ (List.mem_of_getElem? (i := 2) rfl))⟩)
  obtain ⟨cl_cache, A_cache⟩ := Arr.start ev_cache (Cond.before_iff.mp (hsets _ (List.mem_of_getElem? (i := 4) rfl)))
  obtain ⟨hl_cache, hq_cache⟩ := own_len ev_cache A_cache (own_eq (Cond.before_iff.mp (hsets _ (List.mem_of_getElem? (i := 6) rfl))))
  have BX := Bxs.start (val := fun j => .int (j - (128 : Int32))) (fun idx => ev_cache) A_cache hq_cache hl_cache (by decide) (Cond.before_iff.mp (hsets _ (List.mem_of_getElem? (i := 7) rfl))) (fun X j hj h => eqv_i (own_sub hj) h)
  obtain ⟨w_I1, AE_1, E_I1, -⟩ := BX.2.2.2 (129 : Int32) (inb_of BX.2.1 ⟨by decide, by decide⟩)
  obtain ⟨w_I2, AE_2, E_I2, -⟩ := BX.2.2.2 (130 : Int32) (inb_of BX.2.1 ⟨by decide, by decide⟩)
  obtain ⟨w_I3, AE_3, E_I3, -⟩ := BX.2.2.2 (131 : Int32) (inb_of BX.2.1 ⟨by decide, by decide⟩)
  obtain ⟨w_I4, AE_4, E_I4, -⟩ := BX.2.2.2 (132 : Int32) (inb_of BX.2.1 ⟨by decide, by decide⟩)
  obtain ⟨n, o, h1, h2, h3, _, L, rfl, ⟨rfl, N⟩, hq⟩ := rm0 l s _ hw tables_1 i0 i1 i2 w_cache w_I1 cl_cache w_I4 w_I2 w_I3 s.heap s.heap.size (Old.start s) S_high S_cache AE_1 A_cache E_I1 AE_4 E_I4 AE_2 E_I2 AE_3 E_I3 p e ha hc hk s m _ below hf ((Spec.applies_iff_loose hf).mp happ).1 ⟨rfl, State.Warmed39.refl s, rfl⟩ trivial
  refine ⟨n, _, h1, h2, h3, hpost _ _ _ _ _ _ ⟨Cond.after_iff.mpr rfl, Cond.after_iff.mpr (eq_i res_at (Term.int_eval (1)) rfl), trivial⟩ ⟨hq.1, hq.2.1, (hq.2.2.sift fun y hy => Or.inr (N y hy)).mono (by decide) (by decide)⟩⟩
theorem main_1_1 : Claimed_1_1 := comes_1 fun _ _ _ _ _ _ h hF => ⟨h.1, hF⟩
theorem main_1_2 : Claimed_1_2 := comes_1 fun _ _ _ _ _ _ h hF => ⟨h.2.1, hF⟩
end Jvm.Pilot.@@N@@
namespace Jvm.Pilot.@@N@@
open Jvm Jvm.ClassFile Sem Op Lib Jvm.Free Jvm.Stand Jvm.Pilot.@@N@@.Jvm.D
/-! MADE BY PROGRAM (witnessworld.py) out of the Statement's table words and the real class files: 20 classes; the members and pool entries that the words name. The judged class is class 1, her method 1. -/
namespace start1
open Jvm.ClassFile
def u (s : String) : CpInfo := .utf8 (stringToUtf16 s)
/-- a pool by its gaps: so many unusable entries, then the entry; so many at the end -/
def gap : Nat → List CpInfo → List CpInfo
  | 0, r => r
  | n + 1, r => .unusable :: gap n r
def poolList (es : List (Nat × CpInfo)) (last : Nat) : List CpInfo := es.foldr (fun e r => gap e.1 (e.2 :: r)) (gap last [])
def pool (es : List (Nat × CpInfo)) (last : Nat) : Array CpInfo := ⟨poolList es last⟩
def fileOf (pool : Array CpInfo) (this : Nat) (attrs : Array Attribute := #[]) (ms : Array MethodInfo := #[]) (fl : Nat := 33) (sup : Nat := 0) (ifs : Array Nat := #[]) (fds : Array FieldInfo := #[]) : ClassFile where
  minorVersion := 0
  majorVersion := 65
  constantPool := pool
  accessFlags := fl
  thisClass := this
  superClass := sup
  interfaces := ifs
  fields := fds
  methods := ms
  attributes := attrs
def plain (name : String) (sup : Option ClassId) : Class where
  name := name
  kind := .ordinary
  loader := none
  accessFlags := 33
  super := sup
  interfaces := #[]
  cf := none
  fields := #[]
  methods := #[]
  instanceTypes := #[]
  staticTypes := #[]
  resolved := #[]
  callSites := []
  init := .initialized
  statics := none
  mirror := none

def pool0 : Array CpInfo := pool [(5, u "<init>"), (0, u "()V"), (1, .class_ 10), (1, u "java/lang/Object")] 113

def k0c0 : Code := { maxStack := 0, maxLocals := 1, code := object_method_1_code, exceptionTable := #[], attributes := #[] }
def k0m0 : Method := { name := "<init>", desc := "()V", sig := { parameters := [], returnType := none }, accessFlags := 1, code := some k0c0 }
/-- java/lang/Object -/
def k0 : Class := { plain "java/lang/Object" none with
  accessFlags := 33
  interfaces := #[]
  cf := some (fileOf pool0 8 #[] #[{ accessFlags := 1, nameIndex := 5, descriptorIndex := 6, attributes := #[] }] 33 0 #[] #[])
  fields := #[]
  methods := #[k0m0]
  instanceTypes := #[]
  staticTypes := #[]
  resolved := Array.replicate 124 none
  statics := none }

def pool1 : Array CpInfo := pool [(2, .class_ 4), (1, u "java/lang/Object"), (0, u "<init>"), (0, u "()V"), (0, .methodref 8 9), (0, .class_ 10), (0, .nameAndType 11 12), (0, u "java/lang/Math"), (0, u "min"), (0, u "(II)I"), (0, .class_ 14), (0, u "com/example/wend/wend/Slots"), (0, .methodref 13 16), (0, .nameAndType 5 17), (0, u "(I)V"), (0, .methodref 13 19), (0, .nameAndType 20 21), (0, u "hasFree"), (0, u "()Z"), (0, .methodref 23 24), (0, .class_ 25), (0, .nameAndType 26 27), (0, u "java/lang/Integer"), (0, u "valueOf"), (0, u "(I)Ljava/lang/Integer;"), (0, .methodref 13 29), (0, .nameAndType 30 31), (0, u "take"), (0, u "(Ljava/lang/Object;)J"), (0, .methodref 13 33), (0, .nameAndType 34 35), (0, u "release"), (0, u "(J)Ljava/lang/Object;"), (0, .class_ 37), (0, u "com/example/wend/wend/SlotsHasFreePinLaw"), (2, u "law"), (0, u "(III)Z")] 3

def k1m0 : Method := { name := "<init>", desc := "()V", sig := { parameters := [], returnType := none }, accessFlags := 1, code := none }
def k1c1 : Code := { maxStack := 4, maxLocals := 13, code := code, exceptionTable := #[], attributes := #[] }
def k1m1 : Method := { name := "law", desc := "(III)Z", sig := { parameters := [.int, .int, .int], returnType := some .boolean }, accessFlags := 9, code := some k1c1 }
/-- com/example/wend/wend/SlotsHasFreePinLaw -/
def k1 : Class := { plain "com/example/wend/wend/SlotsHasFreePinLaw" (some 0) with
  accessFlags := 49
  interfaces := #[]
  cf := some (fileOf pool1 36 #[] #[{ accessFlags := 1, nameIndex := 5, descriptorIndex := 6, attributes := #[] }, { accessFlags := 9, nameIndex := 40, descriptorIndex := 41, attributes := #[] }] 49 2 #[] #[])
  fields := #[]
  methods := #[k1m0, k1m1]
  instanceTypes := #[]
  staticTypes := #[]
  resolved := Array.replicate 45 none
  statics := none }

def pool2 : Array CpInfo := pool [(1, .class_ 2), (0, u "java/lang/Math"), (1, .class_ 6), (1, u "java/lang/Object"), (0, u "<init>"), (0, u "()V"), (89, .class_ 100), (1, u "java/lang/Math$RandomNumberGeneratorHolder"), (71, u "negativeZeroFloatBits"), (0, u "J"), (2, u "negativeZeroDoubleBits"), (24, u "min"), (43, u "$assertionsDisabled"), (0, u "Z"), (88, u "(II)I"), (2, u "twoToTheDoubleScaleDown"), (0, u "D"), (4, u "twoToTheDoubleScaleUp"), (9, u "E"), (3, u "PI"), (2, u "TAU"), (2, u "DEGREES_TO_RADIANS"), (0, u "RADIANS_TO_DEGREES")] 94

def k2m0 : Method := { name := "<init>", desc := "()V", sig := { parameters := [], returnType := none }, accessFlags := 2, code := none }
def k2c1 : Code := { maxStack := 2, maxLocals := 2, code := jdk_29_method_69_code, exceptionTable := #[], attributes := #[] }
def k2m1 : Method := { name := "min", desc := "(II)I", sig := { parameters := [.int, .int], returnType := some .int }, accessFlags := 9, code := some k2c1 }
/-- java/lang/Math -/
def k2 : Class := { plain "java/lang/Math" (some 0) with
  accessFlags := 49
  interfaces := #[]
  cf := some (fileOf pool2 1 #[.nestMembers #[98]] #[{ accessFlags := 2, nameIndex := 7, descriptorIndex := 8, attributes := #[] }, { accessFlags := 9, nameIndex := 201, descriptorIndex := 335, attributes := #[] }] 49 4 #[] #[{ accessFlags := 25, nameIndex := 354, descriptorIndex := 339, attributes := #[] }, { accessFlags := 25, nameIndex := 358, descriptorIndex := 339, attributes := #[] }, { accessFlags := 25, nameIndex := 361, descriptorIndex := 339, attributes := #[] }, { accessFlags := 26, nameIndex := 364, descriptorIndex := 339, attributes := #[] }, { accessFlags := 26, nameIndex := 365, descriptorIndex := 339, attributes := #[] }, { accessFlags := 26, nameIndex := 172, descriptorIndex := 173, attributes := #[] }, { accessFlags := 26, nameIndex := 176, descriptorIndex := 173, attributes := #[] }, { accessFlags := 8, nameIndex := 344, descriptorIndex := 339, attributes := #[] }, { accessFlags := 8, nameIndex := 338, descriptorIndex := 339, attributes := #[] }, { accessFlags := 4120, nameIndex := 245, descriptorIndex := 246, attributes := #[] }])
  fields := #[{ name := "E", type := .double, accessFlags := 25, slot := 0, constantValue := 0 }, { name := "PI", type := .double, accessFlags := 25, slot := 1, constantValue := 0 }, { name := "TAU", type := .double, accessFlags := 25, slot := 2, constantValue := 0 }, { name := "DEGREES_TO_RADIANS", type := .double, accessFlags := 26, slot := 3, constantValue := 0 }, { name := "RADIANS_TO_DEGREES", type := .double, accessFlags := 26, slot := 4, constantValue := 0 }, { name := "negativeZeroFloatBits", type := .long, accessFlags := 26, slot := 5, constantValue := 0 }, { name := "negativeZeroDoubleBits", type := .long, accessFlags := 26, slot := 6, constantValue := 0 }, { name := "twoToTheDoubleScaleUp", type := .double, accessFlags := 8, slot := 7, constantValue := 0 }, { name := "twoToTheDoubleScaleDown", type := .double, accessFlags := 8, slot := 8, constantValue := 0 }, { name := "$assertionsDisabled", type := .boolean, accessFlags := 4120, slot := 9, constantValue := 0 }]
  methods := #[k2m0, k2m1]
  instanceTypes := #[]
  staticTypes := #[.double, .double, .double, .double, .double, .long, .long, .double, .double, .boolean]
  resolved := Array.replicate 460 none
  statics := none }

def pool3 : Array CpInfo := pool [(1, .class_ 2), (0, u "com/example/wend/wend/Slots"), (0, .methodref 4 5), (0, .class_ 6), (0, .nameAndType 7 8), (0, u "java/lang/Object"), (0, u "<init>"), (0, u "()V"), (0, .integer 1048576), (9, .fieldref 1 20), (0, .nameAndType 21 22), (0, u "requests"), (0, u "[Ljava/lang/Object;"), (0, .fieldref 1 24), (0, .nameAndType 25 26), (0, u "sequences"), (0, u "[J"), (0, .fieldref 1 28), (0, .nameAndType 29 30), (0, u "free"), (0, u "[I"), (0, .fieldref 1 32), (0, .nameAndType 33 34), (0, u "freeCount"), (0, u "I"), (5, .fieldref 1 41), (0, .nameAndType 42 43), (0, u "lastSequence"), (0, u "J"), (0, .long 17592186044415), (1, .long 1048575), (1, .methodref 1 49), (0, .nameAndType 50 51), (0, u "get"), (0, u "(J)Ljava/lang/Object;"), (0, .methodref 1 53), (0, .nameAndType 29 54), (0, u "(I)V"), (9, u "SLOT_BITS"), (2, u "MAX_SLOTS"), (0, u "SLOT_MASK"), (0, u "MAX_SEQUENCE"), (5, u "hasFree"), (0, u "()Z"), (0, u "take"), (0, u "(Ljava/lang/Object;)J"), (3, u "release")] 21

def k3c0 : Code := { maxStack := 3, maxLocals := 3, code := prog_29_method_1_code, exceptionTable := #[], attributes := #[] }
def k3m0 : Method := { name := "<init>", desc := "(I)V", sig := { parameters := [.int], returnType := none }, accessFlags := 0, code := some k3c0 }
def k3c1 : Code := { maxStack := 1, maxLocals := 1, code := prog_29_method_3_code, exceptionTable := #[], attributes := #[] }
def k3m1 : Method := { name := "hasFree", desc := "()Z", sig := { parameters := [], returnType := some .boolean }, accessFlags := 0, code := some k3c1 }
def k3c2 : Code := { maxStack := 5, maxLocals := 3, code := prog_29_method_4_code, exceptionTable := #[], attributes := #[] }
def k3m2 : Method := { name := "take", desc := "(Ljava/lang/Object;)J", sig := { parameters := [(.object "java/lang/Object")], returnType := some .long }, accessFlags := 0, code := some k3c2 }
def k3c3 : Code := { maxStack := 4, maxLocals := 7, code := prog_29_method_5_code, exceptionTable := #[], attributes := #[] }
def k3m3 : Method := { name := "get", desc := "(J)Ljava/lang/Object;", sig := { parameters := [.long], returnType := some (.object "java/lang/Object") }, accessFlags := 0, code := some k3c3 }
def k3c4 : Code := { maxStack := 5, maxLocals := 4, code := prog_29_method_6_code, exceptionTable := #[], attributes := #[] }
def k3m4 : Method := { name := "release", desc := "(J)Ljava/lang/Object;", sig := { parameters := [.long], returnType := some (.object "java/lang/Object") }, accessFlags := 0, code := some k3c4 }
def k3c5 : Code := { maxStack := 5, maxLocals := 2, code := prog_29_method_8_code, exceptionTable := #[], attributes := #[] }
def k3m5 : Method := { name := "free", desc := "(I)V", sig := { parameters := [.int], returnType := none }, accessFlags := 2, code := some k3c5 }
/-- com/example/wend/wend/Slots -/
def k3 : Class := { plain "com/example/wend/wend/Slots" (some 0) with
  accessFlags := 48
  interfaces := #[]
  cf := some (fileOf pool3 1 #[] #[{ accessFlags := 0, nameIndex := 7, descriptorIndex := 54, attributes := #[] }, { accessFlags := 0, nameIndex := 75, descriptorIndex := 76, attributes := #[] }, { accessFlags := 0, nameIndex := 77, descriptorIndex := 78, attributes := #[] }, { accessFlags := 0, nameIndex := 50, descriptorIndex := 51, attributes := #[] }, { accessFlags := 0, nameIndex := 82, descriptorIndex := 51, attributes := #[] }, { accessFlags := 2, nameIndex := 29, descriptorIndex := 54, attributes := #[] }] 48 4 #[] #[{ accessFlags := 24, nameIndex := 64, descriptorIndex := 34, attributes := #[] }, { accessFlags := 24, nameIndex := 67, descriptorIndex := 34, attributes := #[] }, { accessFlags := 26, nameIndex := 68, descriptorIndex := 43, attributes := #[] }, { accessFlags := 26, nameIndex := 69, descriptorIndex := 43, attributes := #[] }, { accessFlags := 18, nameIndex := 21, descriptorIndex := 22, attributes := #[] }, { accessFlags := 18, nameIndex := 25, descriptorIndex := 26, attributes := #[] }, { accessFlags := 18, nameIndex := 29, descriptorIndex := 30, attributes := #[] }, { accessFlags := 2, nameIndex := 33, descriptorIndex := 34, attributes := #[] }, { accessFlags := 2, nameIndex := 42, descriptorIndex := 43, attributes := #[] }])
  fields := #[{ name := "SLOT_BITS", type := .int, accessFlags := 24, slot := 0, constantValue := 0 }, { name := "MAX_SLOTS", type := .int, accessFlags := 24, slot := 1, constantValue := 0 }, { name := "SLOT_MASK", type := .long, accessFlags := 26, slot := 2, constantValue := 0 }, { name := "MAX_SEQUENCE", type := .long, accessFlags := 26, slot := 3, constantValue := 0 }, { name := "requests", type := (.array (.object "java/lang/Object")), accessFlags := 18, slot := 0, constantValue := 0 }, { name := "sequences", type := (.array .long), accessFlags := 18, slot := 1, constantValue := 0 }, { name := "free", type := (.array .int), accessFlags := 18, slot := 2, constantValue := 0 }, { name := "freeCount", type := .int, accessFlags := 2, slot := 3, constantValue := 0 }, { name := "lastSequence", type := .long, accessFlags := 2, slot := 4, constantValue := 0 }]
  methods := #[k3m0, k3m1, k3m2, k3m3, k3m4, k3m5]
  instanceTypes := #[(.array (.object "java/lang/Object")), (.array .long), (.array .int), .int, .long]
  staticTypes := #[.int, .int, .long, .long]
  resolved := Array.replicate 104 none
  statics := none }

def pool4 : Array CpInfo := pool [(1, .class_ 2), (0, u "java/io/Serializable"), (0, .class_ 4), (0, u "java/lang/Object")] 2

/-- java/io/Serializable -/
def k4 : Class := { plain "java/io/Serializable" (some 0) with
  accessFlags := 1537
  interfaces := #[]
  cf := some (fileOf pool4 1 #[] #[] 1537 3 #[] #[])
  fields := #[]
  methods := #[]
  instanceTypes := #[]
  staticTypes := #[]
  resolved := Array.replicate 7 none
  statics := none }

def pool5 : Array CpInfo := pool [(2, .class_ 4), (1, u "java/lang/Object"), (0, u "<init>"), (0, u "()V"), (1, .class_ 10), (1, u "java/lang/Number"), (2, .class_ 14), (0, u "java/io/Serializable"), (0, u "serialVersionUID"), (0, u "J")] 20

def k5m0 : Method := { name := "<init>", desc := "()V", sig := { parameters := [], returnType := none }, accessFlags := 1, code := none }
/-- java/lang/Number -/
def k5 : Class := { plain "java/lang/Number" (some 0) with
  accessFlags := 1057
  interfaces := #[4]
  cf := some (fileOf pool5 8 #[] #[{ accessFlags := 1, nameIndex := 5, descriptorIndex := 6, attributes := #[] }] 1057 2 #[13] #[{ accessFlags := 26, nameIndex := 15, descriptorIndex := 16, attributes := #[] }])
  fields := #[{ name := "serialVersionUID", type := .long, accessFlags := 26, slot := 0, constantValue := 0 }]
  methods := #[k5m0]
  instanceTypes := #[]
  staticTypes := #[.long]
  resolved := Array.replicate 37 none
  statics := none }

def pool6 : Array CpInfo := pool [(1, .class_ 2), (0, u "java/lang/Comparable"), (0, .class_ 4), (0, u "java/lang/Object")] 7

/-- java/lang/Comparable -/
def k6 : Class := { plain "java/lang/Comparable" (some 0) with
  accessFlags := 1537
  interfaces := #[]
  cf := some (fileOf pool6 1 #[] #[] 1537 3 #[] #[])
  fields := #[]
  methods := #[]
  instanceTypes := #[]
  staticTypes := #[]
  resolved := Array.replicate 12 none
  statics := none }

def pool7 : Array CpInfo := pool [(1, .class_ 2), (0, u "java/lang/constant/Constable"), (0, .class_ 4), (0, u "java/lang/Object")] 6

/-- java/lang/constant/Constable -/
def k7 : Class := { plain "java/lang/constant/Constable" (some 0) with
  accessFlags := 1537
  interfaces := #[]
  cf := some (fileOf pool7 1 #[] #[] 1537 3 #[] #[])
  fields := #[]
  methods := #[]
  instanceTypes := #[]
  staticTypes := #[]
  resolved := Array.replicate 11 none
  statics := none }

def pool8 : Array CpInfo := pool [(1, .class_ 2), (0, u "java/lang/constant/ConstantDesc"), (0, .class_ 4), (0, u "java/lang/Object")] 32

/-- java/lang/constant/ConstantDesc -/
def k8 : Class := { plain "java/lang/constant/ConstantDesc" (some 0) with
  accessFlags := 1537
  interfaces := #[]
  cf := some (fileOf pool8 1 #[] #[] 1537 3 #[] #[])
  fields := #[]
  methods := #[]
  instanceTypes := #[]
  staticTypes := #[]
  resolved := Array.replicate 37 none
  statics := none }

def pool9 : Array CpInfo := pool [(1, .class_ 2), (0, u "java/lang/Integer"), (16, u "digits"), (0, u "[C"), (64, u "DigitOnes"), (0, u "[B"), (2, u "DigitTens"), (97, u "valueOf"), (0, u "(I)Ljava/lang/Integer;"), (0, .class_ 190), (0, u "java/lang/Integer$IntegerCache"), (0, .fieldref 189 192), (0, .nameAndType 193 194), (0, u "high"), (0, u "I"), (0, .fieldref 189 196), (0, .nameAndType 197 198), (0, u "cache"), (0, u "[Ljava/lang/Integer;"), (4, .class_ 204), (0, u "java/lang/Number"), (2, u "value"), (94, u "TYPE"), (0, u "Ljava/lang/Class;"), (0, .class_ 305), (0, u "java/lang/Comparable"), (0, .class_ 307), (0, u "java/lang/constant/Constable"), (0, .class_ 309), (0, u "java/lang/constant/ConstantDesc"), (0, u "MIN_VALUE"), (1, u "MAX_VALUE"), (3, u "SIZE"), (1, u "BYTES"), (1, u "serialVersionUID"), (0, u "J")] 131

def k9c0 : Code := { maxStack := 3, maxLocals := 1, code := jdk_33_method_22_code, exceptionTable := #[], attributes := #[] }
def k9m0 : Method := { name := "valueOf", desc := "(I)Ljava/lang/Integer;", sig := { parameters := [.int], returnType := some (.object "java/lang/Integer") }, accessFlags := 9, code := some k9c0 }
/-- java/lang/Integer -/
def k9 : Class := { plain "java/lang/Integer" (some 5) with
  accessFlags := 49
  interfaces := #[6, 7, 8]
  cf := some (fileOf pool9 1 #[.nestMembers #[189]] #[{ accessFlags := 9, nameIndex := 187, descriptorIndex := 188, attributes := #[] }] 49 203 #[304, 306, 308] #[{ accessFlags := 25, nameIndex := 310, descriptorIndex := 194, attributes := #[] }, { accessFlags := 25, nameIndex := 312, descriptorIndex := 194, attributes := #[] }, { accessFlags := 25, nameIndex := 302, descriptorIndex := 303, attributes := #[] }, { accessFlags := 24, nameIndex := 19, descriptorIndex := 20, attributes := #[] }, { accessFlags := 24, nameIndex := 89, descriptorIndex := 86, attributes := #[] }, { accessFlags := 24, nameIndex := 85, descriptorIndex := 86, attributes := #[] }, { accessFlags := 18, nameIndex := 207, descriptorIndex := 194, attributes := #[] }, { accessFlags := 25, nameIndex := 316, descriptorIndex := 194, attributes := #[] }, { accessFlags := 25, nameIndex := 318, descriptorIndex := 194, attributes := #[] }, { accessFlags := 26, nameIndex := 320, descriptorIndex := 321, attributes := #[] }])
  fields := #[{ name := "MIN_VALUE", type := .int, accessFlags := 25, slot := 0, constantValue := 0 }, { name := "MAX_VALUE", type := .int, accessFlags := 25, slot := 1, constantValue := 0 }, { name := "TYPE", type := (.object "java/lang/Class"), accessFlags := 25, slot := 2, constantValue := 0 }, { name := "digits", type := (.array .char), accessFlags := 24, slot := 3, constantValue := 0 }, { name := "DigitTens", type := (.array .byte), accessFlags := 24, slot := 4, constantValue := 0 }, { name := "DigitOnes", type := (.array .byte), accessFlags := 24, slot := 5, constantValue := 0 }, { name := "value", type := .int, accessFlags := 18, slot := 0, constantValue := 0 }, { name := "SIZE", type := .int, accessFlags := 25, slot := 6, constantValue := 0 }, { name := "BYTES", type := .int, accessFlags := 25, slot := 7, constantValue := 0 }, { name := "serialVersionUID", type := .long, accessFlags := 26, slot := 8, constantValue := 0 }]
  methods := #[k9m0]
  instanceTypes := #[.int]
  staticTypes := #[.int, .int, (.object "java/lang/Class"), (.array .char), (.array .byte), (.array .byte), .int, .int, .long]
  resolved := Array.replicate 453 none
  statics := none }

def pool10 : Array CpInfo := pool [(2, .class_ 4), (1, u "java/lang/Object"), (0, u "<init>"), (0, u "()V"), (0, .class_ 8), (0, u "java/lang/Integer"), (7, .class_ 18), (1, u "java/lang/Integer$IntegerCache"), (0, u "$assertionsDisabled"), (0, u "Z"), (26, u "high"), (0, u "I"), (8, u "archivedCache"), (0, u "[Ljava/lang/Integer;"), (12, u "cache"), (0, u "low")] 27

def k10m0 : Method := { name := "<init>", desc := "()V", sig := { parameters := [], returnType := none }, accessFlags := 2, code := none }
/-- java/lang/Integer$IntegerCache -/
def k10 : Class := { plain "java/lang/Integer$IntegerCache" (some 0) with
  accessFlags := 48
  interfaces := #[]
  cf := some (fileOf pool10 16 #[.nestHost 7] #[{ accessFlags := 2, nameIndex := 5, descriptorIndex := 6, attributes := #[] }] 48 2 #[] #[{ accessFlags := 24, nameIndex := 72, descriptorIndex := 48, attributes := #[] }, { accessFlags := 24, nameIndex := 47, descriptorIndex := 48, attributes := #[] }, { accessFlags := 24, nameIndex := 71, descriptorIndex := 58, attributes := #[] }, { accessFlags := 8, nameIndex := 57, descriptorIndex := 58, attributes := #[] }, { accessFlags := 4120, nameIndex := 19, descriptorIndex := 20, attributes := #[] }])
  fields := #[{ name := "low", type := .int, accessFlags := 24, slot := 0, constantValue := 0 }, { name := "high", type := .int, accessFlags := 24, slot := 1, constantValue := 0 }, { name := "cache", type := (.array (.object "java/lang/Integer")), accessFlags := 24, slot := 2, constantValue := 0 }, { name := "archivedCache", type := (.array (.object "java/lang/Integer")), accessFlags := 8, slot := 3, constantValue := 0 }, { name := "$assertionsDisabled", type := .boolean, accessFlags := 4120, slot := 4, constantValue := 0 }]
  methods := #[k10m0]
  instanceTypes := #[]
  staticTypes := #[.int, .int, (.array (.object "java/lang/Integer")), (.array (.object "java/lang/Integer")), .boolean]
  resolved := Array.replicate 100 none
  statics := some 0 }

def pool11 : Array CpInfo := pool [(1, u "java/lang/Cloneable"), (0, .class_ 1), (0, u "java/lang/Object"), (0, .class_ 3)] 3

/-- java/lang/Cloneable -/
def k11 : Class := { plain "java/lang/Cloneable" (some 0) with
  accessFlags := 1537
  interfaces := #[]
  cf := some (fileOf pool11 2 #[] #[] 1537 4 #[] #[])
  fields := #[]
  methods := #[]
  instanceTypes := #[]
  staticTypes := #[]
  resolved := Array.replicate 8 none
  statics := none }

/-- the primitive byte -/
def k12 : Class := { plain "byte" none with kind := .primitive 'B', accessFlags := 0x411 }
/-- [B -/
def k13 : Class := { plain "[B" (some 0) with kind := .array 12 .byte, interfaces := #[11, 4], accessFlags := 1041 }

/-- the primitive int -/
def k14 : Class := { plain "int" none with kind := .primitive 'I', accessFlags := 0x411 }
/-- [I -/
def k15 : Class := { plain "[I" (some 0) with kind := .array 14 .int, interfaces := #[11, 4], accessFlags := 1041 }

/-- the primitive long -/
def k16 : Class := { plain "long" none with kind := .primitive 'J', accessFlags := 0x411 }
/-- [J -/
def k17 : Class := { plain "[J" (some 0) with kind := .array 16 .long, interfaces := #[11, 4], accessFlags := 1041 }

/-- [Ljava/lang/Integer; -/
def k18 : Class := { plain "[Ljava/lang/Integer;" (some 0) with kind := .array 9 (.object "java/lang/Integer"), interfaces := #[11, 4], accessFlags := 1041 }

/-- [Ljava/lang/Object; -/
def k19 : Class := { plain "[Ljava/lang/Object;" (some 0) with kind := .array 0 (.object "java/lang/Object"), interfaces := #[11, 4], accessFlags := 1041 }

def heap : Heap := #[{ cls := 10, slots := #[.int 0, .int 127, .ref 1, .null, .int 0], vm := .statics 10 },
  { cls := 18, slots := #[.ref 2, .ref 3, .ref 4, .ref 5, .ref 6, .ref 7, .ref 8, .ref 9, .ref 10, .ref 11, .ref 12, .ref 13, .ref 14, .ref 15, .ref 16, .ref 17, .ref 18, .ref 19, .ref 20, .ref 21, .ref 22, .ref 23, .ref 24, .ref 25, .ref 26, .ref 27, .ref 28, .ref 29, .ref 30, .ref 31, .ref 32, .ref 33, .ref 34, .ref 35, .ref 36, .ref 37, .ref 38, .ref 39, .ref 40, .ref 41, .ref 42, .ref 43, .ref 44, .ref 45, .ref 46, .ref 47, .ref 48, .ref 49, .ref 50, .ref 51, .ref 52, .ref 53, .ref 54, .ref 55, .ref 56, .ref 57, .ref 58, .ref 59, .ref 60, .ref 61, .ref 62, .ref 63, .ref 64, .ref 65, .ref 66, .ref 67, .ref 68, .ref 69, .ref 70, .ref 71, .ref 72, .ref 73, .ref 74, .ref 75, .ref 76, .ref 77, .ref 78, .ref 79, .ref 80, .ref 81, .ref 82, .ref 83, .ref 84, .ref 85, .ref 86, .ref 87, .ref 88, .ref 89, .ref 90, .ref 91, .ref 92, .ref 93, .ref 94, .ref 95, .ref 96, .ref 97, .ref 98, .ref 99, .ref 100, .ref 101, .ref 102, .ref 103, .ref 104, .ref 105, .ref 106, .ref 107, .ref 108, .ref 109, .ref 110, .ref 111, .ref 112, .ref 113, .ref 114, .ref 115, .ref 116, .ref 117, .ref 118, .ref 119, .ref 120, .ref 121, .ref 122, .ref 123, .ref 124, .ref 125, .ref 126, .ref 127, .ref 128, .ref 129, .ref 130, .ref 131, .ref 132, .ref 133, .ref 134, .ref 135, .ref 136, .ref 137, .ref 138, .ref 139, .ref 140, .ref 141, .ref 142, .ref 143, .ref 144, .ref 145, .ref 146, .ref 147, .ref 148, .ref 149, .ref 150, .ref 151, .ref 152, .ref 153, .ref 154, .ref 155, .ref 156, .ref 157, .ref 158, .ref 159, .ref 160, .ref 161, .ref 162, .ref 163, .ref 164, .ref 165, .ref 166, .ref 167, .ref 168, .ref 169, .ref 170, .ref 171, .ref 172, .ref 173, .ref 174, .ref 175, .ref 176, .ref 177, .ref 178, .ref 179, .ref 180, .ref 181, .ref 182, .ref 183, .ref 184, .ref 185, .ref 186, .ref 187, .ref 188, .ref 189, .ref 190, .ref 191, .ref 192, .ref 193, .ref 194, .ref 195, .ref 196, .ref 197, .ref 198, .ref 199, .ref 200, .ref 201, .ref 202, .ref 203, .ref 204, .ref 205, .ref 206, .ref 207, .ref 208, .ref 209, .ref 210, .ref 211, .ref 212, .ref 213, .ref 214, .ref 215, .ref 216, .ref 217, .ref 218, .ref 219, .ref 220, .ref 221, .ref 222, .ref 223, .ref 224, .ref 225, .ref 226, .ref 227, .ref 228, .ref 229, .ref 230, .ref 231, .ref 232, .ref 233, .ref 234, .ref 235, .ref 236, .ref 237, .ref 238, .ref 239, .ref 240, .ref 241, .ref 242, .ref 243, .ref 244, .ref 245, .ref 246, .ref 247, .ref 248, .ref 249, .ref 250, .ref 251, .ref 252, .ref 253, .ref 254, .ref 255, .ref 256, .ref 257], vm := .none },
  { cls := 9, slots := #[.int (-128)], vm := .none },
  { cls := 9, slots := #[.int (-127)], vm := .none },
  { cls := 9, slots := #[.int (-126)], vm := .none },
  { cls := 9, slots := #[.int (-125)], vm := .none },
  { cls := 9, slots := #[.int (-124)], vm := .none },
  { cls := 9, slots := #[.int (-123)], vm := .none },
  { cls := 9, slots := #[.int (-122)], vm := .none },
  { cls := 9, slots := #[.int (-121)], vm := .none },
  { cls := 9, slots := #[.int (-120)], vm := .none },
  { cls := 9, slots := #[.int (-119)], vm := .none },
  { cls := 9, slots := #[.int (-118)], vm := .none },
  { cls := 9, slots := #[.int (-117)], vm := .none },
  { cls := 9, slots := #[.int (-116)], vm := .none },
  { cls := 9, slots := #[.int (-115)], vm := .none },
  { cls := 9, slots := #[.int (-114)], vm := .none },
  { cls := 9, slots := #[.int (-113)], vm := .none },
  { cls := 9, slots := #[.int (-112)], vm := .none },
  { cls := 9, slots := #[.int (-111)], vm := .none },
  { cls := 9, slots := #[.int (-110)], vm := .none },
  { cls := 9, slots := #[.int (-109)], vm := .none },
  { cls := 9, slots := #[.int (-108)], vm := .none },
  { cls := 9, slots := #[.int (-107)], vm := .none },
  { cls := 9, slots := #[.int (-106)], vm := .none },
  { cls := 9, slots := #[.int (-105)], vm := .none },
  { cls := 9, slots := #[.int (-104)], vm := .none },
  { cls := 9, slots := #[.int (-103)], vm := .none },
  { cls := 9, slots := #[.int (-102)], vm := .none },
  { cls := 9, slots := #[.int (-101)], vm := .none },
  { cls := 9, slots := #[.int (-100)], vm := .none },
  { cls := 9, slots := #[.int (-99)], vm := .none },
  { cls := 9, slots := #[.int (-98)], vm := .none },
  { cls := 9, slots := #[.int (-97)], vm := .none },
  { cls := 9, slots := #[.int (-96)], vm := .none },
  { cls := 9, slots := #[.int (-95)], vm := .none },
  { cls := 9, slots := #[.int (-94)], vm := .none },
  { cls := 9, slots := #[.int (-93)], vm := .none },
  { cls := 9, slots := #[.int (-92)], vm := .none },
  { cls := 9, slots := #[.int (-91)], vm := .none },
  { cls := 9, slots := #[.int (-90)], vm := .none },
  { cls := 9, slots := #[.int (-89)], vm := .none },
  { cls := 9, slots := #[.int (-88)], vm := .none },
  { cls := 9, slots := #[.int (-87)], vm := .none },
  { cls := 9, slots := #[.int (-86)], vm := .none },
  { cls := 9, slots := #[.int (-85)], vm := .none },
  { cls := 9, slots := #[.int (-84)], vm := .none },
  { cls := 9, slots := #[.int (-83)], vm := .none },
  { cls := 9, slots := #[.int (-82)], vm := .none },
  { cls := 9, slots := #[.int (-81)], vm := .none },
  { cls := 9, slots := #[.int (-80)], vm := .none },
  { cls := 9, slots := #[.int (-79)], vm := .none },
  { cls := 9, slots := #[.int (-78)], vm := .none },
  { cls := 9, slots := #[.int (-77)], vm := .none },
  { cls := 9, slots := #[.int (-76)], vm := .none },
  { cls := 9, slots := #[.int (-75)], vm := .none },
  { cls := 9, slots := #[.int (-74)], vm := .none },
  { cls := 9, slots := #[.int (-73)], vm := .none },
  { cls := 9, slots := #[.int (-72)], vm := .none },
  { cls := 9, slots := #[.int (-71)], vm := .none },
  { cls := 9, slots := #[.int (-70)], vm := .none },
  { cls := 9, slots := #[.int (-69)], vm := .none },
  { cls := 9, slots := #[.int (-68)], vm := .none },
  { cls := 9, slots := #[.int (-67)], vm := .none },
  { cls := 9, slots := #[.int (-66)], vm := .none },
  { cls := 9, slots := #[.int (-65)], vm := .none },
  { cls := 9, slots := #[.int (-64)], vm := .none },
  { cls := 9, slots := #[.int (-63)], vm := .none },
  { cls := 9, slots := #[.int (-62)], vm := .none },
  { cls := 9, slots := #[.int (-61)], vm := .none },
  { cls := 9, slots := #[.int (-60)], vm := .none },
  { cls := 9, slots := #[.int (-59)], vm := .none },
  { cls := 9, slots := #[.int (-58)], vm := .none },
  { cls := 9, slots := #[.int (-57)], vm := .none },
  { cls := 9, slots := #[.int (-56)], vm := .none },
  { cls := 9, slots := #[.int (-55)], vm := .none },
  { cls := 9, slots := #[.int (-54)], vm := .none },
  { cls := 9, slots := #[.int (-53)], vm := .none },
  { cls := 9, slots := #[.int (-52)], vm := .none },
  { cls := 9, slots := #[.int (-51)], vm := .none },
  { cls := 9, slots := #[.int (-50)], vm := .none },
  { cls := 9, slots := #[.int (-49)], vm := .none },
  { cls := 9, slots := #[.int (-48)], vm := .none },
  { cls := 9, slots := #[.int (-47)], vm := .none },
  { cls := 9, slots := #[.int (-46)], vm := .none },
  { cls := 9, slots := #[.int (-45)], vm := .none },
  { cls := 9, slots := #[.int (-44)], vm := .none },
  { cls := 9, slots := #[.int (-43)], vm := .none },
  { cls := 9, slots := #[.int (-42)], vm := .none },
  { cls := 9, slots := #[.int (-41)], vm := .none },
  { cls := 9, slots := #[.int (-40)], vm := .none },
  { cls := 9, slots := #[.int (-39)], vm := .none },
  { cls := 9, slots := #[.int (-38)], vm := .none },
  { cls := 9, slots := #[.int (-37)], vm := .none },
  { cls := 9, slots := #[.int (-36)], vm := .none },
  { cls := 9, slots := #[.int (-35)], vm := .none },
  { cls := 9, slots := #[.int (-34)], vm := .none },
  { cls := 9, slots := #[.int (-33)], vm := .none },
  { cls := 9, slots := #[.int (-32)], vm := .none },
  { cls := 9, slots := #[.int (-31)], vm := .none },
  { cls := 9, slots := #[.int (-30)], vm := .none },
  { cls := 9, slots := #[.int (-29)], vm := .none },
  { cls := 9, slots := #[.int (-28)], vm := .none },
  { cls := 9, slots := #[.int (-27)], vm := .none },
  { cls := 9, slots := #[.int (-26)], vm := .none },
  { cls := 9, slots := #[.int (-25)], vm := .none },
  { cls := 9, slots := #[.int (-24)], vm := .none },
  { cls := 9, slots := #[.int (-23)], vm := .none },
  { cls := 9, slots := #[.int (-22)], vm := .none },
  { cls := 9, slots := #[.int (-21)], vm := .none },
  { cls := 9, slots := #[.int (-20)], vm := .none },
  { cls := 9, slots := #[.int (-19)], vm := .none },
  { cls := 9, slots := #[.int (-18)], vm := .none },
  { cls := 9, slots := #[.int (-17)], vm := .none },
  { cls := 9, slots := #[.int (-16)], vm := .none },
  { cls := 9, slots := #[.int (-15)], vm := .none },
  { cls := 9, slots := #[.int (-14)], vm := .none },
  { cls := 9, slots := #[.int (-13)], vm := .none },
  { cls := 9, slots := #[.int (-12)], vm := .none },
  { cls := 9, slots := #[.int (-11)], vm := .none },
  { cls := 9, slots := #[.int (-10)], vm := .none },
  { cls := 9, slots := #[.int (-9)], vm := .none },
  { cls := 9, slots := #[.int (-8)], vm := .none },
  { cls := 9, slots := #[.int (-7)], vm := .none },
  { cls := 9, slots := #[.int (-6)], vm := .none },
  { cls := 9, slots := #[.int (-5)], vm := .none },
  { cls := 9, slots := #[.int (-4)], vm := .none },
  { cls := 9, slots := #[.int (-3)], vm := .none },
  { cls := 9, slots := #[.int (-2)], vm := .none },
  { cls := 9, slots := #[.int (-1)], vm := .none },
  { cls := 9, slots := #[.int 0], vm := .none },
  { cls := 9, slots := #[.int 1], vm := .none },
  { cls := 9, slots := #[.int 2], vm := .none },
  { cls := 9, slots := #[.int 3], vm := .none },
  { cls := 9, slots := #[.int 4], vm := .none },
  { cls := 9, slots := #[.int 5], vm := .none },
  { cls := 9, slots := #[.int 6], vm := .none },
  { cls := 9, slots := #[.int 7], vm := .none },
  { cls := 9, slots := #[.int 8], vm := .none },
  { cls := 9, slots := #[.int 9], vm := .none },
  { cls := 9, slots := #[.int 10], vm := .none },
  { cls := 9, slots := #[.int 11], vm := .none },
  { cls := 9, slots := #[.int 12], vm := .none },
  { cls := 9, slots := #[.int 13], vm := .none },
  { cls := 9, slots := #[.int 14], vm := .none },
  { cls := 9, slots := #[.int 15], vm := .none },
  { cls := 9, slots := #[.int 16], vm := .none },
  { cls := 9, slots := #[.int 17], vm := .none },
  { cls := 9, slots := #[.int 18], vm := .none },
  { cls := 9, slots := #[.int 19], vm := .none },
  { cls := 9, slots := #[.int 20], vm := .none },
  { cls := 9, slots := #[.int 21], vm := .none },
  { cls := 9, slots := #[.int 22], vm := .none },
  { cls := 9, slots := #[.int 23], vm := .none },
  { cls := 9, slots := #[.int 24], vm := .none },
  { cls := 9, slots := #[.int 25], vm := .none },
  { cls := 9, slots := #[.int 26], vm := .none },
  { cls := 9, slots := #[.int 27], vm := .none },
  { cls := 9, slots := #[.int 28], vm := .none },
  { cls := 9, slots := #[.int 29], vm := .none },
  { cls := 9, slots := #[.int 30], vm := .none },
  { cls := 9, slots := #[.int 31], vm := .none },
  { cls := 9, slots := #[.int 32], vm := .none },
  { cls := 9, slots := #[.int 33], vm := .none },
  { cls := 9, slots := #[.int 34], vm := .none },
  { cls := 9, slots := #[.int 35], vm := .none },
  { cls := 9, slots := #[.int 36], vm := .none },
  { cls := 9, slots := #[.int 37], vm := .none },
  { cls := 9, slots := #[.int 38], vm := .none },
  { cls := 9, slots := #[.int 39], vm := .none },
  { cls := 9, slots := #[.int 40], vm := .none },
  { cls := 9, slots := #[.int 41], vm := .none },
  { cls := 9, slots := #[.int 42], vm := .none },
  { cls := 9, slots := #[.int 43], vm := .none },
  { cls := 9, slots := #[.int 44], vm := .none },
  { cls := 9, slots := #[.int 45], vm := .none },
  { cls := 9, slots := #[.int 46], vm := .none },
  { cls := 9, slots := #[.int 47], vm := .none },
  { cls := 9, slots := #[.int 48], vm := .none },
  { cls := 9, slots := #[.int 49], vm := .none },
  { cls := 9, slots := #[.int 50], vm := .none },
  { cls := 9, slots := #[.int 51], vm := .none },
  { cls := 9, slots := #[.int 52], vm := .none },
  { cls := 9, slots := #[.int 53], vm := .none },
  { cls := 9, slots := #[.int 54], vm := .none },
  { cls := 9, slots := #[.int 55], vm := .none },
  { cls := 9, slots := #[.int 56], vm := .none },
  { cls := 9, slots := #[.int 57], vm := .none },
  { cls := 9, slots := #[.int 58], vm := .none },
  { cls := 9, slots := #[.int 59], vm := .none },
  { cls := 9, slots := #[.int 60], vm := .none },
  { cls := 9, slots := #[.int 61], vm := .none },
  { cls := 9, slots := #[.int 62], vm := .none },
  { cls := 9, slots := #[.int 63], vm := .none },
  { cls := 9, slots := #[.int 64], vm := .none },
  { cls := 9, slots := #[.int 65], vm := .none },
  { cls := 9, slots := #[.int 66], vm := .none },
  { cls := 9, slots := #[.int 67], vm := .none },
  { cls := 9, slots := #[.int 68], vm := .none },
  { cls := 9, slots := #[.int 69], vm := .none },
  { cls := 9, slots := #[.int 70], vm := .none },
  { cls := 9, slots := #[.int 71], vm := .none },
  { cls := 9, slots := #[.int 72], vm := .none },
  { cls := 9, slots := #[.int 73], vm := .none },
  { cls := 9, slots := #[.int 74], vm := .none },
  { cls := 9, slots := #[.int 75], vm := .none },
  { cls := 9, slots := #[.int 76], vm := .none },
  { cls := 9, slots := #[.int 77], vm := .none },
  { cls := 9, slots := #[.int 78], vm := .none },
  { cls := 9, slots := #[.int 79], vm := .none },
  { cls := 9, slots := #[.int 80], vm := .none },
  { cls := 9, slots := #[.int 81], vm := .none },
  { cls := 9, slots := #[.int 82], vm := .none },
  { cls := 9, slots := #[.int 83], vm := .none },
  { cls := 9, slots := #[.int 84], vm := .none },
  { cls := 9, slots := #[.int 85], vm := .none },
  { cls := 9, slots := #[.int 86], vm := .none },
  { cls := 9, slots := #[.int 87], vm := .none },
  { cls := 9, slots := #[.int 88], vm := .none },
  { cls := 9, slots := #[.int 89], vm := .none },
  { cls := 9, slots := #[.int 90], vm := .none },
  { cls := 9, slots := #[.int 91], vm := .none },
  { cls := 9, slots := #[.int 92], vm := .none },
  { cls := 9, slots := #[.int 93], vm := .none },
  { cls := 9, slots := #[.int 94], vm := .none },
  { cls := 9, slots := #[.int 95], vm := .none },
  { cls := 9, slots := #[.int 96], vm := .none },
  { cls := 9, slots := #[.int 97], vm := .none },
  { cls := 9, slots := #[.int 98], vm := .none },
  { cls := 9, slots := #[.int 99], vm := .none },
  { cls := 9, slots := #[.int 100], vm := .none },
  { cls := 9, slots := #[.int 101], vm := .none },
  { cls := 9, slots := #[.int 102], vm := .none },
  { cls := 9, slots := #[.int 103], vm := .none },
  { cls := 9, slots := #[.int 104], vm := .none },
  { cls := 9, slots := #[.int 105], vm := .none },
  { cls := 9, slots := #[.int 106], vm := .none },
  { cls := 9, slots := #[.int 107], vm := .none },
  { cls := 9, slots := #[.int 108], vm := .none },
  { cls := 9, slots := #[.int 109], vm := .none },
  { cls := 9, slots := #[.int 110], vm := .none },
  { cls := 9, slots := #[.int 111], vm := .none },
  { cls := 9, slots := #[.int 112], vm := .none },
  { cls := 9, slots := #[.int 113], vm := .none },
  { cls := 9, slots := #[.int 114], vm := .none },
  { cls := 9, slots := #[.int 115], vm := .none },
  { cls := 9, slots := #[.int 116], vm := .none },
  { cls := 9, slots := #[.int 117], vm := .none },
  { cls := 9, slots := #[.int 118], vm := .none },
  { cls := 9, slots := #[.int 119], vm := .none },
  { cls := 9, slots := #[.int 120], vm := .none },
  { cls := 9, slots := #[.int 121], vm := .none },
  { cls := 9, slots := #[.int 122], vm := .none },
  { cls := 9, slots := #[.int 123], vm := .none },
  { cls := 9, slots := #[.int 124], vm := .none },
  { cls := 9, slots := #[.int 125], vm := .none },
  { cls := 9, slots := #[.int 126], vm := .none },
  { cls := 9, slots := #[.int 127], vm := .none }]
def classes : Array Class := #[k0, k1, k2, k3, k4, k5, k6, k7, k8, k9, k10, k11, k12, k13, k14, k15, k16, k17, k18, k19]
def interned : List (Array UInt16 × Addr) := []
def slotsUsed : Nat := 517
def theMethod : MethodId := ⟨1, 1⟩
def args0 : Array Value := #[.int 5, .int 7, .int 3]
def aboutOver (below : List Frame) : State where
  vm := { classes := classes, interned := interned.toArray }
  heap := heap
  slotsUsed := slotsUsed
  threads := #[{ frames := .invoking theMethod args0 :: below }]
def below0 : List Frame := [.native { method := ⟨0, 0⟩, args := #[] }]
def about1 : State := aboutOver below0
def p0 : Program := .bare "" "" ""
def e0 : Env := launch0.env 0 0 0
theorem w_frames : about1.frames = Frame.invoking theMethod args0 :: below0 := rfl
set_option maxRecDepth 65536 in
theorem w_args : argsFit about1.vm theMethod args0 = true := by decide +kernel
set_option maxRecDepth 65536 in
theorem w_heap : heapFits about1 = true := by decide +kernel
set_option maxRecDepth 65536 in
theorem w_runnable : about1.curStatus? = some .runnable := by decide +kernel
set_option maxRecDepth 65536 in
theorem w_alone : about1.alone = true := by decide +kernel
set_option maxRecDepth 65536 in
theorem w_named : about1.methodNamed? x = some theMethod := by decide +kernel
set_option maxRecDepth 65536 in
theorem w_hears : about1.hears theMethod below0 = true := by decide +kernel
set_option maxRecDepth 65536 in
theorem w_ripe : about1.ripe theMethod args0 below0 = true := by decide +kernel
theorem w_running : about1.status = .running := rfl
set_option maxRecDepth 65536 in
theorem w_room : about1.hasRoom e0.platform room_1 = true :=
  launch0.hasRoom_least _ room_1 (by decide +kernel) (by decide +kernel) (by decide +kernel) (by decide +kernel) (by decide +kernel) (by decide +kernel)
theorem allAtoms_all (ts : List Jvm.Cond) (a : Array Jvm.Value) (st : Jvm.State) : (allAtoms ts).before a st = ts.all (fun c => c.before a st) := by
  induction ts with
  | nil => rfl
  | cons c t ih =>
    show (Jvm.Cond.and c (allAtoms t)).before a st = _
    rw [Jvm.Cond.before_and, ih, List.all_cons]
def words1 : List Jvm.Cond := Jvm.Cond.code x code maxLocals ret :: tables_1
/-- a 'code' word, met by the world's own term for the bytes: nothing is compared byte by byte -/
theorem code_word {y : MethodName} {bytes : ByteArray} {mx : Nat} {rt : Option FieldType} {a : Array Value} {s : State} {m : MethodId} {meth : Method} {c : Code} (h1 : s.methodNamed? y = some m) (h2 : s.vm.method? m = some meth) (h3 : meth.code = some c) (h4 : c.code = bytes)
    (h5 : (c.maxLocals == mx && c.exceptionTable.isEmpty && decide (c.maxStack ≤ mostOperands) && decide (meth.sig.returnType = rt) && !meth.locks && decide (parseMethodDescriptor y.desc = some meth.sig)) = true) : (Jvm.Cond.code y bytes mx rt).before a s = true := by
  simp only [Bool.and_eq_true, beq_iff_eq, Bool.not_eq_true', decide_eq_true_eq] at h5
  obtain ⟨⟨⟨⟨⟨g1, g2⟩, g3⟩, g4⟩, g5⟩, g6⟩ := h5
  simp [Cond.before, Cond.holds, Cond.value, h1, h2, h3, h4, g1, g2, g3, g4, g5, g6]
def isCode : Jvm.Cond → Bool
  | .code _ _ _ _ => true
  | _ => false
theorem all_split {L : List Jvm.Cond} {P : Jvm.Cond → Bool} (h1 : L.all (fun c => isCode c || P c) = true) (h2 : ∀ c ∈ L.filter isCode, P c = true) : L.all P = true := by
  refine List.all_eq_true.mpr fun c hc => ?_
  have h := List.all_eq_true.mp h1 c hc
  rcases Bool.eq_false_or_eq_true (isCode c) with hi | hi
  · exact h2 c (List.mem_filter.mpr ⟨hc, hi⟩)
  · simpa [hi] using h
set_option maxRecDepth 65536 in
theorem w_c0 : (Jvm.Cond.code x code maxLocals ret).before args0 about1 = true := code_word (m := ⟨1, 1⟩) (meth := k1m1) (c := k1c1) (by decide +kernel) rfl rfl rfl (by decide +kernel)
set_option maxRecDepth 65536 in
theorem w_c1 : (Jvm.Cond.code ({ cls := "java/lang/Math", name := "min", desc := "(II)I" } : Jvm.MethodName) jdk_29_method_69_code (2 : Nat) (Option.some Jvm.ClassFile.FieldType.int)).before args0 about1 = true := code_word (m := ⟨2, 1⟩) (meth := k2m1) (c := k2c1) (by decide +kernel) rfl rfl rfl (by decide +kernel)
set_option maxRecDepth 65536 in
theorem w_c2 : (Jvm.Cond.code ({ cls := "com/example/wend/wend/Slots", name := "<init>", desc := "(I)V" } : Jvm.MethodName) prog_29_method_1_code (3 : Nat) (Option.none : Option Jvm.ClassFile.FieldType)).before args0 about1 = true := code_word (m := ⟨3, 0⟩) (meth := k3m0) (c := k3c0) (by decide +kernel) rfl rfl rfl (by decide +kernel)
set_option maxRecDepth 65536 in
theorem w_c3 : (Jvm.Cond.code ({ cls := "java/lang/Object", name := "<init>", desc := "()V" } : Jvm.MethodName) object_method_1_code (1 : Nat) (Option.none : Option Jvm.ClassFile.FieldType)).before args0 about1 = true := code_word (m := ⟨0, 0⟩) (meth := k0m0) (c := k0c0) (by decide +kernel) rfl rfl rfl (by decide +kernel)
set_option maxRecDepth 65536 in
theorem w_c4 : (Jvm.Cond.code ({ cls := "com/example/wend/wend/Slots", name := "hasFree", desc := "()Z" } : Jvm.MethodName) prog_29_method_3_code (1 : Nat) (Option.some Jvm.ClassFile.FieldType.boolean)).before args0 about1 = true := code_word (m := ⟨3, 1⟩) (meth := k3m1) (c := k3c1) (by decide +kernel) rfl rfl rfl (by decide +kernel)
set_option maxRecDepth 65536 in
theorem w_c5 : (Jvm.Cond.code ({ cls := "java/lang/Integer", name := "valueOf", desc := "(I)Ljava/lang/Integer;" } : Jvm.MethodName) jdk_33_method_22_code (1 : Nat) (Option.some (Jvm.ClassFile.FieldType.object "java/lang/Integer"))).before args0 about1 = true := code_word (m := ⟨9, 0⟩) (meth := k9m0) (c := k9c0) (by decide +kernel) rfl rfl rfl (by decide +kernel)
set_option maxRecDepth 65536 in
theorem w_c6 : (Jvm.Cond.code ({ cls := "com/example/wend/wend/Slots", name := "take", desc := "(Ljava/lang/Object;)J" } : Jvm.MethodName) prog_29_method_4_code (3 : Nat) (Option.some Jvm.ClassFile.FieldType.long)).before args0 about1 = true := code_word (m := ⟨3, 2⟩) (meth := k3m2) (c := k3c2) (by decide +kernel) rfl rfl rfl (by decide +kernel)
set_option maxRecDepth 65536 in
theorem w_c7 : (Jvm.Cond.code ({ cls := "com/example/wend/wend/Slots", name := "release", desc := "(J)Ljava/lang/Object;" } : Jvm.MethodName) prog_29_method_6_code (4 : Nat) (Option.some (Jvm.ClassFile.FieldType.object "java/lang/Object"))).before args0 about1 = true := code_word (m := ⟨3, 4⟩) (meth := k3m4) (c := k3c4) (by decide +kernel) rfl rfl rfl (by decide +kernel)
set_option maxRecDepth 65536 in
theorem w_c8 : (Jvm.Cond.code ({ cls := "com/example/wend/wend/Slots", name := "get", desc := "(J)Ljava/lang/Object;" } : Jvm.MethodName) prog_29_method_5_code (7 : Nat) (Option.some (Jvm.ClassFile.FieldType.object "java/lang/Object"))).before args0 about1 = true := code_word (m := ⟨3, 3⟩) (meth := k3m3) (c := k3c3) (by decide +kernel) rfl rfl rfl (by decide +kernel)
set_option maxRecDepth 65536 in
theorem w_c9 : (Jvm.Cond.code ({ cls := "com/example/wend/wend/Slots", name := "free", desc := "(I)V" } : Jvm.MethodName) prog_29_method_8_code (2 : Nat) (Option.none : Option Jvm.ClassFile.FieldType)).before args0 about1 = true := code_word (m := ⟨3, 5⟩) (meth := k3m5) (c := k3c5) (by decide +kernel) rfl rfl rfl (by decide +kernel)
def codes1 : List Jvm.Cond := [Jvm.Cond.code x code maxLocals ret, Jvm.Cond.code ({ cls := "java/lang/Math", name := "min", desc := "(II)I" } : Jvm.MethodName) jdk_29_method_69_code (2 : Nat) (Option.some Jvm.ClassFile.FieldType.int), Jvm.Cond.code ({ cls := "com/example/wend/wend/Slots", name := "<init>", desc := "(I)V" } : Jvm.MethodName) prog_29_method_1_code (3 : Nat) (Option.none : Option Jvm.ClassFile.FieldType), Jvm.Cond.code ({ cls := "java/lang/Object", name := "<init>", desc := "()V" } : Jvm.MethodName) object_method_1_code (1 : Nat) (Option.none : Option Jvm.ClassFile.FieldType), Jvm.Cond.code ({ cls := "com/example/wend/wend/Slots", name := "hasFree", desc := "()Z" } : Jvm.MethodName) prog_29_method_3_code (1 : Nat) (Option.some Jvm.ClassFile.FieldType.boolean), Jvm.Cond.code ({ cls := "java/lang/Integer", name := "valueOf", desc := "(I)Ljava/lang/Integer;" } : Jvm.MethodName) jdk_33_method_22_code (1 : Nat) (Option.some (Jvm.ClassFile.FieldType.object "java/lang/Integer")), Jvm.Cond.code ({ cls := "com/example/wend/wend/Slots", name := "take", desc := "(Ljava/lang/Object;)J" } : Jvm.MethodName) prog_29_method_4_code (3 : Nat) (Option.some Jvm.ClassFile.FieldType.long), Jvm.Cond.code ({ cls := "com/example/wend/wend/Slots", name := "release", desc := "(J)Ljava/lang/Object;" } : Jvm.MethodName) prog_29_method_6_code (4 : Nat) (Option.some (Jvm.ClassFile.FieldType.object "java/lang/Object")), Jvm.Cond.code ({ cls := "com/example/wend/wend/Slots", name := "get", desc := "(J)Ljava/lang/Object;" } : Jvm.MethodName) prog_29_method_5_code (7 : Nat) (Option.some (Jvm.ClassFile.FieldType.object "java/lang/Object")), Jvm.Cond.code ({ cls := "com/example/wend/wend/Slots", name := "free", desc := "(I)V" } : Jvm.MethodName) prog_29_method_8_code (2 : Nat) (Option.none : Option Jvm.ClassFile.FieldType)]
set_option maxRecDepth 65536 in
theorem codes_eq : words1.filter isCode = codes1 := rfl
theorem w_codes : ∀ c ∈ words1.filter isCode, c.before args0 about1 = true := by
  rw [codes_eq]
  intro c hc
  simp only [codes1, List.mem_cons, List.not_mem_nil, or_false] at hc
  rcases hc with rfl | rfl | rfl | rfl | rfl | rfl | rfl | rfl | rfl | rfl
  · exact w_c0
  · exact w_c1
  · exact w_c2
  · exact w_c3
  · exact w_c4
  · exact w_c5
  · exact w_c6
  · exact w_c7
  · exact w_c8
  · exact w_c9
set_option maxRecDepth 65536 in
theorem w_t1 : (words1.take 24).all (fun c => isCode c || c.before args0 about1) = true := by decide +kernel
set_option maxRecDepth 65536 in
theorem w_t2 : ((words1.drop 24).take 24).all (fun c => isCode c || c.before args0 about1) = true := by decide +kernel
set_option maxRecDepth 65536 in
theorem w_t3 : ((words1.drop 24).drop 24).all (fun c => isCode c || c.before args0 about1) = true := by decide +kernel
theorem w_tables : (allAtoms (Jvm.Cond.code x code maxLocals ret :: tables_1)).before args0 about1 = true := by
  rw [allAtoms_all]
  show words1.all (fun c => c.before args0 about1) = true
  refine all_split ?_ w_codes
  rw [← List.take_append_drop 24 words1, List.all_append, w_t1, ← List.take_append_drop 24 (words1.drop 24), List.all_append, w_t2, w_t3]
  rfl
set_option maxRecDepth 65536 in
theorem w_rest : rest_1_c.before args0 about1 = true := by decide +kernel
set_option maxRecDepth 65536 in
theorem w_case : (Jvm.Cond.and given_1 narrow_1).before args0 about1 = true := by decide +kernel
theorem w_applies : (headSpec (Jvm.Cond.code x code maxLocals ret :: tables_1) room_1).applies x e0.platform about1 = true :=
  (Spec.applies_iff w_frames).mpr ⟨w_running, w_runnable, w_alone, w_named, w_hears, w_ripe, w_room, w_tables⟩
theorem atStart : AtStart classFile x code maxLocals ret World_1 tables_1 room_1 Calls_1 rest_1 Pre_1 launch0 p0 e0 about1 theMethod args0 below0 :=
  ⟨lists_1, trivial, launch0.admits_env _ _ _, launch0.least_env, fairChoices_fair.cas, fairChoices_fair.clock, w_frames, w_args, w_heap, w_applies, trivial, w_rest, w_case⟩
end start1
theorem witness_1 : WitnessClaimed_1 := ⟨start1.p0, start1.e0, start1.about1, start1.theMethod, start1.args0, start1.below0, start1.atStart⟩
end Jvm.Pilot.@@N@@
